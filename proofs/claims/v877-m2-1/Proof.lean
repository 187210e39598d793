import JvmDerived
import JvmDerived.Pilot.@@N@@Statement
import JvmDerived.Pilot.@@N@@Code
set_option linter.unusedVariables false
set_option linter.unusedSimpArgs false
namespace Jvm.RoadKit
open Sem ClassFile Op Lib Jvm.Stand Jvm.Free Jvm.LawKit
section New
variable {p : Program} {l : Launch} {e : Env} {R : Room} {s : State} {m : MethodId} {args : Array Value} {below : List Frame} {meth : Method} {c : Code} {T : State} {locs : List Loc} {cells slots : Nat}
theorem retI (X : Stand p l e R s m args below meth c T locs cells slots) (hx : p.tables.exec = Jvm.exec) {pc : Nat} {Ls : Array Slot} {z : Int32} {rest : List Value} (hret : meth.sig.returnType = some .int) (hd : decode c.code pc = .ok (.ireturn, 1)) {fs : List Frame}
    (hl : ∀ (f : JFrame) (acts : List Action), f.method = m → f.locked = none → f.entered = [] → (doReturn e (T.setTop f) acts (some (.int z))).1 = T.setFrames fs) : Steps p.tables e below (T.setTop (mkF m pc Ls (.int z :: rest))) (T.setFrames fs) := by
  have hm' : T.vm.method? m = some meth := X.method'
  have hn : narrow .int (.int z) = .int z := rfl
  show Steps p.tables e below (T.setTop { method := m, pc := pc, locals := Ls, stack := _ :: rest, locked := none }) _
  jvm_step X.here [X.here.top, hx, hd, hm', hret, hn]
  first | (intro acts; rw [hl _ acts rfl rfl rfl]) | rw [hl _ _ rfl rfl rfl]
  exact Steps.refl _
end New
end Jvm.RoadKit
namespace Jvm.Pilot.@@N@@
open Jvm Jvm.ClassFile Sem Op Lib Jvm.Free Jvm.Stand Jvm.LawKit Jvm.RoadKit Bundle Jvm.Pilot.@@N@@.Jvm.D
section OwnKit
variable {p : Program} {l : Launch} {e : Env} {R : Room} {s : State} {m : MethodId} {args : Array Value} {below : List Frame} {meth : Method} {c : Code} {T : State} {locs : List Loc} {cells slots : Nat}
/-- what a body owes from the state A on: it comes to its return, and what it returned, the heap and the written places satisfy Q -/
def own_Fin (p : Program) (e : Env) (below : List Frame) (s : State) (Q : Option Value → Heap → List Loc → Prop) (rc rs : Nat) (A : State) : Prop :=
  ∃ s₂ o, Steps p.tables e below A s₂ ∧ s₂.status = .running ∧ Ended s₂ below o ∧ ∃ v L, o = .returned v ∧ Q v s₂.heap L ∧ FrameEnd s o s₂ L rc rs
theorem own_step {Q : Option Value → Heap → List Loc → Prop} {rc rs : Nat} {A B : State} (k : ∀ t, Steps p.tables e below B t → Steps p.tables e below A t) (h : own_Fin p e below s Q rc rs B) : own_Fin p e below s Q rc rs A := by
  obtain ⟨s₂, o, h1, h2⟩ := h
  exact ⟨s₂, o, k _ h1, h2⟩
theorem own_retN (X : Stand p l e R s m args below meth c T locs cells slots) (hx : p.tables.exec = Jvm.exec) (hlk : meth.locks = false) {Q : Option Value → Heap → List Loc → Prop} {rc rs n0 : Nat} {h : Heap} {pc : Nat} {Ls : Array Slot} {z v : Int32} {t : FieldType} {rest : List Value} (hret : meth.sig.returnType = some t) (ht : t = .boolean ∨ t = .byte ∨ t = .char ∨ t = .short)
    (hd : decode c.code pc = .ok (.ireturn, 1)) (hc : cells ≤ rc) (hs : slots ≤ rs) (eT : T.heap = h) (N : Fr n0 locs) (hQ : ∀ L', Fr n0 L' → Q (some (.int v)) h L') (hv : v = nar t z) :
    own_Fin p e below s Q rc rs (T.setTop (mkF m pc Ls (.int z :: rest))) := by
  subst hv
  obtain ⟨fs, hr, hrun, hended, hW, hsame⟩ := X.leave (v := some (.int (nar t z))) (fun h => by rw [hret] at h; cases h) hlk
  refine ⟨_, _, retN X hx hret ht hd hr, hrun, hended, _, _, rfl, ?_, ⟨_, rfl⟩, hW, hsame.mono hc hs⟩
  show Q _ T.heap _
  rw [eT]
  exact hQ _ N
theorem own_retI (X : Stand p l e R s m args below meth c T locs cells slots) (hx : p.tables.exec = Jvm.exec) (hlk : meth.locks = false) {Q : Option Value → Heap → List Loc → Prop} {rc rs n0 : Nat} {h : Heap} {pc : Nat} {Ls : Array Slot} {z v : Int32} {rest : List Value} (hret : meth.sig.returnType = some .int)
    (hd : decode c.code pc = .ok (.ireturn, 1)) (hc : cells ≤ rc) (hs : slots ≤ rs) (eT : T.heap = h) (N : Fr n0 locs) (hQ : ∀ L', Fr n0 L' → Q (some (.int v)) h L') (hv : v = z) :
    own_Fin p e below s Q rc rs (T.setTop (mkF m pc Ls (.int z :: rest))) := by
  subst hv
  obtain ⟨fs, hr, hrun, hended, hW, hsame⟩ := X.leave (v := some (.int v)) (fun h => by rw [hret] at h; cases h) hlk
  refine ⟨_, _, retI X hx hret hd hr, hrun, hended, _, _, rfl, ?_, ⟨_, rfl⟩, hW, hsame.mono hc hs⟩
  show Q _ T.heap _
  rw [eT]
  exact hQ _ N
theorem own_ret0 (X : Stand p l e R s m args below meth c T locs cells slots) (hx : p.tables.exec = Jvm.exec) (hlk : meth.locks = false) {Q : Option Value → Heap → List Loc → Prop} {rc rs : Nat} {h : Heap} {pc : Nat} {Ls : Array Slot} (hret : meth.sig.returnType = none)
    (hd : decode c.code pc = .ok (.return_, 1)) (hc : cells ≤ rc) (hs : slots ≤ rs) (eT : T.heap = h) (hQ : Q none h locs) :
    own_Fin p e below s Q rc rs (T.setTop (mkF m pc Ls [])) := by
  obtain ⟨fs, hr, hrun, hended, hW, hsame⟩ := X.leave (v := none) (fun _ => rfl) hlk
  refine ⟨_, _, X.returnOut hx hret hd hr, hrun, hended, _, _, rfl, ?_, ⟨_, rfl⟩, hW, hsame.mono hc hs⟩
  show Q _ T.heap _
  rw [eT]
  exact hQ
end OwnKit
/-- an array of n ints (bytes, ..) at a: its i-th is g i -/
def own_AF (Z : State) (h : Heap) (a : Addr) (ty : FieldType) (n : Nat) (g : Nat → Int32) : Prop := ∃ c : Cell, Arr Z h a c ty ∧ c.slots.size = n ∧ ∀ i, i < n → c.slots[i]? = some (.int (g i))
def own_In (n : Nat) (j : Int32) : Prop := ¬ (j < 0 ∨ n ≤ j.toNatClampNeg)
theorem own_AF.lt {Z : State} {h : Heap} {a : Addr} {ty : FieldType} {n : Nat} {g : Nat → Int32} (F : own_AF Z h a ty n g) : a < h.size := by obtain ⟨c, A, -⟩ := F; exact A.lt
theorem own_AFext {Z : State} {h h' : Heap} {a : Addr} {ty : FieldType} {n : Nat} {g : Nat → Int32} (F : own_AF Z h a ty n g) (E : Ext h h') : own_AF Z h' a ty n g := by obtain ⟨c, A, r⟩ := F; exact ⟨c, A.ext E, r⟩
theorem own_AFoth {Z : State} {h h' : Heap} {a b : Addr} {sl : Nat} {v : Value} {ty : FieldType} {n : Nat} {g : Nat → Int32} (F : own_AF Z h b ty n g) (W : Wr h h' a sl v) (q : b ≠ a) : own_AF Z h' b ty n g := by obtain ⟨c, A, r⟩ := F; exact ⟨c, A.other W q, r⟩
theorem own_AFkeep {Z : State} {h h' : Heap} {a : Addr} {ws : List Addr} {ty : FieldType} {n : Nat} {g : Nat → Int32} (F : own_AF Z h a ty n g) (K : Keep h h' ws) (q : a ∉ ws) : own_AF Z h' a ty n g := by obtain ⟨c, A, r⟩ := F; exact ⟨c, ⟨K.2.1 a c A.1 q, A.2⟩, r⟩
theorem own_AFset {Z : State} {h h' : Heap} {a : Addr} {ty : FieldType} {n k : Nat} {g : Nat → Int32} {c : Cell} {x : Int32} (A : Arr Z h a c ty) (S : c.slots.size = n) (H : ∀ i, i < n → c.slots[i]? = some (.int (g i))) (W : Wr h h' a k (.int x)) : own_AF Z h' a ty n (fun i => if i = k then x else g i) := by
  obtain ⟨c', e1, e2, e3, e4, e5, e6, e7⟩ := wr_at W A.1
  refine ⟨c', ⟨e1, ?_⟩, e4.trans S, fun i hi => ?_⟩
  · rw [(e7 rfl).1]; exact A.2
  · by_cases q : i = k
    · subst q
      show c'.slots[i]? = some (.int (if i = i then x else g i))
      rw [if_pos rfl]
      exact (e7 rfl).2.1
    · show c'.slots[i]? = some (.int (if i = k then x else g i))
      rw [e6 i q, if_neg q]
      exact H i hi
theorem own_AFnew {Z : State} {h : Heap} {a : Addr} {k : ClassId} {ty : FieldType} {z : Int32} {n : Nat} (A : Arr Z h a (newA k ty z) ty) (hn : z.toNatClampNeg = n) (hd : defaultValue ty = .int 0 := by rfl) : own_AF Z h a ty n (fun _ => 0) :=
  ⟨_, A, (sz_new _ _ _).trans hn, fun i hi => by
    have hs : (newA k ty z).slots = Array.replicate z.toNatClampNeg (defaultValue ty) := rfl
    rw [hs, hn, hd]
    simp [hi]⟩
theorem own_eqi {x y : Int32} {b : Int} (h : y.toInt = b) : x = y ↔ x.toInt = b := by rw [← h]; exact Int32.toInt_inj.symm

section OwnHeap
variable {p : Program} {l : Launch} {e : Env} {R : Room} {s : State} {m : MethodId} {args : Array Value} {below : List Frame} {meth : Method} {c : Code} {T : State} {locs : List Loc} {cells slots : Nat}
theorem own_retA (X : Stand p l e R s m args below meth c T locs cells slots) (hx : p.tables.exec = Jvm.exec) (hlk : meth.locks = false) {Q : Option Value → Heap → List Loc → Prop} {rc rs : Nat} {h : Heap} {pc : Nat} {Ls : Array Slot} {b : Addr} {t : FieldType} {rest : List Value} (hret : meth.sig.returnType = some t) (ht : t.isReference = true)
    (hd : decode c.code pc = .ok (.areturn, 1)) (hc : cells ≤ rc) (hs : slots ≤ rs) (eT : T.heap = h) (hQ : Q (some (.ref b)) h locs) :
    own_Fin p e below s Q rc rs (T.setTop (mkF m pc Ls (.ref b :: rest))) := by
  obtain ⟨fs, hr, hrun, hended, hW, hsame⟩ := X.leave (v := some (.ref b)) (fun h => by rw [hret] at h; cases h) hlk
  refine ⟨_, _, ?_, hrun, hended, _, _, rfl, ?_, ⟨_, rfl⟩, hW, hsame.mono hc hs⟩
  · have hm' : T.vm.method? m = some meth := X.method'
    show Steps p.tables e below (T.setTop { method := m, pc := pc, locals := Ls, stack := _ :: rest, locked := none }) _
    jvm_step X.here [X.here.top, hx, hd, hm', hret, ht, Value.isRef]
    first | (intro acts; rw [hr _ acts rfl rfl rfl]) | rw [hr _ _ rfl rfl rfl]
    exact Steps.refl _
  · show Q _ T.heap _
    rw [eT]
    exact hQ
theorem own_retZ (X : Stand p l e R s m args below meth c T locs cells slots) (hx : p.tables.exec = Jvm.exec) (hlk : meth.locks = false) {Q : Option Value → Heap → List Loc → Prop} {rc rs : Nat} {h : Heap} {pc : Nat} {Ls : Array Slot} {z : Int32} {t : FieldType} {rest : List Value} (hret : meth.sig.returnType = some t) (ht : t = .boolean ∨ t = .byte ∨ t = .char ∨ t = .short)
    (hd : decode c.code pc = .ok (.ireturn, 1)) (hc : cells ≤ rc) (hs : slots ≤ rs) (eT : T.heap = h) (hQ : Q (some (.int (nar t z))) h locs) :
    own_Fin p e below s Q rc rs (T.setTop (mkF m pc Ls (.int z :: rest))) := by
  obtain ⟨fs, hr, hrun, hended, hW, hsame⟩ := X.leave (v := some (.int (nar t z))) (fun h => by rw [hret] at h; cases h) hlk
  refine ⟨_, _, retN X hx hret ht hd hr, hrun, hended, _, _, rfl, ?_, ⟨_, rfl⟩, hW, hsame.mono hc hs⟩
  show Q _ T.heap _
  rw [eT]
  exact hQ
theorem own_retJ (X : Stand p l e R s m args below meth c T locs cells slots) (hx : p.tables.exec = Jvm.exec) (hlk : meth.locks = false) {Q : Option Value → Heap → List Loc → Prop} {rc rs : Nat} {h : Heap} {pc : Nat} {Ls : Array Slot} {z : Int32} {rest : List Value} (hret : meth.sig.returnType = some .int)
    (hd : decode c.code pc = .ok (.ireturn, 1)) (hc : cells ≤ rc) (hs : slots ≤ rs) (eT : T.heap = h) (hQ : Q (some (.int z)) h locs) :
    own_Fin p e below s Q rc rs (T.setTop (mkF m pc Ls (.int z :: rest))) := by
  obtain ⟨fs, hr, hrun, hended, hW, hsame⟩ := X.leave (v := some (.int z)) (fun h => by rw [hret] at h; cases h) hlk
  refine ⟨_, _, retI X hx hret hd hr, hrun, hended, _, _, rfl, ?_, ⟨_, rfl⟩, hW, hsame.mono hc hs⟩
  show Q _ T.heap _
  rw [eT]
  exact hQ
end OwnHeap
/-- an array of n references to C at a: its i-th is g i -/
def own_RF (Z : State) (h : Heap) (a : Addr) (C : String) (n : Nat) (g : Nat → Value) : Prop := ∃ c : Cell, Arr Z h a c (.object C) ∧ Ovr Z c.cls C ∧ c.slots.size = n ∧ ∀ i, i < n → c.slots[i]? = some (g i)
theorem own_RF.lt {Z : State} {h : Heap} {a : Addr} {C : String} {n : Nat} {g : Nat → Value} (F : own_RF Z h a C n g) : a < h.size := by obtain ⟨c, A, -⟩ := F; exact A.lt
theorem own_RFext {Z : State} {h h' : Heap} {a : Addr} {C : String} {n : Nat} {g : Nat → Value} (F : own_RF Z h a C n g) (E : Ext h h') : own_RF Z h' a C n g := by obtain ⟨c, A, r⟩ := F; exact ⟨c, A.ext E, r⟩
theorem own_RFoth {Z : State} {h h' : Heap} {a b : Addr} {sl : Nat} {v : Value} {C : String} {n : Nat} {g : Nat → Value} (F : own_RF Z h b C n g) (W : Wr h h' a sl v) (q : b ≠ a) : own_RF Z h' b C n g := by obtain ⟨c, A, r⟩ := F; exact ⟨c, A.other W q, r⟩
theorem own_RFkeep {Z : State} {h h' : Heap} {a : Addr} {ws : List Addr} {C : String} {n : Nat} {g : Nat → Value} (F : own_RF Z h a C n g) (K : Keep h h' ws) (q : a ∉ ws) : own_RF Z h' a C n g := by obtain ⟨c, A, r⟩ := F; exact ⟨c, ⟨K.2.1 a c A.1 q, A.2⟩, r⟩
theorem own_RFset {Z : State} {h h' : Heap} {a : Addr} {C : String} {n k : Nat} {g : Nat → Value} {c : Cell} {x : Value} (A : Arr Z h a c (.object C)) (O : Ovr Z c.cls C) (S : c.slots.size = n) (H : ∀ i, i < n → c.slots[i]? = some (g i)) (W : Wr h h' a k x) : own_RF Z h' a C n (fun i => if i = k then x else g i) := by
  obtain ⟨c', e1, e2, e3, e4, e5, e6, e7⟩ := wr_at W A.1
  refine ⟨c', ⟨e1, ?_⟩, by rw [e2]; exact O, e4.trans S, fun i hi => ?_⟩
  · rw [(e7 rfl).1]; exact A.2
  · by_cases q : i = k
    · subst q
      show c'.slots[i]? = some (if i = i then x else g i)
      rw [if_pos rfl]
      exact (e7 rfl).2.1
    · show c'.slots[i]? = some (if i = k then x else g i)
      rw [e6 i q, if_neg q]
      exact H i hi
theorem own_RFnew {Z : State} {h : Heap} {a : Addr} {k : ClassId} {C : String} {z : Int32} {n : Nat} (A : Arr Z h a (newA k (.object C) z) (.object C)) (O : Ovr Z k C) (hn : z.toNatClampNeg = n) : own_RF Z h a C n (fun _ => .null) :=
  ⟨_, A, O, (sz_new _ _ _).trans hn, fun i hi => by
    have hs : (newA k (.object C) z).slots = Array.replicate z.toNatClampNeg .null := rfl
    rw [hs, hn]
    simp [hi]⟩
theorem own_InsK {Z : State} {h h' : Heap} {a : Addr} {C : String} {ws : List Addr} (F : Ins Z h a C true) (K : Keep h h' ws) : Ins Z h' a C true := by
  obtain ⟨cell, cT, h1, h2, h3⟩ := F
  obtain ⟨c', e1, e2, e3, -⟩ := K.2.2 _ _ h1
  exact ⟨c', cT, e1, h2, by rw [e2, e3]; exact h3⟩
theorem own_fld {Z : State} {h : Heap} {a : Addr} {C n d : String} {v w : Value} (F : Fld Z h a C n d v) (q : v = w) : Fld Z h a C n d w := q ▸ F
/-- System.arraycopy of ints, over own_AF -/
theorem own_arv {Z : State} {h : Heap} {a : Addr} {n : Nat} {g : Nat → Int32} (F : own_AF Z h a .int n g) (z : Int32) (hz : z.toNatClampNeg = n) (h0 : ¬ z < 0) : ∃ k, Arv Z h a k .int z ((List.range n).map fun i => Value.int (g i)) (.int 0) := by
  obtain ⟨c, A, S, H⟩ := F
  refine ⟨c.cls, c, A, rfl, S.trans hz.symm, h0, fun k hk => ?_, fun i hi => ?_⟩
  · rw [H k (by rw [← S]; exact hk)]
    rw [S] at hk
    simp [List.getD_eq_getElem?_getD, hk]
  · rw [S] at hi
    simp [List.getD_eq_getElem?_getD, hi, fits]
theorem own_ofarv {Z : State} {h : Heap} {a : Addr} {k : ClassId} {z : Int32} {vs : List Value} {d : Value} {n : Nat} {g : Nat → Int32} (F : Arv Z h a k .int z vs d) (hz : z.toNatClampNeg = n) (hg : ∀ i, i < n → vs.getD i d = .int (g i)) : own_AF Z h a .int n g := by
  obtain ⟨c, A, q, S, N, H, G⟩ := F
  exact ⟨c, A, S.trans hz, fun i hi => by rw [H i (by rw [S, hz]; exact hi), hg i hi]⟩
theorem own_lz : (0 : Int32).toInt = 0 := by decide
theorem own_i32 (n : Nat) (h : n < 2147483648) : (Int32.ofNat n).toNatClampNeg = n ∧ ¬ Int32.ofNat n < 0 := by
  have e : (Int32.ofNat n).toInt = n := Int32.toInt_ofNat_of_lt (by omega)
  have q : ¬ Int32.ofNat n < 0 := fun y => by have := Int32.lt_iff_toInt_lt.mp y; rw [own_lz] at this; omega
  have := nat_of q
  exact ⟨by omega, q⟩
theorem own_cp {p : Program} {l : Launch} {e : Env} {R : Room} {s : State} {m : MethodId} {args : Array Value} {below : List Frame} {meth : Method} {c : Code} {T : State} {locs : List Loc} {cells slots : Nat} {Z : State} {h : Heap} {a b : Addr}
    (X : Stand p l e R s m args below meth c T locs cells slots) (hx : p.tables.exec = Jvm.exec) (hZ : Z.Warmed39 s.vm) {a0 : Array Value} {own : String} {index : Nat} (hown : s.vm.findClass own = some m.cls)
    (w1 : (Cond.methodLink own index Jvm.Stand.acN).before a0 Z = true) (w2 : (Cond.native Jvm.Stand.acN).before a0 Z = true) (w3 : (Cond.static Jvm.Stand.acN).before a0 Z = true) (w4 : (Cond.initialized "java/lang/System").before a0 Z = true) (eT : T.heap = h)
    {n k : Nat} {ga gb : Nat → Int32} (A : own_AF Z h a .int n ga) (B : own_AF Z h b .int k gb) (hn : n < 2147483648) (hk : k < 2147483648) {dp nn : Int32} (h2 : ¬ dp < 0) (h3 : nn.toNatClampNeg ≤ n) (h3' : ¬ nn < 0) (h5 : dp.toNatClampNeg + nn.toNatClampNeg ≤ k)
    {n0 : Nat} (N : Fr n0 locs) (ge : n0 ≤ b) {g : JFrame} (hg : g.method = m) (hsize : g.locals.size = c.maxLocals) {rest : List Value} (hs : g.stack = .int nn :: .int dp :: .ref b :: .int 0 :: .ref a :: rest) (hd : decode c.code g.pc = .ok (.invokestatic index, 3))
    (hf : 1 ≤ R.frames) {W : Nat} (hW : 2 * g.monitorRoom + (rest.map fun v => v.category).sum ≤ W) (hlo : W + (nativeFrameWords "java/lang/System" "arraycopy" 5 + 11) ≤ R.locals) :
    ∃ T' h' L, Stand p l e R s m args below meth c T' L cells slots ∧ T'.heap = h' ∧ Fr n0 L ∧ Keep h h' [b] ∧ own_AF Z h' b .int k (fun i => if dp.toNatClampNeg ≤ i ∧ i < dp.toNatClampNeg + nn.toNatClampNeg then ga (i - dp.toNatClampNeg) else gb i) ∧
      ∀ target, Steps p.tables e below (T'.setTop { g with pc := g.pc + 3, stack := rest }) target → Steps p.tables e below (T.setTop g) target := by
  obtain ⟨z1, z1'⟩ := own_i32 n hn
  obtain ⟨z2, z2'⟩ := own_i32 k hk
  obtain ⟨k1, A'⟩ := own_arv A _ z1 z1'
  obtain ⟨k2, B'⟩ := own_arv B _ z2 z2'
  have z00 : (0 : Int32).toNatClampNeg = 0 := by decide
  obtain ⟨T', h', L, X', e', N', K', V', st⟩ := cpA X hx hZ hown w1 w2 w3 w4 eT A' B' (Or.inl ⟨rfl, rfl⟩) (sp := 0) (by decide) h2 h3' (by rw [z00, z1]; omega) (by rw [z2]; exact h5) rfl (by simp; exact h5) N ge hg hsize hs hd hf hW hlo
  refine ⟨T', h', L, X', e', N', K', own_ofarv V' z2 (fun i hi => ?_), st⟩
  rw [z00]
  simp only [List.getD_eq_getElem?_getD]
  have lt : (((List.range k).map fun i => Value.int (gb i)).take dp.toNatClampNeg).length = dp.toNatClampNeg := by simp; omega
  by_cases c1 : i < dp.toNatClampNeg
  · rw [if_neg (by omega), List.append_assoc, List.getElem?_append_left (by rw [lt]; exact c1), List.getElem?_take_of_lt c1]
    simp [hi]
  · by_cases c2 : i < dp.toNatClampNeg + nn.toNatClampNeg
    · rw [if_pos ⟨by omega, c2⟩, List.getElem?_append_left (by rw [List.length_append, lt]; simp; omega), List.getElem?_append_right (by rw [lt]; omega), lt]
      have c3 : i - dp.toNatClampNeg < nn.toNatClampNeg := by omega
      have c4 : i - dp.toNatClampNeg < n := by omega
      simp [c3, c4]
    · rw [if_neg (by omega), List.getElem?_append_right (by rw [List.length_append, lt]; simp; omega), List.length_append, lt, List.getElem?_drop]
      have c5 : dp.toNatClampNeg + nn.toNatClampNeg + (i - (dp.toNatClampNeg + nn.toNatClampNeg)) = i := by omega
      simp [c5, hi]

/-- the empty array that a list begins with -/
def own_D (Z : State) (D : Addr) : Prop := ∃ c : Cell, Arr Z Z.heap D c (.object "java/lang/Object") ∧ c.slots.size = 0
theorem own_ofD {Z : State} {D : Addr} {n0 : Nat} {h : Heap} (F : own_D Z D) (O : Old Z n0 h) : ∃ c : Cell, Arr Z h D c (.object "java/lang/Object") ∧ c.slots.size = 0 := by obtain ⟨c, A, r⟩ := F; exact ⟨c, A.ext O.2, r⟩
theorem d9_0 : decode jdk_29_method_65_code 0 = .ok (.iload_n 0, 1) := by decide +kernel
theorem d9_1 : decode jdk_29_method_65_code 1 = .ok (.iload_n 1, 1) := by decide +kernel
theorem d9_2 : decode jdk_29_method_65_code 2 = .ok (.if_icmp .lt 7, 3) := by decide +kernel
theorem d9_5 : decode jdk_29_method_65_code 5 = .ok (.iload_n 0, 1) := by decide +kernel
theorem d9_6 : decode jdk_29_method_65_code 6 = .ok (.goto 4, 3) := by decide +kernel
theorem d9_9 : decode jdk_29_method_65_code 9 = .ok (.iload_n 1, 1) := by decide +kernel
theorem d9_10 : decode jdk_29_method_65_code 10 = .ok (.ireturn, 1) := by decide +kernel
def f9_0 (i0 : Int32) (i1 : Int32) : Int32 := if i0 < i1 then i1 else i0
set_option maxRecDepth 65536 in
set_option maxHeartbeats 40000000 in
theorem b9_0 {p : Program} {l : Launch} {e : Env} {s : State} {m : MethodId} {args : Array Value} {below : List Frame} {meth : Method} {c : Code} {T : State} {locs : List Loc} {cells slots : Nat} {Z : State} {a0 : Array Value} {h : Heap} {n0 : Nat} {Q : Option Value → Heap → List Loc → Prop} (i0 : Int32) (i1 : Int32) (hw : ∀ d ∈ tables_1, d.before a0 Z = true) (X : Stand p l e ({ frames := 0, cells := 0, slots := 0, locals := 0 } : Room) s m args below meth c T locs cells slots) (hx : p.tables.exec = Jvm.exec) (hZ : Z.Warmed39 s.vm) (hby : c.code = jdk_29_method_65_code) (hml : c.maxLocals = 2) (hown : s.vm.findClass "java/lang/Math" = some m.cls) (hret : meth.sig.returnType = some .int) (hlk : meth.locks = false) (eT : T.heap = h) (N : Fr n0 locs) (hc : cells ≤ 0) (hs : slots ≤ 0) (v : Int32) (hv : v = f9_0 i0 i1) (hQ : ∀ L', Fr n0 L' → Q (some (.int v)) h L') :
    own_Fin p e below s Q 0 0 (T.setTop (mkF m 0 #[.val (.int i0), .val (.int i1)] [])) := by
  refine own_step (fun t k => XS.iloadN X.here hx rfl (hb hby d9_0) rfl  k) ?_
  show own_Fin p e below s Q 0 0 (T.setTop (mkF m 1 #[.val (.int i0), .val (.int i1)] [(.int i0)]))
  refine own_step (fun t k => XS.iloadN X.here hx rfl (hb hby d9_1) rfl  k) ?_
  show own_Fin p e below s Q 0 0 (T.setTop (mkF m 2 #[.val (.int i0), .val (.int i1)] [(.int i1), (.int i0)]))
  by_cases hB2_1 : i0 < i1
  · refine own_step (fun t k => XS.icmpYes X.here hx rfl (pc0 := 2) (pc' := 9) rfl (hb hby d9_2) rfl (tlt hB2_1).1 (by decide) (by decide) k) ?_
    have hvhB2_1 : v = i1 := hv.trans (if_pos hB2_1)
    show own_Fin p e below s Q 0 0 (T.setTop (mkF m 9 #[.val (.int i0), .val (.int i1)] []))
    refine own_step (fun t k => XS.iloadN X.here hx rfl (hb hby d9_9) rfl  k) ?_
    show own_Fin p e below s Q 0 0 (T.setTop (mkF m 10 #[.val (.int i0), .val (.int i1)] [(.int i1)]))
    exact own_retI X hx hlk hret (hb hby d9_10) (Nat.le_trans (Nat.add_le_add_right hc 0) (by decide)) (Nat.le_trans (Nat.add_le_add_right hs 0) (by decide)) eT N hQ (hvhB2_1)
  · refine own_step (fun t k => XS.icmpNo X.here hx rfl (hb hby d9_2) rfl (flt hB2_1).1 k) ?_
    have hvhB2_1 : v = i0 := hv.trans (if_neg hB2_1)
    show own_Fin p e below s Q 0 0 (T.setTop (mkF m 5 #[.val (.int i0), .val (.int i1)] []))
    refine own_step (fun t k => XS.iloadN X.here hx rfl (hb hby d9_5) rfl  k) ?_
    show own_Fin p e below s Q 0 0 (T.setTop (mkF m 6 #[.val (.int i0), .val (.int i1)] [(.int i0)]))
    refine own_step (fun t k => XS.goto X.here hx rfl (pc0 := 6) (pc' := 10) rfl (hb hby d9_6) (by decide) (by decide) k) ?_
    show own_Fin p e below s Q 0 0 (T.setTop (mkF m 10 #[.val (.int i0), .val (.int i1)] [(.int i0)]))
    exact own_retI X hx hlk hret (hb hby d9_10) (Nat.le_trans (Nat.add_le_add_right hc 0) (by decide)) (Nat.le_trans (Nat.add_le_add_right hs 0) (by decide)) eT N hQ (hvhB2_1)
theorem pdm_0 : parseMethodDescriptor "(II)I" = some ⟨[.int, .int], some .int⟩ := by decide +kernel
theorem ef_9 (m : MethodId) (i0 : Int32) (i1 : Int32) : entryFrame m #[(.int i0), (.int i1)] 2 = (mkF m 0 #[.val (.int i0), .val (.int i1)] []) := by first | (simp [entryFrame, mkF, argsToLocals, Value.category]; done) | rfl
def Q9 (i0 : Int32) (i1 : Int32) (h0 : Heap) (n0 : Nat) (v : Option Value) (h : Heap) (L : List Loc) : Prop := v = some (.int (f9_0 i0 i1)) ∧ Fr n0 L ∧ h = h0
set_option maxRecDepth 65536 in
set_option maxHeartbeats 4000000 in
theorem rm9 (l : Launch) (Z : State) (a0 : Array Value) (hw : ∀ d ∈ tables_1, d.before a0 Z = true) (ws : List Jvm.Cond) (i0 : Int32) (i1 : Int32) (h0 : Heap) (n0 : Nat) :
    MetFree l (⟨"java/lang/Math", "max", "(II)I"⟩ : MethodName) (head1 (Jvm.Cond.code (⟨"java/lang/Math", "max", "(II)I"⟩ : MethodName) jdk_29_method_65_code 2 (some .int) :: ws) ({ frames := 0, cells := 0, slots := 0, locals := 0 } : Room)) (fun a U => a = #[(.int i0), (.int i1)] ∧ Z.Warmed39 U.vm ∧ U.heap = h0) (fun _ _ _ _ _ => True) (fun _ U o U' => ∃ v L, o = .returned v ∧ Q9 i0 i1 h0 n0 v U'.heap L ∧ FrameEnd U o U' L ({ frames := 0, cells := 0, slots := 0, locals := 0 } : Room).cells ({ frames := 0, cells := 0, slots := 0, locals := 0 } : Room).slots) := by
  refine MetFree.of_bodySF (Jvm.Free.JP.mathPlain rfl (by decide +kernel)) hisR ?_
  intro p e s m args below meth c s₁ Bd hml0 hP hK
  obtain ⟨rfl, hZ, hh⟩ := hP
  have hx := Bd.exec
  have hby := Bd.bytes
  have hml : c.maxLocals = 2 := hml0
  have hown : s.vm.findClass "java/lang/Math" = some m.cls := findClass_of_methodNamed Bd.named
  have X0 : Stand p l e ({ frames := 0, cells := 0, slots := 0, locals := 0 } : Room) s m #[(.int i0), (.int i1)] below meth c s₁ [] 0 0 := Stand.of_body Bd
  have e0 : s₁.heap = h0 := by rw [← hh, Bd.state]; rfl
  have fin := b9_0 i0 i1 (Q := Q9 i0 i1 h0 n0) hw X0 hx hZ hby hml hown Bd.returns (BodyLoose.notSynchronized Bd) e0 (Fr.nil n0) (Nat.zero_le _) (Nat.zero_le _) _ rfl (fun L' n' => ⟨rfl, n', rfl⟩)
  exact own_step (fun t k => castTop (ef_9 m i0 i1) k) fin
theorem d3_0 : decode jdk_22_method_1_code 0 = .ok (.aload_n 0, 1) := by decide +kernel
theorem d3_1 : decode jdk_22_method_1_code 1 = .ok (.invokespecial 1, 3) := by decide +kernel
theorem d3_4 : decode jdk_22_method_1_code 4 = .ok (.return_, 1) := by decide +kernel
set_option maxRecDepth 65536 in
set_option maxHeartbeats 40000000 in
theorem b3_0 {p : Program} {l : Launch} {e : Env} {s : State} {m : MethodId} {args : Array Value} {below : List Frame} {meth : Method} {c : Code} {T : State} {locs : List Loc} {cells slots : Nat} {Z : State} {a0 : Array Value} {h : Heap} {n0 : Nat} {Q : Option Value → Heap → List Loc → Prop} (o0 : Addr) (hw : ∀ d ∈ tables_1, d.before a0 Z = true) (X : Stand p l e ({ frames := 1, cells := 0, slots := 0, locals := 12 } : Room) s m args below meth c T locs cells slots) (hx : p.tables.exec = Jvm.exec) (hZ : Z.Warmed39 s.vm) (hby : c.code = jdk_22_method_1_code) (hml : c.maxLocals = 1) (hown : s.vm.findClass "java/util/AbstractCollection" = some m.cls) (hret : meth.sig.returnType = none) (hlk : meth.locks = false) (eT : T.heap = h) (N : Fr n0 locs) (hc : cells ≤ 0) (hs : slots ≤ 0) (hQ : ∀ (H' : Heap) (L' : List Loc), Fr n0 L' → H' = h → Q none H' L') :
    own_Fin p e below s Q 0 0 (T.setTop (mkF m 0 #[.val (.ref o0)] [])) := by
  refine own_step (fun t k => XS.aloadN X.here hx rfl (hb hby d3_0) rfl rfl k) ?_
  show own_Fin p e below s Q 0 0 (T.setTop (mkF m 1 #[.val (.ref o0)] [(.ref o0)]))
  obtain ⟨T4, X4, e4, st4⟩ := initO X hx hZ hown (hw _ (List.mem_of_getElem? (i := 19) rfl)) (hw _ (List.mem_of_getElem? (i := 20) rfl)) (hw _ (List.mem_of_getElem? (i := 21) rfl)) eT (g := (mkF m 1 #[.val (.ref o0)] [(.ref o0)])) rfl (by rw [hml]; rfl) rfl (hb hby d3_1) (by decide) (W := 0) (by show 2 * 0 + _ ≤ _; exact Nat.le_of_eq rfl) (by decide)
  refine own_step st4 ?_
  show own_Fin p e below s Q 0 0 (T4.setTop (mkF m 4 #[.val (.ref o0)] []))
  refine own_ret0 X4 hx hlk hret (hb hby d3_4) (Nat.le_trans (Nat.add_le_add_right hc 0) (by decide)) (Nat.le_trans (Nat.add_le_add_right hs 0) (by decide)) e4 ?_
  exact hQ _ _ N rfl
theorem pnm_0 : plainName "java/util/AbstractCollection" = true := by first | (simp [plainName, overriddenIn]; done) | decide +kernel
theorem pdm_1 : parseMethodDescriptor "()V" = some ⟨[], none⟩ := by decide +kernel
theorem ef_3 (m : MethodId) (o0 : Addr) : entryFrame m #[(.ref o0)] 1 = (mkF m 0 #[.val (.ref o0)] []) := by first | (simp [entryFrame, mkF, argsToLocals, Value.category]; done) | rfl
def Q3 (Z : State) (o0 : Addr) (h0 : Heap) (n0 : Nat) (v : Option Value) (h : Heap) (L : List Loc) : Prop := v = none ∧ Fr n0 L ∧ h = h0
set_option maxRecDepth 65536 in
set_option maxHeartbeats 4000000 in
theorem rm3 (l : Launch) (Z : State) (a0 : Array Value) (hw : ∀ d ∈ tables_1, d.before a0 Z = true) (ws : List Jvm.Cond) (o0 : Addr) (h0 : Heap) (n0 : Nat) :
    MetFree l (⟨"java/util/AbstractCollection", "<init>", "()V"⟩ : MethodName) (head1 (Jvm.Cond.code (⟨"java/util/AbstractCollection", "<init>", "()V"⟩ : MethodName) jdk_22_method_1_code 1 none :: ws) ({ frames := 1, cells := 0, slots := 0, locals := 12 } : Room)) (fun a U => a = #[(.ref o0)] ∧ Z.Warmed39 U.vm ∧ U.heap = h0) (fun _ _ _ _ _ => True) (fun _ U o U' => ∃ v L, o = .returned v ∧ Q3 Z o0 h0 n0 v U'.heap L ∧ FrameEnd U o U' L ({ frames := 1, cells := 0, slots := 0, locals := 12 } : Room).cells ({ frames := 1, cells := 0, slots := 0, locals := 12 } : Room).slots) := by
  refine MetFree.of_bodySF (plainFor_of_name pnm_0) hisR ?_
  intro p e s m args below meth c s₁ Bd hml0 hP hK
  obtain ⟨rfl, hZ, hh⟩ := hP
  have hx := Bd.exec
  have hby := Bd.bytes
  have hml : c.maxLocals = 1 := hml0
  have hown : s.vm.findClass "java/util/AbstractCollection" = some m.cls := findClass_of_methodNamed Bd.named
  have X0 : Stand p l e ({ frames := 1, cells := 0, slots := 0, locals := 12 } : Room) s m #[(.ref o0)] below meth c s₁ [] 0 0 := Stand.of_body Bd
  have e0 : s₁.heap = h0 := by rw [← hh, Bd.state]; rfl
  have fin := b3_0 o0 (Q := Q3 Z o0 h0 n0) hw X0 hx hZ hby hml hown Bd.returns (BodyLoose.notSynchronized Bd) e0 (Fr.nil n0) (Nat.zero_le _) (Nat.zero_le _) (fun H' L' n' k' => ⟨rfl, n', k'⟩)
  exact own_step (fun t k => castTop (ef_3 m o0) k) fin
theorem d2_0 : decode jdk_39_method_1_code 0 = .ok (.aload_n 0, 1) := by decide +kernel
theorem d2_1 : decode jdk_39_method_1_code 1 = .ok (.invokespecial 1, 3) := by decide +kernel
theorem d2_4 : decode jdk_39_method_1_code 4 = .ok (.aload_n 0, 1) := by decide +kernel
theorem d2_5 : decode jdk_39_method_1_code 5 = .ok (.iconst 0, 1) := by decide +kernel
theorem d2_6 : decode jdk_39_method_1_code 6 = .ok (.putfield 7, 3) := by decide +kernel
theorem d2_9 : decode jdk_39_method_1_code 9 = .ok (.return_, 1) := by decide +kernel
set_option maxRecDepth 65536 in
set_option maxHeartbeats 40000000 in
theorem b2_0 {p : Program} {l : Launch} {e : Env} {s : State} {m : MethodId} {args : Array Value} {below : List Frame} {meth : Method} {c : Code} {T : State} {locs : List Loc} {cells slots : Nat} {Z : State} {a0 : Array Value} {h : Heap} {n0 : Nat} {Q : Option Value → Heap → List Loc → Prop} (o0 : Addr) (um : Value) (ue : Value) (us : Value) (hw : ∀ d ∈ tables_1, d.before a0 Z = true) (X : Stand p l e ({ frames := 2, cells := 0, slots := 0, locals := 24 } : Room) s m args below meth c T locs cells slots) (hx : p.tables.exec = Jvm.exec) (hZ : Z.Warmed39 s.vm) (hby : c.code = jdk_39_method_1_code) (hml : c.maxLocals = 1) (hown : s.vm.findClass "java/util/AbstractList" = some m.cls) (hret : meth.sig.returnType = none) (hlk : meth.locks = false) (eT : T.heap = h) (N : Fr n0 locs) (hc : cells ≤ 0) (hs : slots ≤ 0) (Z0 : n0 ≤ h.size) (fr0 : n0 ≤ o0) (E0 : Exa Z h o0 "java/util/ArrayList") (Fm : Fld Z h o0 "java/util/AbstractList" "modCount" "I" um) (Fe : Fld Z h o0 "java/util/ArrayList" "elementData" "[Ljava/lang/Object;" ue) (Fs : Fld Z h o0 "java/util/ArrayList" "size" "I" us) (hQ : ∀ (H' : Heap) (L' : List Loc), Fr n0 L' → Keep h H' [o0] → Exa Z H' o0 "java/util/ArrayList" → Fld Z H' o0 "java/util/AbstractList" "modCount" "I" (.int 0) → Fld Z H' o0 "java/util/ArrayList" "elementData" "[Ljava/lang/Object;" ue → Fld Z H' o0 "java/util/ArrayList" "size" "I" us → Q none H' L') :
    own_Fin p e below s Q 0 0 (T.setTop (mkF m 0 #[.val (.ref o0)] [])) := by
  refine own_step (fun t k => XS.aloadN X.here hx rfl (hb hby d2_0) rfl rfl k) ?_
  show own_Fin p e below s Q 0 0 (T.setTop (mkF m 1 #[.val (.ref o0)] [(.ref o0)]))
  obtain ⟨_, _, ⟨T5, L5, k5, n5⟩, -, X5, ⟨Lc5, hQ5, l5, y5, z5⟩, st5⟩ := X.specialBack hx (y := (⟨"java/util/AbstractCollection", "<init>", "()V"⟩ : MethodName)) rfl hown (mvT hZ (hw _ (List.mem_of_getElem? (i := 13) rfl))) (mvT hZ (hw _ (List.mem_of_getElem? (i := 14) rfl))) (mvT hZ (hw _ (List.mem_of_getElem? (i := 18) rfl))) (by decide) (backOf (W := 0) (rm3 l Z a0 hw [] o0 h n0) hZ (hw _ (List.mem_of_getElem? (i := 18) rfl)) (hw _ (List.mem_of_getElem? (i := 17) rfl)) (by decide) (by decide)) (g := (mkF m 1 #[.val (.ref o0)] [(.ref o0)])) rfl (by rw [hml]; rfl) (Steps.refl _) (a := o0) (argsL := []) (rest := []) (lenOf pdm_1 rfl) rfl (by show 2 * 0 + _ ≤ _; exact Nat.le_of_eq rfl) (hb hby d2_1) (fun _ _ => ⟨rfl, eT, (show cells + 0 ≤ 0 from (Nat.le_trans (Nat.add_le_add_right hc 0) (by decide))), (show slots + 0 ≤ 0 from (Nat.le_trans (Nat.add_le_add_right hs 0) (by decide)))⟩)
  dsimp only [Pt.U, Pt.locs, Pt.cells, Pt.slots] at X5 l5 y5 z5 st5 hQ5
  have yy5 : k5 = cells + 0 := y5
  have zz5 : n5 = slots + 0 := z5
  rw [yy5, zz5, l5] at X5
  obtain ⟨rfl, N5q, e5⟩ := hQ5
  have N5 := Fr.app N N5q
  refine own_step (fun t k => st5.trans k) ?_
  show own_Fin p e below s Q 0 0 (T5.setTop (mkF m 4 #[.val (.ref o0)] []))
  refine own_step (fun t k => XS.aloadN X5.here hx rfl (hb hby d2_4) rfl rfl k) ?_
  show own_Fin p e below s Q 0 0 (T5.setTop (mkF m 5 #[.val (.ref o0)] [(.ref o0)]))
  refine own_step (fun t k => XS.iconst X5.here hx rfl (hb hby d2_5) k) ?_
  show own_Fin p e below s Q 0 0 (T5.setTop (mkF m 6 #[.val (.ref o0)] [(.int (0 : Int32)), (.ref o0)]))
  obtain ⟨T6, h6, X6, e6, W6, st6⟩ := putF X5 hx hZ hown (host := "") (Or.inl (hw _ (List.mem_of_getElem? (i := 22) rfl))) Via.refl e5 Fm E0 (Or.inl (hw _ (List.mem_of_getElem? (i := 23) rfl))) (hw _ (List.mem_of_getElem? (i := 2) rfl)) (ty := .int) (by decide) rfl rfl (g := (mkF m 6 #[.val (.ref o0)] [(.int (0 : Int32)), (.ref o0)])) rfl rfl (hb hby d2_6)
  have N6 := Fr.snoc X6 N5 fr0
  have Z06 : n0 ≤ h6.size := Nat.le_trans Z0 (Nat.le_of_eq W6.size.symm)
  have K6 : Keep h h6 [o0] := (Keep.refl h [o0]).wr W6 (Or.inl (List.mem_of_getElem? (i := 0) rfl))
  have Ex6_o0 := E0.wr W6
  have F6_o0_modCount := Fm.same W6
  have F6_o0_elementData := Fe.other W6 (Or.inr (slot_ne (Or.inl (hw _ (List.mem_of_getElem? (i := 26) rfl))) (Or.inl (hw _ (List.mem_of_getElem? (i := 23) rfl))) (by decide) (t := (.array (.object "java/lang/Object"))) (t' := .int) (by decide) (by decide)))
  have F6_o0_size := Fs.other W6 (Or.inr (slot_ne (Or.inl (hw _ (List.mem_of_getElem? (i := 35) rfl))) (Or.inl (hw _ (List.mem_of_getElem? (i := 23) rfl))) (by decide) (t := .int) (t' := .int) (by decide) (by decide)))
  refine own_step st6 ?_
  show own_Fin p e below s Q 0 0 (T6.setTop (mkF m 9 #[.val (.ref o0)] []))
  refine own_ret0 X6 hx hlk hret (hb hby d2_9) (Nat.le_trans (Nat.add_le_add_right hc 0) (by decide)) (Nat.le_trans (Nat.add_le_add_right hs 0) (by decide)) e6 ?_
  exact hQ _ _ N6 K6 Ex6_o0 F6_o0_modCount F6_o0_elementData F6_o0_size
theorem pnm_1 : plainName "java/util/AbstractList" = true := by first | (simp [plainName, overriddenIn]; done) | decide +kernel
theorem ef_2 (m : MethodId) (o0 : Addr) : entryFrame m #[(.ref o0)] 1 = (mkF m 0 #[.val (.ref o0)] []) := by first | (simp [entryFrame, mkF, argsToLocals, Value.category]; done) | rfl
def Q2 (Z : State) (o0 : Addr) (um : Value) (ue : Value) (us : Value) (h0 : Heap) (n0 : Nat) (v : Option Value) (h : Heap) (L : List Loc) : Prop := v = none ∧ Fr n0 L ∧ Keep h0 h [o0] ∧ (Exa Z h o0 "java/util/ArrayList") ∧ (Fld Z h o0 "java/util/AbstractList" "modCount" "I" (.int 0)) ∧ (Fld Z h o0 "java/util/ArrayList" "elementData" "[Ljava/lang/Object;" ue) ∧ (Fld Z h o0 "java/util/ArrayList" "size" "I" us)
set_option maxRecDepth 65536 in
set_option maxHeartbeats 4000000 in
theorem rm2 (l : Launch) (Z : State) (a0 : Array Value) (hw : ∀ d ∈ tables_1, d.before a0 Z = true) (ws : List Jvm.Cond) (o0 : Addr) (um : Value) (ue : Value) (us : Value) (h0 : Heap) (n0 : Nat) (Z0 : n0 ≤ h0.size) (fr0 : n0 ≤ o0) (E0 : Exa Z h0 o0 "java/util/ArrayList") (Fm : Fld Z h0 o0 "java/util/AbstractList" "modCount" "I" um) (Fe : Fld Z h0 o0 "java/util/ArrayList" "elementData" "[Ljava/lang/Object;" ue) (Fs : Fld Z h0 o0 "java/util/ArrayList" "size" "I" us) :
    MetFree l (⟨"java/util/AbstractList", "<init>", "()V"⟩ : MethodName) (head1 (Jvm.Cond.code (⟨"java/util/AbstractList", "<init>", "()V"⟩ : MethodName) jdk_39_method_1_code 1 none :: ws) ({ frames := 2, cells := 0, slots := 0, locals := 24 } : Room)) (fun a U => a = #[(.ref o0)] ∧ Z.Warmed39 U.vm ∧ U.heap = h0) (fun _ _ _ _ _ => True) (fun _ U o U' => ∃ v L, o = .returned v ∧ Q2 Z o0 um ue us h0 n0 v U'.heap L ∧ FrameEnd U o U' L ({ frames := 2, cells := 0, slots := 0, locals := 24 } : Room).cells ({ frames := 2, cells := 0, slots := 0, locals := 24 } : Room).slots) := by
  refine MetFree.of_bodySF (plainFor_of_name pnm_1) hisR ?_
  intro p e s m args below meth c s₁ Bd hml0 hP hK
  obtain ⟨rfl, hZ, hh⟩ := hP
  have hx := Bd.exec
  have hby := Bd.bytes
  have hml : c.maxLocals = 1 := hml0
  have hown : s.vm.findClass "java/util/AbstractList" = some m.cls := findClass_of_methodNamed Bd.named
  have X0 : Stand p l e ({ frames := 2, cells := 0, slots := 0, locals := 24 } : Room) s m #[(.ref o0)] below meth c s₁ [] 0 0 := Stand.of_body Bd
  have e0 : s₁.heap = h0 := by rw [← hh, Bd.state]; rfl
  have fin := b2_0 o0 um ue us (Q := Q2 Z o0 um ue us h0 n0) hw X0 hx hZ hby hml hown Bd.returns (BodyLoose.notSynchronized Bd) e0 (Fr.nil n0) (Nat.zero_le _) (Nat.zero_le _) Z0 fr0 E0 Fm Fe Fs (fun H' L' n' k' r0 r1 r2 r3 => ⟨rfl, n', k', r0, r1, r2, r3⟩)
  exact own_step (fun t k => castTop (ef_2 m o0) k) fin
theorem d1_0 : decode jdk_38_method_2_code 0 = .ok (.aload_n 0, 1) := by decide +kernel
theorem d1_1 : decode jdk_38_method_2_code 1 = .ok (.invokespecial 1, 3) := by decide +kernel
theorem d1_4 : decode jdk_38_method_2_code 4 = .ok (.aload_n 0, 1) := by decide +kernel
theorem d1_5 : decode jdk_38_method_2_code 5 = .ok (.getstatic 39, 3) := by decide +kernel
theorem d1_8 : decode jdk_38_method_2_code 8 = .ok (.putfield 9, 3) := by decide +kernel
theorem d1_11 : decode jdk_38_method_2_code 11 = .ok (.return_, 1) := by decide +kernel
set_option maxRecDepth 65536 in
set_option maxHeartbeats 40000000 in
theorem b1_0 {p : Program} {l : Launch} {e : Env} {s : State} {m : MethodId} {args : Array Value} {below : List Frame} {meth : Method} {c : Code} {T : State} {locs : List Loc} {cells slots : Nat} {Z : State} {a0 : Array Value} {h : Heap} {n0 : Nat} {Q : Option Value → Heap → List Loc → Prop} (o0 : Addr) (um : Value) (ue : Value) (us : Value) (D : Addr) (hw : ∀ d ∈ tables_1, d.before a0 Z = true) (X : Stand p l e ({ frames := 3, cells := 0, slots := 0, locals := 36 } : Room) s m args below meth c T locs cells slots) (hx : p.tables.exec = Jvm.exec) (hZ : Z.Warmed39 s.vm) (hby : c.code = jdk_38_method_2_code) (hml : c.maxLocals = 1) (hown : s.vm.findClass "java/util/ArrayList" = some m.cls) (hret : meth.sig.returnType = none) (hlk : meth.locks = false) (eT : T.heap = h) (N : Fr n0 locs) (hc : cells ≤ 0) (hs : slots ≤ 0) (Z0 : n0 ≤ h.size) (fr0 : n0 ≤ o0) (hO : Old Z n0 h) (S0 : Sta Z Z.heap "java/util/ArrayList" "DEFAULTCAPACITY_EMPTY_ELEMENTDATA" "[Ljava/lang/Object;" (.ref D)) (E0 : Exa Z h o0 "java/util/ArrayList") (Fm : Fld Z h o0 "java/util/AbstractList" "modCount" "I" um) (Fe : Fld Z h o0 "java/util/ArrayList" "elementData" "[Ljava/lang/Object;" ue) (Fs : Fld Z h o0 "java/util/ArrayList" "size" "I" us) (hQ : ∀ (H' : Heap) (L' : List Loc), Fr n0 L' → Keep h H' [o0] → Exa Z H' o0 "java/util/ArrayList" → Fld Z H' o0 "java/util/AbstractList" "modCount" "I" (.int 0) → Fld Z H' o0 "java/util/ArrayList" "elementData" "[Ljava/lang/Object;" (.ref D) → Fld Z H' o0 "java/util/ArrayList" "size" "I" us → Q none H' L') :
    own_Fin p e below s Q 0 0 (T.setTop (mkF m 0 #[.val (.ref o0)] [])) := by
  refine own_step (fun t k => XS.aloadN X.here hx rfl (hb hby d1_0) rfl rfl k) ?_
  show own_Fin p e below s Q 0 0 (T.setTop (mkF m 1 #[.val (.ref o0)] [(.ref o0)]))
  obtain ⟨_, _, ⟨T7, L7, k7, n7⟩, -, X7, ⟨Lc7, hQ7, l7, y7, z7⟩, st7⟩ := X.specialBack hx (y := (⟨"java/util/AbstractList", "<init>", "()V"⟩ : MethodName)) rfl hown (mvT hZ (hw _ (List.mem_of_getElem? (i := 7) rfl))) (mvT hZ (hw _ (List.mem_of_getElem? (i := 8) rfl))) (mvT hZ (hw _ (List.mem_of_getElem? (i := 12) rfl))) (by decide) (backOf (W := 0) (rm2 l Z a0 hw [] o0 um ue us h n0 Z0 fr0 E0 Fm Fe Fs) hZ (hw _ (List.mem_of_getElem? (i := 12) rfl)) (hw _ (List.mem_of_getElem? (i := 11) rfl)) (by decide) (by decide)) (g := (mkF m 1 #[.val (.ref o0)] [(.ref o0)])) rfl (by rw [hml]; rfl) (Steps.refl _) (a := o0) (argsL := []) (rest := []) (lenOf pdm_1 rfl) rfl (by show 2 * 0 + _ ≤ _; exact Nat.le_of_eq rfl) (hb hby d1_1) (fun _ _ => ⟨rfl, eT, (show cells + 0 ≤ 0 from (Nat.le_trans (Nat.add_le_add_right hc 0) (by decide))), (show slots + 0 ≤ 0 from (Nat.le_trans (Nat.add_le_add_right hs 0) (by decide)))⟩)
  dsimp only [Pt.U, Pt.locs, Pt.cells, Pt.slots] at X7 l7 y7 z7 st7 hQ7
  have yy7 : k7 = cells + 0 := y7
  have zz7 : n7 = slots + 0 := z7
  rw [yy7, zz7, l7] at X7
  obtain ⟨rfl, N7q, K7, r0_7, r1_7, r2_7, r3_7⟩ := hQ7
  have N7 := Fr.app N N7q
  have Z07 : n0 ≤ T7.heap.size := Nat.le_trans Z0 K7.1
  have O7 := hO.keep K7 (allS fr0 all0)
  have KK7 : Keep h T7.heap [o0] := (Keep.refl h [o0]).trans K7 (allS (Or.inl (List.mem_of_getElem? (i := 0) rfl)) all0)
  refine own_step (fun t k => st7.trans k) ?_
  show own_Fin p e below s Q 0 0 (T7.setTop (mkF m 4 #[.val (.ref o0)] []))
  refine own_step (fun t k => XS.aloadN X7.here hx rfl (hb hby d1_4) rfl rfl k) ?_
  show own_Fin p e below s Q 0 0 (T7.setTop (mkF m 5 #[.val (.ref o0)] [(.ref o0)]))
  obtain ⟨T8, X8, e8, st8⟩ := getS2 X7 hx hZ hown (host := "") (Or.inl (hw _ (List.mem_of_getElem? (i := 24) rfl))) Via.refl rfl (S0.ext O7.2) (g := (mkF m 5 #[.val (.ref o0)] [(.ref o0)])) rfl (hb hby d1_5)
  refine own_step st8 ?_
  show own_Fin p e below s Q 0 0 (T8.setTop (mkF m 8 #[.val (.ref o0)] [(.ref D), (.ref o0)]))
  obtain ⟨T9, h9, X9, e9, W9, st9⟩ := putF X8 hx hZ hown (host := "") (Or.inl (hw _ (List.mem_of_getElem? (i := 25) rfl))) Via.refl e8 r2_7 r0_7 (Or.inl (hw _ (List.mem_of_getElem? (i := 26) rfl))) (hw _ (List.mem_of_getElem? (i := 2) rfl)) (ty := (.array (.object "java/lang/Object"))) (by decide) rfl rfl (g := (mkF m 8 #[.val (.ref o0)] [(.ref D), (.ref o0)])) rfl rfl (hb hby d1_8)
  have N9 := Fr.snoc X9 N7 fr0
  have Z09 : n0 ≤ h9.size := Nat.le_trans Z07 (Nat.le_of_eq W9.size.symm)
  have O9 := O7.wr W9 fr0
  have K9 : Keep h h9 [o0] := KK7.wr W9 (Or.inl (List.mem_of_getElem? (i := 0) rfl))
  have Ex9_o0 := r0_7.wr W9
  have F9_o0_modCount := r1_7.other W9 (Or.inr (slot_ne (Or.inl (hw _ (List.mem_of_getElem? (i := 23) rfl))) (Or.inl (hw _ (List.mem_of_getElem? (i := 26) rfl))) (by decide) (t := .int) (t' := (.array (.object "java/lang/Object"))) (by decide) (by decide)))
  have F9_o0_elementData := r2_7.same W9
  have F9_o0_size := r3_7.other W9 (Or.inr (slot_ne (Or.inl (hw _ (List.mem_of_getElem? (i := 35) rfl))) (Or.inl (hw _ (List.mem_of_getElem? (i := 26) rfl))) (by decide) (t := .int) (t' := (.array (.object "java/lang/Object"))) (by decide) (by decide)))
  refine own_step st9 ?_
  show own_Fin p e below s Q 0 0 (T9.setTop (mkF m 11 #[.val (.ref o0)] []))
  refine own_ret0 X9 hx hlk hret (hb hby d1_11) (Nat.le_trans (Nat.add_le_add_right hc 0) (by decide)) (Nat.le_trans (Nat.add_le_add_right hs 0) (by decide)) e9 ?_
  exact hQ _ _ N9 K9 Ex9_o0 F9_o0_modCount F9_o0_elementData F9_o0_size
theorem pnm_2 : plainName "java/util/ArrayList" = true := by first | (simp [plainName, overriddenIn]; done) | decide +kernel
theorem ef_1 (m : MethodId) (o0 : Addr) : entryFrame m #[(.ref o0)] 1 = (mkF m 0 #[.val (.ref o0)] []) := by first | (simp [entryFrame, mkF, argsToLocals, Value.category]; done) | rfl
def Q1 (Z : State) (o0 : Addr) (um : Value) (ue : Value) (us : Value) (D : Addr) (h0 : Heap) (n0 : Nat) (v : Option Value) (h : Heap) (L : List Loc) : Prop := v = none ∧ Fr n0 L ∧ Keep h0 h [o0] ∧ (Exa Z h o0 "java/util/ArrayList") ∧ (Fld Z h o0 "java/util/AbstractList" "modCount" "I" (.int 0)) ∧ (Fld Z h o0 "java/util/ArrayList" "elementData" "[Ljava/lang/Object;" (.ref D)) ∧ (Fld Z h o0 "java/util/ArrayList" "size" "I" us)
set_option maxRecDepth 65536 in
set_option maxHeartbeats 4000000 in
theorem rm1 (l : Launch) (Z : State) (a0 : Array Value) (hw : ∀ d ∈ tables_1, d.before a0 Z = true) (ws : List Jvm.Cond) (o0 : Addr) (um : Value) (ue : Value) (us : Value) (D : Addr) (h0 : Heap) (n0 : Nat) (Z0 : n0 ≤ h0.size) (fr0 : n0 ≤ o0) (hO : Old Z n0 h0) (S0 : Sta Z Z.heap "java/util/ArrayList" "DEFAULTCAPACITY_EMPTY_ELEMENTDATA" "[Ljava/lang/Object;" (.ref D)) (E0 : Exa Z h0 o0 "java/util/ArrayList") (Fm : Fld Z h0 o0 "java/util/AbstractList" "modCount" "I" um) (Fe : Fld Z h0 o0 "java/util/ArrayList" "elementData" "[Ljava/lang/Object;" ue) (Fs : Fld Z h0 o0 "java/util/ArrayList" "size" "I" us) :
    MetFree l (⟨"java/util/ArrayList", "<init>", "()V"⟩ : MethodName) (head1 (Jvm.Cond.code (⟨"java/util/ArrayList", "<init>", "()V"⟩ : MethodName) jdk_38_method_2_code 1 none :: ws) ({ frames := 3, cells := 0, slots := 0, locals := 36 } : Room)) (fun a U => a = #[(.ref o0)] ∧ Z.Warmed39 U.vm ∧ U.heap = h0) (fun _ _ _ _ _ => True) (fun _ U o U' => ∃ v L, o = .returned v ∧ Q1 Z o0 um ue us D h0 n0 v U'.heap L ∧ FrameEnd U o U' L ({ frames := 3, cells := 0, slots := 0, locals := 36 } : Room).cells ({ frames := 3, cells := 0, slots := 0, locals := 36 } : Room).slots) := by
  refine MetFree.of_bodySF (plainFor_of_name pnm_2) hisR ?_
  intro p e s m args below meth c s₁ Bd hml0 hP hK
  obtain ⟨rfl, hZ, hh⟩ := hP
  have hx := Bd.exec
  have hby := Bd.bytes
  have hml : c.maxLocals = 1 := hml0
  have hown : s.vm.findClass "java/util/ArrayList" = some m.cls := findClass_of_methodNamed Bd.named
  have X0 : Stand p l e ({ frames := 3, cells := 0, slots := 0, locals := 36 } : Room) s m #[(.ref o0)] below meth c s₁ [] 0 0 := Stand.of_body Bd
  have e0 : s₁.heap = h0 := by rw [← hh, Bd.state]; rfl
  have fin := b1_0 o0 um ue us D (Q := Q1 Z o0 um ue us D h0 n0) hw X0 hx hZ hby hml hown Bd.returns (BodyLoose.notSynchronized Bd) e0 (Fr.nil n0) (Nat.zero_le _) (Nat.zero_le _) Z0 fr0 hO S0 E0 Fm Fe Fs (fun H' L' n' k' r0 r1 r2 r3 => ⟨rfl, n', k', r0, r1, r2, r3⟩)
  exact own_step (fun t k => castTop (ef_1 m o0) k) fin
theorem d8_0 : decode jdk_38_method_6_code 0 = .ok (.aload_n 0, 1) := by decide +kernel
theorem d8_1 : decode jdk_38_method_6_code 1 = .ok (.getfield 9, 3) := by decide +kernel
theorem d8_4 : decode jdk_38_method_6_code 4 = .ok (.arraylength, 1) := by decide +kernel
theorem d8_5 : decode jdk_38_method_6_code 5 = .ok (.istore_n 2, 1) := by decide +kernel
theorem d8_6 : decode jdk_38_method_6_code 6 = .ok (.iload_n 2, 1) := by decide +kernel
theorem d8_7 : decode jdk_38_method_6_code 7 = .ok (.ifCond .gt 13, 3) := by decide +kernel
theorem d8_10 : decode jdk_38_method_6_code 10 = .ok (.aload_n 0, 1) := by decide +kernel
theorem d8_11 : decode jdk_38_method_6_code 11 = .ok (.getfield 9, 3) := by decide +kernel
theorem d8_14 : decode jdk_38_method_6_code 14 = .ok (.getstatic 39, 3) := by decide +kernel
theorem d8_17 : decode jdk_38_method_6_code 17 = .ok (.if_acmp .eq 28, 3) := by decide +kernel
theorem d8_20 : decode jdk_38_method_6_code 20 = .ok (.iload_n 2, 1) := by decide +kernel
theorem d8_21 : decode jdk_38_method_6_code 21 = .ok (.iload_n 1, 1) := by decide +kernel
theorem d8_22 : decode jdk_38_method_6_code 22 = .ok (.iload_n 2, 1) := by decide +kernel
theorem d8_23 : decode jdk_38_method_6_code 23 = .ok (.isub, 1) := by decide +kernel
theorem d8_24 : decode jdk_38_method_6_code 24 = .ok (.iload_n 2, 1) := by decide +kernel
theorem d8_25 : decode jdk_38_method_6_code 25 = .ok (.iconst 1, 1) := by decide +kernel
theorem d8_26 : decode jdk_38_method_6_code 26 = .ok (.ishr, 1) := by decide +kernel
theorem d8_27 : decode jdk_38_method_6_code 27 = .ok (.invokestatic 73, 3) := by decide +kernel
theorem d8_30 : decode jdk_38_method_6_code 30 = .ok (.istore_n 3, 1) := by decide +kernel
theorem d8_31 : decode jdk_38_method_6_code 31 = .ok (.aload_n 0, 1) := by decide +kernel
theorem d8_32 : decode jdk_38_method_6_code 32 = .ok (.aload_n 0, 1) := by decide +kernel
theorem d8_33 : decode jdk_38_method_6_code 33 = .ok (.getfield 9, 3) := by decide +kernel
theorem d8_36 : decode jdk_38_method_6_code 36 = .ok (.iload_n 3, 1) := by decide +kernel
theorem d8_37 : decode jdk_38_method_6_code 37 = .ok (.invokestatic 66, 3) := by decide +kernel
theorem d8_40 : decode jdk_38_method_6_code 40 = .ok (.dup_x1, 1) := by decide +kernel
theorem d8_41 : decode jdk_38_method_6_code 41 = .ok (.putfield 9, 3) := by decide +kernel
theorem d8_44 : decode jdk_38_method_6_code 44 = .ok (.areturn, 1) := by decide +kernel
theorem d8_45 : decode jdk_38_method_6_code 45 = .ok (.aload_n 0, 1) := by decide +kernel
theorem d8_46 : decode jdk_38_method_6_code 46 = .ok (.bipush 10, 2) := by decide +kernel
theorem d8_48 : decode jdk_38_method_6_code 48 = .ok (.iload_n 1, 1) := by decide +kernel
theorem d8_49 : decode jdk_38_method_6_code 49 = .ok (.invokestatic 79, 3) := by decide +kernel
theorem d8_52 : decode jdk_38_method_6_code 52 = .ok (.anewarray 7, 3) := by decide +kernel
theorem d8_55 : decode jdk_38_method_6_code 55 = .ok (.dup_x1, 1) := by decide +kernel
theorem d8_56 : decode jdk_38_method_6_code 56 = .ok (.putfield 9, 3) := by decide +kernel
theorem d8_59 : decode jdk_38_method_6_code 59 = .ok (.areturn, 1) := by decide +kernel
set_option maxRecDepth 65536 in
set_option maxHeartbeats 40000000 in
theorem b8_0 {p : Program} {l : Launch} {e : Env} {s : State} {m : MethodId} {args : Array Value} {below : List Frame} {meth : Method} {c : Code} {T : State} {locs : List Loc} {cells slots : Nat} {Z : State} {a0 : Array Value} {h : Heap} {n0 : Nat} {Q : Option Value → Heap → List Loc → Prop} (o0 : Addr) (i1 : Int32) (um : Value) (us : Value) (D : Addr) (hw : ∀ d ∈ tables_1, d.before a0 Z = true) (X : Stand p l e ({ frames := 1, cells := 1, slots := 10, locals := 16 } : Room) s m args below meth c T locs cells slots) (hx : p.tables.exec = Jvm.exec) (hZ : Z.Warmed39 s.vm) (hby : c.code = jdk_38_method_6_code) (hml : c.maxLocals = 4) (hown : s.vm.findClass "java/util/ArrayList" = some m.cls) (hret : meth.sig.returnType = some (.array (.object "java/lang/Object"))) (hlk : meth.locks = false) (eT : T.heap = h) (N : Fr n0 locs) (hc : cells ≤ 0) (hs : slots ≤ 0) (Z0 : n0 ≤ h.size) (fr0 : n0 ≤ o0) (hO : Old Z n0 h) (S0 : Sta Z Z.heap "java/util/ArrayList" "DEFAULTCAPACITY_EMPTY_ELEMENTDATA" "[Ljava/lang/Object;" (.ref D)) (DA : own_D Z D) (hi : f9_0 (10 : Int32) i1 = (10 : Int32)) (E0 : Exa Z h o0 "java/util/ArrayList") (Fm : Fld Z h o0 "java/util/AbstractList" "modCount" "I" um) (Fe : Fld Z h o0 "java/util/ArrayList" "elementData" "[Ljava/lang/Object;" (.ref D)) (Fs : Fld Z h o0 "java/util/ArrayList" "size" "I" us) (hQ : ∀ (H' : Heap) (L' : List Loc) (b : Addr), Fr n0 L' → Keep h H' [o0] → n0 ≤ b → h.size ≤ b → own_RF Z H' b "java/lang/Object" 10 (fun _ => .null) → Exa Z H' o0 "java/util/ArrayList" → Fld Z H' o0 "java/util/AbstractList" "modCount" "I" um → Fld Z H' o0 "java/util/ArrayList" "elementData" "[Ljava/lang/Object;" (.ref b) → Fld Z H' o0 "java/util/ArrayList" "size" "I" us → Q (some (.ref b)) H' L') :
    own_Fin p e below s Q 1 10 (T.setTop (mkF m 0 #[.val (.ref o0), .val (.int i1), .unset, .unset] [])) := by
  refine own_step (fun t k => XS.aloadN X.here hx rfl (hb hby d8_0) rfl rfl k) ?_
  show own_Fin p e below s Q 1 10 (T.setTop (mkF m 1 #[.val (.ref o0), .val (.int i1), .unset, .unset] [(.ref o0)]))
  obtain ⟨T10, X10, e10, st10⟩ := getF X hx hZ hown (host := "") (Or.inl (hw _ (List.mem_of_getElem? (i := 25) rfl))) Via.refl eT Fe (g := (mkF m 1 #[.val (.ref o0), .val (.int i1), .unset, .unset] [(.ref o0)])) rfl rfl (hb hby d8_1)
  refine own_step st10 ?_
  show own_Fin p e below s Q 1 10 (T10.setTop (mkF m 4 #[.val (.ref o0), .val (.int i1), .unset, .unset] [(.ref D)]))
  obtain ⟨cd4, Ad4, Sd4⟩ := own_ofD DA hO
  refine own_step (X10.arraylength hx (by rw [e10]; exact Ad4.1) (State.isArrayOf_alike hZ.alike Ad4.2.1) (g := (mkF m 4 #[.val (.ref o0), .val (.int i1), .unset, .unset] [(.ref D)])) rfl rfl (hb hby d8_4)) ?_
  rw [Sd4]
  show own_Fin p e below s Q 1 10 (T10.setTop (mkF m 5 #[.val (.ref o0), .val (.int i1), .unset, .unset] [(.int (0 : Int32))]))
  refine own_step (fun t k => XS.istoreN X10.here hx rfl (hb hby d8_5) rfl (l' := #[.val (.ref o0), .val (.int i1), .val (.int (0 : Int32)), .unset]) rfl k) ?_
  show own_Fin p e below s Q 1 10 (T10.setTop (mkF m 6 #[.val (.ref o0), .val (.int i1), .val (.int (0 : Int32)), .unset] []))
  refine own_step (fun t k => XS.iloadN X10.here hx rfl (hb hby d8_6) rfl  k) ?_
  show own_Fin p e below s Q 1 10 (T10.setTop (mkF m 7 #[.val (.ref o0), .val (.int i1), .val (.int (0 : Int32)), .unset] [(.int (0 : Int32))]))
  refine own_step (fun t k => XS.ifNo X10.here hx rfl (hb hby d8_7) rfl ((if0 _ _).trans (flt (by decide : ¬ ((0 : Int32) < (0 : Int32)))).2.2.1) k) ?_
  show own_Fin p e below s Q 1 10 (T10.setTop (mkF m 10 #[.val (.ref o0), .val (.int i1), .val (.int (0 : Int32)), .unset] []))
  refine own_step (fun t k => XS.aloadN X10.here hx rfl (hb hby d8_10) rfl rfl k) ?_
  show own_Fin p e below s Q 1 10 (T10.setTop (mkF m 11 #[.val (.ref o0), .val (.int i1), .val (.int (0 : Int32)), .unset] [(.ref o0)]))
  obtain ⟨T11, X11, e11, st11⟩ := getF X10 hx hZ hown (host := "") (Or.inl (hw _ (List.mem_of_getElem? (i := 25) rfl))) Via.refl e10 Fe (g := (mkF m 11 #[.val (.ref o0), .val (.int i1), .val (.int (0 : Int32)), .unset] [(.ref o0)])) rfl rfl (hb hby d8_11)
  refine own_step st11 ?_
  show own_Fin p e below s Q 1 10 (T11.setTop (mkF m 14 #[.val (.ref o0), .val (.int i1), .val (.int (0 : Int32)), .unset] [(.ref D)]))
  obtain ⟨T12, X12, e12, st12⟩ := getS2 X11 hx hZ hown (host := "") (Or.inl (hw _ (List.mem_of_getElem? (i := 24) rfl))) Via.refl e11 (S0.ext hO.2) (g := (mkF m 14 #[.val (.ref o0), .val (.int i1), .val (.int (0 : Int32)), .unset] [(.ref D)])) rfl (hb hby d8_14)
  refine own_step st12 ?_
  show own_Fin p e below s Q 1 10 (T12.setTop (mkF m 17 #[.val (.ref o0), .val (.int i1), .val (.int (0 : Int32)), .unset] [(.ref D), (.ref D)]))
  refine own_step (fun t k => Jvm.RoadKit.acmp (g := (mkF m 17 #[.val (.ref o0), .val (.int i1), .val (.int (0 : Int32)), .unset] [(.ref D), (.ref D)])) X12 hx rfl rfl rfl (pc0 := 17) (pc' := 45) (same := true) rfl (hb hby d8_17) rfl (decide_eq_true rfl) (by decide) (by decide) k) ?_
  show own_Fin p e below s Q 1 10 (T12.setTop (mkF m 45 #[.val (.ref o0), .val (.int i1), .val (.int (0 : Int32)), .unset] []))
  refine own_step (fun t k => XS.aloadN X12.here hx rfl (hb hby d8_45) rfl rfl k) ?_
  show own_Fin p e below s Q 1 10 (T12.setTop (mkF m 46 #[.val (.ref o0), .val (.int i1), .val (.int (0 : Int32)), .unset] [(.ref o0)]))
  refine own_step (fun t k => XS.bipush X12.here hx rfl (hb hby d8_46) k) ?_
  show own_Fin p e below s Q 1 10 (T12.setTop (mkF m 48 #[.val (.ref o0), .val (.int i1), .val (.int (0 : Int32)), .unset] [(.int (10 : Int32)), (.ref o0)]))
  refine own_step (fun t k => XS.iloadN X12.here hx rfl (hb hby d8_48) rfl  k) ?_
  show own_Fin p e below s Q 1 10 (T12.setTop (mkF m 49 #[.val (.ref o0), .val (.int i1), .val (.int (0 : Int32)), .unset] [(.int i1), (.int (10 : Int32)), (.ref o0)]))
  obtain ⟨_, _, ⟨T13, L13, k13, n13⟩, -, X13, ⟨Lc13, hQ13, l13, y13, z13⟩, st13⟩ := Jvm.LawKit.callS X12 hx (y := (⟨"java/lang/Math", "max", "(II)I"⟩ : MethodName)) hown (mvT hZ (hw _ (List.mem_of_getElem? (i := 51) rfl))) (mvT hZ (hw _ (List.mem_of_getElem? (i := 52) rfl))) (mvT hZ (hw _ (List.mem_of_getElem? (i := 53) rfl))) (mvT hZ (hw _ (List.mem_of_getElem? (i := 54) rfl))) (by decide) (backOf (W := 1) (rm9 l Z a0 hw [] (10 : Int32) i1 h n0) hZ (hw _ (List.mem_of_getElem? (i := 54) rfl)) (hw _ (List.mem_of_getElem? (i := 53) rfl)) (by decide) (by decide)) (g := (mkF m 49 #[.val (.ref o0), .val (.int i1), .val (.int (0 : Int32)), .unset] [(.int i1), (.int (10 : Int32)), (.ref o0)])) rfl (by rw [hml]; rfl) (argsL := [(.int (10 : Int32)), (.int i1)]) (rest := [(.ref o0)]) (lenOf pdm_0 rfl) rfl (by show 2 * 0 + _ ≤ _; exact Nat.le_of_eq rfl) (hb hby d8_49) (fun _ _ => ⟨rfl, e12, (show cells + 0 ≤ 1 from (Nat.le_trans (Nat.add_le_add_right hc 0) (by decide))), (show slots + 0 ≤ 10 from (Nat.le_trans (Nat.add_le_add_right hs 0) (by decide)))⟩)
  dsimp only [Pt.U, Pt.locs, Pt.cells, Pt.slots] at X13 l13 y13 z13 st13 hQ13
  have yy13 : k13 = cells + 0 := y13
  have zz13 : n13 = slots + 0 := z13
  rw [yy13, zz13, l13] at X13
  obtain ⟨rfl, N13q, e13⟩ := hQ13
  have N13 := Fr.app N N13q
  refine own_step st13 ?_
  show own_Fin p e below s Q 1 10 (T13.setTop (mkF m 52 #[.val (.ref o0), .val (.int i1), .val (.int (0 : Int32)), .unset] [(.int (f9_0 (10 : Int32) i1)), (.ref o0)]))
  obtain ⟨T14, h14, k14, X14, e14, E14, AA14, OO14, st14⟩ := newR X13 hx hZ hown (hw _ (List.mem_of_getElem? (i := 55) rfl)) (hw _ (List.mem_of_getElem? (i := 56) rfl)) e13 (g := (mkF m 52 #[.val (.ref o0), .val (.int i1), .val (.int (0 : Int32)), .unset] [(.int (f9_0 (10 : Int32) i1)), (.ref o0)])) rfl (hb hby d8_52) rfl (by rw [hi]; decide) (cap := 10) (by rw [hi]; decide) (by decide) (show cells + 0 + 1 ≤ 1 from (Nat.le_trans (Nat.add_le_add_right hc 1) (by decide))) (show slots + 0 + 10 ≤ 10 from (Nat.le_trans (Nat.add_le_add_right hs 10) (by decide)))
  obtain ⟨b14, gg14⟩ : ∃ z, z = h.size := ⟨_, rfl⟩
  rw [← gg14] at AA14 st14
  have R14 : own_RF Z h14 b14 "java/lang/Object" 10 (fun _ => .null) := own_RFnew AA14 OO14 (by rw [hi]; decide)
  have fr14 : n0 ≤ b14 := Nat.le_trans Z0 (Nat.le_of_eq gg14.symm)
  have Z014 : n0 ≤ h14.size := Nat.le_trans Z0 E14.1
  have neo0_14 : o0 ≠ b14 := Nat.ne_of_lt (Nat.lt_of_lt_of_le E0.lt (Nat.le_of_eq gg14.symm))
  have sz14 : h.size ≤ b14 := Nat.le_trans (Keep.refl h [o0]).1 (Nat.le_of_eq gg14.symm)
  have Ex14_o0 := E0.ext E14
  have F14_o0_modCount := Fm.ext E14
  have F14_o0_elementData := Fe.ext E14
  have F14_o0_size := Fs.ext E14
  have O14 := hO.ext E14
  have K14 : Keep h h14 [o0] := (Keep.refl h [o0]).ext E14
  refine own_step st14 ?_
  show own_Fin p e below s Q 1 10 (T14.setTop (mkF m 55 #[.val (.ref o0), .val (.int i1), .val (.int (0 : Int32)), .unset] [(.ref b14), (.ref o0)]))
  refine own_step (fun t k => XS.dupX1 X14.here hx rfl (hb hby d8_55) rfl rfl rfl k) ?_
  show own_Fin p e below s Q 1 10 (T14.setTop (mkF m 56 #[.val (.ref o0), .val (.int i1), .val (.int (0 : Int32)), .unset] [(.ref b14), (.ref o0), (.ref b14)]))
  obtain ⟨T15, h15, X15, e15, W15, st15⟩ := putF X14 hx hZ hown (host := "") (Or.inl (hw _ (List.mem_of_getElem? (i := 25) rfl))) Via.refl e14 F14_o0_elementData Ex14_o0 (Or.inl (hw _ (List.mem_of_getElem? (i := 26) rfl))) (hw _ (List.mem_of_getElem? (i := 2) rfl)) (ty := (.array (.object "java/lang/Object"))) (by decide) rfl rfl (g := (mkF m 56 #[.val (.ref o0), .val (.int i1), .val (.int (0 : Int32)), .unset] [(.ref b14), (.ref o0), (.ref b14)])) rfl rfl (hb hby d8_56)
  have N15 := Fr.snoc X15 N13 fr0
  have Z015 : n0 ≤ h15.size := Nat.le_trans Z014 (Nat.le_of_eq W15.size.symm)
  have R15_b14 := own_RFoth R14 W15 (Ne.symm neo0_14)
  have O15 := O14.wr W15 fr0
  have K15 : Keep h h15 [o0] := K14.wr W15 (Or.inl (List.mem_of_getElem? (i := 0) rfl))
  have Ex15_o0 := Ex14_o0.wr W15
  have F15_o0_modCount := F14_o0_modCount.other W15 (Or.inr (slot_ne (Or.inl (hw _ (List.mem_of_getElem? (i := 23) rfl))) (Or.inl (hw _ (List.mem_of_getElem? (i := 26) rfl))) (by decide) (t := .int) (t' := (.array (.object "java/lang/Object"))) (by decide) (by decide)))
  have F15_o0_elementData := F14_o0_elementData.same W15
  have F15_o0_size := F14_o0_size.other W15 (Or.inr (slot_ne (Or.inl (hw _ (List.mem_of_getElem? (i := 35) rfl))) (Or.inl (hw _ (List.mem_of_getElem? (i := 26) rfl))) (by decide) (t := .int) (t' := (.array (.object "java/lang/Object"))) (by decide) (by decide)))
  refine own_step st15 ?_
  show own_Fin p e below s Q 1 10 (T15.setTop (mkF m 59 #[.val (.ref o0), .val (.int i1), .val (.int (0 : Int32)), .unset] [(.ref b14)]))
  refine own_retA X15 hx hlk hret rfl (hb hby d8_59) (Nat.le_trans (Nat.add_le_add_right hc 1) (by decide)) (Nat.le_trans (Nat.add_le_add_right hs 10) (by decide)) e15 ?_
  exact hQ _ _ b14 N15 K15 fr14 sz14 R15_b14 Ex15_o0 F15_o0_modCount F15_o0_elementData F15_o0_size
theorem pdm_2 : parseMethodDescriptor "(I)[Ljava/lang/Object;" = some ⟨[.int], some (.array (.object "java/lang/Object"))⟩ := by decide +kernel
theorem ef_8 (m : MethodId) (o0 : Addr) (i1 : Int32) : entryFrame m #[(.ref o0), (.int i1)] 4 = (mkF m 0 #[.val (.ref o0), .val (.int i1), .unset, .unset] []) := by first | (simp [entryFrame, mkF, argsToLocals, Value.category]; done) | rfl
def Q8 (Z : State) (o0 : Addr) (i1 : Int32) (um : Value) (us : Value) (D : Addr) (h0 : Heap) (n0 : Nat) (v : Option Value) (h : Heap) (L : List Loc) : Prop := ∃ (b : Addr), v = some (.ref b) ∧ Fr n0 L ∧ Keep h0 h [o0] ∧ (n0 ≤ b) ∧ (h0.size ≤ b) ∧ (own_RF Z h b "java/lang/Object" 10 (fun _ => .null)) ∧ (Exa Z h o0 "java/util/ArrayList") ∧ (Fld Z h o0 "java/util/AbstractList" "modCount" "I" um) ∧ (Fld Z h o0 "java/util/ArrayList" "elementData" "[Ljava/lang/Object;" (.ref b)) ∧ (Fld Z h o0 "java/util/ArrayList" "size" "I" us)
set_option maxRecDepth 65536 in
set_option maxHeartbeats 4000000 in
theorem rm8 (l : Launch) (Z : State) (a0 : Array Value) (hw : ∀ d ∈ tables_1, d.before a0 Z = true) (ws : List Jvm.Cond) (o0 : Addr) (i1 : Int32) (um : Value) (us : Value) (D : Addr) (h0 : Heap) (n0 : Nat) (Z0 : n0 ≤ h0.size) (fr0 : n0 ≤ o0) (hO : Old Z n0 h0) (S0 : Sta Z Z.heap "java/util/ArrayList" "DEFAULTCAPACITY_EMPTY_ELEMENTDATA" "[Ljava/lang/Object;" (.ref D)) (DA : own_D Z D) (hi : f9_0 (10 : Int32) i1 = (10 : Int32)) (E0 : Exa Z h0 o0 "java/util/ArrayList") (Fm : Fld Z h0 o0 "java/util/AbstractList" "modCount" "I" um) (Fe : Fld Z h0 o0 "java/util/ArrayList" "elementData" "[Ljava/lang/Object;" (.ref D)) (Fs : Fld Z h0 o0 "java/util/ArrayList" "size" "I" us) :
    MetFree l (⟨"java/util/ArrayList", "grow", "(I)[Ljava/lang/Object;"⟩ : MethodName) (head1 (Jvm.Cond.code (⟨"java/util/ArrayList", "grow", "(I)[Ljava/lang/Object;"⟩ : MethodName) jdk_38_method_6_code 4 (some (.array (.object "java/lang/Object"))) :: ws) ({ frames := 1, cells := 1, slots := 10, locals := 16 } : Room)) (fun a U => a = #[(.ref o0), (.int i1)] ∧ Z.Warmed39 U.vm ∧ U.heap = h0) (fun _ _ _ _ _ => True) (fun _ U o U' => ∃ v L, o = .returned v ∧ Q8 Z o0 i1 um us D h0 n0 v U'.heap L ∧ FrameEnd U o U' L ({ frames := 1, cells := 1, slots := 10, locals := 16 } : Room).cells ({ frames := 1, cells := 1, slots := 10, locals := 16 } : Room).slots) := by
  refine MetFree.of_bodySF (plainFor_of_name pnm_2) hisR ?_
  intro p e s m args below meth c s₁ Bd hml0 hP hK
  obtain ⟨rfl, hZ, hh⟩ := hP
  have hx := Bd.exec
  have hby := Bd.bytes
  have hml : c.maxLocals = 4 := hml0
  have hown : s.vm.findClass "java/util/ArrayList" = some m.cls := findClass_of_methodNamed Bd.named
  have X0 : Stand p l e ({ frames := 1, cells := 1, slots := 10, locals := 16 } : Room) s m #[(.ref o0), (.int i1)] below meth c s₁ [] 0 0 := Stand.of_body Bd
  have e0 : s₁.heap = h0 := by rw [← hh, Bd.state]; rfl
  have fin := b8_0 o0 i1 um us D (Q := Q8 Z o0 i1 um us D h0 n0) hw X0 hx hZ hby hml hown Bd.returns (BodyLoose.notSynchronized Bd) e0 (Fr.nil n0) (Nat.zero_le _) (Nat.zero_le _) Z0 fr0 hO S0 DA hi E0 Fm Fe Fs (fun H' L' b n' k' r0 r1 r2 r3 r4 r5 r6 => ⟨b, rfl, n', k', r0, r1, r2, r3, r4, r5, r6⟩)
  exact own_step (fun t k => castTop (ef_8 m o0 i1) k) fin
theorem d7_0 : decode jdk_38_method_7_code 0 = .ok (.aload_n 0, 1) := by decide +kernel
theorem d7_1 : decode jdk_38_method_7_code 1 = .ok (.aload_n 0, 1) := by decide +kernel
theorem d7_2 : decode jdk_38_method_7_code 2 = .ok (.getfield 48, 3) := by decide +kernel
theorem d7_5 : decode jdk_38_method_7_code 5 = .ok (.iconst 1, 1) := by decide +kernel
theorem d7_6 : decode jdk_38_method_7_code 6 = .ok (.iadd, 1) := by decide +kernel
theorem d7_7 : decode jdk_38_method_7_code 7 = .ok (.invokevirtual 69, 3) := by decide +kernel
theorem d7_10 : decode jdk_38_method_7_code 10 = .ok (.areturn, 1) := by decide +kernel
set_option maxRecDepth 65536 in
set_option maxHeartbeats 40000000 in
theorem b7_0 {p : Program} {l : Launch} {e : Env} {s : State} {m : MethodId} {args : Array Value} {below : List Frame} {meth : Method} {c : Code} {T : State} {locs : List Loc} {cells slots : Nat} {Z : State} {a0 : Array Value} {h : Heap} {n0 : Nat} {Q : Option Value → Heap → List Loc → Prop} (o0 : Addr) (um : Value) (D : Addr) (hw : ∀ d ∈ tables_1, d.before a0 Z = true) (X : Stand p l e ({ frames := 2, cells := 1, slots := 10, locals := 31 } : Room) s m args below meth c T locs cells slots) (hx : p.tables.exec = Jvm.exec) (hZ : Z.Warmed39 s.vm) (hby : c.code = jdk_38_method_7_code) (hml : c.maxLocals = 1) (hown : s.vm.findClass "java/util/ArrayList" = some m.cls) (hret : meth.sig.returnType = some (.array (.object "java/lang/Object"))) (hlk : meth.locks = false) (eT : T.heap = h) (N : Fr n0 locs) (hc : cells ≤ 0) (hs : slots ≤ 0) (Z0 : n0 ≤ h.size) (fr0 : n0 ≤ o0) (hO : Old Z n0 h) (S0 : Sta Z Z.heap "java/util/ArrayList" "DEFAULTCAPACITY_EMPTY_ELEMENTDATA" "[Ljava/lang/Object;" (.ref D)) (DA : own_D Z D) (E0 : Exa Z h o0 "java/util/ArrayList") (Fm : Fld Z h o0 "java/util/AbstractList" "modCount" "I" um) (Fe : Fld Z h o0 "java/util/ArrayList" "elementData" "[Ljava/lang/Object;" (.ref D)) (Fs : Fld Z h o0 "java/util/ArrayList" "size" "I" (.int 0)) (hQ : ∀ (H' : Heap) (L' : List Loc) (b : Addr), Fr n0 L' → Keep h H' [o0] → n0 ≤ b → h.size ≤ b → own_RF Z H' b "java/lang/Object" 10 (fun _ => .null) → Exa Z H' o0 "java/util/ArrayList" → Fld Z H' o0 "java/util/AbstractList" "modCount" "I" um → Fld Z H' o0 "java/util/ArrayList" "elementData" "[Ljava/lang/Object;" (.ref b) → Fld Z H' o0 "java/util/ArrayList" "size" "I" (.int 0) → Q (some (.ref b)) H' L') :
    own_Fin p e below s Q 1 10 (T.setTop (mkF m 0 #[.val (.ref o0)] [])) := by
  refine own_step (fun t k => XS.aloadN X.here hx rfl (hb hby d7_0) rfl rfl k) ?_
  show own_Fin p e below s Q 1 10 (T.setTop (mkF m 1 #[.val (.ref o0)] [(.ref o0)]))
  refine own_step (fun t k => XS.aloadN X.here hx rfl (hb hby d7_1) rfl rfl k) ?_
  show own_Fin p e below s Q 1 10 (T.setTop (mkF m 2 #[.val (.ref o0)] [(.ref o0), (.ref o0)]))
  obtain ⟨T16, X16, e16, st16⟩ := getF X hx hZ hown (host := "") (Or.inl (hw _ (List.mem_of_getElem? (i := 34) rfl))) Via.refl eT Fs (g := (mkF m 2 #[.val (.ref o0)] [(.ref o0), (.ref o0)])) rfl rfl (hb hby d7_2)
  refine own_step st16 ?_
  show own_Fin p e below s Q 1 10 (T16.setTop (mkF m 5 #[.val (.ref o0)] [(.int (0 : Int32)), (.ref o0)]))
  refine own_step (fun t k => XS.iconst X16.here hx rfl (hb hby d7_5) k) ?_
  show own_Fin p e below s Q 1 10 (T16.setTop (mkF m 6 #[.val (.ref o0)] [(.int (1 : Int32)), (.int (0 : Int32)), (.ref o0)]))
  refine own_step (fun t k => XS.iadd X16.here hx rfl (hb hby d7_6) rfl k) ?_
  show own_Fin p e below s Q 1 10 (T16.setTop (mkF m 7 #[.val (.ref o0)] [(.int ((0 : Int32) + (1 : Int32))), (.ref o0)]))
  obtain ⟨cq17, q17, q17'⟩ := E0.cell
  obtain ⟨_, _, ⟨T17, L17, k17, n17⟩, -, X17, ⟨Lc17, hQ17, l17, y17, z17⟩, st17⟩ := X16.privateBack hx (y := (⟨"java/util/ArrayList", "grow", "(I)[Ljava/lang/Object;"⟩ : MethodName)) hown (mvT hZ (hw _ (List.mem_of_getElem? (i := 46) rfl))) (mvT hZ (hw _ (List.mem_of_getElem? (i := 47) rfl))) (mvT hZ (hw _ (List.mem_of_getElem? (i := 49) rfl))) (Cond.privateMethod_at (mvP hZ (hw _ (List.mem_of_getElem? (i := 48) rfl)) (args := #[]))) (mvT hZ (hw _ (List.mem_of_getElem? (i := 50) rfl))) (by decide) (backOf (W := 0) (rm8 l Z a0 hw [] o0 ((0 : Int32) + (1 : Int32)) um (.int (0 : Int32)) D h n0 Z0 fr0 hO S0 DA (by decide) E0 Fm Fe Fs) hZ (hw _ (List.mem_of_getElem? (i := 50) rfl)) (hw _ (List.mem_of_getElem? (i := 3) rfl)) (by decide) (by decide)) (g := (mkF m 7 #[.val (.ref o0)] [(.int ((0 : Int32) + (1 : Int32))), (.ref o0)])) rfl (by rw [hml]; rfl) (Steps.refl _) (a := o0) (by rw [e16]; exact q17) q17' (argsL := [(.int ((0 : Int32) + (1 : Int32)))]) (rest := []) (lenOf pdm_2 rfl) rfl (by show 2 * 0 + _ ≤ _; exact Nat.le_of_eq rfl) (hb hby d7_7) (fun _ _ => ⟨rfl, e16, (show cells + 1 ≤ 1 from (Nat.le_trans (Nat.add_le_add_right hc 1) (by decide))), (show slots + 10 ≤ 10 from (Nat.le_trans (Nat.add_le_add_right hs 10) (by decide)))⟩)
  dsimp only [Pt.U, Pt.locs, Pt.cells, Pt.slots] at X17 l17 y17 z17 st17 hQ17
  have yy17 : k17 = cells + 1 := y17
  have zz17 : n17 = slots + 10 := z17
  rw [yy17, zz17, l17] at X17
  obtain ⟨b_17, rfl, N17q, K17, r0_17, r1_17, r2_17, r3_17, r4_17, r5_17, r6_17⟩ := hQ17
  have N17 := Fr.app N N17q
  have Z017 : n0 ≤ T17.heap.size := Nat.le_trans Z0 K17.1
  have O17 := hO.keep K17 (allS fr0 all0)
  have KK17 : Keep h T17.heap [o0] := (Keep.refl h [o0]).trans K17 (allS (Or.inl (List.mem_of_getElem? (i := 0) rfl)) all0)
  have neo0_17 : o0 ≠ b_17 := Nat.ne_of_lt (Nat.lt_of_lt_of_le E0.lt r1_17)
  have sz17 : h.size ≤ b_17 := Nat.le_trans (Keep.refl h [o0]).1 r1_17
  refine own_step (fun t k => st17.trans k) ?_
  show own_Fin p e below s Q 1 10 (T17.setTop (mkF m 10 #[.val (.ref o0)] [(.ref b_17)]))
  refine own_retA X17 hx hlk hret rfl (hb hby d7_10) (Nat.le_trans (Nat.add_le_add_right hc 1) (by decide)) (Nat.le_trans (Nat.add_le_add_right hs 10) (by decide)) rfl ?_
  exact hQ _ _ b_17 N17 KK17 r0_17 sz17 r2_17 r3_17 r4_17 r5_17 r6_17
theorem pdm_3 : parseMethodDescriptor "()[Ljava/lang/Object;" = some ⟨[], some (.array (.object "java/lang/Object"))⟩ := by decide +kernel
theorem ef_7 (m : MethodId) (o0 : Addr) : entryFrame m #[(.ref o0)] 1 = (mkF m 0 #[.val (.ref o0)] []) := by first | (simp [entryFrame, mkF, argsToLocals, Value.category]; done) | rfl
def Q7 (Z : State) (o0 : Addr) (um : Value) (D : Addr) (h0 : Heap) (n0 : Nat) (v : Option Value) (h : Heap) (L : List Loc) : Prop := ∃ (b : Addr), v = some (.ref b) ∧ Fr n0 L ∧ Keep h0 h [o0] ∧ (n0 ≤ b) ∧ (h0.size ≤ b) ∧ (own_RF Z h b "java/lang/Object" 10 (fun _ => .null)) ∧ (Exa Z h o0 "java/util/ArrayList") ∧ (Fld Z h o0 "java/util/AbstractList" "modCount" "I" um) ∧ (Fld Z h o0 "java/util/ArrayList" "elementData" "[Ljava/lang/Object;" (.ref b)) ∧ (Fld Z h o0 "java/util/ArrayList" "size" "I" (.int 0))
set_option maxRecDepth 65536 in
set_option maxHeartbeats 4000000 in
theorem rm7 (l : Launch) (Z : State) (a0 : Array Value) (hw : ∀ d ∈ tables_1, d.before a0 Z = true) (ws : List Jvm.Cond) (o0 : Addr) (um : Value) (D : Addr) (h0 : Heap) (n0 : Nat) (Z0 : n0 ≤ h0.size) (fr0 : n0 ≤ o0) (hO : Old Z n0 h0) (S0 : Sta Z Z.heap "java/util/ArrayList" "DEFAULTCAPACITY_EMPTY_ELEMENTDATA" "[Ljava/lang/Object;" (.ref D)) (DA : own_D Z D) (E0 : Exa Z h0 o0 "java/util/ArrayList") (Fm : Fld Z h0 o0 "java/util/AbstractList" "modCount" "I" um) (Fe : Fld Z h0 o0 "java/util/ArrayList" "elementData" "[Ljava/lang/Object;" (.ref D)) (Fs : Fld Z h0 o0 "java/util/ArrayList" "size" "I" (.int 0)) :
    MetFree l (⟨"java/util/ArrayList", "grow", "()[Ljava/lang/Object;"⟩ : MethodName) (head1 (Jvm.Cond.code (⟨"java/util/ArrayList", "grow", "()[Ljava/lang/Object;"⟩ : MethodName) jdk_38_method_7_code 1 (some (.array (.object "java/lang/Object"))) :: ws) ({ frames := 2, cells := 1, slots := 10, locals := 31 } : Room)) (fun a U => a = #[(.ref o0)] ∧ Z.Warmed39 U.vm ∧ U.heap = h0) (fun _ _ _ _ _ => True) (fun _ U o U' => ∃ v L, o = .returned v ∧ Q7 Z o0 um D h0 n0 v U'.heap L ∧ FrameEnd U o U' L ({ frames := 2, cells := 1, slots := 10, locals := 31 } : Room).cells ({ frames := 2, cells := 1, slots := 10, locals := 31 } : Room).slots) := by
  refine MetFree.of_bodySF (plainFor_of_name pnm_2) hisR ?_
  intro p e s m args below meth c s₁ Bd hml0 hP hK
  obtain ⟨rfl, hZ, hh⟩ := hP
  have hx := Bd.exec
  have hby := Bd.bytes
  have hml : c.maxLocals = 1 := hml0
  have hown : s.vm.findClass "java/util/ArrayList" = some m.cls := findClass_of_methodNamed Bd.named
  have X0 : Stand p l e ({ frames := 2, cells := 1, slots := 10, locals := 31 } : Room) s m #[(.ref o0)] below meth c s₁ [] 0 0 := Stand.of_body Bd
  have e0 : s₁.heap = h0 := by rw [← hh, Bd.state]; rfl
  have fin := b7_0 o0 um D (Q := Q7 Z o0 um D h0 n0) hw X0 hx hZ hby hml hown Bd.returns (BodyLoose.notSynchronized Bd) e0 (Fr.nil n0) (Nat.zero_le _) (Nat.zero_le _) Z0 fr0 hO S0 DA E0 Fm Fe Fs (fun H' L' b n' k' r0 r1 r2 r3 r4 r5 r6 => ⟨b, rfl, n', k', r0, r1, r2, r3, r4, r5, r6⟩)
  exact own_step (fun t k => castTop (ef_7 m o0) k) fin
theorem d6_0 : decode jdk_38_method_24_code 0 = .ok (.iload_n 3, 1) := by decide +kernel
theorem d6_1 : decode jdk_38_method_24_code 1 = .ok (.aload_n 2, 1) := by decide +kernel
theorem d6_2 : decode jdk_38_method_24_code 2 = .ok (.arraylength, 1) := by decide +kernel
theorem d6_3 : decode jdk_38_method_24_code 3 = .ok (.if_icmp .ne 8, 3) := by decide +kernel
theorem d6_6 : decode jdk_38_method_24_code 6 = .ok (.aload_n 0, 1) := by decide +kernel
theorem d6_7 : decode jdk_38_method_24_code 7 = .ok (.invokevirtual 129, 3) := by decide +kernel
theorem d6_10 : decode jdk_38_method_24_code 10 = .ok (.astore_n 2, 1) := by decide +kernel
theorem d6_11 : decode jdk_38_method_24_code 11 = .ok (.aload_n 2, 1) := by decide +kernel
theorem d6_12 : decode jdk_38_method_24_code 12 = .ok (.iload_n 3, 1) := by decide +kernel
theorem d6_13 : decode jdk_38_method_24_code 13 = .ok (.aload_n 1, 1) := by decide +kernel
theorem d6_14 : decode jdk_38_method_24_code 14 = .ok (.aastore, 1) := by decide +kernel
theorem d6_15 : decode jdk_38_method_24_code 15 = .ok (.aload_n 0, 1) := by decide +kernel
theorem d6_16 : decode jdk_38_method_24_code 16 = .ok (.iload_n 3, 1) := by decide +kernel
theorem d6_17 : decode jdk_38_method_24_code 17 = .ok (.iconst 1, 1) := by decide +kernel
theorem d6_18 : decode jdk_38_method_24_code 18 = .ok (.iadd, 1) := by decide +kernel
theorem d6_19 : decode jdk_38_method_24_code 19 = .ok (.putfield 48, 3) := by decide +kernel
theorem d6_22 : decode jdk_38_method_24_code 22 = .ok (.return_, 1) := by decide +kernel
set_option maxRecDepth 65536 in
set_option maxHeartbeats 40000000 in
theorem b60_0 {p : Program} {l : Launch} {e : Env} {s : State} {m : MethodId} {args : Array Value} {below : List Frame} {meth : Method} {c : Code} {T : State} {locs : List Loc} {cells slots : Nat} {Z : State} {a0 : Array Value} {h : Heap} {n0 : Nat} {Q : Option Value → Heap → List Loc → Prop} (o0 : Addr) (o1 : Addr) (um : Value) (D : Addr) (hw : ∀ d ∈ tables_1, d.before a0 Z = true) (X : Stand p l e ({ frames := 3, cells := 1, slots := 10, locals := 45 } : Room) s m args below meth c T locs cells slots) (hx : p.tables.exec = Jvm.exec) (hZ : Z.Warmed39 s.vm) (hby : c.code = jdk_38_method_24_code) (hml : c.maxLocals = 4) (hown : s.vm.findClass "java/util/ArrayList" = some m.cls) (hret : meth.sig.returnType = none) (hlk : meth.locks = false) (eT : T.heap = h) (N : Fr n0 locs) (hc : cells ≤ 0) (hs : slots ≤ 0) (Z0 : n0 ≤ h.size) (fr0 : n0 ≤ o0) (hO : Old Z n0 h) (S0 : Sta Z Z.heap "java/util/ArrayList" "DEFAULTCAPACITY_EMPTY_ELEMENTDATA" "[Ljava/lang/Object;" (.ref D)) (DA : own_D Z D) (Ix : Ins Z h o1 "java/lang/Object" true) (E0 : Exa Z h o0 "java/util/ArrayList") (Fm : Fld Z h o0 "java/util/AbstractList" "modCount" "I" um) (Fe : Fld Z h o0 "java/util/ArrayList" "elementData" "[Ljava/lang/Object;" (.ref D)) (Fs : Fld Z h o0 "java/util/ArrayList" "size" "I" (.int (0 : Int32))) (hQ : ∀ (H' : Heap) (L' : List Loc) (b : Addr), Fr n0 L' → Keep h H' [o0] → n0 ≤ b → h.size ≤ b → own_RF Z H' b "java/lang/Object" 10 (fun i => if i = 0 then (.ref o1) else (fun _ => .null) i) → Exa Z H' o0 "java/util/ArrayList" → Fld Z H' o0 "java/util/AbstractList" "modCount" "I" um → Fld Z H' o0 "java/util/ArrayList" "elementData" "[Ljava/lang/Object;" (.ref b) → Fld Z H' o0 "java/util/ArrayList" "size" "I" (.int ((0 : Int32) + (1 : Int32))) → Q none H' L') :
    own_Fin p e below s Q 1 10 (T.setTop (mkF m 0 #[.val (.ref o0), .val (.ref o1), .val (.ref D), .val (.int (0 : Int32))] [])) := by
  refine own_step (fun t k => XS.iloadN X.here hx rfl (hb hby d6_0) rfl  k) ?_
  show own_Fin p e below s Q 1 10 (T.setTop (mkF m 1 #[.val (.ref o0), .val (.ref o1), .val (.ref D), .val (.int (0 : Int32))] [(.int (0 : Int32))]))
  refine own_step (fun t k => XS.aloadN X.here hx rfl (hb hby d6_1) rfl rfl k) ?_
  show own_Fin p e below s Q 1 10 (T.setTop (mkF m 2 #[.val (.ref o0), .val (.ref o1), .val (.ref D), .val (.int (0 : Int32))] [(.ref D), (.int (0 : Int32))]))
  obtain ⟨cd2, Ad2, Sd2⟩ := own_ofD DA hO
  refine own_step (X.arraylength hx (by rw [eT]; exact Ad2.1) (State.isArrayOf_alike hZ.alike Ad2.2.1) (g := (mkF m 2 #[.val (.ref o0), .val (.ref o1), .val (.ref D), .val (.int (0 : Int32))] [(.ref D), (.int (0 : Int32))])) rfl rfl (hb hby d6_2)) ?_
  rw [Sd2]
  show own_Fin p e below s Q 1 10 (T.setTop (mkF m 3 #[.val (.ref o0), .val (.ref o1), .val (.ref D), .val (.int (0 : Int32))] [(.int (0 : Int32)), (.int (0 : Int32))]))
  refine own_step (fun t k => XS.icmpNo X.here hx rfl (hb hby d6_3) rfl (teq (by decide : (0 : Int32) = (0 : Int32))).2 k) ?_
  show own_Fin p e below s Q 1 10 (T.setTop (mkF m 6 #[.val (.ref o0), .val (.ref o1), .val (.ref D), .val (.int (0 : Int32))] []))
  refine own_step (fun t k => XS.aloadN X.here hx rfl (hb hby d6_6) rfl rfl k) ?_
  show own_Fin p e below s Q 1 10 (T.setTop (mkF m 7 #[.val (.ref o0), .val (.ref o1), .val (.ref D), .val (.int (0 : Int32))] [(.ref o0)]))
  obtain ⟨cq18, q18, q18'⟩ := E0.cell
  obtain ⟨_, _, ⟨T18, L18, k18, n18⟩, -, X18, ⟨Lc18, hQ18, l18, y18, z18⟩, st18⟩ := X.privateBack hx (y := (⟨"java/util/ArrayList", "grow", "()[Ljava/lang/Object;"⟩ : MethodName)) hown (mvT hZ (hw _ (List.mem_of_getElem? (i := 41) rfl))) (mvT hZ (hw _ (List.mem_of_getElem? (i := 42) rfl))) (mvT hZ (hw _ (List.mem_of_getElem? (i := 44) rfl))) (Cond.privateMethod_at (mvP hZ (hw _ (List.mem_of_getElem? (i := 43) rfl)) (args := #[]))) (mvT hZ (hw _ (List.mem_of_getElem? (i := 45) rfl))) (by decide) (backOf (W := 0) (rm7 l Z a0 hw [] o0 um D h n0 Z0 fr0 hO S0 DA E0 Fm Fe Fs) hZ (hw _ (List.mem_of_getElem? (i := 45) rfl)) (hw _ (List.mem_of_getElem? (i := 3) rfl)) (by decide) (by decide)) (g := (mkF m 7 #[.val (.ref o0), .val (.ref o1), .val (.ref D), .val (.int (0 : Int32))] [(.ref o0)])) rfl (by rw [hml]; rfl) (Steps.refl _) (a := o0) (by rw [eT]; exact q18) q18' (argsL := []) (rest := []) (lenOf pdm_3 rfl) rfl (by show 2 * 0 + _ ≤ _; exact Nat.le_of_eq rfl) (hb hby d6_7) (fun _ _ => ⟨rfl, eT, (show cells + 1 ≤ 1 from (Nat.le_trans (Nat.add_le_add_right hc 1) (by decide))), (show slots + 10 ≤ 10 from (Nat.le_trans (Nat.add_le_add_right hs 10) (by decide)))⟩)
  dsimp only [Pt.U, Pt.locs, Pt.cells, Pt.slots] at X18 l18 y18 z18 st18 hQ18
  have yy18 : k18 = cells + 1 := y18
  have zz18 : n18 = slots + 10 := z18
  rw [yy18, zz18, l18] at X18
  obtain ⟨b_18, rfl, N18q, K18, r0_18, r1_18, r2_18, r3_18, r4_18, r5_18, r6_18⟩ := hQ18
  have N18 := Fr.app N N18q
  have Z018 : n0 ≤ T18.heap.size := Nat.le_trans Z0 K18.1
  have I18 := own_InsK Ix K18
  have O18 := hO.keep K18 (allS fr0 all0)
  have KK18 : Keep h T18.heap [o0] := (Keep.refl h [o0]).trans K18 (allS (Or.inl (List.mem_of_getElem? (i := 0) rfl)) all0)
  have neo0_18 : o0 ≠ b_18 := Nat.ne_of_lt (Nat.lt_of_lt_of_le E0.lt r1_18)
  have sz18 : h.size ≤ b_18 := Nat.le_trans (Keep.refl h [o0]).1 r1_18
  refine own_step (fun t k => st18.trans k) ?_
  show own_Fin p e below s Q 1 10 (T18.setTop (mkF m 10 #[.val (.ref o0), .val (.ref o1), .val (.ref D), .val (.int (0 : Int32))] [(.ref b_18)]))
  refine own_step (fun t k => XS.astoreN X18.here hx rfl (hb hby d6_10) rfl rfl (l' := #[.val (.ref o0), .val (.ref o1), .val (.ref b_18), .val (.int (0 : Int32))]) rfl k) ?_
  show own_Fin p e below s Q 1 10 (T18.setTop (mkF m 11 #[.val (.ref o0), .val (.ref o1), .val (.ref b_18), .val (.int (0 : Int32))] []))
  refine own_step (fun t k => XS.aloadN X18.here hx rfl (hb hby d6_11) rfl rfl k) ?_
  show own_Fin p e below s Q 1 10 (T18.setTop (mkF m 12 #[.val (.ref o0), .val (.ref o1), .val (.ref b_18), .val (.int (0 : Int32))] [(.ref b_18)]))
  refine own_step (fun t k => XS.iloadN X18.here hx rfl (hb hby d6_12) rfl  k) ?_
  show own_Fin p e below s Q 1 10 (T18.setTop (mkF m 13 #[.val (.ref o0), .val (.ref o1), .val (.ref b_18), .val (.int (0 : Int32))] [(.int (0 : Int32)), (.ref b_18)]))
  refine own_step (fun t k => XS.aloadN X18.here hx rfl (hb hby d6_13) rfl rfl k) ?_
  show own_Fin p e below s Q 1 10 (T18.setTop (mkF m 14 #[.val (.ref o0), .val (.ref o1), .val (.ref b_18), .val (.int (0 : Int32))] [(.ref o1), (.int (0 : Int32)), (.ref b_18)]))
  obtain ⟨ca19, Ar19, Ov19, Sz19, Ht19⟩ := id r2_18
  have hin19 : ¬ ((0 : Int32) < 0 ∨ ca19.slots.size ≤ ((0 : Int32)).toNatClampNeg) := by rw [Sz19]; exact (by decide)
  obtain ⟨T19, h19, X19, e19, W19, st19⟩ := stR X18 hx hZ rfl Ar19 (j := (0 : Int32)) hin19 rfl (Sto.of Ar19 Ov19 I18) (g := (mkF m 14 #[.val (.ref o0), .val (.ref o1), .val (.ref b_18), .val (.int (0 : Int32))] [(.ref o1), (.int (0 : Int32)), (.ref b_18)])) rfl rfl (hb hby d6_14)
  have R19 : own_RF Z h19 b_18 "java/lang/Object" 10 (fun i => if i = 0 then (.ref o1) else (fun _ => .null) i) := own_RFset Ar19 Ov19 Sz19 Ht19 W19
  have N19 := Fr.snoc X19 N18 r0_18
  have Z019 : n0 ≤ h19.size := Nat.le_trans Z018 (Nat.le_of_eq W19.size.symm)
  have Ex19_o0 := r3_18.wr W19
  have F19_o0_modCount := r4_18.other W19 (Or.inl neo0_18)
  have F19_o0_elementData := r5_18.other W19 (Or.inl neo0_18)
  have F19_o0_size := r6_18.other W19 (Or.inl neo0_18)
  have I19 := I18.wr W19
  have O19 := O18.wr W19 r0_18
  have K19 : Keep h h19 [o0] := KK18.wr W19 (Or.inr sz18)
  refine own_step st19 ?_
  show own_Fin p e below s Q 1 10 (T19.setTop (mkF m 15 #[.val (.ref o0), .val (.ref o1), .val (.ref b_18), .val (.int (0 : Int32))] []))
  refine own_step (fun t k => XS.aloadN X19.here hx rfl (hb hby d6_15) rfl rfl k) ?_
  show own_Fin p e below s Q 1 10 (T19.setTop (mkF m 16 #[.val (.ref o0), .val (.ref o1), .val (.ref b_18), .val (.int (0 : Int32))] [(.ref o0)]))
  refine own_step (fun t k => XS.iloadN X19.here hx rfl (hb hby d6_16) rfl  k) ?_
  show own_Fin p e below s Q 1 10 (T19.setTop (mkF m 17 #[.val (.ref o0), .val (.ref o1), .val (.ref b_18), .val (.int (0 : Int32))] [(.int (0 : Int32)), (.ref o0)]))
  refine own_step (fun t k => XS.iconst X19.here hx rfl (hb hby d6_17) k) ?_
  show own_Fin p e below s Q 1 10 (T19.setTop (mkF m 18 #[.val (.ref o0), .val (.ref o1), .val (.ref b_18), .val (.int (0 : Int32))] [(.int (1 : Int32)), (.int (0 : Int32)), (.ref o0)]))
  refine own_step (fun t k => XS.iadd X19.here hx rfl (hb hby d6_18) rfl k) ?_
  show own_Fin p e below s Q 1 10 (T19.setTop (mkF m 19 #[.val (.ref o0), .val (.ref o1), .val (.ref b_18), .val (.int (0 : Int32))] [(.int ((0 : Int32) + (1 : Int32))), (.ref o0)]))
  obtain ⟨T20, h20, X20, e20, W20, st20⟩ := putF X19 hx hZ hown (host := "") (Or.inl (hw _ (List.mem_of_getElem? (i := 34) rfl))) Via.refl e19 F19_o0_size Ex19_o0 (Or.inl (hw _ (List.mem_of_getElem? (i := 35) rfl))) (hw _ (List.mem_of_getElem? (i := 2) rfl)) (ty := .int) (by decide) rfl rfl (g := (mkF m 19 #[.val (.ref o0), .val (.ref o1), .val (.ref b_18), .val (.int (0 : Int32))] [(.int ((0 : Int32) + (1 : Int32))), (.ref o0)])) rfl rfl (hb hby d6_19)
  have N20 := Fr.snoc X20 N19 fr0
  have Z020 : n0 ≤ h20.size := Nat.le_trans Z019 (Nat.le_of_eq W20.size.symm)
  have R20_b_18 := own_RFoth R19 W20 (Ne.symm neo0_18)
  have I20 := I19.wr W20
  have O20 := O19.wr W20 fr0
  have K20 : Keep h h20 [o0] := K19.wr W20 (Or.inl (List.mem_of_getElem? (i := 0) rfl))
  have Ex20_o0 := Ex19_o0.wr W20
  have F20_o0_modCount := F19_o0_modCount.other W20 (Or.inr (slot_ne (Or.inl (hw _ (List.mem_of_getElem? (i := 23) rfl))) (Or.inl (hw _ (List.mem_of_getElem? (i := 35) rfl))) (by decide) (t := .int) (t' := .int) (by decide) (by decide)))
  have F20_o0_elementData := F19_o0_elementData.other W20 (Or.inr (slot_ne (Or.inl (hw _ (List.mem_of_getElem? (i := 26) rfl))) (Or.inl (hw _ (List.mem_of_getElem? (i := 35) rfl))) (by decide) (t := (.array (.object "java/lang/Object"))) (t' := .int) (by decide) (by decide)))
  have F20_o0_size := F19_o0_size.same W20
  refine own_step st20 ?_
  show own_Fin p e below s Q 1 10 (T20.setTop (mkF m 22 #[.val (.ref o0), .val (.ref o1), .val (.ref b_18), .val (.int (0 : Int32))] []))
  refine own_ret0 X20 hx hlk hret (hb hby d6_22) (Nat.le_trans (Nat.add_le_add_right hc 1) (by decide)) (Nat.le_trans (Nat.add_le_add_right hs 10) (by decide)) e20 ?_
  exact hQ _ _ b_18 N20 K20 r0_18 sz18 R20_b_18 Ex20_o0 F20_o0_modCount F20_o0_elementData F20_o0_size
theorem pdm_4 : parseMethodDescriptor "(Ljava/lang/Object;[Ljava/lang/Object;I)V" = some ⟨[(.object "java/lang/Object"), (.array (.object "java/lang/Object")), .int], none⟩ := by decide +kernel
theorem ef_60 (m : MethodId) (o0 : Addr) (o1 : Addr) : entryFrame m #[(.ref o0), (.ref o1), (.ref D), (.int (0 : Int32))] 4 = (mkF m 0 #[.val (.ref o0), .val (.ref o1), .val (.ref D), .val (.int (0 : Int32))] []) := by first | (simp [entryFrame, mkF, argsToLocals, Value.category]; done) | rfl
def Q60 (Z : State) (o0 : Addr) (o1 : Addr) (um : Value) (D : Addr) (h0 : Heap) (n0 : Nat) (v : Option Value) (h : Heap) (L : List Loc) : Prop := ∃ (b : Addr), v = none ∧ Fr n0 L ∧ Keep h0 h [o0] ∧ (n0 ≤ b) ∧ (h0.size ≤ b) ∧ (own_RF Z h b "java/lang/Object" 10 (fun i => if i = 0 then (.ref o1) else (fun _ => .null) i)) ∧ (Exa Z h o0 "java/util/ArrayList") ∧ (Fld Z h o0 "java/util/AbstractList" "modCount" "I" um) ∧ (Fld Z h o0 "java/util/ArrayList" "elementData" "[Ljava/lang/Object;" (.ref b)) ∧ (Fld Z h o0 "java/util/ArrayList" "size" "I" (.int ((0 : Int32) + (1 : Int32))))
set_option maxRecDepth 65536 in
set_option maxHeartbeats 4000000 in
theorem rm60 (l : Launch) (Z : State) (a0 : Array Value) (hw : ∀ d ∈ tables_1, d.before a0 Z = true) (ws : List Jvm.Cond) (o0 : Addr) (o1 : Addr) (um : Value) (D : Addr) (h0 : Heap) (n0 : Nat) (Z0 : n0 ≤ h0.size) (fr0 : n0 ≤ o0) (hO : Old Z n0 h0) (S0 : Sta Z Z.heap "java/util/ArrayList" "DEFAULTCAPACITY_EMPTY_ELEMENTDATA" "[Ljava/lang/Object;" (.ref D)) (DA : own_D Z D) (Ix : Ins Z h0 o1 "java/lang/Object" true) (E0 : Exa Z h0 o0 "java/util/ArrayList") (Fm : Fld Z h0 o0 "java/util/AbstractList" "modCount" "I" um) (Fe : Fld Z h0 o0 "java/util/ArrayList" "elementData" "[Ljava/lang/Object;" (.ref D)) (Fs : Fld Z h0 o0 "java/util/ArrayList" "size" "I" (.int (0 : Int32))) :
    MetFree l (⟨"java/util/ArrayList", "add", "(Ljava/lang/Object;[Ljava/lang/Object;I)V"⟩ : MethodName) (head1 (Jvm.Cond.code (⟨"java/util/ArrayList", "add", "(Ljava/lang/Object;[Ljava/lang/Object;I)V"⟩ : MethodName) jdk_38_method_24_code 4 none :: ws) ({ frames := 3, cells := 1, slots := 10, locals := 45 } : Room)) (fun a U => a = #[(.ref o0), (.ref o1), (.ref D), (.int (0 : Int32))] ∧ Z.Warmed39 U.vm ∧ U.heap = h0) (fun _ _ _ _ _ => True) (fun _ U o U' => ∃ v L, o = .returned v ∧ Q60 Z o0 o1 um D h0 n0 v U'.heap L ∧ FrameEnd U o U' L ({ frames := 3, cells := 1, slots := 10, locals := 45 } : Room).cells ({ frames := 3, cells := 1, slots := 10, locals := 45 } : Room).slots) := by
  refine MetFree.of_bodySF (plainFor_of_name pnm_2) hisR ?_
  intro p e s m args below meth c s₁ Bd hml0 hP hK
  obtain ⟨rfl, hZ, hh⟩ := hP
  have hx := Bd.exec
  have hby := Bd.bytes
  have hml : c.maxLocals = 4 := hml0
  have hown : s.vm.findClass "java/util/ArrayList" = some m.cls := findClass_of_methodNamed Bd.named
  have X0 : Stand p l e ({ frames := 3, cells := 1, slots := 10, locals := 45 } : Room) s m #[(.ref o0), (.ref o1), (.ref D), (.int (0 : Int32))] below meth c s₁ [] 0 0 := Stand.of_body Bd
  have e0 : s₁.heap = h0 := by rw [← hh, Bd.state]; rfl
  have fin := b60_0 o0 o1 um D (Q := Q60 Z o0 o1 um D h0 n0) hw X0 hx hZ hby hml hown Bd.returns (BodyLoose.notSynchronized Bd) e0 (Fr.nil n0) (Nat.zero_le _) (Nat.zero_le _) Z0 fr0 hO S0 DA Ix E0 Fm Fe Fs (fun H' L' b n' k' r0 r1 r2 r3 r4 r5 r6 => ⟨b, rfl, n', k', r0, r1, r2, r3, r4, r5, r6⟩)
  exact own_step (fun t k => castTop (ef_60 m o0 o1) k) fin
theorem d5_0 : decode jdk_38_method_25_code 0 = .ok (.aload_n 0, 1) := by decide +kernel
theorem d5_1 : decode jdk_38_method_25_code 1 = .ok (.dup, 1) := by decide +kernel
theorem d5_2 : decode jdk_38_method_25_code 2 = .ok (.getfield 63, 3) := by decide +kernel
theorem d5_5 : decode jdk_38_method_25_code 5 = .ok (.iconst 1, 1) := by decide +kernel
theorem d5_6 : decode jdk_38_method_25_code 6 = .ok (.iadd, 1) := by decide +kernel
theorem d5_7 : decode jdk_38_method_25_code 7 = .ok (.putfield 63, 3) := by decide +kernel
theorem d5_10 : decode jdk_38_method_25_code 10 = .ok (.aload_n 0, 1) := by decide +kernel
theorem d5_11 : decode jdk_38_method_25_code 11 = .ok (.aload_n 1, 1) := by decide +kernel
theorem d5_12 : decode jdk_38_method_25_code 12 = .ok (.aload_n 0, 1) := by decide +kernel
theorem d5_13 : decode jdk_38_method_25_code 13 = .ok (.getfield 9, 3) := by decide +kernel
theorem d5_16 : decode jdk_38_method_25_code 16 = .ok (.aload_n 0, 1) := by decide +kernel
theorem d5_17 : decode jdk_38_method_25_code 17 = .ok (.getfield 48, 3) := by decide +kernel
theorem d5_20 : decode jdk_38_method_25_code 20 = .ok (.invokevirtual 131, 3) := by decide +kernel
theorem d5_23 : decode jdk_38_method_25_code 23 = .ok (.iconst 1, 1) := by decide +kernel
theorem d5_24 : decode jdk_38_method_25_code 24 = .ok (.ireturn, 1) := by decide +kernel
set_option maxRecDepth 65536 in
set_option maxHeartbeats 40000000 in
theorem b50_0 {p : Program} {l : Launch} {e : Env} {s : State} {m : MethodId} {args : Array Value} {below : List Frame} {meth : Method} {c : Code} {T : State} {locs : List Loc} {cells slots : Nat} {Z : State} {a0 : Array Value} {h : Heap} {n0 : Nat} {Q : Option Value → Heap → List Loc → Prop} (o0 : Addr) (o1 : Addr) (mc : Int32) (D : Addr) (hw : ∀ d ∈ tables_1, d.before a0 Z = true) (X : Stand p l e ({ frames := 4, cells := 1, slots := 10, locals := 62 } : Room) s m args below meth c T locs cells slots) (hx : p.tables.exec = Jvm.exec) (hZ : Z.Warmed39 s.vm) (hby : c.code = jdk_38_method_25_code) (hml : c.maxLocals = 2) (hown : s.vm.findClass "java/util/ArrayList" = some m.cls) (hret : meth.sig.returnType = some .boolean) (hlk : meth.locks = false) (eT : T.heap = h) (N : Fr n0 locs) (hc : cells ≤ 0) (hs : slots ≤ 0) (Z0 : n0 ≤ h.size) (fr0 : n0 ≤ o0) (hO : Old Z n0 h) (S0 : Sta Z Z.heap "java/util/ArrayList" "DEFAULTCAPACITY_EMPTY_ELEMENTDATA" "[Ljava/lang/Object;" (.ref D)) (DA : own_D Z D) (Ix : Ins Z h o1 "java/lang/Object" true) (E0 : Exa Z h o0 "java/util/ArrayList") (Fm : Fld Z h o0 "java/util/AbstractList" "modCount" "I" (.int mc)) (Fe : Fld Z h o0 "java/util/ArrayList" "elementData" "[Ljava/lang/Object;" (.ref D)) (Fs : Fld Z h o0 "java/util/ArrayList" "size" "I" (.int (0 : Int32))) (hQ : ∀ (H' : Heap) (L' : List Loc) (b : Addr), Fr n0 L' → Keep h H' [o0] → n0 ≤ b → h.size ≤ b → own_RF Z H' b "java/lang/Object" 10 (fun i => if i = 0 then (.ref o1) else (fun _ => .null) i) → Exa Z H' o0 "java/util/ArrayList" → Fld Z H' o0 "java/util/AbstractList" "modCount" "I" (.int (mc + (1 : Int32))) → Fld Z H' o0 "java/util/ArrayList" "elementData" "[Ljava/lang/Object;" (.ref b) → Fld Z H' o0 "java/util/ArrayList" "size" "I" (.int (1 : Int32)) → Q (some (.int 1)) H' L') :
    own_Fin p e below s Q 1 10 (T.setTop (mkF m 0 #[.val (.ref o0), .val (.ref o1)] [])) := by
  refine own_step (fun t k => XS.aloadN X.here hx rfl (hb hby d5_0) rfl rfl k) ?_
  show own_Fin p e below s Q 1 10 (T.setTop (mkF m 1 #[.val (.ref o0), .val (.ref o1)] [(.ref o0)]))
  refine own_step (fun t k => XS.dup X.here hx rfl (hb hby d5_1) rfl rfl k) ?_
  show own_Fin p e below s Q 1 10 (T.setTop (mkF m 2 #[.val (.ref o0), .val (.ref o1)] [(.ref o0), (.ref o0)]))
  obtain ⟨T21, X21, e21, st21⟩ := getF X hx hZ hown (host := "") (Or.inl (hw _ (List.mem_of_getElem? (i := 32) rfl))) (Via.of (hw _ (List.mem_of_getElem? (i := 33) rfl))) eT Fm (g := (mkF m 2 #[.val (.ref o0), .val (.ref o1)] [(.ref o0), (.ref o0)])) rfl rfl (hb hby d5_2)
  refine own_step st21 ?_
  show own_Fin p e below s Q 1 10 (T21.setTop (mkF m 5 #[.val (.ref o0), .val (.ref o1)] [(.int mc), (.ref o0)]))
  refine own_step (fun t k => XS.iconst X21.here hx rfl (hb hby d5_5) k) ?_
  show own_Fin p e below s Q 1 10 (T21.setTop (mkF m 6 #[.val (.ref o0), .val (.ref o1)] [(.int (1 : Int32)), (.int mc), (.ref o0)]))
  refine own_step (fun t k => XS.iadd X21.here hx rfl (hb hby d5_6) rfl k) ?_
  show own_Fin p e below s Q 1 10 (T21.setTop (mkF m 7 #[.val (.ref o0), .val (.ref o1)] [(.int (mc + (1 : Int32))), (.ref o0)]))
  obtain ⟨T22, h22, X22, e22, W22, st22⟩ := putF X21 hx hZ hown (host := "") (Or.inl (hw _ (List.mem_of_getElem? (i := 32) rfl))) (Via.of (hw _ (List.mem_of_getElem? (i := 33) rfl))) e21 Fm E0 (Or.inl (hw _ (List.mem_of_getElem? (i := 23) rfl))) (hw _ (List.mem_of_getElem? (i := 2) rfl)) (ty := .int) (by decide) rfl rfl (g := (mkF m 7 #[.val (.ref o0), .val (.ref o1)] [(.int (mc + (1 : Int32))), (.ref o0)])) rfl rfl (hb hby d5_7)
  have N22 := Fr.snoc X22 N fr0
  have Z022 : n0 ≤ h22.size := Nat.le_trans Z0 (Nat.le_of_eq W22.size.symm)
  have I22 := Ix.wr W22
  have O22 := hO.wr W22 fr0
  have K22 : Keep h h22 [o0] := (Keep.refl h [o0]).wr W22 (Or.inl (List.mem_of_getElem? (i := 0) rfl))
  have Ex22_o0 := E0.wr W22
  have F22_o0_modCount := Fm.same W22
  have F22_o0_elementData := Fe.other W22 (Or.inr (slot_ne (Or.inl (hw _ (List.mem_of_getElem? (i := 26) rfl))) (Or.inl (hw _ (List.mem_of_getElem? (i := 23) rfl))) (by decide) (t := (.array (.object "java/lang/Object"))) (t' := .int) (by decide) (by decide)))
  have F22_o0_size := Fs.other W22 (Or.inr (slot_ne (Or.inl (hw _ (List.mem_of_getElem? (i := 35) rfl))) (Or.inl (hw _ (List.mem_of_getElem? (i := 23) rfl))) (by decide) (t := .int) (t' := .int) (by decide) (by decide)))
  refine own_step st22 ?_
  show own_Fin p e below s Q 1 10 (T22.setTop (mkF m 10 #[.val (.ref o0), .val (.ref o1)] []))
  refine own_step (fun t k => XS.aloadN X22.here hx rfl (hb hby d5_10) rfl rfl k) ?_
  show own_Fin p e below s Q 1 10 (T22.setTop (mkF m 11 #[.val (.ref o0), .val (.ref o1)] [(.ref o0)]))
  refine own_step (fun t k => XS.aloadN X22.here hx rfl (hb hby d5_11) rfl rfl k) ?_
  show own_Fin p e below s Q 1 10 (T22.setTop (mkF m 12 #[.val (.ref o0), .val (.ref o1)] [(.ref o1), (.ref o0)]))
  refine own_step (fun t k => XS.aloadN X22.here hx rfl (hb hby d5_12) rfl rfl k) ?_
  show own_Fin p e below s Q 1 10 (T22.setTop (mkF m 13 #[.val (.ref o0), .val (.ref o1)] [(.ref o0), (.ref o1), (.ref o0)]))
  obtain ⟨T23, X23, e23, st23⟩ := getF X22 hx hZ hown (host := "") (Or.inl (hw _ (List.mem_of_getElem? (i := 25) rfl))) Via.refl e22 F22_o0_elementData (g := (mkF m 13 #[.val (.ref o0), .val (.ref o1)] [(.ref o0), (.ref o1), (.ref o0)])) rfl rfl (hb hby d5_13)
  refine own_step st23 ?_
  show own_Fin p e below s Q 1 10 (T23.setTop (mkF m 16 #[.val (.ref o0), .val (.ref o1)] [(.ref D), (.ref o1), (.ref o0)]))
  refine own_step (fun t k => XS.aloadN X23.here hx rfl (hb hby d5_16) rfl rfl k) ?_
  show own_Fin p e below s Q 1 10 (T23.setTop (mkF m 17 #[.val (.ref o0), .val (.ref o1)] [(.ref o0), (.ref D), (.ref o1), (.ref o0)]))
  obtain ⟨T24, X24, e24, st24⟩ := getF X23 hx hZ hown (host := "") (Or.inl (hw _ (List.mem_of_getElem? (i := 34) rfl))) Via.refl e23 F22_o0_size (g := (mkF m 17 #[.val (.ref o0), .val (.ref o1)] [(.ref o0), (.ref D), (.ref o1), (.ref o0)])) rfl rfl (hb hby d5_17)
  refine own_step st24 ?_
  show own_Fin p e below s Q 1 10 (T24.setTop (mkF m 20 #[.val (.ref o0), .val (.ref o1)] [(.int (0 : Int32)), (.ref D), (.ref o1), (.ref o0)]))
  obtain ⟨cq25, q25, q25'⟩ := Ex22_o0.cell
  obtain ⟨_, _, ⟨T25, L25, k25, n25⟩, -, X25, ⟨Lc25, hQ25, l25, y25, z25⟩, st25⟩ := X24.privateBack hx (y := (⟨"java/util/ArrayList", "add", "(Ljava/lang/Object;[Ljava/lang/Object;I)V"⟩ : MethodName)) hown (mvT hZ (hw _ (List.mem_of_getElem? (i := 36) rfl))) (mvT hZ (hw _ (List.mem_of_getElem? (i := 37) rfl))) (mvT hZ (hw _ (List.mem_of_getElem? (i := 39) rfl))) (Cond.privateMethod_at (mvP hZ (hw _ (List.mem_of_getElem? (i := 38) rfl)) (args := #[]))) (mvT hZ (hw _ (List.mem_of_getElem? (i := 40) rfl))) (by decide) (backOf (W := 0) (rm60 l Z a0 hw [] o0 o1 (.int (mc + (1 : Int32))) D h22 n0 Z022 fr0 O22 S0 DA I22 Ex22_o0 F22_o0_modCount F22_o0_elementData F22_o0_size) hZ (hw _ (List.mem_of_getElem? (i := 40) rfl)) (hw _ (List.mem_of_getElem? (i := 3) rfl)) (by decide) (by decide)) (g := (mkF m 20 #[.val (.ref o0), .val (.ref o1)] [(.int (0 : Int32)), (.ref D), (.ref o1), (.ref o0)])) rfl (by rw [hml]; rfl) (Steps.refl _) (a := o0) (by rw [e24]; exact q25) q25' (argsL := [(.ref o1), (.ref D), (.int (0 : Int32))]) (rest := []) (lenOf pdm_4 rfl) rfl (by show 2 * 0 + _ ≤ _; exact Nat.le_of_eq rfl) (hb hby d5_20) (fun _ _ => ⟨rfl, e24, (show cells + 1 ≤ 1 from (Nat.le_trans (Nat.add_le_add_right hc 1) (by decide))), (show slots + 10 ≤ 10 from (Nat.le_trans (Nat.add_le_add_right hs 10) (by decide)))⟩)
  dsimp only [Pt.U, Pt.locs, Pt.cells, Pt.slots] at X25 l25 y25 z25 st25 hQ25
  have yy25 : k25 = cells + 1 := y25
  have zz25 : n25 = slots + 10 := z25
  rw [yy25, zz25, l25] at X25
  obtain ⟨b_25, rfl, N25q, K25, r0_25, r1_25, r2_25, r3_25, r4_25, r5_25, r6_25⟩ := hQ25
  have N25 := Fr.app N22 N25q
  have Z025 : n0 ≤ T25.heap.size := Nat.le_trans Z022 K25.1
  have I25 := own_InsK I22 K25
  have O25 := O22.keep K25 (allS fr0 all0)
  have KK25 : Keep h T25.heap [o0] := K22.trans K25 (allS (Or.inl (List.mem_of_getElem? (i := 0) rfl)) all0)
  have neo0_25 : o0 ≠ b_25 := Nat.ne_of_lt (Nat.lt_of_lt_of_le Ex22_o0.lt r1_25)
  have sz25 : h.size ≤ b_25 := Nat.le_trans K22.1 r1_25
  refine own_step (fun t k => st25.trans k) ?_
  show own_Fin p e below s Q 1 10 (T25.setTop (mkF m 23 #[.val (.ref o0), .val (.ref o1)] []))
  refine own_step (fun t k => XS.iconst X25.here hx rfl (hb hby d5_23) k) ?_
  show own_Fin p e below s Q 1 10 (T25.setTop (mkF m 24 #[.val (.ref o0), .val (.ref o1)] [(.int (1 : Int32))]))
  refine own_retZ X25 hx hlk hret (by simp) (hb hby d5_24) (Nat.le_trans (Nat.add_le_add_right hc 1) (by decide)) (Nat.le_trans (Nat.add_le_add_right hs 10) (by decide)) rfl ?_
  exact hQ _ _ b_25 N25 KK25 r0_25 sz25 r2_25 r3_25 r4_25 r5_25 r6_25
theorem pdm_5 : parseMethodDescriptor "(Ljava/lang/Object;)Z" = some ⟨[(.object "java/lang/Object")], some .boolean⟩ := by decide +kernel
theorem ef_50 (m : MethodId) (o0 : Addr) (o1 : Addr) : entryFrame m #[(.ref o0), (.ref o1)] 2 = (mkF m 0 #[.val (.ref o0), .val (.ref o1)] []) := by first | (simp [entryFrame, mkF, argsToLocals, Value.category]; done) | rfl
def Q50 (Z : State) (o0 : Addr) (o1 : Addr) (mc : Int32) (D : Addr) (h0 : Heap) (n0 : Nat) (v : Option Value) (h : Heap) (L : List Loc) : Prop := ∃ (b : Addr), v = some (.int 1) ∧ Fr n0 L ∧ Keep h0 h [o0] ∧ (n0 ≤ b) ∧ (h0.size ≤ b) ∧ (own_RF Z h b "java/lang/Object" 10 (fun i => if i = 0 then (.ref o1) else (fun _ => .null) i)) ∧ (Exa Z h o0 "java/util/ArrayList") ∧ (Fld Z h o0 "java/util/AbstractList" "modCount" "I" (.int (mc + (1 : Int32)))) ∧ (Fld Z h o0 "java/util/ArrayList" "elementData" "[Ljava/lang/Object;" (.ref b)) ∧ (Fld Z h o0 "java/util/ArrayList" "size" "I" (.int (1 : Int32)))
set_option maxRecDepth 65536 in
set_option maxHeartbeats 4000000 in
theorem rm50 (l : Launch) (Z : State) (a0 : Array Value) (hw : ∀ d ∈ tables_1, d.before a0 Z = true) (ws : List Jvm.Cond) (o0 : Addr) (o1 : Addr) (mc : Int32) (D : Addr) (h0 : Heap) (n0 : Nat) (Z0 : n0 ≤ h0.size) (fr0 : n0 ≤ o0) (hO : Old Z n0 h0) (S0 : Sta Z Z.heap "java/util/ArrayList" "DEFAULTCAPACITY_EMPTY_ELEMENTDATA" "[Ljava/lang/Object;" (.ref D)) (DA : own_D Z D) (Ix : Ins Z h0 o1 "java/lang/Object" true) (E0 : Exa Z h0 o0 "java/util/ArrayList") (Fm : Fld Z h0 o0 "java/util/AbstractList" "modCount" "I" (.int mc)) (Fe : Fld Z h0 o0 "java/util/ArrayList" "elementData" "[Ljava/lang/Object;" (.ref D)) (Fs : Fld Z h0 o0 "java/util/ArrayList" "size" "I" (.int (0 : Int32))) :
    MetFree l (⟨"java/util/ArrayList", "add", "(Ljava/lang/Object;)Z"⟩ : MethodName) (head1 (Jvm.Cond.code (⟨"java/util/ArrayList", "add", "(Ljava/lang/Object;)Z"⟩ : MethodName) jdk_38_method_25_code 2 (some .boolean) :: ws) ({ frames := 4, cells := 1, slots := 10, locals := 62 } : Room)) (fun a U => a = #[(.ref o0), (.ref o1)] ∧ Z.Warmed39 U.vm ∧ U.heap = h0) (fun _ _ _ _ _ => True) (fun _ U o U' => ∃ v L, o = .returned v ∧ Q50 Z o0 o1 mc D h0 n0 v U'.heap L ∧ FrameEnd U o U' L ({ frames := 4, cells := 1, slots := 10, locals := 62 } : Room).cells ({ frames := 4, cells := 1, slots := 10, locals := 62 } : Room).slots) := by
  refine MetFree.of_bodySF (plainFor_of_name pnm_2) hisR ?_
  intro p e s m args below meth c s₁ Bd hml0 hP hK
  obtain ⟨rfl, hZ, hh⟩ := hP
  have hx := Bd.exec
  have hby := Bd.bytes
  have hml : c.maxLocals = 2 := hml0
  have hown : s.vm.findClass "java/util/ArrayList" = some m.cls := findClass_of_methodNamed Bd.named
  have X0 : Stand p l e ({ frames := 4, cells := 1, slots := 10, locals := 62 } : Room) s m #[(.ref o0), (.ref o1)] below meth c s₁ [] 0 0 := Stand.of_body Bd
  have e0 : s₁.heap = h0 := by rw [← hh, Bd.state]; rfl
  have fin := b50_0 o0 o1 mc D (Q := Q50 Z o0 o1 mc D h0 n0) hw X0 hx hZ hby hml hown Bd.returns (BodyLoose.notSynchronized Bd) e0 (Fr.nil n0) (Nat.zero_le _) (Nat.zero_le _) Z0 fr0 hO S0 DA Ix E0 Fm Fe Fs (fun H' L' b n' k' r0 r1 r2 r3 r4 r5 r6 => ⟨b, rfl, n', k', r0, r1, r2, r3, r4, r5, r6⟩)
  exact own_step (fun t k => castTop (ef_50 m o0 o1) k) fin
set_option maxRecDepth 65536 in
set_option maxHeartbeats 40000000 in
theorem b61_0 {p : Program} {l : Launch} {e : Env} {s : State} {m : MethodId} {args : Array Value} {below : List Frame} {meth : Method} {c : Code} {T : State} {locs : List Loc} {cells slots : Nat} {Z : State} {a0 : Array Value} {h : Heap} {n0 : Nat} {Q : Option Value → Heap → List Loc → Prop} (o0 : Addr) (o1 : Addr) (um : Value) (ea : Addr) (gE : Nat → Value) (hw : ∀ d ∈ tables_1, d.before a0 Z = true) (X : Stand p l e ({ frames := 0, cells := 0, slots := 0, locals := 0 } : Room) s m args below meth c T locs cells slots) (hx : p.tables.exec = Jvm.exec) (hZ : Z.Warmed39 s.vm) (hby : c.code = jdk_38_method_24_code) (hml : c.maxLocals = 4) (hown : s.vm.findClass "java/util/ArrayList" = some m.cls) (hret : meth.sig.returnType = none) (hlk : meth.locks = false) (eT : T.heap = h) (N : Fr n0 locs) (hc : cells ≤ 0) (hs : slots ≤ 0) (Z0 : n0 ≤ h.size) (fr0 : n0 ≤ o0) (fre : n0 ≤ ea) (nee : o0 ≠ ea) (Ix : Ins Z h o1 "java/lang/Object" true) (Re : own_RF Z h ea "java/lang/Object" 10 gE) (E0 : Exa Z h o0 "java/util/ArrayList") (Fm : Fld Z h o0 "java/util/AbstractList" "modCount" "I" um) (Fe : Fld Z h o0 "java/util/ArrayList" "elementData" "[Ljava/lang/Object;" (.ref ea)) (Fs : Fld Z h o0 "java/util/ArrayList" "size" "I" (.int (1 : Int32))) (hQ : ∀ (H' : Heap) (L' : List Loc), Fr n0 L' → Keep h H' [o0, ea] → own_RF Z H' ea "java/lang/Object" 10 (fun i => if i = 1 then (.ref o1) else gE i) → Exa Z H' o0 "java/util/ArrayList" → Fld Z H' o0 "java/util/AbstractList" "modCount" "I" um → Fld Z H' o0 "java/util/ArrayList" "elementData" "[Ljava/lang/Object;" (.ref ea) → Fld Z H' o0 "java/util/ArrayList" "size" "I" (.int ((1 : Int32) + (1 : Int32))) → Q none H' L') :
    own_Fin p e below s Q 0 0 (T.setTop (mkF m 0 #[.val (.ref o0), .val (.ref o1), .val (.ref ea), .val (.int (1 : Int32))] [])) := by
  refine own_step (fun t k => XS.iloadN X.here hx rfl (hb hby d6_0) rfl  k) ?_
  show own_Fin p e below s Q 0 0 (T.setTop (mkF m 1 #[.val (.ref o0), .val (.ref o1), .val (.ref ea), .val (.int (1 : Int32))] [(.int (1 : Int32))]))
  refine own_step (fun t k => XS.aloadN X.here hx rfl (hb hby d6_1) rfl rfl k) ?_
  show own_Fin p e below s Q 0 0 (T.setTop (mkF m 2 #[.val (.ref o0), .val (.ref o1), .val (.ref ea), .val (.int (1 : Int32))] [(.ref ea), (.int (1 : Int32))]))
  obtain ⟨ca2, Ar2, Ov2, Sz2, Ht2⟩ := id Re
  refine own_step (X.arraylength hx (by rw [eT]; exact Ar2.1) (State.isArrayOf_alike hZ.alike Ar2.2.1) (g := (mkF m 2 #[.val (.ref o0), .val (.ref o1), .val (.ref ea), .val (.int (1 : Int32))] [(.ref ea), (.int (1 : Int32))])) rfl rfl (hb hby d6_2)) ?_
  rw [Sz2]
  show own_Fin p e below s Q 0 0 (T.setTop (mkF m 3 #[.val (.ref o0), .val (.ref o1), .val (.ref ea), .val (.int (1 : Int32))] [(.int (10 : Int32)), (.int (1 : Int32))]))
  refine own_step (fun t k => XS.icmpYes X.here hx rfl (pc0 := 3) (pc' := 11) rfl (hb hby d6_3) rfl (feq (by decide : ¬ ((1 : Int32) = (10 : Int32)))).2 (by decide) (by decide) k) ?_
  show own_Fin p e below s Q 0 0 (T.setTop (mkF m 11 #[.val (.ref o0), .val (.ref o1), .val (.ref ea), .val (.int (1 : Int32))] []))
  refine own_step (fun t k => XS.aloadN X.here hx rfl (hb hby d6_11) rfl rfl k) ?_
  show own_Fin p e below s Q 0 0 (T.setTop (mkF m 12 #[.val (.ref o0), .val (.ref o1), .val (.ref ea), .val (.int (1 : Int32))] [(.ref ea)]))
  refine own_step (fun t k => XS.iloadN X.here hx rfl (hb hby d6_12) rfl  k) ?_
  show own_Fin p e below s Q 0 0 (T.setTop (mkF m 13 #[.val (.ref o0), .val (.ref o1), .val (.ref ea), .val (.int (1 : Int32))] [(.int (1 : Int32)), (.ref ea)]))
  refine own_step (fun t k => XS.aloadN X.here hx rfl (hb hby d6_13) rfl rfl k) ?_
  show own_Fin p e below s Q 0 0 (T.setTop (mkF m 14 #[.val (.ref o0), .val (.ref o1), .val (.ref ea), .val (.int (1 : Int32))] [(.ref o1), (.int (1 : Int32)), (.ref ea)]))
  obtain ⟨ca26, Ar26, Ov26, Sz26, Ht26⟩ := id Re
  have hin26 : ¬ ((1 : Int32) < 0 ∨ ca26.slots.size ≤ ((1 : Int32)).toNatClampNeg) := by rw [Sz26]; exact (by decide)
  obtain ⟨T26, h26, X26, e26, W26, st26⟩ := stR X hx hZ eT Ar26 (j := (1 : Int32)) hin26 rfl (Sto.of Ar26 Ov26 Ix) (g := (mkF m 14 #[.val (.ref o0), .val (.ref o1), .val (.ref ea), .val (.int (1 : Int32))] [(.ref o1), (.int (1 : Int32)), (.ref ea)])) rfl rfl (hb hby d6_14)
  have R26 : own_RF Z h26 ea "java/lang/Object" 10 (fun i => if i = 1 then (.ref o1) else gE i) := own_RFset Ar26 Ov26 Sz26 Ht26 W26
  have N26 := Fr.snoc X26 N fre
  have Z026 : n0 ≤ h26.size := Nat.le_trans Z0 (Nat.le_of_eq W26.size.symm)
  have Ex26_o0 := E0.wr W26
  have F26_o0_modCount := Fm.other W26 (Or.inl nee)
  have F26_o0_elementData := Fe.other W26 (Or.inl nee)
  have F26_o0_size := Fs.other W26 (Or.inl nee)
  have I26 := Ix.wr W26
  have K26 : Keep h h26 [o0, ea] := (Keep.refl h [o0, ea]).wr W26 (Or.inl (List.mem_of_getElem? (i := 1) rfl))
  refine own_step st26 ?_
  show own_Fin p e below s Q 0 0 (T26.setTop (mkF m 15 #[.val (.ref o0), .val (.ref o1), .val (.ref ea), .val (.int (1 : Int32))] []))
  refine own_step (fun t k => XS.aloadN X26.here hx rfl (hb hby d6_15) rfl rfl k) ?_
  show own_Fin p e below s Q 0 0 (T26.setTop (mkF m 16 #[.val (.ref o0), .val (.ref o1), .val (.ref ea), .val (.int (1 : Int32))] [(.ref o0)]))
  refine own_step (fun t k => XS.iloadN X26.here hx rfl (hb hby d6_16) rfl  k) ?_
  show own_Fin p e below s Q 0 0 (T26.setTop (mkF m 17 #[.val (.ref o0), .val (.ref o1), .val (.ref ea), .val (.int (1 : Int32))] [(.int (1 : Int32)), (.ref o0)]))
  refine own_step (fun t k => XS.iconst X26.here hx rfl (hb hby d6_17) k) ?_
  show own_Fin p e below s Q 0 0 (T26.setTop (mkF m 18 #[.val (.ref o0), .val (.ref o1), .val (.ref ea), .val (.int (1 : Int32))] [(.int (1 : Int32)), (.int (1 : Int32)), (.ref o0)]))
  refine own_step (fun t k => XS.iadd X26.here hx rfl (hb hby d6_18) rfl k) ?_
  show own_Fin p e below s Q 0 0 (T26.setTop (mkF m 19 #[.val (.ref o0), .val (.ref o1), .val (.ref ea), .val (.int (1 : Int32))] [(.int ((1 : Int32) + (1 : Int32))), (.ref o0)]))
  obtain ⟨T27, h27, X27, e27, W27, st27⟩ := putF X26 hx hZ hown (host := "") (Or.inl (hw _ (List.mem_of_getElem? (i := 34) rfl))) Via.refl e26 F26_o0_size Ex26_o0 (Or.inl (hw _ (List.mem_of_getElem? (i := 35) rfl))) (hw _ (List.mem_of_getElem? (i := 2) rfl)) (ty := .int) (by decide) rfl rfl (g := (mkF m 19 #[.val (.ref o0), .val (.ref o1), .val (.ref ea), .val (.int (1 : Int32))] [(.int ((1 : Int32) + (1 : Int32))), (.ref o0)])) rfl rfl (hb hby d6_19)
  have N27 := Fr.snoc X27 N26 fr0
  have Z027 : n0 ≤ h27.size := Nat.le_trans Z026 (Nat.le_of_eq W27.size.symm)
  have R27_ea := own_RFoth R26 W27 (Ne.symm nee)
  have I27 := I26.wr W27
  have K27 : Keep h h27 [o0, ea] := K26.wr W27 (Or.inl (List.mem_of_getElem? (i := 0) rfl))
  have Ex27_o0 := Ex26_o0.wr W27
  have F27_o0_modCount := F26_o0_modCount.other W27 (Or.inr (slot_ne (Or.inl (hw _ (List.mem_of_getElem? (i := 23) rfl))) (Or.inl (hw _ (List.mem_of_getElem? (i := 35) rfl))) (by decide) (t := .int) (t' := .int) (by decide) (by decide)))
  have F27_o0_elementData := F26_o0_elementData.other W27 (Or.inr (slot_ne (Or.inl (hw _ (List.mem_of_getElem? (i := 26) rfl))) (Or.inl (hw _ (List.mem_of_getElem? (i := 35) rfl))) (by decide) (t := (.array (.object "java/lang/Object"))) (t' := .int) (by decide) (by decide)))
  have F27_o0_size := F26_o0_size.same W27
  refine own_step st27 ?_
  show own_Fin p e below s Q 0 0 (T27.setTop (mkF m 22 #[.val (.ref o0), .val (.ref o1), .val (.ref ea), .val (.int (1 : Int32))] []))
  refine own_ret0 X27 hx hlk hret (hb hby d6_22) (Nat.le_trans (Nat.add_le_add_right hc 0) (by decide)) (Nat.le_trans (Nat.add_le_add_right hs 0) (by decide)) e27 ?_
  exact hQ _ _ N27 K27 R27_ea Ex27_o0 F27_o0_modCount F27_o0_elementData F27_o0_size
theorem ef_61 (m : MethodId) (o0 : Addr) (o1 : Addr) : entryFrame m #[(.ref o0), (.ref o1), (.ref ea), (.int (1 : Int32))] 4 = (mkF m 0 #[.val (.ref o0), .val (.ref o1), .val (.ref ea), .val (.int (1 : Int32))] []) := by first | (simp [entryFrame, mkF, argsToLocals, Value.category]; done) | rfl
def Q61 (Z : State) (o0 : Addr) (o1 : Addr) (um : Value) (ea : Addr) (gE : Nat → Value) (h0 : Heap) (n0 : Nat) (v : Option Value) (h : Heap) (L : List Loc) : Prop := v = none ∧ Fr n0 L ∧ Keep h0 h [o0, ea] ∧ (own_RF Z h ea "java/lang/Object" 10 (fun i => if i = 1 then (.ref o1) else gE i)) ∧ (Exa Z h o0 "java/util/ArrayList") ∧ (Fld Z h o0 "java/util/AbstractList" "modCount" "I" um) ∧ (Fld Z h o0 "java/util/ArrayList" "elementData" "[Ljava/lang/Object;" (.ref ea)) ∧ (Fld Z h o0 "java/util/ArrayList" "size" "I" (.int ((1 : Int32) + (1 : Int32))))
set_option maxRecDepth 65536 in
set_option maxHeartbeats 4000000 in
theorem rm61 (l : Launch) (Z : State) (a0 : Array Value) (hw : ∀ d ∈ tables_1, d.before a0 Z = true) (ws : List Jvm.Cond) (o0 : Addr) (o1 : Addr) (um : Value) (ea : Addr) (gE : Nat → Value) (h0 : Heap) (n0 : Nat) (Z0 : n0 ≤ h0.size) (fr0 : n0 ≤ o0) (fre : n0 ≤ ea) (nee : o0 ≠ ea) (Ix : Ins Z h0 o1 "java/lang/Object" true) (Re : own_RF Z h0 ea "java/lang/Object" 10 gE) (E0 : Exa Z h0 o0 "java/util/ArrayList") (Fm : Fld Z h0 o0 "java/util/AbstractList" "modCount" "I" um) (Fe : Fld Z h0 o0 "java/util/ArrayList" "elementData" "[Ljava/lang/Object;" (.ref ea)) (Fs : Fld Z h0 o0 "java/util/ArrayList" "size" "I" (.int (1 : Int32))) :
    MetFree l (⟨"java/util/ArrayList", "add", "(Ljava/lang/Object;[Ljava/lang/Object;I)V"⟩ : MethodName) (head1 (Jvm.Cond.code (⟨"java/util/ArrayList", "add", "(Ljava/lang/Object;[Ljava/lang/Object;I)V"⟩ : MethodName) jdk_38_method_24_code 4 none :: ws) ({ frames := 0, cells := 0, slots := 0, locals := 0 } : Room)) (fun a U => a = #[(.ref o0), (.ref o1), (.ref ea), (.int (1 : Int32))] ∧ Z.Warmed39 U.vm ∧ U.heap = h0) (fun _ _ _ _ _ => True) (fun _ U o U' => ∃ v L, o = .returned v ∧ Q61 Z o0 o1 um ea gE h0 n0 v U'.heap L ∧ FrameEnd U o U' L ({ frames := 0, cells := 0, slots := 0, locals := 0 } : Room).cells ({ frames := 0, cells := 0, slots := 0, locals := 0 } : Room).slots) := by
  refine MetFree.of_bodySF (plainFor_of_name pnm_2) hisR ?_
  intro p e s m args below meth c s₁ Bd hml0 hP hK
  obtain ⟨rfl, hZ, hh⟩ := hP
  have hx := Bd.exec
  have hby := Bd.bytes
  have hml : c.maxLocals = 4 := hml0
  have hown : s.vm.findClass "java/util/ArrayList" = some m.cls := findClass_of_methodNamed Bd.named
  have X0 : Stand p l e ({ frames := 0, cells := 0, slots := 0, locals := 0 } : Room) s m #[(.ref o0), (.ref o1), (.ref ea), (.int (1 : Int32))] below meth c s₁ [] 0 0 := Stand.of_body Bd
  have e0 : s₁.heap = h0 := by rw [← hh, Bd.state]; rfl
  have fin := b61_0 o0 o1 um ea gE (Q := Q61 Z o0 o1 um ea gE h0 n0) hw X0 hx hZ hby hml hown Bd.returns (BodyLoose.notSynchronized Bd) e0 (Fr.nil n0) (Nat.zero_le _) (Nat.zero_le _) Z0 fr0 fre nee Ix Re E0 Fm Fe Fs (fun H' L' n' k' r0 r1 r2 r3 r4 => ⟨rfl, n', k', r0, r1, r2, r3, r4⟩)
  exact own_step (fun t k => castTop (ef_61 m o0 o1) k) fin
set_option maxRecDepth 65536 in
set_option maxHeartbeats 40000000 in
theorem b51_0 {p : Program} {l : Launch} {e : Env} {s : State} {m : MethodId} {args : Array Value} {below : List Frame} {meth : Method} {c : Code} {T : State} {locs : List Loc} {cells slots : Nat} {Z : State} {a0 : Array Value} {h : Heap} {n0 : Nat} {Q : Option Value → Heap → List Loc → Prop} (o0 : Addr) (o1 : Addr) (mc : Int32) (ea : Addr) (gE : Nat → Value) (hw : ∀ d ∈ tables_1, d.before a0 Z = true) (X : Stand p l e ({ frames := 1, cells := 0, slots := 0, locals := 16 } : Room) s m args below meth c T locs cells slots) (hx : p.tables.exec = Jvm.exec) (hZ : Z.Warmed39 s.vm) (hby : c.code = jdk_38_method_25_code) (hml : c.maxLocals = 2) (hown : s.vm.findClass "java/util/ArrayList" = some m.cls) (hret : meth.sig.returnType = some .boolean) (hlk : meth.locks = false) (eT : T.heap = h) (N : Fr n0 locs) (hc : cells ≤ 0) (hs : slots ≤ 0) (Z0 : n0 ≤ h.size) (fr0 : n0 ≤ o0) (fre : n0 ≤ ea) (nee : o0 ≠ ea) (Ix : Ins Z h o1 "java/lang/Object" true) (Re : own_RF Z h ea "java/lang/Object" 10 gE) (E0 : Exa Z h o0 "java/util/ArrayList") (Fm : Fld Z h o0 "java/util/AbstractList" "modCount" "I" (.int mc)) (Fe : Fld Z h o0 "java/util/ArrayList" "elementData" "[Ljava/lang/Object;" (.ref ea)) (Fs : Fld Z h o0 "java/util/ArrayList" "size" "I" (.int (1 : Int32))) (hQ : ∀ (H' : Heap) (L' : List Loc), Fr n0 L' → Keep h H' [o0, ea] → own_RF Z H' ea "java/lang/Object" 10 (fun i => if i = 1 then (.ref o1) else gE i) → Exa Z H' o0 "java/util/ArrayList" → Fld Z H' o0 "java/util/AbstractList" "modCount" "I" (.int (mc + (1 : Int32))) → Fld Z H' o0 "java/util/ArrayList" "elementData" "[Ljava/lang/Object;" (.ref ea) → Fld Z H' o0 "java/util/ArrayList" "size" "I" (.int (2 : Int32)) → Q (some (.int 1)) H' L') :
    own_Fin p e below s Q 0 0 (T.setTop (mkF m 0 #[.val (.ref o0), .val (.ref o1)] [])) := by
  refine own_step (fun t k => XS.aloadN X.here hx rfl (hb hby d5_0) rfl rfl k) ?_
  show own_Fin p e below s Q 0 0 (T.setTop (mkF m 1 #[.val (.ref o0), .val (.ref o1)] [(.ref o0)]))
  refine own_step (fun t k => XS.dup X.here hx rfl (hb hby d5_1) rfl rfl k) ?_
  show own_Fin p e below s Q 0 0 (T.setTop (mkF m 2 #[.val (.ref o0), .val (.ref o1)] [(.ref o0), (.ref o0)]))
  obtain ⟨T28, X28, e28, st28⟩ := getF X hx hZ hown (host := "") (Or.inl (hw _ (List.mem_of_getElem? (i := 32) rfl))) (Via.of (hw _ (List.mem_of_getElem? (i := 33) rfl))) eT Fm (g := (mkF m 2 #[.val (.ref o0), .val (.ref o1)] [(.ref o0), (.ref o0)])) rfl rfl (hb hby d5_2)
  refine own_step st28 ?_
  show own_Fin p e below s Q 0 0 (T28.setTop (mkF m 5 #[.val (.ref o0), .val (.ref o1)] [(.int mc), (.ref o0)]))
  refine own_step (fun t k => XS.iconst X28.here hx rfl (hb hby d5_5) k) ?_
  show own_Fin p e below s Q 0 0 (T28.setTop (mkF m 6 #[.val (.ref o0), .val (.ref o1)] [(.int (1 : Int32)), (.int mc), (.ref o0)]))
  refine own_step (fun t k => XS.iadd X28.here hx rfl (hb hby d5_6) rfl k) ?_
  show own_Fin p e below s Q 0 0 (T28.setTop (mkF m 7 #[.val (.ref o0), .val (.ref o1)] [(.int (mc + (1 : Int32))), (.ref o0)]))
  obtain ⟨T29, h29, X29, e29, W29, st29⟩ := putF X28 hx hZ hown (host := "") (Or.inl (hw _ (List.mem_of_getElem? (i := 32) rfl))) (Via.of (hw _ (List.mem_of_getElem? (i := 33) rfl))) e28 Fm E0 (Or.inl (hw _ (List.mem_of_getElem? (i := 23) rfl))) (hw _ (List.mem_of_getElem? (i := 2) rfl)) (ty := .int) (by decide) rfl rfl (g := (mkF m 7 #[.val (.ref o0), .val (.ref o1)] [(.int (mc + (1 : Int32))), (.ref o0)])) rfl rfl (hb hby d5_7)
  have N29 := Fr.snoc X29 N fr0
  have Z029 : n0 ≤ h29.size := Nat.le_trans Z0 (Nat.le_of_eq W29.size.symm)
  have R29_ea := own_RFoth Re W29 (Ne.symm nee)
  have I29 := Ix.wr W29
  have K29 : Keep h h29 [o0, ea] := (Keep.refl h [o0, ea]).wr W29 (Or.inl (List.mem_of_getElem? (i := 0) rfl))
  have Ex29_o0 := E0.wr W29
  have F29_o0_modCount := Fm.same W29
  have F29_o0_elementData := Fe.other W29 (Or.inr (slot_ne (Or.inl (hw _ (List.mem_of_getElem? (i := 26) rfl))) (Or.inl (hw _ (List.mem_of_getElem? (i := 23) rfl))) (by decide) (t := (.array (.object "java/lang/Object"))) (t' := .int) (by decide) (by decide)))
  have F29_o0_size := Fs.other W29 (Or.inr (slot_ne (Or.inl (hw _ (List.mem_of_getElem? (i := 35) rfl))) (Or.inl (hw _ (List.mem_of_getElem? (i := 23) rfl))) (by decide) (t := .int) (t' := .int) (by decide) (by decide)))
  refine own_step st29 ?_
  show own_Fin p e below s Q 0 0 (T29.setTop (mkF m 10 #[.val (.ref o0), .val (.ref o1)] []))
  refine own_step (fun t k => XS.aloadN X29.here hx rfl (hb hby d5_10) rfl rfl k) ?_
  show own_Fin p e below s Q 0 0 (T29.setTop (mkF m 11 #[.val (.ref o0), .val (.ref o1)] [(.ref o0)]))
  refine own_step (fun t k => XS.aloadN X29.here hx rfl (hb hby d5_11) rfl rfl k) ?_
  show own_Fin p e below s Q 0 0 (T29.setTop (mkF m 12 #[.val (.ref o0), .val (.ref o1)] [(.ref o1), (.ref o0)]))
  refine own_step (fun t k => XS.aloadN X29.here hx rfl (hb hby d5_12) rfl rfl k) ?_
  show own_Fin p e below s Q 0 0 (T29.setTop (mkF m 13 #[.val (.ref o0), .val (.ref o1)] [(.ref o0), (.ref o1), (.ref o0)]))
  obtain ⟨T30, X30, e30, st30⟩ := getF X29 hx hZ hown (host := "") (Or.inl (hw _ (List.mem_of_getElem? (i := 25) rfl))) Via.refl e29 F29_o0_elementData (g := (mkF m 13 #[.val (.ref o0), .val (.ref o1)] [(.ref o0), (.ref o1), (.ref o0)])) rfl rfl (hb hby d5_13)
  refine own_step st30 ?_
  show own_Fin p e below s Q 0 0 (T30.setTop (mkF m 16 #[.val (.ref o0), .val (.ref o1)] [(.ref ea), (.ref o1), (.ref o0)]))
  refine own_step (fun t k => XS.aloadN X30.here hx rfl (hb hby d5_16) rfl rfl k) ?_
  show own_Fin p e below s Q 0 0 (T30.setTop (mkF m 17 #[.val (.ref o0), .val (.ref o1)] [(.ref o0), (.ref ea), (.ref o1), (.ref o0)]))
  obtain ⟨T31, X31, e31, st31⟩ := getF X30 hx hZ hown (host := "") (Or.inl (hw _ (List.mem_of_getElem? (i := 34) rfl))) Via.refl e30 F29_o0_size (g := (mkF m 17 #[.val (.ref o0), .val (.ref o1)] [(.ref o0), (.ref ea), (.ref o1), (.ref o0)])) rfl rfl (hb hby d5_17)
  refine own_step st31 ?_
  show own_Fin p e below s Q 0 0 (T31.setTop (mkF m 20 #[.val (.ref o0), .val (.ref o1)] [(.int (1 : Int32)), (.ref ea), (.ref o1), (.ref o0)]))
  obtain ⟨cq32, q32, q32'⟩ := Ex29_o0.cell
  obtain ⟨_, _, ⟨T32, L32, k32, n32⟩, -, X32, ⟨Lc32, hQ32, l32, y32, z32⟩, st32⟩ := X31.privateBack hx (y := (⟨"java/util/ArrayList", "add", "(Ljava/lang/Object;[Ljava/lang/Object;I)V"⟩ : MethodName)) hown (mvT hZ (hw _ (List.mem_of_getElem? (i := 36) rfl))) (mvT hZ (hw _ (List.mem_of_getElem? (i := 37) rfl))) (mvT hZ (hw _ (List.mem_of_getElem? (i := 39) rfl))) (Cond.privateMethod_at (mvP hZ (hw _ (List.mem_of_getElem? (i := 38) rfl)) (args := #[]))) (mvT hZ (hw _ (List.mem_of_getElem? (i := 40) rfl))) (by decide) (backOf (W := 0) (rm61 l Z a0 hw [] o0 o1 (.int (mc + (1 : Int32))) ea gE h29 n0 Z029 fr0 fre nee I29 R29_ea Ex29_o0 F29_o0_modCount F29_o0_elementData F29_o0_size) hZ (hw _ (List.mem_of_getElem? (i := 40) rfl)) (hw _ (List.mem_of_getElem? (i := 3) rfl)) (by decide) (by decide)) (g := (mkF m 20 #[.val (.ref o0), .val (.ref o1)] [(.int (1 : Int32)), (.ref ea), (.ref o1), (.ref o0)])) rfl (by rw [hml]; rfl) (Steps.refl _) (a := o0) (by rw [e31]; exact q32) q32' (argsL := [(.ref o1), (.ref ea), (.int (1 : Int32))]) (rest := []) (lenOf pdm_4 rfl) rfl (by show 2 * 0 + _ ≤ _; exact Nat.le_of_eq rfl) (hb hby d5_20) (fun _ _ => ⟨rfl, e31, (show cells + 0 ≤ 0 from (Nat.le_trans (Nat.add_le_add_right hc 0) (by decide))), (show slots + 0 ≤ 0 from (Nat.le_trans (Nat.add_le_add_right hs 0) (by decide)))⟩)
  dsimp only [Pt.U, Pt.locs, Pt.cells, Pt.slots] at X32 l32 y32 z32 st32 hQ32
  have yy32 : k32 = cells + 0 := y32
  have zz32 : n32 = slots + 0 := z32
  rw [yy32, zz32, l32] at X32
  obtain ⟨rfl, N32q, K32, r0_32, r1_32, r2_32, r3_32, r4_32⟩ := hQ32
  have N32 := Fr.app N29 N32q
  have Z032 : n0 ≤ T32.heap.size := Nat.le_trans Z029 K32.1
  have I32 := own_InsK I29 K32
  have KK32 : Keep h T32.heap [o0, ea] := K29.trans K32 (allS (Or.inl (List.mem_of_getElem? (i := 0) rfl)) (allS (Or.inl (List.mem_of_getElem? (i := 1) rfl)) all0))
  refine own_step (fun t k => st32.trans k) ?_
  show own_Fin p e below s Q 0 0 (T32.setTop (mkF m 23 #[.val (.ref o0), .val (.ref o1)] []))
  refine own_step (fun t k => XS.iconst X32.here hx rfl (hb hby d5_23) k) ?_
  show own_Fin p e below s Q 0 0 (T32.setTop (mkF m 24 #[.val (.ref o0), .val (.ref o1)] [(.int (1 : Int32))]))
  refine own_retZ X32 hx hlk hret (by simp) (hb hby d5_24) (Nat.le_trans (Nat.add_le_add_right hc 0) (by decide)) (Nat.le_trans (Nat.add_le_add_right hs 0) (by decide)) rfl ?_
  exact hQ _ _ N32 KK32 r0_32 r1_32 r2_32 r3_32 r4_32
theorem ef_51 (m : MethodId) (o0 : Addr) (o1 : Addr) : entryFrame m #[(.ref o0), (.ref o1)] 2 = (mkF m 0 #[.val (.ref o0), .val (.ref o1)] []) := by first | (simp [entryFrame, mkF, argsToLocals, Value.category]; done) | rfl
def Q51 (Z : State) (o0 : Addr) (o1 : Addr) (mc : Int32) (ea : Addr) (gE : Nat → Value) (h0 : Heap) (n0 : Nat) (v : Option Value) (h : Heap) (L : List Loc) : Prop := v = some (.int 1) ∧ Fr n0 L ∧ Keep h0 h [o0, ea] ∧ (own_RF Z h ea "java/lang/Object" 10 (fun i => if i = 1 then (.ref o1) else gE i)) ∧ (Exa Z h o0 "java/util/ArrayList") ∧ (Fld Z h o0 "java/util/AbstractList" "modCount" "I" (.int (mc + (1 : Int32)))) ∧ (Fld Z h o0 "java/util/ArrayList" "elementData" "[Ljava/lang/Object;" (.ref ea)) ∧ (Fld Z h o0 "java/util/ArrayList" "size" "I" (.int (2 : Int32)))
set_option maxRecDepth 65536 in
set_option maxHeartbeats 4000000 in
theorem rm51 (l : Launch) (Z : State) (a0 : Array Value) (hw : ∀ d ∈ tables_1, d.before a0 Z = true) (ws : List Jvm.Cond) (o0 : Addr) (o1 : Addr) (mc : Int32) (ea : Addr) (gE : Nat → Value) (h0 : Heap) (n0 : Nat) (Z0 : n0 ≤ h0.size) (fr0 : n0 ≤ o0) (fre : n0 ≤ ea) (nee : o0 ≠ ea) (Ix : Ins Z h0 o1 "java/lang/Object" true) (Re : own_RF Z h0 ea "java/lang/Object" 10 gE) (E0 : Exa Z h0 o0 "java/util/ArrayList") (Fm : Fld Z h0 o0 "java/util/AbstractList" "modCount" "I" (.int mc)) (Fe : Fld Z h0 o0 "java/util/ArrayList" "elementData" "[Ljava/lang/Object;" (.ref ea)) (Fs : Fld Z h0 o0 "java/util/ArrayList" "size" "I" (.int (1 : Int32))) :
    MetFree l (⟨"java/util/ArrayList", "add", "(Ljava/lang/Object;)Z"⟩ : MethodName) (head1 (Jvm.Cond.code (⟨"java/util/ArrayList", "add", "(Ljava/lang/Object;)Z"⟩ : MethodName) jdk_38_method_25_code 2 (some .boolean) :: ws) ({ frames := 1, cells := 0, slots := 0, locals := 16 } : Room)) (fun a U => a = #[(.ref o0), (.ref o1)] ∧ Z.Warmed39 U.vm ∧ U.heap = h0) (fun _ _ _ _ _ => True) (fun _ U o U' => ∃ v L, o = .returned v ∧ Q51 Z o0 o1 mc ea gE h0 n0 v U'.heap L ∧ FrameEnd U o U' L ({ frames := 1, cells := 0, slots := 0, locals := 16 } : Room).cells ({ frames := 1, cells := 0, slots := 0, locals := 16 } : Room).slots) := by
  refine MetFree.of_bodySF (plainFor_of_name pnm_2) hisR ?_
  intro p e s m args below meth c s₁ Bd hml0 hP hK
  obtain ⟨rfl, hZ, hh⟩ := hP
  have hx := Bd.exec
  have hby := Bd.bytes
  have hml : c.maxLocals = 2 := hml0
  have hown : s.vm.findClass "java/util/ArrayList" = some m.cls := findClass_of_methodNamed Bd.named
  have X0 : Stand p l e ({ frames := 1, cells := 0, slots := 0, locals := 16 } : Room) s m #[(.ref o0), (.ref o1)] below meth c s₁ [] 0 0 := Stand.of_body Bd
  have e0 : s₁.heap = h0 := by rw [← hh, Bd.state]; rfl
  have fin := b51_0 o0 o1 mc ea gE (Q := Q51 Z o0 o1 mc ea gE h0 n0) hw X0 hx hZ hby hml hown Bd.returns (BodyLoose.notSynchronized Bd) e0 (Fr.nil n0) (Nat.zero_le _) (Nat.zero_le _) Z0 fr0 fre nee Ix Re E0 Fm Fe Fs (fun H' L' n' k' r0 r1 r2 r3 r4 => ⟨rfl, n', k', r0, r1, r2, r3, r4⟩)
  exact own_step (fun t k => castTop (ef_51 m o0 o1) k) fin
set_option maxRecDepth 65536 in
set_option maxHeartbeats 40000000 in
theorem b62_0 {p : Program} {l : Launch} {e : Env} {s : State} {m : MethodId} {args : Array Value} {below : List Frame} {meth : Method} {c : Code} {T : State} {locs : List Loc} {cells slots : Nat} {Z : State} {a0 : Array Value} {h : Heap} {n0 : Nat} {Q : Option Value → Heap → List Loc → Prop} (o0 : Addr) (o1 : Addr) (um : Value) (ea : Addr) (gE : Nat → Value) (hw : ∀ d ∈ tables_1, d.before a0 Z = true) (X : Stand p l e ({ frames := 0, cells := 0, slots := 0, locals := 0 } : Room) s m args below meth c T locs cells slots) (hx : p.tables.exec = Jvm.exec) (hZ : Z.Warmed39 s.vm) (hby : c.code = jdk_38_method_24_code) (hml : c.maxLocals = 4) (hown : s.vm.findClass "java/util/ArrayList" = some m.cls) (hret : meth.sig.returnType = none) (hlk : meth.locks = false) (eT : T.heap = h) (N : Fr n0 locs) (hc : cells ≤ 0) (hs : slots ≤ 0) (Z0 : n0 ≤ h.size) (fr0 : n0 ≤ o0) (fre : n0 ≤ ea) (nee : o0 ≠ ea) (Ix : Ins Z h o1 "java/lang/Object" true) (Re : own_RF Z h ea "java/lang/Object" 10 gE) (E0 : Exa Z h o0 "java/util/ArrayList") (Fm : Fld Z h o0 "java/util/AbstractList" "modCount" "I" um) (Fe : Fld Z h o0 "java/util/ArrayList" "elementData" "[Ljava/lang/Object;" (.ref ea)) (Fs : Fld Z h o0 "java/util/ArrayList" "size" "I" (.int (2 : Int32))) (hQ : ∀ (H' : Heap) (L' : List Loc), Fr n0 L' → Keep h H' [o0, ea] → own_RF Z H' ea "java/lang/Object" 10 (fun i => if i = 2 then (.ref o1) else gE i) → Exa Z H' o0 "java/util/ArrayList" → Fld Z H' o0 "java/util/AbstractList" "modCount" "I" um → Fld Z H' o0 "java/util/ArrayList" "elementData" "[Ljava/lang/Object;" (.ref ea) → Fld Z H' o0 "java/util/ArrayList" "size" "I" (.int ((2 : Int32) + (1 : Int32))) → Q none H' L') :
    own_Fin p e below s Q 0 0 (T.setTop (mkF m 0 #[.val (.ref o0), .val (.ref o1), .val (.ref ea), .val (.int (2 : Int32))] [])) := by
  refine own_step (fun t k => XS.iloadN X.here hx rfl (hb hby d6_0) rfl  k) ?_
  show own_Fin p e below s Q 0 0 (T.setTop (mkF m 1 #[.val (.ref o0), .val (.ref o1), .val (.ref ea), .val (.int (2 : Int32))] [(.int (2 : Int32))]))
  refine own_step (fun t k => XS.aloadN X.here hx rfl (hb hby d6_1) rfl rfl k) ?_
  show own_Fin p e below s Q 0 0 (T.setTop (mkF m 2 #[.val (.ref o0), .val (.ref o1), .val (.ref ea), .val (.int (2 : Int32))] [(.ref ea), (.int (2 : Int32))]))
  obtain ⟨ca2, Ar2, Ov2, Sz2, Ht2⟩ := id Re
  refine own_step (X.arraylength hx (by rw [eT]; exact Ar2.1) (State.isArrayOf_alike hZ.alike Ar2.2.1) (g := (mkF m 2 #[.val (.ref o0), .val (.ref o1), .val (.ref ea), .val (.int (2 : Int32))] [(.ref ea), (.int (2 : Int32))])) rfl rfl (hb hby d6_2)) ?_
  rw [Sz2]
  show own_Fin p e below s Q 0 0 (T.setTop (mkF m 3 #[.val (.ref o0), .val (.ref o1), .val (.ref ea), .val (.int (2 : Int32))] [(.int (10 : Int32)), (.int (2 : Int32))]))
  refine own_step (fun t k => XS.icmpYes X.here hx rfl (pc0 := 3) (pc' := 11) rfl (hb hby d6_3) rfl (feq (by decide : ¬ ((2 : Int32) = (10 : Int32)))).2 (by decide) (by decide) k) ?_
  show own_Fin p e below s Q 0 0 (T.setTop (mkF m 11 #[.val (.ref o0), .val (.ref o1), .val (.ref ea), .val (.int (2 : Int32))] []))
  refine own_step (fun t k => XS.aloadN X.here hx rfl (hb hby d6_11) rfl rfl k) ?_
  show own_Fin p e below s Q 0 0 (T.setTop (mkF m 12 #[.val (.ref o0), .val (.ref o1), .val (.ref ea), .val (.int (2 : Int32))] [(.ref ea)]))
  refine own_step (fun t k => XS.iloadN X.here hx rfl (hb hby d6_12) rfl  k) ?_
  show own_Fin p e below s Q 0 0 (T.setTop (mkF m 13 #[.val (.ref o0), .val (.ref o1), .val (.ref ea), .val (.int (2 : Int32))] [(.int (2 : Int32)), (.ref ea)]))
  refine own_step (fun t k => XS.aloadN X.here hx rfl (hb hby d6_13) rfl rfl k) ?_
  show own_Fin p e below s Q 0 0 (T.setTop (mkF m 14 #[.val (.ref o0), .val (.ref o1), .val (.ref ea), .val (.int (2 : Int32))] [(.ref o1), (.int (2 : Int32)), (.ref ea)]))
  obtain ⟨ca33, Ar33, Ov33, Sz33, Ht33⟩ := id Re
  have hin33 : ¬ ((2 : Int32) < 0 ∨ ca33.slots.size ≤ ((2 : Int32)).toNatClampNeg) := by rw [Sz33]; exact (by decide)
  obtain ⟨T33, h33, X33, e33, W33, st33⟩ := stR X hx hZ eT Ar33 (j := (2 : Int32)) hin33 rfl (Sto.of Ar33 Ov33 Ix) (g := (mkF m 14 #[.val (.ref o0), .val (.ref o1), .val (.ref ea), .val (.int (2 : Int32))] [(.ref o1), (.int (2 : Int32)), (.ref ea)])) rfl rfl (hb hby d6_14)
  have R33 : own_RF Z h33 ea "java/lang/Object" 10 (fun i => if i = 2 then (.ref o1) else gE i) := own_RFset Ar33 Ov33 Sz33 Ht33 W33
  have N33 := Fr.snoc X33 N fre
  have Z033 : n0 ≤ h33.size := Nat.le_trans Z0 (Nat.le_of_eq W33.size.symm)
  have Ex33_o0 := E0.wr W33
  have F33_o0_modCount := Fm.other W33 (Or.inl nee)
  have F33_o0_elementData := Fe.other W33 (Or.inl nee)
  have F33_o0_size := Fs.other W33 (Or.inl nee)
  have I33 := Ix.wr W33
  have K33 : Keep h h33 [o0, ea] := (Keep.refl h [o0, ea]).wr W33 (Or.inl (List.mem_of_getElem? (i := 1) rfl))
  refine own_step st33 ?_
  show own_Fin p e below s Q 0 0 (T33.setTop (mkF m 15 #[.val (.ref o0), .val (.ref o1), .val (.ref ea), .val (.int (2 : Int32))] []))
  refine own_step (fun t k => XS.aloadN X33.here hx rfl (hb hby d6_15) rfl rfl k) ?_
  show own_Fin p e below s Q 0 0 (T33.setTop (mkF m 16 #[.val (.ref o0), .val (.ref o1), .val (.ref ea), .val (.int (2 : Int32))] [(.ref o0)]))
  refine own_step (fun t k => XS.iloadN X33.here hx rfl (hb hby d6_16) rfl  k) ?_
  show own_Fin p e below s Q 0 0 (T33.setTop (mkF m 17 #[.val (.ref o0), .val (.ref o1), .val (.ref ea), .val (.int (2 : Int32))] [(.int (2 : Int32)), (.ref o0)]))
  refine own_step (fun t k => XS.iconst X33.here hx rfl (hb hby d6_17) k) ?_
  show own_Fin p e below s Q 0 0 (T33.setTop (mkF m 18 #[.val (.ref o0), .val (.ref o1), .val (.ref ea), .val (.int (2 : Int32))] [(.int (1 : Int32)), (.int (2 : Int32)), (.ref o0)]))
  refine own_step (fun t k => XS.iadd X33.here hx rfl (hb hby d6_18) rfl k) ?_
  show own_Fin p e below s Q 0 0 (T33.setTop (mkF m 19 #[.val (.ref o0), .val (.ref o1), .val (.ref ea), .val (.int (2 : Int32))] [(.int ((2 : Int32) + (1 : Int32))), (.ref o0)]))
  obtain ⟨T34, h34, X34, e34, W34, st34⟩ := putF X33 hx hZ hown (host := "") (Or.inl (hw _ (List.mem_of_getElem? (i := 34) rfl))) Via.refl e33 F33_o0_size Ex33_o0 (Or.inl (hw _ (List.mem_of_getElem? (i := 35) rfl))) (hw _ (List.mem_of_getElem? (i := 2) rfl)) (ty := .int) (by decide) rfl rfl (g := (mkF m 19 #[.val (.ref o0), .val (.ref o1), .val (.ref ea), .val (.int (2 : Int32))] [(.int ((2 : Int32) + (1 : Int32))), (.ref o0)])) rfl rfl (hb hby d6_19)
  have N34 := Fr.snoc X34 N33 fr0
  have Z034 : n0 ≤ h34.size := Nat.le_trans Z033 (Nat.le_of_eq W34.size.symm)
  have R34_ea := own_RFoth R33 W34 (Ne.symm nee)
  have I34 := I33.wr W34
  have K34 : Keep h h34 [o0, ea] := K33.wr W34 (Or.inl (List.mem_of_getElem? (i := 0) rfl))
  have Ex34_o0 := Ex33_o0.wr W34
  have F34_o0_modCount := F33_o0_modCount.other W34 (Or.inr (slot_ne (Or.inl (hw _ (List.mem_of_getElem? (i := 23) rfl))) (Or.inl (hw _ (List.mem_of_getElem? (i := 35) rfl))) (by decide) (t := .int) (t' := .int) (by decide) (by decide)))
  have F34_o0_elementData := F33_o0_elementData.other W34 (Or.inr (slot_ne (Or.inl (hw _ (List.mem_of_getElem? (i := 26) rfl))) (Or.inl (hw _ (List.mem_of_getElem? (i := 35) rfl))) (by decide) (t := (.array (.object "java/lang/Object"))) (t' := .int) (by decide) (by decide)))
  have F34_o0_size := F33_o0_size.same W34
  refine own_step st34 ?_
  show own_Fin p e below s Q 0 0 (T34.setTop (mkF m 22 #[.val (.ref o0), .val (.ref o1), .val (.ref ea), .val (.int (2 : Int32))] []))
  refine own_ret0 X34 hx hlk hret (hb hby d6_22) (Nat.le_trans (Nat.add_le_add_right hc 0) (by decide)) (Nat.le_trans (Nat.add_le_add_right hs 0) (by decide)) e34 ?_
  exact hQ _ _ N34 K34 R34_ea Ex34_o0 F34_o0_modCount F34_o0_elementData F34_o0_size
theorem ef_62 (m : MethodId) (o0 : Addr) (o1 : Addr) : entryFrame m #[(.ref o0), (.ref o1), (.ref ea), (.int (2 : Int32))] 4 = (mkF m 0 #[.val (.ref o0), .val (.ref o1), .val (.ref ea), .val (.int (2 : Int32))] []) := by first | (simp [entryFrame, mkF, argsToLocals, Value.category]; done) | rfl
def Q62 (Z : State) (o0 : Addr) (o1 : Addr) (um : Value) (ea : Addr) (gE : Nat → Value) (h0 : Heap) (n0 : Nat) (v : Option Value) (h : Heap) (L : List Loc) : Prop := v = none ∧ Fr n0 L ∧ Keep h0 h [o0, ea] ∧ (own_RF Z h ea "java/lang/Object" 10 (fun i => if i = 2 then (.ref o1) else gE i)) ∧ (Exa Z h o0 "java/util/ArrayList") ∧ (Fld Z h o0 "java/util/AbstractList" "modCount" "I" um) ∧ (Fld Z h o0 "java/util/ArrayList" "elementData" "[Ljava/lang/Object;" (.ref ea)) ∧ (Fld Z h o0 "java/util/ArrayList" "size" "I" (.int ((2 : Int32) + (1 : Int32))))
set_option maxRecDepth 65536 in
set_option maxHeartbeats 4000000 in
theorem rm62 (l : Launch) (Z : State) (a0 : Array Value) (hw : ∀ d ∈ tables_1, d.before a0 Z = true) (ws : List Jvm.Cond) (o0 : Addr) (o1 : Addr) (um : Value) (ea : Addr) (gE : Nat → Value) (h0 : Heap) (n0 : Nat) (Z0 : n0 ≤ h0.size) (fr0 : n0 ≤ o0) (fre : n0 ≤ ea) (nee : o0 ≠ ea) (Ix : Ins Z h0 o1 "java/lang/Object" true) (Re : own_RF Z h0 ea "java/lang/Object" 10 gE) (E0 : Exa Z h0 o0 "java/util/ArrayList") (Fm : Fld Z h0 o0 "java/util/AbstractList" "modCount" "I" um) (Fe : Fld Z h0 o0 "java/util/ArrayList" "elementData" "[Ljava/lang/Object;" (.ref ea)) (Fs : Fld Z h0 o0 "java/util/ArrayList" "size" "I" (.int (2 : Int32))) :
    MetFree l (⟨"java/util/ArrayList", "add", "(Ljava/lang/Object;[Ljava/lang/Object;I)V"⟩ : MethodName) (head1 (Jvm.Cond.code (⟨"java/util/ArrayList", "add", "(Ljava/lang/Object;[Ljava/lang/Object;I)V"⟩ : MethodName) jdk_38_method_24_code 4 none :: ws) ({ frames := 0, cells := 0, slots := 0, locals := 0 } : Room)) (fun a U => a = #[(.ref o0), (.ref o1), (.ref ea), (.int (2 : Int32))] ∧ Z.Warmed39 U.vm ∧ U.heap = h0) (fun _ _ _ _ _ => True) (fun _ U o U' => ∃ v L, o = .returned v ∧ Q62 Z o0 o1 um ea gE h0 n0 v U'.heap L ∧ FrameEnd U o U' L ({ frames := 0, cells := 0, slots := 0, locals := 0 } : Room).cells ({ frames := 0, cells := 0, slots := 0, locals := 0 } : Room).slots) := by
  refine MetFree.of_bodySF (plainFor_of_name pnm_2) hisR ?_
  intro p e s m args below meth c s₁ Bd hml0 hP hK
  obtain ⟨rfl, hZ, hh⟩ := hP
  have hx := Bd.exec
  have hby := Bd.bytes
  have hml : c.maxLocals = 4 := hml0
  have hown : s.vm.findClass "java/util/ArrayList" = some m.cls := findClass_of_methodNamed Bd.named
  have X0 : Stand p l e ({ frames := 0, cells := 0, slots := 0, locals := 0 } : Room) s m #[(.ref o0), (.ref o1), (.ref ea), (.int (2 : Int32))] below meth c s₁ [] 0 0 := Stand.of_body Bd
  have e0 : s₁.heap = h0 := by rw [← hh, Bd.state]; rfl
  have fin := b62_0 o0 o1 um ea gE (Q := Q62 Z o0 o1 um ea gE h0 n0) hw X0 hx hZ hby hml hown Bd.returns (BodyLoose.notSynchronized Bd) e0 (Fr.nil n0) (Nat.zero_le _) (Nat.zero_le _) Z0 fr0 fre nee Ix Re E0 Fm Fe Fs (fun H' L' n' k' r0 r1 r2 r3 r4 => ⟨rfl, n', k', r0, r1, r2, r3, r4⟩)
  exact own_step (fun t k => castTop (ef_62 m o0 o1) k) fin
set_option maxRecDepth 65536 in
set_option maxHeartbeats 40000000 in
theorem b52_0 {p : Program} {l : Launch} {e : Env} {s : State} {m : MethodId} {args : Array Value} {below : List Frame} {meth : Method} {c : Code} {T : State} {locs : List Loc} {cells slots : Nat} {Z : State} {a0 : Array Value} {h : Heap} {n0 : Nat} {Q : Option Value → Heap → List Loc → Prop} (o0 : Addr) (o1 : Addr) (mc : Int32) (ea : Addr) (gE : Nat → Value) (hw : ∀ d ∈ tables_1, d.before a0 Z = true) (X : Stand p l e ({ frames := 1, cells := 0, slots := 0, locals := 16 } : Room) s m args below meth c T locs cells slots) (hx : p.tables.exec = Jvm.exec) (hZ : Z.Warmed39 s.vm) (hby : c.code = jdk_38_method_25_code) (hml : c.maxLocals = 2) (hown : s.vm.findClass "java/util/ArrayList" = some m.cls) (hret : meth.sig.returnType = some .boolean) (hlk : meth.locks = false) (eT : T.heap = h) (N : Fr n0 locs) (hc : cells ≤ 0) (hs : slots ≤ 0) (Z0 : n0 ≤ h.size) (fr0 : n0 ≤ o0) (fre : n0 ≤ ea) (nee : o0 ≠ ea) (Ix : Ins Z h o1 "java/lang/Object" true) (Re : own_RF Z h ea "java/lang/Object" 10 gE) (E0 : Exa Z h o0 "java/util/ArrayList") (Fm : Fld Z h o0 "java/util/AbstractList" "modCount" "I" (.int mc)) (Fe : Fld Z h o0 "java/util/ArrayList" "elementData" "[Ljava/lang/Object;" (.ref ea)) (Fs : Fld Z h o0 "java/util/ArrayList" "size" "I" (.int (2 : Int32))) (hQ : ∀ (H' : Heap) (L' : List Loc), Fr n0 L' → Keep h H' [o0, ea] → own_RF Z H' ea "java/lang/Object" 10 (fun i => if i = 2 then (.ref o1) else gE i) → Exa Z H' o0 "java/util/ArrayList" → Fld Z H' o0 "java/util/AbstractList" "modCount" "I" (.int (mc + (1 : Int32))) → Fld Z H' o0 "java/util/ArrayList" "elementData" "[Ljava/lang/Object;" (.ref ea) → Fld Z H' o0 "java/util/ArrayList" "size" "I" (.int (3 : Int32)) → Q (some (.int 1)) H' L') :
    own_Fin p e below s Q 0 0 (T.setTop (mkF m 0 #[.val (.ref o0), .val (.ref o1)] [])) := by
  refine own_step (fun t k => XS.aloadN X.here hx rfl (hb hby d5_0) rfl rfl k) ?_
  show own_Fin p e below s Q 0 0 (T.setTop (mkF m 1 #[.val (.ref o0), .val (.ref o1)] [(.ref o0)]))
  refine own_step (fun t k => XS.dup X.here hx rfl (hb hby d5_1) rfl rfl k) ?_
  show own_Fin p e below s Q 0 0 (T.setTop (mkF m 2 #[.val (.ref o0), .val (.ref o1)] [(.ref o0), (.ref o0)]))
  obtain ⟨T35, X35, e35, st35⟩ := getF X hx hZ hown (host := "") (Or.inl (hw _ (List.mem_of_getElem? (i := 32) rfl))) (Via.of (hw _ (List.mem_of_getElem? (i := 33) rfl))) eT Fm (g := (mkF m 2 #[.val (.ref o0), .val (.ref o1)] [(.ref o0), (.ref o0)])) rfl rfl (hb hby d5_2)
  refine own_step st35 ?_
  show own_Fin p e below s Q 0 0 (T35.setTop (mkF m 5 #[.val (.ref o0), .val (.ref o1)] [(.int mc), (.ref o0)]))
  refine own_step (fun t k => XS.iconst X35.here hx rfl (hb hby d5_5) k) ?_
  show own_Fin p e below s Q 0 0 (T35.setTop (mkF m 6 #[.val (.ref o0), .val (.ref o1)] [(.int (1 : Int32)), (.int mc), (.ref o0)]))
  refine own_step (fun t k => XS.iadd X35.here hx rfl (hb hby d5_6) rfl k) ?_
  show own_Fin p e below s Q 0 0 (T35.setTop (mkF m 7 #[.val (.ref o0), .val (.ref o1)] [(.int (mc + (1 : Int32))), (.ref o0)]))
  obtain ⟨T36, h36, X36, e36, W36, st36⟩ := putF X35 hx hZ hown (host := "") (Or.inl (hw _ (List.mem_of_getElem? (i := 32) rfl))) (Via.of (hw _ (List.mem_of_getElem? (i := 33) rfl))) e35 Fm E0 (Or.inl (hw _ (List.mem_of_getElem? (i := 23) rfl))) (hw _ (List.mem_of_getElem? (i := 2) rfl)) (ty := .int) (by decide) rfl rfl (g := (mkF m 7 #[.val (.ref o0), .val (.ref o1)] [(.int (mc + (1 : Int32))), (.ref o0)])) rfl rfl (hb hby d5_7)
  have N36 := Fr.snoc X36 N fr0
  have Z036 : n0 ≤ h36.size := Nat.le_trans Z0 (Nat.le_of_eq W36.size.symm)
  have R36_ea := own_RFoth Re W36 (Ne.symm nee)
  have I36 := Ix.wr W36
  have K36 : Keep h h36 [o0, ea] := (Keep.refl h [o0, ea]).wr W36 (Or.inl (List.mem_of_getElem? (i := 0) rfl))
  have Ex36_o0 := E0.wr W36
  have F36_o0_modCount := Fm.same W36
  have F36_o0_elementData := Fe.other W36 (Or.inr (slot_ne (Or.inl (hw _ (List.mem_of_getElem? (i := 26) rfl))) (Or.inl (hw _ (List.mem_of_getElem? (i := 23) rfl))) (by decide) (t := (.array (.object "java/lang/Object"))) (t' := .int) (by decide) (by decide)))
  have F36_o0_size := Fs.other W36 (Or.inr (slot_ne (Or.inl (hw _ (List.mem_of_getElem? (i := 35) rfl))) (Or.inl (hw _ (List.mem_of_getElem? (i := 23) rfl))) (by decide) (t := .int) (t' := .int) (by decide) (by decide)))
  refine own_step st36 ?_
  show own_Fin p e below s Q 0 0 (T36.setTop (mkF m 10 #[.val (.ref o0), .val (.ref o1)] []))
  refine own_step (fun t k => XS.aloadN X36.here hx rfl (hb hby d5_10) rfl rfl k) ?_
  show own_Fin p e below s Q 0 0 (T36.setTop (mkF m 11 #[.val (.ref o0), .val (.ref o1)] [(.ref o0)]))
  refine own_step (fun t k => XS.aloadN X36.here hx rfl (hb hby d5_11) rfl rfl k) ?_
  show own_Fin p e below s Q 0 0 (T36.setTop (mkF m 12 #[.val (.ref o0), .val (.ref o1)] [(.ref o1), (.ref o0)]))
  refine own_step (fun t k => XS.aloadN X36.here hx rfl (hb hby d5_12) rfl rfl k) ?_
  show own_Fin p e below s Q 0 0 (T36.setTop (mkF m 13 #[.val (.ref o0), .val (.ref o1)] [(.ref o0), (.ref o1), (.ref o0)]))
  obtain ⟨T37, X37, e37, st37⟩ := getF X36 hx hZ hown (host := "") (Or.inl (hw _ (List.mem_of_getElem? (i := 25) rfl))) Via.refl e36 F36_o0_elementData (g := (mkF m 13 #[.val (.ref o0), .val (.ref o1)] [(.ref o0), (.ref o1), (.ref o0)])) rfl rfl (hb hby d5_13)
  refine own_step st37 ?_
  show own_Fin p e below s Q 0 0 (T37.setTop (mkF m 16 #[.val (.ref o0), .val (.ref o1)] [(.ref ea), (.ref o1), (.ref o0)]))
  refine own_step (fun t k => XS.aloadN X37.here hx rfl (hb hby d5_16) rfl rfl k) ?_
  show own_Fin p e below s Q 0 0 (T37.setTop (mkF m 17 #[.val (.ref o0), .val (.ref o1)] [(.ref o0), (.ref ea), (.ref o1), (.ref o0)]))
  obtain ⟨T38, X38, e38, st38⟩ := getF X37 hx hZ hown (host := "") (Or.inl (hw _ (List.mem_of_getElem? (i := 34) rfl))) Via.refl e37 F36_o0_size (g := (mkF m 17 #[.val (.ref o0), .val (.ref o1)] [(.ref o0), (.ref ea), (.ref o1), (.ref o0)])) rfl rfl (hb hby d5_17)
  refine own_step st38 ?_
  show own_Fin p e below s Q 0 0 (T38.setTop (mkF m 20 #[.val (.ref o0), .val (.ref o1)] [(.int (2 : Int32)), (.ref ea), (.ref o1), (.ref o0)]))
  obtain ⟨cq39, q39, q39'⟩ := Ex36_o0.cell
  obtain ⟨_, _, ⟨T39, L39, k39, n39⟩, -, X39, ⟨Lc39, hQ39, l39, y39, z39⟩, st39⟩ := X38.privateBack hx (y := (⟨"java/util/ArrayList", "add", "(Ljava/lang/Object;[Ljava/lang/Object;I)V"⟩ : MethodName)) hown (mvT hZ (hw _ (List.mem_of_getElem? (i := 36) rfl))) (mvT hZ (hw _ (List.mem_of_getElem? (i := 37) rfl))) (mvT hZ (hw _ (List.mem_of_getElem? (i := 39) rfl))) (Cond.privateMethod_at (mvP hZ (hw _ (List.mem_of_getElem? (i := 38) rfl)) (args := #[]))) (mvT hZ (hw _ (List.mem_of_getElem? (i := 40) rfl))) (by decide) (backOf (W := 0) (rm62 l Z a0 hw [] o0 o1 (.int (mc + (1 : Int32))) ea gE h36 n0 Z036 fr0 fre nee I36 R36_ea Ex36_o0 F36_o0_modCount F36_o0_elementData F36_o0_size) hZ (hw _ (List.mem_of_getElem? (i := 40) rfl)) (hw _ (List.mem_of_getElem? (i := 3) rfl)) (by decide) (by decide)) (g := (mkF m 20 #[.val (.ref o0), .val (.ref o1)] [(.int (2 : Int32)), (.ref ea), (.ref o1), (.ref o0)])) rfl (by rw [hml]; rfl) (Steps.refl _) (a := o0) (by rw [e38]; exact q39) q39' (argsL := [(.ref o1), (.ref ea), (.int (2 : Int32))]) (rest := []) (lenOf pdm_4 rfl) rfl (by show 2 * 0 + _ ≤ _; exact Nat.le_of_eq rfl) (hb hby d5_20) (fun _ _ => ⟨rfl, e38, (show cells + 0 ≤ 0 from (Nat.le_trans (Nat.add_le_add_right hc 0) (by decide))), (show slots + 0 ≤ 0 from (Nat.le_trans (Nat.add_le_add_right hs 0) (by decide)))⟩)
  dsimp only [Pt.U, Pt.locs, Pt.cells, Pt.slots] at X39 l39 y39 z39 st39 hQ39
  have yy39 : k39 = cells + 0 := y39
  have zz39 : n39 = slots + 0 := z39
  rw [yy39, zz39, l39] at X39
  obtain ⟨rfl, N39q, K39, r0_39, r1_39, r2_39, r3_39, r4_39⟩ := hQ39
  have N39 := Fr.app N36 N39q
  have Z039 : n0 ≤ T39.heap.size := Nat.le_trans Z036 K39.1
  have I39 := own_InsK I36 K39
  have KK39 : Keep h T39.heap [o0, ea] := K36.trans K39 (allS (Or.inl (List.mem_of_getElem? (i := 0) rfl)) (allS (Or.inl (List.mem_of_getElem? (i := 1) rfl)) all0))
  refine own_step (fun t k => st39.trans k) ?_
  show own_Fin p e below s Q 0 0 (T39.setTop (mkF m 23 #[.val (.ref o0), .val (.ref o1)] []))
  refine own_step (fun t k => XS.iconst X39.here hx rfl (hb hby d5_23) k) ?_
  show own_Fin p e below s Q 0 0 (T39.setTop (mkF m 24 #[.val (.ref o0), .val (.ref o1)] [(.int (1 : Int32))]))
  refine own_retZ X39 hx hlk hret (by simp) (hb hby d5_24) (Nat.le_trans (Nat.add_le_add_right hc 0) (by decide)) (Nat.le_trans (Nat.add_le_add_right hs 0) (by decide)) rfl ?_
  exact hQ _ _ N39 KK39 r0_39 r1_39 r2_39 r3_39 r4_39
theorem ef_52 (m : MethodId) (o0 : Addr) (o1 : Addr) : entryFrame m #[(.ref o0), (.ref o1)] 2 = (mkF m 0 #[.val (.ref o0), .val (.ref o1)] []) := by first | (simp [entryFrame, mkF, argsToLocals, Value.category]; done) | rfl
def Q52 (Z : State) (o0 : Addr) (o1 : Addr) (mc : Int32) (ea : Addr) (gE : Nat → Value) (h0 : Heap) (n0 : Nat) (v : Option Value) (h : Heap) (L : List Loc) : Prop := v = some (.int 1) ∧ Fr n0 L ∧ Keep h0 h [o0, ea] ∧ (own_RF Z h ea "java/lang/Object" 10 (fun i => if i = 2 then (.ref o1) else gE i)) ∧ (Exa Z h o0 "java/util/ArrayList") ∧ (Fld Z h o0 "java/util/AbstractList" "modCount" "I" (.int (mc + (1 : Int32)))) ∧ (Fld Z h o0 "java/util/ArrayList" "elementData" "[Ljava/lang/Object;" (.ref ea)) ∧ (Fld Z h o0 "java/util/ArrayList" "size" "I" (.int (3 : Int32)))
set_option maxRecDepth 65536 in
set_option maxHeartbeats 4000000 in
theorem rm52 (l : Launch) (Z : State) (a0 : Array Value) (hw : ∀ d ∈ tables_1, d.before a0 Z = true) (ws : List Jvm.Cond) (o0 : Addr) (o1 : Addr) (mc : Int32) (ea : Addr) (gE : Nat → Value) (h0 : Heap) (n0 : Nat) (Z0 : n0 ≤ h0.size) (fr0 : n0 ≤ o0) (fre : n0 ≤ ea) (nee : o0 ≠ ea) (Ix : Ins Z h0 o1 "java/lang/Object" true) (Re : own_RF Z h0 ea "java/lang/Object" 10 gE) (E0 : Exa Z h0 o0 "java/util/ArrayList") (Fm : Fld Z h0 o0 "java/util/AbstractList" "modCount" "I" (.int mc)) (Fe : Fld Z h0 o0 "java/util/ArrayList" "elementData" "[Ljava/lang/Object;" (.ref ea)) (Fs : Fld Z h0 o0 "java/util/ArrayList" "size" "I" (.int (2 : Int32))) :
    MetFree l (⟨"java/util/ArrayList", "add", "(Ljava/lang/Object;)Z"⟩ : MethodName) (head1 (Jvm.Cond.code (⟨"java/util/ArrayList", "add", "(Ljava/lang/Object;)Z"⟩ : MethodName) jdk_38_method_25_code 2 (some .boolean) :: ws) ({ frames := 1, cells := 0, slots := 0, locals := 16 } : Room)) (fun a U => a = #[(.ref o0), (.ref o1)] ∧ Z.Warmed39 U.vm ∧ U.heap = h0) (fun _ _ _ _ _ => True) (fun _ U o U' => ∃ v L, o = .returned v ∧ Q52 Z o0 o1 mc ea gE h0 n0 v U'.heap L ∧ FrameEnd U o U' L ({ frames := 1, cells := 0, slots := 0, locals := 16 } : Room).cells ({ frames := 1, cells := 0, slots := 0, locals := 16 } : Room).slots) := by
  refine MetFree.of_bodySF (plainFor_of_name pnm_2) hisR ?_
  intro p e s m args below meth c s₁ Bd hml0 hP hK
  obtain ⟨rfl, hZ, hh⟩ := hP
  have hx := Bd.exec
  have hby := Bd.bytes
  have hml : c.maxLocals = 2 := hml0
  have hown : s.vm.findClass "java/util/ArrayList" = some m.cls := findClass_of_methodNamed Bd.named
  have X0 : Stand p l e ({ frames := 1, cells := 0, slots := 0, locals := 16 } : Room) s m #[(.ref o0), (.ref o1)] below meth c s₁ [] 0 0 := Stand.of_body Bd
  have e0 : s₁.heap = h0 := by rw [← hh, Bd.state]; rfl
  have fin := b52_0 o0 o1 mc ea gE (Q := Q52 Z o0 o1 mc ea gE h0 n0) hw X0 hx hZ hby hml hown Bd.returns (BodyLoose.notSynchronized Bd) e0 (Fr.nil n0) (Nat.zero_le _) (Nat.zero_le _) Z0 fr0 fre nee Ix Re E0 Fm Fe Fs (fun H' L' n' k' r0 r1 r2 r3 r4 => ⟨rfl, n', k', r0, r1, r2, r3, r4⟩)
  exact own_step (fun t k => castTop (ef_52 m o0 o1) k) fin
theorem d11_0 : decode jdk_38_method_8_code 0 = .ok (.aload_n 0, 1) := by decide +kernel
theorem d11_1 : decode jdk_38_method_8_code 1 = .ok (.getfield 48, 3) := by decide +kernel
theorem d11_4 : decode jdk_38_method_8_code 4 = .ok (.ireturn, 1) := by decide +kernel
set_option maxRecDepth 65536 in
set_option maxHeartbeats 40000000 in
theorem b11_0 {p : Program} {l : Launch} {e : Env} {s : State} {m : MethodId} {args : Array Value} {below : List Frame} {meth : Method} {c : Code} {T : State} {locs : List Loc} {cells slots : Nat} {Z : State} {a0 : Array Value} {h : Heap} {n0 : Nat} {Q : Option Value → Heap → List Loc → Prop} (o0 : Addr) (n : Int32) (hw : ∀ d ∈ tables_1, d.before a0 Z = true) (X : Stand p l e ({ frames := 0, cells := 0, slots := 0, locals := 0 } : Room) s m args below meth c T locs cells slots) (hx : p.tables.exec = Jvm.exec) (hZ : Z.Warmed39 s.vm) (hby : c.code = jdk_38_method_8_code) (hml : c.maxLocals = 1) (hown : s.vm.findClass "java/util/ArrayList" = some m.cls) (hret : meth.sig.returnType = some .int) (hlk : meth.locks = false) (eT : T.heap = h) (N : Fr n0 locs) (hc : cells ≤ 0) (hs : slots ≤ 0) (Fs : Fld Z h o0 "java/util/ArrayList" "size" "I" (.int n)) (hQ : ∀ (H' : Heap) (L' : List Loc), Fr n0 L' → H' = h → Q (some (.int n)) H' L') :
    own_Fin p e below s Q 0 0 (T.setTop (mkF m 0 #[.val (.ref o0)] [])) := by
  refine own_step (fun t k => XS.aloadN X.here hx rfl (hb hby d11_0) rfl rfl k) ?_
  show own_Fin p e below s Q 0 0 (T.setTop (mkF m 1 #[.val (.ref o0)] [(.ref o0)]))
  obtain ⟨T40, X40, e40, st40⟩ := getF X hx hZ hown (host := "") (Or.inl (hw _ (List.mem_of_getElem? (i := 34) rfl))) Via.refl eT Fs (g := (mkF m 1 #[.val (.ref o0)] [(.ref o0)])) rfl rfl (hb hby d11_1)
  refine own_step st40 ?_
  show own_Fin p e below s Q 0 0 (T40.setTop (mkF m 4 #[.val (.ref o0)] [(.int n)]))
  refine own_retJ X40 hx hlk hret (hb hby d11_4) (Nat.le_trans (Nat.add_le_add_right hc 0) (by decide)) (Nat.le_trans (Nat.add_le_add_right hs 0) (by decide)) e40 ?_
  exact hQ _ _ N rfl
theorem pdm_6 : parseMethodDescriptor "()I" = some ⟨[], some .int⟩ := by decide +kernel
theorem ef_11 (m : MethodId) (o0 : Addr) : entryFrame m #[(.ref o0)] 1 = (mkF m 0 #[.val (.ref o0)] []) := by first | (simp [entryFrame, mkF, argsToLocals, Value.category]; done) | rfl
def Q11 (Z : State) (o0 : Addr) (n : Int32) (h0 : Heap) (n0 : Nat) (v : Option Value) (h : Heap) (L : List Loc) : Prop := v = some (.int n) ∧ Fr n0 L ∧ h = h0
set_option maxRecDepth 65536 in
set_option maxHeartbeats 4000000 in
theorem rm11 (l : Launch) (Z : State) (a0 : Array Value) (hw : ∀ d ∈ tables_1, d.before a0 Z = true) (ws : List Jvm.Cond) (o0 : Addr) (n : Int32) (h0 : Heap) (n0 : Nat) (Fs : Fld Z h0 o0 "java/util/ArrayList" "size" "I" (.int n)) :
    MetFree l (⟨"java/util/ArrayList", "size", "()I"⟩ : MethodName) (head1 (Jvm.Cond.code (⟨"java/util/ArrayList", "size", "()I"⟩ : MethodName) jdk_38_method_8_code 1 (some .int) :: ws) ({ frames := 0, cells := 0, slots := 0, locals := 0 } : Room)) (fun a U => a = #[(.ref o0)] ∧ Z.Warmed39 U.vm ∧ U.heap = h0) (fun _ _ _ _ _ => True) (fun _ U o U' => ∃ v L, o = .returned v ∧ Q11 Z o0 n h0 n0 v U'.heap L ∧ FrameEnd U o U' L ({ frames := 0, cells := 0, slots := 0, locals := 0 } : Room).cells ({ frames := 0, cells := 0, slots := 0, locals := 0 } : Room).slots) := by
  refine MetFree.of_bodySF (plainFor_of_name pnm_2) hisR ?_
  intro p e s m args below meth c s₁ Bd hml0 hP hK
  obtain ⟨rfl, hZ, hh⟩ := hP
  have hx := Bd.exec
  have hby := Bd.bytes
  have hml : c.maxLocals = 1 := hml0
  have hown : s.vm.findClass "java/util/ArrayList" = some m.cls := findClass_of_methodNamed Bd.named
  have X0 : Stand p l e ({ frames := 0, cells := 0, slots := 0, locals := 0 } : Room) s m #[(.ref o0)] below meth c s₁ [] 0 0 := Stand.of_body Bd
  have e0 : s₁.heap = h0 := by rw [← hh, Bd.state]; rfl
  have fin := b11_0 o0 n (Q := Q11 Z o0 n h0 n0) hw X0 hx hZ hby hml hown Bd.returns (BodyLoose.notSynchronized Bd) e0 (Fr.nil n0) (Nat.zero_le _) (Nat.zero_le _) Fs (fun H' L' n' k' => ⟨rfl, n', k'⟩)
  exact own_step (fun t k => castTop (ef_11 m o0) k) fin
theorem d14_0 : decode jdk_41_method_11_code 0 = .ok (.iload_n 0, 1) := by decide +kernel
theorem d14_1 : decode jdk_41_method_11_code 1 = .ok (.ifCond .lt 8, 3) := by decide +kernel
theorem d14_4 : decode jdk_41_method_11_code 4 = .ok (.iload_n 0, 1) := by decide +kernel
theorem d14_5 : decode jdk_41_method_11_code 5 = .ok (.iload_n 1, 1) := by decide +kernel
theorem d14_6 : decode jdk_41_method_11_code 6 = .ok (.if_icmp .lt 10, 3) := by decide +kernel
theorem d14_9 : decode jdk_41_method_11_code 9 = .ok (.aload_n 2, 1) := by decide +kernel
theorem d14_10 : decode jdk_41_method_11_code 10 = .ok (.iload_n 0, 1) := by decide +kernel
theorem d14_11 : decode jdk_41_method_11_code 11 = .ok (.iload_n 1, 1) := by decide +kernel
theorem d14_12 : decode jdk_41_method_11_code 12 = .ok (.invokestatic 95, 3) := by decide +kernel
theorem d14_15 : decode jdk_41_method_11_code 15 = .ok (.athrow, 1) := by decide +kernel
theorem d14_16 : decode jdk_41_method_11_code 16 = .ok (.iload_n 0, 1) := by decide +kernel
theorem d14_17 : decode jdk_41_method_11_code 17 = .ok (.ireturn, 1) := by decide +kernel
set_option maxRecDepth 65536 in
set_option maxHeartbeats 40000000 in
theorem b14_0 {p : Program} {l : Launch} {e : Env} {s : State} {m : MethodId} {args : Array Value} {below : List Frame} {meth : Method} {c : Code} {T : State} {locs : List Loc} {cells slots : Nat} {Z : State} {a0 : Array Value} {h : Heap} {n0 : Nat} {Q : Option Value → Heap → List Loc → Prop} (i0 : Int32) (i1 : Int32) (hw : ∀ d ∈ tables_1, d.before a0 Z = true) (X : Stand p l e ({ frames := 0, cells := 0, slots := 0, locals := 0 } : Room) s m args below meth c T locs cells slots) (hx : p.tables.exec = Jvm.exec) (hZ : Z.Warmed39 s.vm) (hby : c.code = jdk_41_method_11_code) (hml : c.maxLocals = 3) (hown : s.vm.findClass "jdk/internal/util/Preconditions" = some m.cls) (hret : meth.sig.returnType = some .int) (hlk : meth.locks = false) (eT : T.heap = h) (N : Fr n0 locs) (hc : cells ≤ 0) (hs : slots ≤ 0) (hi0 : ¬ (i0 < (0 : Int32))) (hi1 : i0 < i1) (hQ : ∀ (H' : Heap) (L' : List Loc), Fr n0 L' → H' = h → Q (some (.int i0)) H' L') :
    own_Fin p e below s Q 0 0 (T.setTop (mkF m 0 #[.val (.int i0), .val (.int i1), .val .null] [])) := by
  refine own_step (fun t k => XS.iloadN X.here hx rfl (hb hby d14_0) rfl  k) ?_
  show own_Fin p e below s Q 0 0 (T.setTop (mkF m 1 #[.val (.int i0), .val (.int i1), .val .null] [(.int i0)]))
  refine own_step (fun t k => XS.ifNo X.here hx rfl (hb hby d14_1) rfl ((if0 _ _).trans (flt hi0).1) k) ?_
  show own_Fin p e below s Q 0 0 (T.setTop (mkF m 4 #[.val (.int i0), .val (.int i1), .val .null] []))
  refine own_step (fun t k => XS.iloadN X.here hx rfl (hb hby d14_4) rfl  k) ?_
  show own_Fin p e below s Q 0 0 (T.setTop (mkF m 5 #[.val (.int i0), .val (.int i1), .val .null] [(.int i0)]))
  refine own_step (fun t k => XS.iloadN X.here hx rfl (hb hby d14_5) rfl  k) ?_
  show own_Fin p e below s Q 0 0 (T.setTop (mkF m 6 #[.val (.int i0), .val (.int i1), .val .null] [(.int i1), (.int i0)]))
  refine own_step (fun t k => XS.icmpYes X.here hx rfl (pc0 := 6) (pc' := 16) rfl (hb hby d14_6) rfl (tlt hi1).1 (by decide) (by decide) k) ?_
  show own_Fin p e below s Q 0 0 (T.setTop (mkF m 16 #[.val (.int i0), .val (.int i1), .val .null] []))
  refine own_step (fun t k => XS.iloadN X.here hx rfl (hb hby d14_16) rfl  k) ?_
  show own_Fin p e below s Q 0 0 (T.setTop (mkF m 17 #[.val (.int i0), .val (.int i1), .val .null] [(.int i0)]))
  refine own_retJ X hx hlk hret (hb hby d14_17) (Nat.le_trans (Nat.add_le_add_right hc 0) (by decide)) (Nat.le_trans (Nat.add_le_add_right hs 0) (by decide)) eT ?_
  exact hQ _ _ N rfl
theorem pnm_3 : plainName "jdk/internal/util/Preconditions" = true := by first | (simp [plainName, overriddenIn]; done) | decide +kernel
theorem pdm_7 : parseMethodDescriptor "(IILjava/util/function/BiFunction;)I" = some ⟨[.int, .int, (.object "java/util/function/BiFunction")], some .int⟩ := by decide +kernel
theorem ef_14 (m : MethodId) (i0 : Int32) (i1 : Int32) : entryFrame m #[(.int i0), (.int i1), .null] 3 = (mkF m 0 #[.val (.int i0), .val (.int i1), .val .null] []) := by first | (simp [entryFrame, mkF, argsToLocals, Value.category]; done) | rfl
def Q14 (Z : State) (i0 : Int32) (i1 : Int32) (h0 : Heap) (n0 : Nat) (v : Option Value) (h : Heap) (L : List Loc) : Prop := v = some (.int i0) ∧ Fr n0 L ∧ h = h0
set_option maxRecDepth 65536 in
set_option maxHeartbeats 4000000 in
theorem rm14 (l : Launch) (Z : State) (a0 : Array Value) (hw : ∀ d ∈ tables_1, d.before a0 Z = true) (ws : List Jvm.Cond) (i0 : Int32) (i1 : Int32) (h0 : Heap) (n0 : Nat) (hi0 : ¬ (i0 < (0 : Int32))) (hi1 : i0 < i1) :
    MetFree l (⟨"jdk/internal/util/Preconditions", "checkIndex", "(IILjava/util/function/BiFunction;)I"⟩ : MethodName) (head1 (Jvm.Cond.code (⟨"jdk/internal/util/Preconditions", "checkIndex", "(IILjava/util/function/BiFunction;)I"⟩ : MethodName) jdk_41_method_11_code 3 (some .int) :: ws) ({ frames := 0, cells := 0, slots := 0, locals := 0 } : Room)) (fun a U => a = #[(.int i0), (.int i1), .null] ∧ Z.Warmed39 U.vm ∧ U.heap = h0) (fun _ _ _ _ _ => True) (fun _ U o U' => ∃ v L, o = .returned v ∧ Q14 Z i0 i1 h0 n0 v U'.heap L ∧ FrameEnd U o U' L ({ frames := 0, cells := 0, slots := 0, locals := 0 } : Room).cells ({ frames := 0, cells := 0, slots := 0, locals := 0 } : Room).slots) := by
  refine MetFree.of_bodySF (plainFor_of_name pnm_3) hisR ?_
  intro p e s m args below meth c s₁ Bd hml0 hP hK
  obtain ⟨rfl, hZ, hh⟩ := hP
  have hx := Bd.exec
  have hby := Bd.bytes
  have hml : c.maxLocals = 3 := hml0
  have hown : s.vm.findClass "jdk/internal/util/Preconditions" = some m.cls := findClass_of_methodNamed Bd.named
  have X0 : Stand p l e ({ frames := 0, cells := 0, slots := 0, locals := 0 } : Room) s m #[(.int i0), (.int i1), .null] below meth c s₁ [] 0 0 := Stand.of_body Bd
  have e0 : s₁.heap = h0 := by rw [← hh, Bd.state]; rfl
  have fin := b14_0 i0 i1 (Q := Q14 Z i0 i1 h0 n0) hw X0 hx hZ hby hml hown Bd.returns (BodyLoose.notSynchronized Bd) e0 (Fr.nil n0) (Nat.zero_le _) (Nat.zero_le _) hi0 hi1 (fun H' L' n' k' => ⟨rfl, n', k'⟩)
  exact own_step (fun t k => castTop (ef_14 m i0 i1) k) fin
theorem d13_0 : decode jdk_31_method_17_code 0 = .ok (.iload_n 0, 1) := by decide +kernel
theorem d13_1 : decode jdk_31_method_17_code 1 = .ok (.iload_n 1, 1) := by decide +kernel
theorem d13_2 : decode jdk_31_method_17_code 2 = .ok (.aconst_null, 1) := by decide +kernel
theorem d13_3 : decode jdk_31_method_17_code 3 = .ok (.invokestatic 105, 3) := by decide +kernel
theorem d13_6 : decode jdk_31_method_17_code 6 = .ok (.ireturn, 1) := by decide +kernel
set_option maxRecDepth 65536 in
set_option maxHeartbeats 40000000 in
theorem b13_0 {p : Program} {l : Launch} {e : Env} {s : State} {m : MethodId} {args : Array Value} {below : List Frame} {meth : Method} {c : Code} {T : State} {locs : List Loc} {cells slots : Nat} {Z : State} {a0 : Array Value} {h : Heap} {n0 : Nat} {Q : Option Value → Heap → List Loc → Prop} (i0 : Int32) (i1 : Int32) (hw : ∀ d ∈ tables_1, d.before a0 Z = true) (X : Stand p l e ({ frames := 1, cells := 0, slots := 0, locals := 14 } : Room) s m args below meth c T locs cells slots) (hx : p.tables.exec = Jvm.exec) (hZ : Z.Warmed39 s.vm) (hby : c.code = jdk_31_method_17_code) (hml : c.maxLocals = 2) (hown : s.vm.findClass "java/util/Objects" = some m.cls) (hret : meth.sig.returnType = some .int) (hlk : meth.locks = false) (eT : T.heap = h) (N : Fr n0 locs) (hc : cells ≤ 0) (hs : slots ≤ 0) (hi0 : ¬ (i0 < (0 : Int32))) (hi1 : i0 < i1) (hQ : ∀ (H' : Heap) (L' : List Loc), Fr n0 L' → H' = h → Q (some (.int i0)) H' L') :
    own_Fin p e below s Q 0 0 (T.setTop (mkF m 0 #[.val (.int i0), .val (.int i1)] [])) := by
  refine own_step (fun t k => XS.iloadN X.here hx rfl (hb hby d13_0) rfl  k) ?_
  show own_Fin p e below s Q 0 0 (T.setTop (mkF m 1 #[.val (.int i0), .val (.int i1)] [(.int i0)]))
  refine own_step (fun t k => XS.iloadN X.here hx rfl (hb hby d13_1) rfl  k) ?_
  show own_Fin p e below s Q 0 0 (T.setTop (mkF m 2 #[.val (.int i0), .val (.int i1)] [(.int i1), (.int i0)]))
  refine own_step (fun t k => XS.aconstNull X.here hx rfl (hb hby d13_2) k) ?_
  show own_Fin p e below s Q 0 0 (T.setTop (mkF m 3 #[.val (.int i0), .val (.int i1)] [.null, (.int i1), (.int i0)]))
  obtain ⟨_, _, ⟨T41, L41, k41, n41⟩, -, X41, ⟨Lc41, hQ41, l41, y41, z41⟩, st41⟩ := Jvm.LawKit.callS X hx (y := (⟨"jdk/internal/util/Preconditions", "checkIndex", "(IILjava/util/function/BiFunction;)I"⟩ : MethodName)) hown (mvT hZ (hw _ (List.mem_of_getElem? (i := 88) rfl))) (mvT hZ (hw _ (List.mem_of_getElem? (i := 89) rfl))) (mvT hZ (hw _ (List.mem_of_getElem? (i := 90) rfl))) (mvT hZ (hw _ (List.mem_of_getElem? (i := 91) rfl))) (by decide) (backOf (W := 0) (rm14 l Z a0 hw [] i0 i1 h n0 hi0 hi1) hZ (hw _ (List.mem_of_getElem? (i := 91) rfl)) (hw _ (List.mem_of_getElem? (i := 90) rfl)) (by decide) (by decide)) (g := (mkF m 3 #[.val (.int i0), .val (.int i1)] [.null, (.int i1), (.int i0)])) rfl (by rw [hml]; rfl) (argsL := [(.int i0), (.int i1), .null]) (rest := []) (lenOf pdm_7 rfl) rfl (by show 2 * 0 + _ ≤ _; exact Nat.le_of_eq rfl) (hb hby d13_3) (fun _ _ => ⟨rfl, eT, (show cells + 0 ≤ 0 from (Nat.le_trans (Nat.add_le_add_right hc 0) (by decide))), (show slots + 0 ≤ 0 from (Nat.le_trans (Nat.add_le_add_right hs 0) (by decide)))⟩)
  dsimp only [Pt.U, Pt.locs, Pt.cells, Pt.slots] at X41 l41 y41 z41 st41 hQ41
  have yy41 : k41 = cells + 0 := y41
  have zz41 : n41 = slots + 0 := z41
  rw [yy41, zz41, l41] at X41
  obtain ⟨rfl, N41q, e41⟩ := hQ41
  have N41 := Fr.app N N41q
  refine own_step st41 ?_
  show own_Fin p e below s Q 0 0 (T41.setTop (mkF m 6 #[.val (.int i0), .val (.int i1)] [(.int i0)]))
  refine own_retJ X41 hx hlk hret (hb hby d13_6) (Nat.le_trans (Nat.add_le_add_right hc 0) (by decide)) (Nat.le_trans (Nat.add_le_add_right hs 0) (by decide)) e41 ?_
  exact hQ _ _ N41 rfl
theorem pnm_4 : plainName "java/util/Objects" = true := by first | (simp [plainName, overriddenIn]; done) | decide +kernel
theorem ef_13 (m : MethodId) (i0 : Int32) (i1 : Int32) : entryFrame m #[(.int i0), (.int i1)] 2 = (mkF m 0 #[.val (.int i0), .val (.int i1)] []) := by first | (simp [entryFrame, mkF, argsToLocals, Value.category]; done) | rfl
def Q13 (Z : State) (i0 : Int32) (i1 : Int32) (h0 : Heap) (n0 : Nat) (v : Option Value) (h : Heap) (L : List Loc) : Prop := v = some (.int i0) ∧ Fr n0 L ∧ h = h0
set_option maxRecDepth 65536 in
set_option maxHeartbeats 4000000 in
theorem rm13 (l : Launch) (Z : State) (a0 : Array Value) (hw : ∀ d ∈ tables_1, d.before a0 Z = true) (ws : List Jvm.Cond) (i0 : Int32) (i1 : Int32) (h0 : Heap) (n0 : Nat) (hi0 : ¬ (i0 < (0 : Int32))) (hi1 : i0 < i1) :
    MetFree l (⟨"java/util/Objects", "checkIndex", "(II)I"⟩ : MethodName) (head1 (Jvm.Cond.code (⟨"java/util/Objects", "checkIndex", "(II)I"⟩ : MethodName) jdk_31_method_17_code 2 (some .int) :: ws) ({ frames := 1, cells := 0, slots := 0, locals := 14 } : Room)) (fun a U => a = #[(.int i0), (.int i1)] ∧ Z.Warmed39 U.vm ∧ U.heap = h0) (fun _ _ _ _ _ => True) (fun _ U o U' => ∃ v L, o = .returned v ∧ Q13 Z i0 i1 h0 n0 v U'.heap L ∧ FrameEnd U o U' L ({ frames := 1, cells := 0, slots := 0, locals := 14 } : Room).cells ({ frames := 1, cells := 0, slots := 0, locals := 14 } : Room).slots) := by
  refine MetFree.of_bodySF (plainFor_of_name pnm_4) hisR ?_
  intro p e s m args below meth c s₁ Bd hml0 hP hK
  obtain ⟨rfl, hZ, hh⟩ := hP
  have hx := Bd.exec
  have hby := Bd.bytes
  have hml : c.maxLocals = 2 := hml0
  have hown : s.vm.findClass "java/util/Objects" = some m.cls := findClass_of_methodNamed Bd.named
  have X0 : Stand p l e ({ frames := 1, cells := 0, slots := 0, locals := 14 } : Room) s m #[(.int i0), (.int i1)] below meth c s₁ [] 0 0 := Stand.of_body Bd
  have e0 : s₁.heap = h0 := by rw [← hh, Bd.state]; rfl
  have fin := b13_0 i0 i1 (Q := Q13 Z i0 i1 h0 n0) hw X0 hx hZ hby hml hown Bd.returns (BodyLoose.notSynchronized Bd) e0 (Fr.nil n0) (Nat.zero_le _) (Nat.zero_le _) hi0 hi1 (fun H' L' n' k' => ⟨rfl, n', k'⟩)
  exact own_step (fun t k => castTop (ef_13 m i0 i1) k) fin
theorem d15_0 : decode jdk_38_method_18_code 0 = .ok (.aload_n 0, 1) := by decide +kernel
theorem d15_1 : decode jdk_38_method_18_code 1 = .ok (.getfield 9, 3) := by decide +kernel
theorem d15_4 : decode jdk_38_method_18_code 4 = .ok (.iload_n 1, 1) := by decide +kernel
theorem d15_5 : decode jdk_38_method_18_code 5 = .ok (.aaload, 1) := by decide +kernel
theorem d15_6 : decode jdk_38_method_18_code 6 = .ok (.areturn, 1) := by decide +kernel
set_option maxRecDepth 65536 in
set_option maxHeartbeats 40000000 in
theorem b15_0 {p : Program} {l : Launch} {e : Env} {s : State} {m : MethodId} {args : Array Value} {below : List Frame} {meth : Method} {c : Code} {T : State} {locs : List Loc} {cells slots : Nat} {Z : State} {a0 : Array Value} {h : Heap} {n0 : Nat} {Q : Option Value → Heap → List Loc → Prop} (o0 : Addr) (i1 : Int32) (ea : Addr) (gE : Nat → Value) (r : Addr) (hw : ∀ d ∈ tables_1, d.before a0 Z = true) (X : Stand p l e ({ frames := 0, cells := 0, slots := 0, locals := 0 } : Room) s m args below meth c T locs cells slots) (hx : p.tables.exec = Jvm.exec) (hZ : Z.Warmed39 s.vm) (hby : c.code = jdk_38_method_18_code) (hml : c.maxLocals = 2) (hown : s.vm.findClass "java/util/ArrayList" = some m.cls) (hret : meth.sig.returnType = some (.object "java/lang/Object")) (hlk : meth.locks = false) (eT : T.heap = h) (N : Fr n0 locs) (hc : cells ≤ 0) (hs : slots ≤ 0) (Fe : Fld Z h o0 "java/util/ArrayList" "elementData" "[Ljava/lang/Object;" (.ref ea)) (Re : own_RF Z h ea "java/lang/Object" 10 gE) (hin : own_In 10 i1) (hg : gE (i1).toNatClampNeg = .ref r) (hQ : ∀ (H' : Heap) (L' : List Loc), Fr n0 L' → H' = h → Q (some (.ref r)) H' L') :
    own_Fin p e below s Q 0 0 (T.setTop (mkF m 0 #[.val (.ref o0), .val (.int i1)] [])) := by
  refine own_step (fun t k => XS.aloadN X.here hx rfl (hb hby d15_0) rfl rfl k) ?_
  show own_Fin p e below s Q 0 0 (T.setTop (mkF m 1 #[.val (.ref o0), .val (.int i1)] [(.ref o0)]))
  obtain ⟨T42, X42, e42, st42⟩ := getF X hx hZ hown (host := "") (Or.inl (hw _ (List.mem_of_getElem? (i := 25) rfl))) Via.refl eT Fe (g := (mkF m 1 #[.val (.ref o0), .val (.int i1)] [(.ref o0)])) rfl rfl (hb hby d15_1)
  refine own_step st42 ?_
  show own_Fin p e below s Q 0 0 (T42.setTop (mkF m 4 #[.val (.ref o0), .val (.int i1)] [(.ref ea)]))
  refine own_step (fun t k => XS.iloadN X42.here hx rfl (hb hby d15_4) rfl  k) ?_
  show own_Fin p e below s Q 0 0 (T42.setTop (mkF m 5 #[.val (.ref o0), .val (.int i1)] [(.int i1), (.ref ea)]))
  obtain ⟨ca5, Ar5, Ov5, Sz5, Ht5⟩ := id Re
  have hin5 : ¬ (i1 < 0 ∨ ca5.slots.size ≤ (i1).toNatClampNeg) := by rw [Sz5]; exact hin
  have hat5 : ca5.slots[(i1).toNatClampNeg]? = some (.ref r) := (Ht5 _ (by have hq := Nat.lt_of_not_le (fun y => hin5 (Or.inr y)); rw [Sz5] at hq; exact hq)).trans (congrArg some hg)
  refine own_step (X42.aaload hx (j := i1) (v := (.ref r)) (by rw [e42]; exact Ar5.1) (State.isArrayOf_alike hZ.alike Ar5.2.1) rfl Ar5.2.2 hin5 hat5 (g := (mkF m 5 #[.val (.ref o0), .val (.int i1)] [(.int i1), (.ref ea)])) rfl rfl (hb hby d15_5)) ?_
  show own_Fin p e below s Q 0 0 (T42.setTop (mkF m 6 #[.val (.ref o0), .val (.int i1)] [(.ref r)]))
  refine own_retA X42 hx hlk hret rfl (hb hby d15_6) (Nat.le_trans (Nat.add_le_add_right hc 0) (by decide)) (Nat.le_trans (Nat.add_le_add_right hs 0) (by decide)) e42 ?_
  exact hQ _ _ N rfl
theorem pdm_8 : parseMethodDescriptor "(I)Ljava/lang/Object;" = some ⟨[.int], some (.object "java/lang/Object")⟩ := by decide +kernel
theorem ef_15 (m : MethodId) (o0 : Addr) (i1 : Int32) : entryFrame m #[(.ref o0), (.int i1)] 2 = (mkF m 0 #[.val (.ref o0), .val (.int i1)] []) := by first | (simp [entryFrame, mkF, argsToLocals, Value.category]; done) | rfl
def Q15 (Z : State) (o0 : Addr) (i1 : Int32) (ea : Addr) (gE : Nat → Value) (r : Addr) (h0 : Heap) (n0 : Nat) (v : Option Value) (h : Heap) (L : List Loc) : Prop := v = some (.ref r) ∧ Fr n0 L ∧ h = h0
set_option maxRecDepth 65536 in
set_option maxHeartbeats 4000000 in
theorem rm15 (l : Launch) (Z : State) (a0 : Array Value) (hw : ∀ d ∈ tables_1, d.before a0 Z = true) (ws : List Jvm.Cond) (o0 : Addr) (i1 : Int32) (ea : Addr) (gE : Nat → Value) (r : Addr) (h0 : Heap) (n0 : Nat) (Fe : Fld Z h0 o0 "java/util/ArrayList" "elementData" "[Ljava/lang/Object;" (.ref ea)) (Re : own_RF Z h0 ea "java/lang/Object" 10 gE) (hin : own_In 10 i1) (hg : gE (i1).toNatClampNeg = .ref r) :
    MetFree l (⟨"java/util/ArrayList", "elementData", "(I)Ljava/lang/Object;"⟩ : MethodName) (head1 (Jvm.Cond.code (⟨"java/util/ArrayList", "elementData", "(I)Ljava/lang/Object;"⟩ : MethodName) jdk_38_method_18_code 2 (some (.object "java/lang/Object")) :: ws) ({ frames := 0, cells := 0, slots := 0, locals := 0 } : Room)) (fun a U => a = #[(.ref o0), (.int i1)] ∧ Z.Warmed39 U.vm ∧ U.heap = h0) (fun _ _ _ _ _ => True) (fun _ U o U' => ∃ v L, o = .returned v ∧ Q15 Z o0 i1 ea gE r h0 n0 v U'.heap L ∧ FrameEnd U o U' L ({ frames := 0, cells := 0, slots := 0, locals := 0 } : Room).cells ({ frames := 0, cells := 0, slots := 0, locals := 0 } : Room).slots) := by
  refine MetFree.of_bodySF (plainFor_of_name pnm_2) hisR ?_
  intro p e s m args below meth c s₁ Bd hml0 hP hK
  obtain ⟨rfl, hZ, hh⟩ := hP
  have hx := Bd.exec
  have hby := Bd.bytes
  have hml : c.maxLocals = 2 := hml0
  have hown : s.vm.findClass "java/util/ArrayList" = some m.cls := findClass_of_methodNamed Bd.named
  have X0 : Stand p l e ({ frames := 0, cells := 0, slots := 0, locals := 0 } : Room) s m #[(.ref o0), (.int i1)] below meth c s₁ [] 0 0 := Stand.of_body Bd
  have e0 : s₁.heap = h0 := by rw [← hh, Bd.state]; rfl
  have fin := b15_0 o0 i1 ea gE r (Q := Q15 Z o0 i1 ea gE r h0 n0) hw X0 hx hZ hby hml hown Bd.returns (BodyLoose.notSynchronized Bd) e0 (Fr.nil n0) (Nat.zero_le _) (Nat.zero_le _) Fe Re hin hg (fun H' L' n' k' => ⟨rfl, n', k'⟩)
  exact own_step (fun t k => castTop (ef_15 m o0 i1) k) fin
theorem d12_0 : decode jdk_38_method_20_code 0 = .ok (.iload_n 1, 1) := by decide +kernel
theorem d12_1 : decode jdk_38_method_20_code 1 = .ok (.aload_n 0, 1) := by decide +kernel
theorem d12_2 : decode jdk_38_method_20_code 2 = .ok (.getfield 48, 3) := by decide +kernel
theorem d12_5 : decode jdk_38_method_20_code 5 = .ok (.invokestatic 118, 3) := by decide +kernel
theorem d12_8 : decode jdk_38_method_20_code 8 = .ok (.pop, 1) := by decide +kernel
theorem d12_9 : decode jdk_38_method_20_code 9 = .ok (.aload_n 0, 1) := by decide +kernel
theorem d12_10 : decode jdk_38_method_20_code 10 = .ok (.iload_n 1, 1) := by decide +kernel
theorem d12_11 : decode jdk_38_method_20_code 11 = .ok (.invokevirtual 123, 3) := by decide +kernel
theorem d12_14 : decode jdk_38_method_20_code 14 = .ok (.areturn, 1) := by decide +kernel
set_option maxRecDepth 65536 in
set_option maxHeartbeats 40000000 in
theorem b12_0 {p : Program} {l : Launch} {e : Env} {s : State} {m : MethodId} {args : Array Value} {below : List Frame} {meth : Method} {c : Code} {T : State} {locs : List Loc} {cells slots : Nat} {Z : State} {a0 : Array Value} {h : Heap} {n0 : Nat} {Q : Option Value → Heap → List Loc → Prop} (o0 : Addr) (i1 : Int32) (ea : Addr) (gE : Nat → Value) (r : Addr) (n : Int32) (hw : ∀ d ∈ tables_1, d.before a0 Z = true) (X : Stand p l e ({ frames := 2, cells := 0, slots := 0, locals := 30 } : Room) s m args below meth c T locs cells slots) (hx : p.tables.exec = Jvm.exec) (hZ : Z.Warmed39 s.vm) (hby : c.code = jdk_38_method_20_code) (hml : c.maxLocals = 2) (hown : s.vm.findClass "java/util/ArrayList" = some m.cls) (hret : meth.sig.returnType = some (.object "java/lang/Object")) (hlk : meth.locks = false) (eT : T.heap = h) (N : Fr n0 locs) (hc : cells ≤ 0) (hs : slots ≤ 0) (E0 : Exa Z h o0 "java/util/ArrayList") (Fs : Fld Z h o0 "java/util/ArrayList" "size" "I" (.int n)) (Fe : Fld Z h o0 "java/util/ArrayList" "elementData" "[Ljava/lang/Object;" (.ref ea)) (Re : own_RF Z h ea "java/lang/Object" 10 gE) (hin : own_In 10 i1) (hg : gE (i1).toNatClampNeg = .ref r) (hi0 : ¬ (i1 < (0 : Int32))) (hi1 : i1 < n) (hQ : ∀ (H' : Heap) (L' : List Loc), Fr n0 L' → H' = h → Q (some (.ref r)) H' L') :
    own_Fin p e below s Q 0 0 (T.setTop (mkF m 0 #[.val (.ref o0), .val (.int i1)] [])) := by
  refine own_step (fun t k => XS.iloadN X.here hx rfl (hb hby d12_0) rfl  k) ?_
  show own_Fin p e below s Q 0 0 (T.setTop (mkF m 1 #[.val (.ref o0), .val (.int i1)] [(.int i1)]))
  refine own_step (fun t k => XS.aloadN X.here hx rfl (hb hby d12_1) rfl rfl k) ?_
  show own_Fin p e below s Q 0 0 (T.setTop (mkF m 2 #[.val (.ref o0), .val (.int i1)] [(.ref o0), (.int i1)]))
  obtain ⟨T43, X43, e43, st43⟩ := getF X hx hZ hown (host := "") (Or.inl (hw _ (List.mem_of_getElem? (i := 34) rfl))) Via.refl eT Fs (g := (mkF m 2 #[.val (.ref o0), .val (.int i1)] [(.ref o0), (.int i1)])) rfl rfl (hb hby d12_2)
  refine own_step st43 ?_
  show own_Fin p e below s Q 0 0 (T43.setTop (mkF m 5 #[.val (.ref o0), .val (.int i1)] [(.int n), (.int i1)]))
  obtain ⟨_, _, ⟨T44, L44, k44, n44⟩, -, X44, ⟨Lc44, hQ44, l44, y44, z44⟩, st44⟩ := Jvm.LawKit.callS X43 hx (y := (⟨"java/util/Objects", "checkIndex", "(II)I"⟩ : MethodName)) hown (mvT hZ (hw _ (List.mem_of_getElem? (i := 84) rfl))) (mvT hZ (hw _ (List.mem_of_getElem? (i := 85) rfl))) (mvT hZ (hw _ (List.mem_of_getElem? (i := 86) rfl))) (mvT hZ (hw _ (List.mem_of_getElem? (i := 87) rfl))) (by decide) (backOf (W := 0) (rm13 l Z a0 hw [] i1 n h n0 hi0 hi1) hZ (hw _ (List.mem_of_getElem? (i := 87) rfl)) (hw _ (List.mem_of_getElem? (i := 86) rfl)) (by decide) (by decide)) (g := (mkF m 5 #[.val (.ref o0), .val (.int i1)] [(.int n), (.int i1)])) rfl (by rw [hml]; rfl) (argsL := [(.int i1), (.int n)]) (rest := []) (lenOf pdm_0 rfl) rfl (by show 2 * 0 + _ ≤ _; exact Nat.le_of_eq rfl) (hb hby d12_5) (fun _ _ => ⟨rfl, e43, (show cells + 0 ≤ 0 from (Nat.le_trans (Nat.add_le_add_right hc 0) (by decide))), (show slots + 0 ≤ 0 from (Nat.le_trans (Nat.add_le_add_right hs 0) (by decide)))⟩)
  dsimp only [Pt.U, Pt.locs, Pt.cells, Pt.slots] at X44 l44 y44 z44 st44 hQ44
  have yy44 : k44 = cells + 0 := y44
  have zz44 : n44 = slots + 0 := z44
  rw [yy44, zz44, l44] at X44
  obtain ⟨rfl, N44q, e44⟩ := hQ44
  have N44 := Fr.app N N44q
  refine own_step st44 ?_
  show own_Fin p e below s Q 0 0 (T44.setTop (mkF m 8 #[.val (.ref o0), .val (.int i1)] [(.int i1)]))
  refine own_step (fun t k => XS.pop X44.here hx rfl (hb hby d12_8) rfl rfl k) ?_
  show own_Fin p e below s Q 0 0 (T44.setTop (mkF m 9 #[.val (.ref o0), .val (.int i1)] []))
  refine own_step (fun t k => XS.aloadN X44.here hx rfl (hb hby d12_9) rfl rfl k) ?_
  show own_Fin p e below s Q 0 0 (T44.setTop (mkF m 10 #[.val (.ref o0), .val (.int i1)] [(.ref o0)]))
  refine own_step (fun t k => XS.iloadN X44.here hx rfl (hb hby d12_10) rfl  k) ?_
  show own_Fin p e below s Q 0 0 (T44.setTop (mkF m 11 #[.val (.ref o0), .val (.int i1)] [(.int i1), (.ref o0)]))
  obtain ⟨cq45, kq45, q45a, q45b, q45c⟩ := isOf hZ e44 E0
  obtain ⟨_, _, ⟨T45, L45, k45, n45⟩, -, X45, ⟨Lc45, hQ45, l45, y45, z45⟩, st45⟩ := X44.virtualBack hx (y := (⟨"java/util/ArrayList", "elementData", "(I)Ljava/lang/Object;"⟩ : MethodName)) (z := (⟨"java/util/ArrayList", "elementData", "(I)Ljava/lang/Object;"⟩ : MethodName)) hown (mvT hZ (hw _ (List.mem_of_getElem? (i := 92) rfl))) (mvT hZ (hw _ (List.mem_of_getElem? (i := 93) rfl))) (notFace_of_selects (args := #[]) (mvT hZ (hw _ (List.mem_of_getElem? (i := 95) rfl)))) (mvT hZ (hw _ (List.mem_of_getElem? (i := 95) rfl))) (mvT hZ (hw _ (List.mem_of_getElem? (i := 94) rfl))) (by decide) (backOf (W := 0) (rm15 l Z a0 hw [] o0 i1 ea gE r h n0 Fe Re hin hg) hZ (hw _ (List.mem_of_getElem? (i := 96) rfl)) (hw _ (List.mem_of_getElem? (i := 3) rfl)) (by decide) (by decide)) q45a q45c (g := (mkF m 11 #[.val (.ref o0), .val (.int i1)] [(.int i1), (.ref o0)])) rfl (by rw [hml]; rfl) (Steps.refl _) (argsL := [(.int i1)]) (rest := []) (lenOf pdm_8 rfl) rfl (by show 2 * 0 + _ ≤ _; exact Nat.le_of_eq rfl) (hb hby d12_11) (fun _ _ => ⟨rfl, e44, (show cells + 0 + 0 ≤ 0 from (Nat.le_trans (Nat.add_le_add_right hc 0) (by decide))), (show slots + 0 + 0 ≤ 0 from (Nat.le_trans (Nat.add_le_add_right hs 0) (by decide)))⟩)
  dsimp only [Pt.U, Pt.locs, Pt.cells, Pt.slots] at X45 l45 y45 z45 st45 hQ45
  have yy45 : k45 = cells + 0 + 0 := y45
  have zz45 : n45 = slots + 0 + 0 := z45
  rw [yy45, zz45, l45] at X45
  obtain ⟨rfl, N45q, e45⟩ := hQ45
  have N45 := Fr.app N44 N45q
  refine own_step (fun t k => st45.trans k) ?_
  show own_Fin p e below s Q 0 0 (T45.setTop (mkF m 14 #[.val (.ref o0), .val (.int i1)] [(.ref r)]))
  refine own_retA X45 hx hlk hret rfl (hb hby d12_14) (Nat.le_trans (Nat.add_le_add_right hc 0) (by decide)) (Nat.le_trans (Nat.add_le_add_right hs 0) (by decide)) e45 ?_
  exact hQ _ _ N45 rfl
theorem ef_12 (m : MethodId) (o0 : Addr) (i1 : Int32) : entryFrame m #[(.ref o0), (.int i1)] 2 = (mkF m 0 #[.val (.ref o0), .val (.int i1)] []) := by first | (simp [entryFrame, mkF, argsToLocals, Value.category]; done) | rfl
def Q12 (Z : State) (o0 : Addr) (i1 : Int32) (ea : Addr) (gE : Nat → Value) (r : Addr) (n : Int32) (h0 : Heap) (n0 : Nat) (v : Option Value) (h : Heap) (L : List Loc) : Prop := v = some (.ref r) ∧ Fr n0 L ∧ h = h0
set_option maxRecDepth 65536 in
set_option maxHeartbeats 4000000 in
theorem rm12 (l : Launch) (Z : State) (a0 : Array Value) (hw : ∀ d ∈ tables_1, d.before a0 Z = true) (ws : List Jvm.Cond) (o0 : Addr) (i1 : Int32) (ea : Addr) (gE : Nat → Value) (r : Addr) (n : Int32) (h0 : Heap) (n0 : Nat) (E0 : Exa Z h0 o0 "java/util/ArrayList") (Fs : Fld Z h0 o0 "java/util/ArrayList" "size" "I" (.int n)) (Fe : Fld Z h0 o0 "java/util/ArrayList" "elementData" "[Ljava/lang/Object;" (.ref ea)) (Re : own_RF Z h0 ea "java/lang/Object" 10 gE) (hin : own_In 10 i1) (hg : gE (i1).toNatClampNeg = .ref r) (hi0 : ¬ (i1 < (0 : Int32))) (hi1 : i1 < n) :
    MetFree l (⟨"java/util/ArrayList", "get", "(I)Ljava/lang/Object;"⟩ : MethodName) (head1 (Jvm.Cond.code (⟨"java/util/ArrayList", "get", "(I)Ljava/lang/Object;"⟩ : MethodName) jdk_38_method_20_code 2 (some (.object "java/lang/Object")) :: ws) ({ frames := 2, cells := 0, slots := 0, locals := 30 } : Room)) (fun a U => a = #[(.ref o0), (.int i1)] ∧ Z.Warmed39 U.vm ∧ U.heap = h0) (fun _ _ _ _ _ => True) (fun _ U o U' => ∃ v L, o = .returned v ∧ Q12 Z o0 i1 ea gE r n h0 n0 v U'.heap L ∧ FrameEnd U o U' L ({ frames := 2, cells := 0, slots := 0, locals := 30 } : Room).cells ({ frames := 2, cells := 0, slots := 0, locals := 30 } : Room).slots) := by
  refine MetFree.of_bodySF (plainFor_of_name pnm_2) hisR ?_
  intro p e s m args below meth c s₁ Bd hml0 hP hK
  obtain ⟨rfl, hZ, hh⟩ := hP
  have hx := Bd.exec
  have hby := Bd.bytes
  have hml : c.maxLocals = 2 := hml0
  have hown : s.vm.findClass "java/util/ArrayList" = some m.cls := findClass_of_methodNamed Bd.named
  have X0 : Stand p l e ({ frames := 2, cells := 0, slots := 0, locals := 30 } : Room) s m #[(.ref o0), (.int i1)] below meth c s₁ [] 0 0 := Stand.of_body Bd
  have e0 : s₁.heap = h0 := by rw [← hh, Bd.state]; rfl
  have fin := b12_0 o0 i1 ea gE r n (Q := Q12 Z o0 i1 ea gE r n h0 n0) hw X0 hx hZ hby hml hown Bd.returns (BodyLoose.notSynchronized Bd) e0 (Fr.nil n0) (Nat.zero_le _) (Nat.zero_le _) E0 Fs Fe Re hin hg hi0 hi1 (fun H' L' n' k' => ⟨rfl, n', k'⟩)
  exact own_step (fun t k => castTop (ef_12 m o0 i1) k) fin
theorem own_seqi {t : Jvm.Term} {n : Int32} {args : Array Value} {s : State} (h : (Jvm.Cond.eq t (.int n)).before args s = true) : t.eval args s none [] s = some (.int n) := by
  simp only [Cond.before, Cond.holds, Cond.value] at h
  have hn : (Jvm.Term.int n).eval args s none [] s = some (.int n) := rfl
  rw [hn] at h
  cases hv : t.eval args s none [] s with
  | none => simp [hv] at h
  | some w => cases w <;> simp [hv] at h; rw [h]
theorem own_slen0 {t : Jvm.Term} {a1 : Array Value} {s : State} {D : Addr} {c : Cell} (ev : t.eval a1 s none [] s = some (.ref D)) (hat : s.arrayAt? D = some c) (hb : ¬ c.slots.size < 2 ^ 31) : (Jvm.Term.length t).eval a1 s none [] s = none := by
  simp [Jvm.Term.eval, ev, hat]
  omega
/-- the set AL-clinit: the static empty array -/
theorem own_statics (a1 : Array Value) (s : State) (hsets : ∀ d ∈ jdkStatics_1, d.before a1 s = true) (hini : (Jvm.Cond.initialized "java/util/ArrayList").before a1 s = true) :
    ∃ D : Addr, Sta s s.heap "java/util/ArrayList" "DEFAULTCAPACITY_EMPTY_ELEMENTDATA" "[Ljava/lang/Object;" (.ref D) ∧ own_D s D := by
  have ha := Cond.before_iff.mp (hsets _ (List.mem_of_getElem? (i := 6) rfl))
  have hl := Cond.before_iff.mp (hsets _ (List.mem_of_getElem? (i := 8) rfl))
  have he : ∃ D : Addr, (Jvm.Term.static "java/util/ArrayList" "DEFAULTCAPACITY_EMPTY_ELEMENTDATA" "[Ljava/lang/Object;").eval a1 s none [] s = some (.ref D) := by
    cases hq : (Jvm.Term.static "java/util/ArrayList" "DEFAULTCAPACITY_EMPTY_ELEMENTDATA" "[Ljava/lang/Object;").eval a1 s none [] s with
    | none => simp only [Cond.value, hq] at ha; split at ha <;> cases ha
    | some v =>
      cases v <;> first | exact ⟨_, rfl⟩ | (simp only [Cond.value, hq] at ha; split at ha <;> cases ha)
  obtain ⟨D, ev⟩ := he
  have S := Sta.start ev (Or.inr ⟨hini, hsets _ (List.mem_of_getElem? (i := 2) rfl)⟩)
  obtain ⟨c, A⟩ := Arr.start ev ha
  refine ⟨D, S, c, A, ?_⟩
  have hat : s.arrayAt? D = some c := A.fin (Vm.Alike.refl _)
  have e2 : (Jvm.Term.length (Jvm.Term.static "java/util/ArrayList" "DEFAULTCAPACITY_EMPTY_ELEMENTDATA" "[Ljava/lang/Object;")).eval a1 s none [] s = some (.int 0) := own_seqi (hsets _ (List.mem_of_getElem? (i := 8) rfl))
  by_cases hb : c.slots.size < 2 ^ 31
  · have e3 := len_f ev hat hb
    rw [e2] at e3
    have e4 : (0 : Int32) = c.slots.size.toInt32 := by injection e3 with e; injection e
    have e5 : (c.slots.size.toInt32).toInt = c.slots.size := by
      have : c.slots.size.toInt32 = Int32.ofNat c.slots.size := rfl
      rw [this]
      exact Int32.toInt_ofNat_of_lt (by omega)
    rw [← e4] at e5
    have e6 : (0 : Int32).toInt = 0 := by decide
    omega
  · exfalso
    rw [own_slen0 ev hat hb] at e2
    cases e2
theorem own_t32 (z : Nat) (h : z ≤ 1000) : (z.toInt32).toInt = z := by
  have : z.toInt32 = Int32.ofNat z := rfl
  rw [this]
  exact Int32.toInt_ofNat_of_lt (by omega)
theorem own_acc {x : Int32} {X : Int} (z : Nat) (hx : x.toInt = X) (h0 : 0 ≤ X) (hX : X ≤ 1000) (hz : z ≤ 1000) : (x + z.toInt32).toInt = X + z := by
  have a := own_t32 z hz
  have e := c_iadd x z.toInt32
  have r := rng32 (x + z.toInt32)
  omega
theorem own_z0i : (0 : Int32).toInt = 0 := by decide
def own_S (z0 z1 z2 : Nat) : List Int32 := [(0 : Int32), ((0 : Int32) + (z0.toInt32)), (((0 : Int32) + (z0.toInt32)) + (z1.toInt32)), ((((0 : Int32) + (z0.toInt32)) + (z1.toInt32)) + (z2.toInt32))]
theorem own_s0 (z0 z1 z2 : Nat) (hz0 : z0 ≤ 7) (hz1 : z1 ≤ 7) (hz2 : z2 ≤ 7) : ((0 : Int32)).toInt = 0 := own_z0i
theorem own_sn0 (z0 z1 z2 : Nat) (hz0 : z0 ≤ 7) (hz1 : z1 ≤ 7) (hz2 : z2 ≤ 7) : ¬ ((0 : Int32)) < (0 : Int32) ∧ ((0 : Int32)).toNatClampNeg = 0 := by
  have e := own_s0 z0 z1 z2 hz0 hz1 hz2
  have q : ¬ ((0 : Int32)) < (0 : Int32) := fun y => by
    have := Int32.lt_iff_toInt_lt.mp y
    rw [own_z0i] at this
    omega
  have := nat_of q
  exact ⟨q, by omega⟩
theorem own_s1 (z0 z1 z2 : Nat) (hz0 : z0 ≤ 7) (hz1 : z1 ≤ 7) (hz2 : z2 ≤ 7) : (((0 : Int32) + (z0.toInt32))).toInt = 0 + (z0 : Int) := own_acc z0 (own_z0i) (by omega) (by omega) (by omega)
theorem own_sn1 (z0 z1 z2 : Nat) (hz0 : z0 ≤ 7) (hz1 : z1 ≤ 7) (hz2 : z2 ≤ 7) : ¬ (((0 : Int32) + (z0.toInt32))) < (0 : Int32) ∧ (((0 : Int32) + (z0.toInt32))).toNatClampNeg = 0 + z0 := by
  have e := own_s1 z0 z1 z2 hz0 hz1 hz2
  have q : ¬ (((0 : Int32) + (z0.toInt32))) < (0 : Int32) := fun y => by
    have := Int32.lt_iff_toInt_lt.mp y
    rw [own_z0i] at this
    omega
  have := nat_of q
  exact ⟨q, by omega⟩
theorem own_s2 (z0 z1 z2 : Nat) (hz0 : z0 ≤ 7) (hz1 : z1 ≤ 7) (hz2 : z2 ≤ 7) : ((((0 : Int32) + (z0.toInt32)) + (z1.toInt32))).toInt = 0 + (z0 : Int) + (z1 : Int) := own_acc z1 (own_acc z0 (own_z0i) (by omega) (by omega) (by omega)) (by omega) (by omega) (by omega)
theorem own_sn2 (z0 z1 z2 : Nat) (hz0 : z0 ≤ 7) (hz1 : z1 ≤ 7) (hz2 : z2 ≤ 7) : ¬ ((((0 : Int32) + (z0.toInt32)) + (z1.toInt32))) < (0 : Int32) ∧ ((((0 : Int32) + (z0.toInt32)) + (z1.toInt32))).toNatClampNeg = 0 + z0 + z1 := by
  have e := own_s2 z0 z1 z2 hz0 hz1 hz2
  have q : ¬ ((((0 : Int32) + (z0.toInt32)) + (z1.toInt32))) < (0 : Int32) := fun y => by
    have := Int32.lt_iff_toInt_lt.mp y
    rw [own_z0i] at this
    omega
  have := nat_of q
  exact ⟨q, by omega⟩
theorem own_s3 (z0 z1 z2 : Nat) (hz0 : z0 ≤ 7) (hz1 : z1 ≤ 7) (hz2 : z2 ≤ 7) : (((((0 : Int32) + (z0.toInt32)) + (z1.toInt32)) + (z2.toInt32))).toInt = 0 + (z0 : Int) + (z1 : Int) + (z2 : Int) := own_acc z2 (own_acc z1 (own_acc z0 (own_z0i) (by omega) (by omega) (by omega)) (by omega) (by omega) (by omega)) (by omega) (by omega) (by omega)
theorem own_sn3 (z0 z1 z2 : Nat) (hz0 : z0 ≤ 7) (hz1 : z1 ≤ 7) (hz2 : z2 ≤ 7) : ¬ (((((0 : Int32) + (z0.toInt32)) + (z1.toInt32)) + (z2.toInt32))) < (0 : Int32) ∧ (((((0 : Int32) + (z0.toInt32)) + (z1.toInt32)) + (z2.toInt32))).toNatClampNeg = 0 + z0 + z1 + z2 := by
  have e := own_s3 z0 z1 z2 hz0 hz1 hz2
  have q : ¬ (((((0 : Int32) + (z0.toInt32)) + (z1.toInt32)) + (z2.toInt32))) < (0 : Int32) := fun y => by
    have := Int32.lt_iff_toInt_lt.mp y
    rw [own_z0i] at this
    omega
  have := nat_of q
  exact ⟨q, by omega⟩
theorem own_zl (z : Nat) (h : z ≤ 1000) : (z.toInt32).toNatClampNeg = z ∧ ¬ z.toInt32 < (0 : Int32) := by
  have e := own_t32 z h
  have q : ¬ z.toInt32 < (0 : Int32) := fun y => by
    have := Int32.lt_iff_toInt_lt.mp y
    rw [own_z0i] at this
    omega
  have := nat_of q
  exact ⟨by omega, q⟩
theorem d10_0 : decode prog_60_method_1_code 0 = .ok (.aload_n 0, 1) := by decide +kernel
theorem d10_1 : decode prog_60_method_1_code 1 = .ok (.invokespecial 1, 3) := by decide +kernel
theorem d10_4 : decode prog_60_method_1_code 4 = .ok (.aload_n 0, 1) := by decide +kernel
theorem d10_5 : decode prog_60_method_1_code 5 = .ok (.aload_n 1, 1) := by decide +kernel
theorem d10_6 : decode prog_60_method_1_code 6 = .ok (.invokeinterface 7 1, 5) := by decide +kernel
theorem d10_11 : decode prog_60_method_1_code 11 = .ok (.iconst 1, 1) := by decide +kernel
theorem d10_12 : decode prog_60_method_1_code 12 = .ok (.iadd, 1) := by decide +kernel
theorem d10_13 : decode prog_60_method_1_code 13 = .ok (.newarray .int, 2) := by decide +kernel
theorem d10_15 : decode prog_60_method_1_code 15 = .ok (.putfield 13, 3) := by decide +kernel
theorem d10_18 : decode prog_60_method_1_code 18 = .ok (.iconst 0, 1) := by decide +kernel
theorem d10_19 : decode prog_60_method_1_code 19 = .ok (.istore_n 2, 1) := by decide +kernel
theorem d10_20 : decode prog_60_method_1_code 20 = .ok (.iload_n 2, 1) := by decide +kernel
theorem d10_21 : decode prog_60_method_1_code 21 = .ok (.aload_n 1, 1) := by decide +kernel
theorem d10_22 : decode prog_60_method_1_code 22 = .ok (.invokeinterface 7 1, 5) := by decide +kernel
theorem d10_27 : decode prog_60_method_1_code 27 = .ok (.if_icmp .ge 35, 3) := by decide +kernel
theorem d10_30 : decode prog_60_method_1_code 30 = .ok (.aload_n 0, 1) := by decide +kernel
theorem d10_31 : decode prog_60_method_1_code 31 = .ok (.getfield 13, 3) := by decide +kernel
theorem d10_34 : decode prog_60_method_1_code 34 = .ok (.iload_n 2, 1) := by decide +kernel
theorem d10_35 : decode prog_60_method_1_code 35 = .ok (.iconst 1, 1) := by decide +kernel
theorem d10_36 : decode prog_60_method_1_code 36 = .ok (.iadd, 1) := by decide +kernel
theorem d10_37 : decode prog_60_method_1_code 37 = .ok (.aload_n 0, 1) := by decide +kernel
theorem d10_38 : decode prog_60_method_1_code 38 = .ok (.getfield 13, 3) := by decide +kernel
theorem d10_41 : decode prog_60_method_1_code 41 = .ok (.iload_n 2, 1) := by decide +kernel
theorem d10_42 : decode prog_60_method_1_code 42 = .ok (.iaload, 1) := by decide +kernel
theorem d10_43 : decode prog_60_method_1_code 43 = .ok (.aload_n 1, 1) := by decide +kernel
theorem d10_44 : decode prog_60_method_1_code 44 = .ok (.iload_n 2, 1) := by decide +kernel
theorem d10_45 : decode prog_60_method_1_code 45 = .ok (.invokeinterface 19 2, 5) := by decide +kernel
theorem d10_50 : decode prog_60_method_1_code 50 = .ok (.checkcast 23, 3) := by decide +kernel
theorem d10_53 : decode prog_60_method_1_code 53 = .ok (.arraylength, 1) := by decide +kernel
theorem d10_54 : decode prog_60_method_1_code 54 = .ok (.iadd, 1) := by decide +kernel
theorem d10_55 : decode prog_60_method_1_code 55 = .ok (.iastore, 1) := by decide +kernel
theorem d10_56 : decode prog_60_method_1_code 56 = .ok (.iinc 2 1, 3) := by decide +kernel
theorem d10_59 : decode prog_60_method_1_code 59 = .ok (.goto (-39), 3) := by decide +kernel
theorem d10_62 : decode prog_60_method_1_code 62 = .ok (.aload_n 0, 1) := by decide +kernel
theorem d10_63 : decode prog_60_method_1_code 63 = .ok (.aload_n 0, 1) := by decide +kernel
theorem d10_64 : decode prog_60_method_1_code 64 = .ok (.getfield 13, 3) := by decide +kernel
theorem d10_67 : decode prog_60_method_1_code 67 = .ok (.aload_n 1, 1) := by decide +kernel
theorem d10_68 : decode prog_60_method_1_code 68 = .ok (.invokeinterface 7 1, 5) := by decide +kernel
theorem d10_73 : decode prog_60_method_1_code 73 = .ok (.iaload, 1) := by decide +kernel
theorem d10_74 : decode prog_60_method_1_code 74 = .ok (.newarray .int, 2) := by decide +kernel
theorem d10_76 : decode prog_60_method_1_code 76 = .ok (.putfield 24, 3) := by decide +kernel
theorem d10_79 : decode prog_60_method_1_code 79 = .ok (.iconst 0, 1) := by decide +kernel
theorem d10_80 : decode prog_60_method_1_code 80 = .ok (.istore_n 2, 1) := by decide +kernel
theorem d10_81 : decode prog_60_method_1_code 81 = .ok (.iload_n 2, 1) := by decide +kernel
theorem d10_82 : decode prog_60_method_1_code 82 = .ok (.aload_n 1, 1) := by decide +kernel
theorem d10_83 : decode prog_60_method_1_code 83 = .ok (.invokeinterface 7 1, 5) := by decide +kernel
theorem d10_88 : decode prog_60_method_1_code 88 = .ok (.if_icmp .ge 41, 3) := by decide +kernel
theorem d10_91 : decode prog_60_method_1_code 91 = .ok (.aload_n 1, 1) := by decide +kernel
theorem d10_92 : decode prog_60_method_1_code 92 = .ok (.iload_n 2, 1) := by decide +kernel
theorem d10_93 : decode prog_60_method_1_code 93 = .ok (.invokeinterface 19 2, 5) := by decide +kernel
theorem d10_98 : decode prog_60_method_1_code 98 = .ok (.iconst 0, 1) := by decide +kernel
theorem d10_99 : decode prog_60_method_1_code 99 = .ok (.aload_n 0, 1) := by decide +kernel
theorem d10_100 : decode prog_60_method_1_code 100 = .ok (.getfield 24, 3) := by decide +kernel
theorem d10_103 : decode prog_60_method_1_code 103 = .ok (.aload_n 0, 1) := by decide +kernel
theorem d10_104 : decode prog_60_method_1_code 104 = .ok (.getfield 13, 3) := by decide +kernel
theorem d10_107 : decode prog_60_method_1_code 107 = .ok (.iload_n 2, 1) := by decide +kernel
theorem d10_108 : decode prog_60_method_1_code 108 = .ok (.iaload, 1) := by decide +kernel
theorem d10_109 : decode prog_60_method_1_code 109 = .ok (.aload_n 1, 1) := by decide +kernel
theorem d10_110 : decode prog_60_method_1_code 110 = .ok (.iload_n 2, 1) := by decide +kernel
theorem d10_111 : decode prog_60_method_1_code 111 = .ok (.invokeinterface 19 2, 5) := by decide +kernel
theorem d10_116 : decode prog_60_method_1_code 116 = .ok (.checkcast 23, 3) := by decide +kernel
theorem d10_119 : decode prog_60_method_1_code 119 = .ok (.arraylength, 1) := by decide +kernel
theorem d10_120 : decode prog_60_method_1_code 120 = .ok (.invokestatic 27, 3) := by decide +kernel
theorem d10_123 : decode prog_60_method_1_code 123 = .ok (.iinc 2 1, 3) := by decide +kernel
theorem d10_126 : decode prog_60_method_1_code 126 = .ok (.goto (-45), 3) := by decide +kernel
theorem d10_129 : decode prog_60_method_1_code 129 = .ok (.return_, 1) := by decide +kernel
set_option maxRecDepth 65536 in
set_option maxHeartbeats 40000000 in
theorem b10_0 {p : Program} {l : Launch} {e : Env} {s : State} {m : MethodId} {args : Array Value} {below : List Frame} {meth : Method} {c : Code} {T : State} {locs : List Loc} {cells slots : Nat} {Z : State} {a0 : Array Value} {h : Heap} {n0 : Nat} {Q : Option Value → Heap → List Loc → Prop} (o0 : Addr) (o1 : Addr) (ust : Value) (uva : Value) (um : Value) (ea : Addr) (gE : Nat → Value) (r0 : Addr) (z0 : Nat) (g0 : Nat → Int32) (r1 : Addr) (z1 : Nat) (g1 : Nat → Int32) (r2 : Addr) (z2 : Nat) (g2 : Nat → Int32) (hw : ∀ d ∈ tables_1, d.before a0 Z = true) (X : Stand p l e ({ frames := 3, cells := 2, slots := 25, locals := 90 } : Room) s m args below meth c T locs cells slots) (hx : p.tables.exec = Jvm.exec) (hZ : Z.Warmed39 s.vm) (hby : c.code = prog_60_method_1_code) (hml : c.maxLocals = 3) (hown : s.vm.findClass "com/example/libentitle/libentitle/role/Rows" = some m.cls) (hret : meth.sig.returnType = none) (hlk : meth.locks = false) (hnm : meth.name = "<init>") (eT : T.heap = h) (N : Fr n0 locs) (hc : cells ≤ 0) (hs : slots ≤ 0) (Z0 : n0 ≤ h.size) (fr0 : n0 ≤ o0) (Er : Exa Z h o0 "com/example/libentitle/libentitle/role/Rows") (Fst : Fld Z h o0 "com/example/libentitle/libentitle/role/Rows" "starts" "[I" ust) (Fva : Fld Z h o0 "com/example/libentitle/libentitle/role/Rows" "values" "[I" uva) (E0 : Exa Z h o1 "java/util/ArrayList") (Fm : Fld Z h o1 "java/util/AbstractList" "modCount" "I" um) (Fe : Fld Z h o1 "java/util/ArrayList" "elementData" "[Ljava/lang/Object;" (.ref ea)) (Fs : Fld Z h o1 "java/util/ArrayList" "size" "I" (.int (3 : Int32))) (Re : own_RF Z h ea "java/lang/Object" 10 gE) (A0 : own_AF Z h r0 .int z0 g0) (Xr0 : Exa Z h r0 "[I") (hg0 : gE 0 = .ref r0) (hz0 : z0 ≤ 7) (A1 : own_AF Z h r1 .int z1 g1) (Xr1 : Exa Z h r1 "[I") (hg1 : gE 1 = .ref r1) (hz1 : z1 ≤ 7) (A2 : own_AF Z h r2 .int z2 g2) (Xr2 : Exa Z h r2 "[I") (hg2 : gE 2 = .ref r2) (hz2 : z2 ≤ 7) (nel : o1 ≠ o0) (nee : ea ≠ o0) (ne0 : r0 ≠ o0) (ne1 : r1 ≠ o0) (ne2 : r2 ≠ o0) (hQ : ∀ (H' : Heap) (L' : List Loc) (bs : Addr) (bv : Addr) (gs : Nat → Int32) (gv : Nat → Int32), Fr n0 L' → Keep h H' [o0] → n0 ≤ bs → h.size ≤ bs → n0 ≤ bv → h.size ≤ bv → bs ≠ bv → own_AF Z H' bs .int 4 gs → own_AF Z H' bv .int (0 + z0 + z1 + z2) gv → gs 0 = (0 : Int32) → gs 1 = ((0 : Int32) + (z0.toInt32)) → gs 2 = (((0 : Int32) + (z0.toInt32)) + (z1.toInt32)) → gs 3 = ((((0 : Int32) + (z0.toInt32)) + (z1.toInt32)) + (z2.toInt32)) → Exa Z H' o0 "com/example/libentitle/libentitle/role/Rows" → Fld Z H' o0 "com/example/libentitle/libentitle/role/Rows" "starts" "[I" (.ref bs) → Fld Z H' o0 "com/example/libentitle/libentitle/role/Rows" "values" "[I" (.ref bv) → Q none H' L') :
    own_Fin p e below s Q 2 25 (T.setTop (mkF m 0 #[.val (.ref o0), .val (.ref o1), .unset] [])) := by
  refine own_step (fun t k => XS.aloadN X.here hx rfl (hb hby d10_0) rfl rfl k) ?_
  show own_Fin p e below s Q 2 25 (T.setTop (mkF m 1 #[.val (.ref o0), .val (.ref o1), .unset] [(.ref o0)]))
  obtain ⟨T46, X46, e46, st46⟩ := initO X hx hZ hown (hw _ (List.mem_of_getElem? (i := 64) rfl)) (hw _ (List.mem_of_getElem? (i := 20) rfl)) (hw _ (List.mem_of_getElem? (i := 21) rfl)) eT (g := (mkF m 1 #[.val (.ref o0), .val (.ref o1), .unset] [(.ref o0)])) rfl (by rw [hml]; rfl) rfl (hb hby d10_1) (by decide) (W := 0) (by show 2 * 0 + _ ≤ _; exact Nat.le_of_eq rfl) (by decide)
  refine own_step st46 ?_
  show own_Fin p e below s Q 2 25 (T46.setTop (mkF m 4 #[.val (.ref o0), .val (.ref o1), .unset] []))
  refine own_step (fun t k => XS.aloadN X46.here hx rfl (hb hby d10_4) rfl rfl k) ?_
  show own_Fin p e below s Q 2 25 (T46.setTop (mkF m 5 #[.val (.ref o0), .val (.ref o1), .unset] [(.ref o0)]))
  refine own_step (fun t k => XS.aloadN X46.here hx rfl (hb hby d10_5) rfl rfl k) ?_
  show own_Fin p e below s Q 2 25 (T46.setTop (mkF m 6 #[.val (.ref o0), .val (.ref o1), .unset] [(.ref o1), (.ref o0)]))
  obtain ⟨cq47, kq47, q47a, q47b, q47c⟩ := isOf hZ e46 E0
  obtain ⟨_, _, ⟨T47, L47, k47, n47⟩, -, X47, ⟨Lc47, hQ47, l47, y47, z47⟩, st47⟩ := X46.interfaceBack hx (xi := (⟨"java/util/List", "size", "()I"⟩ : MethodName)) (y := (⟨"java/util/ArrayList", "size", "()I"⟩ : MethodName)) hown (mvT hZ (hw _ (List.mem_of_getElem? (i := 65) rfl))) (mvT hZ (hw _ (List.mem_of_getElem? (i := 66) rfl))) (mvT hZ (hw _ (List.mem_of_getElem? (i := 67) rfl))) (mvT hZ (hw _ (List.mem_of_getElem? (i := 68) rfl))) (mvT hZ (hw _ (List.mem_of_getElem? (i := 69) rfl))) (mvT hZ (hw _ (List.mem_of_getElem? (i := 70) rfl))) (mvT hZ (hw _ (List.mem_of_getElem? (i := 71) rfl))) (mvT hZ (hw _ (List.mem_of_getElem? (i := 72) rfl))) (by decide) (backOf (W := 1) (rm11 l Z a0 hw [] o1 (3 : Int32) h n0 Fs) hZ (hw _ (List.mem_of_getElem? (i := 73) rfl)) (hw _ (List.mem_of_getElem? (i := 3) rfl)) (by decide) (by decide)) q47a q47b q47c (g := (mkF m 6 #[.val (.ref o0), .val (.ref o1), .unset] [(.ref o1), (.ref o0)])) rfl (by rw [hml]; rfl) (Steps.refl _) (argsL := []) (rest := [(.ref o0)]) (lenOf pdm_6 rfl) rfl (by show 2 * 0 + _ ≤ _; exact Nat.le_of_eq rfl) (hb hby d10_6) (fun _ _ => ⟨rfl, e46, (show cells + 0 ≤ 2 from (Nat.le_trans (Nat.add_le_add_right hc 0) (by decide))), (show slots + 0 ≤ 25 from (Nat.le_trans (Nat.add_le_add_right hs 0) (by decide)))⟩)
  dsimp only [Pt.U, Pt.locs, Pt.cells, Pt.slots] at X47 l47 y47 z47 st47 hQ47
  have yy47 : k47 = cells + 0 := y47
  have zz47 : n47 = slots + 0 := z47
  rw [yy47, zz47, l47] at X47
  obtain ⟨rfl, N47q, e47⟩ := hQ47
  have N47 := Fr.app N N47q
  refine own_step (fun t k => st47.trans k) ?_
  show own_Fin p e below s Q 2 25 (T47.setTop (mkF m 11 #[.val (.ref o0), .val (.ref o1), .unset] [(.int (3 : Int32)), (.ref o0)]))
  refine own_step (fun t k => XS.iconst X47.here hx rfl (hb hby d10_11) k) ?_
  show own_Fin p e below s Q 2 25 (T47.setTop (mkF m 12 #[.val (.ref o0), .val (.ref o1), .unset] [(.int (1 : Int32)), (.int (3 : Int32)), (.ref o0)]))
  refine own_step (fun t k => XS.iadd X47.here hx rfl (hb hby d10_12) rfl k) ?_
  show own_Fin p e below s Q 2 25 (T47.setTop (mkF m 13 #[.val (.ref o0), .val (.ref o1), .unset] [(.int (4 : Int32)), (.ref o0)]))
  obtain ⟨T48, h48, k48, X48, e48, E48, AA48, XX48, st48⟩ := newPE X47 hx hZ (hw _ (List.mem_of_getElem? (i := 0) rfl)) e47 (g := (mkF m 13 #[.val (.ref o0), .val (.ref o1), .unset] [(.int (4 : Int32)), (.ref o0)])) rfl (hb hby d10_13) rfl (by decide) (cap := 4) (by decide) (by decide) (show cells + 0 + 1 ≤ 2 from (Nat.le_trans (Nat.add_le_add_right hc 1) (by decide))) (show slots + 0 + 4 ≤ 25 from (Nat.le_trans (Nat.add_le_add_right hs 4) (by decide))) (ad := "[I") (by decide)
  obtain ⟨b48, gg48⟩ : ∃ z, z = h.size := ⟨_, rfl⟩
  rw [← gg48] at AA48 XX48 st48
  have V48 : own_AF Z h48 b48 .int 4 (fun _ => 0) := own_AFnew AA48 (by decide)
  have fr48 : n0 ≤ b48 := Nat.le_trans Z0 (Nat.le_of_eq gg48.symm)
  have Z048 : n0 ≤ h48.size := Nat.le_trans Z0 E48.1
  have ner0_48 : r0 ≠ b48 := Nat.ne_of_lt (Nat.lt_of_lt_of_le A0.lt (Nat.le_of_eq gg48.symm))
  have ner1_48 : r1 ≠ b48 := Nat.ne_of_lt (Nat.lt_of_lt_of_le A1.lt (Nat.le_of_eq gg48.symm))
  have ner2_48 : r2 ≠ b48 := Nat.ne_of_lt (Nat.lt_of_lt_of_le A2.lt (Nat.le_of_eq gg48.symm))
  have neo0_48 : o0 ≠ b48 := Nat.ne_of_lt (Nat.lt_of_lt_of_le Er.lt (Nat.le_of_eq gg48.symm))
  have neo1_48 : o1 ≠ b48 := Nat.ne_of_lt (Nat.lt_of_lt_of_le E0.lt (Nat.le_of_eq gg48.symm))
  have sz48 : h.size ≤ b48 := Nat.le_trans (Keep.refl h [o0]).1 (Nat.le_of_eq gg48.symm)
  have neea_48 : ea ≠ b48 := Nat.ne_of_lt (Nat.lt_of_lt_of_le Re.lt (Nat.le_of_eq gg48.symm))
  have V48_r0 := own_AFext A0 E48
  have V48_r1 := own_AFext A1 E48
  have V48_r2 := own_AFext A2 E48
  have Ex48_o0 := Er.ext E48
  have F48_o0_starts := Fst.ext E48
  have F48_o0_values := Fva.ext E48
  have Ex48_o1 := E0.ext E48
  have F48_o1_modCount := Fm.ext E48
  have F48_o1_elementData := Fe.ext E48
  have F48_o1_size := Fs.ext E48
  have Xa48_r0 := Xr0.ext E48
  have Xa48_r1 := Xr1.ext E48
  have Xa48_r2 := Xr2.ext E48
  have R48_ea := own_RFext Re E48
  have K48 : Keep h h48 [o0] := (Keep.refl h [o0]).ext E48
  refine own_step st48 ?_
  show own_Fin p e below s Q 2 25 (T48.setTop (mkF m 15 #[.val (.ref o0), .val (.ref o1), .unset] [(.ref b48), (.ref o0)]))
  obtain ⟨T49, h49, X49, e49, W49, st49⟩ := putF X48 hx hZ hown (host := "") (Or.inl (hw _ (List.mem_of_getElem? (i := 74) rfl))) Via.refl e48 F48_o0_starts Ex48_o0 (Or.inr ⟨(hw _ (List.mem_of_getElem? (i := 75) rfl)), rfl, hnm⟩) (hw _ (List.mem_of_getElem? (i := 59) rfl)) (ty := (.array .int)) (by decide) rfl rfl (g := (mkF m 15 #[.val (.ref o0), .val (.ref o1), .unset] [(.ref b48), (.ref o0)])) rfl rfl (hb hby d10_15)
  have N49 := Fr.snoc X49 N47 fr0
  have Z049 : n0 ≤ h49.size := Nat.le_trans Z048 (Nat.le_of_eq W49.size.symm)
  have V49_r0 := own_AFoth V48_r0 W49 ne0
  have V49_r1 := own_AFoth V48_r1 W49 ne1
  have V49_r2 := own_AFoth V48_r2 W49 ne2
  have V49_b48 := own_AFoth V48 W49 (Ne.symm neo0_48)
  have Ex49_o1 := Ex48_o1.wr W49
  have F49_o1_modCount := F48_o1_modCount.other W49 (Or.inl nel)
  have F49_o1_elementData := F48_o1_elementData.other W49 (Or.inl nel)
  have F49_o1_size := F48_o1_size.other W49 (Or.inl nel)
  have Xa49_r0 := Xa48_r0.wr W49
  have Xa49_r1 := Xa48_r1.wr W49
  have Xa49_r2 := Xa48_r2.wr W49
  have Xa49_b48 := XX48.wr W49
  have R49_ea := own_RFoth R48_ea W49 nee
  have K49 : Keep h h49 [o0] := K48.wr W49 (Or.inl (List.mem_of_getElem? (i := 0) rfl))
  have Ex49_o0 := Ex48_o0.wr W49
  have F49_o0_starts := F48_o0_starts.same W49
  have F49_o0_values := F48_o0_values.other W49 (Or.inr (slot_ne (Or.inr (hw _ (List.mem_of_getElem? (i := 100) rfl))) (Or.inr (hw _ (List.mem_of_getElem? (i := 75) rfl))) (by decide) (t := (.array .int)) (t' := (.array .int)) (by decide) (by decide)))
  refine own_step st49 ?_
  show own_Fin p e below s Q 2 25 (T49.setTop (mkF m 18 #[.val (.ref o0), .val (.ref o1), .unset] []))
  refine own_step (fun t k => XS.iconst X49.here hx rfl (hb hby d10_18) k) ?_
  show own_Fin p e below s Q 2 25 (T49.setTop (mkF m 19 #[.val (.ref o0), .val (.ref o1), .unset] [(.int (0 : Int32))]))
  refine own_step (fun t k => XS.istoreN X49.here hx rfl (hb hby d10_19) rfl (l' := #[.val (.ref o0), .val (.ref o1), .val (.int (0 : Int32))]) rfl k) ?_
  show own_Fin p e below s Q 2 25 (T49.setTop (mkF m 20 #[.val (.ref o0), .val (.ref o1), .val (.int (0 : Int32))] []))
  refine own_step (fun t k => XS.iloadN X49.here hx rfl (hb hby d10_20) rfl  k) ?_
  show own_Fin p e below s Q 2 25 (T49.setTop (mkF m 21 #[.val (.ref o0), .val (.ref o1), .val (.int (0 : Int32))] [(.int (0 : Int32))]))
  refine own_step (fun t k => XS.aloadN X49.here hx rfl (hb hby d10_21) rfl rfl k) ?_
  show own_Fin p e below s Q 2 25 (T49.setTop (mkF m 22 #[.val (.ref o0), .val (.ref o1), .val (.int (0 : Int32))] [(.ref o1), (.int (0 : Int32))]))
  obtain ⟨cq50, kq50, q50a, q50b, q50c⟩ := isOf hZ e49 Ex49_o1
  obtain ⟨_, _, ⟨T50, L50, k50, n50⟩, -, X50, ⟨Lc50, hQ50, l50, y50, z50⟩, st50⟩ := X49.interfaceBack hx (xi := (⟨"java/util/List", "size", "()I"⟩ : MethodName)) (y := (⟨"java/util/ArrayList", "size", "()I"⟩ : MethodName)) hown (mvT hZ (hw _ (List.mem_of_getElem? (i := 65) rfl))) (mvT hZ (hw _ (List.mem_of_getElem? (i := 66) rfl))) (mvT hZ (hw _ (List.mem_of_getElem? (i := 67) rfl))) (mvT hZ (hw _ (List.mem_of_getElem? (i := 68) rfl))) (mvT hZ (hw _ (List.mem_of_getElem? (i := 69) rfl))) (mvT hZ (hw _ (List.mem_of_getElem? (i := 70) rfl))) (mvT hZ (hw _ (List.mem_of_getElem? (i := 71) rfl))) (mvT hZ (hw _ (List.mem_of_getElem? (i := 72) rfl))) (by decide) (backOf (W := 1) (rm11 l Z a0 hw [] o1 (3 : Int32) h49 n0 F49_o1_size) hZ (hw _ (List.mem_of_getElem? (i := 73) rfl)) (hw _ (List.mem_of_getElem? (i := 3) rfl)) (by decide) (by decide)) q50a q50b q50c (g := (mkF m 22 #[.val (.ref o0), .val (.ref o1), .val (.int (0 : Int32))] [(.ref o1), (.int (0 : Int32))])) rfl (by rw [hml]; rfl) (Steps.refl _) (argsL := []) (rest := [(.int (0 : Int32))]) (lenOf pdm_6 rfl) rfl (by show 2 * 0 + _ ≤ _; exact Nat.le_of_eq rfl) (hb hby d10_22) (fun _ _ => ⟨rfl, e49, (show cells + 0 + 1 + 0 ≤ 2 from (Nat.le_trans (Nat.add_le_add_right hc 1) (by decide))), (show slots + 0 + 4 + 0 ≤ 25 from (Nat.le_trans (Nat.add_le_add_right hs 4) (by decide)))⟩)
  dsimp only [Pt.U, Pt.locs, Pt.cells, Pt.slots] at X50 l50 y50 z50 st50 hQ50
  have yy50 : k50 = cells + 0 + 1 + 0 := y50
  have zz50 : n50 = slots + 0 + 4 + 0 := z50
  rw [yy50, zz50, l50] at X50
  obtain ⟨rfl, N50q, e50⟩ := hQ50
  have N50 := Fr.app N49 N50q
  refine own_step (fun t k => st50.trans k) ?_
  show own_Fin p e below s Q 2 25 (T50.setTop (mkF m 27 #[.val (.ref o0), .val (.ref o1), .val (.int (0 : Int32))] [(.int (3 : Int32)), (.int (0 : Int32))]))
  refine own_step (fun t k => XS.icmpNo X50.here hx rfl (hb hby d10_27) rfl (tlt (by decide : (0 : Int32) < (3 : Int32))).2.1 k) ?_
  show own_Fin p e below s Q 2 25 (T50.setTop (mkF m 30 #[.val (.ref o0), .val (.ref o1), .val (.int (0 : Int32))] []))
  refine own_step (fun t k => XS.aloadN X50.here hx rfl (hb hby d10_30) rfl rfl k) ?_
  show own_Fin p e below s Q 2 25 (T50.setTop (mkF m 31 #[.val (.ref o0), .val (.ref o1), .val (.int (0 : Int32))] [(.ref o0)]))
  obtain ⟨T51, X51, e51, st51⟩ := getF X50 hx hZ hown (host := "") (Or.inl (hw _ (List.mem_of_getElem? (i := 74) rfl))) Via.refl e50 F49_o0_starts (g := (mkF m 31 #[.val (.ref o0), .val (.ref o1), .val (.int (0 : Int32))] [(.ref o0)])) rfl rfl (hb hby d10_31)
  refine own_step st51 ?_
  show own_Fin p e below s Q 2 25 (T51.setTop (mkF m 34 #[.val (.ref o0), .val (.ref o1), .val (.int (0 : Int32))] [(.ref b48)]))
  refine own_step (fun t k => XS.iloadN X51.here hx rfl (hb hby d10_34) rfl  k) ?_
  show own_Fin p e below s Q 2 25 (T51.setTop (mkF m 35 #[.val (.ref o0), .val (.ref o1), .val (.int (0 : Int32))] [(.int (0 : Int32)), (.ref b48)]))
  refine own_step (fun t k => XS.iconst X51.here hx rfl (hb hby d10_35) k) ?_
  show own_Fin p e below s Q 2 25 (T51.setTop (mkF m 36 #[.val (.ref o0), .val (.ref o1), .val (.int (0 : Int32))] [(.int (1 : Int32)), (.int (0 : Int32)), (.ref b48)]))
  refine own_step (fun t k => XS.iadd X51.here hx rfl (hb hby d10_36) rfl k) ?_
  show own_Fin p e below s Q 2 25 (T51.setTop (mkF m 37 #[.val (.ref o0), .val (.ref o1), .val (.int (0 : Int32))] [(.int (1 : Int32)), (.ref b48)]))
  refine own_step (fun t k => XS.aloadN X51.here hx rfl (hb hby d10_37) rfl rfl k) ?_
  show own_Fin p e below s Q 2 25 (T51.setTop (mkF m 38 #[.val (.ref o0), .val (.ref o1), .val (.int (0 : Int32))] [(.ref o0), (.int (1 : Int32)), (.ref b48)]))
  obtain ⟨T52, X52, e52, st52⟩ := getF X51 hx hZ hown (host := "") (Or.inl (hw _ (List.mem_of_getElem? (i := 74) rfl))) Via.refl e51 F49_o0_starts (g := (mkF m 38 #[.val (.ref o0), .val (.ref o1), .val (.int (0 : Int32))] [(.ref o0), (.int (1 : Int32)), (.ref b48)])) rfl rfl (hb hby d10_38)
  refine own_step st52 ?_
  show own_Fin p e below s Q 2 25 (T52.setTop (mkF m 41 #[.val (.ref o0), .val (.ref o1), .val (.int (0 : Int32))] [(.ref b48), (.int (1 : Int32)), (.ref b48)]))
  refine own_step (fun t k => XS.iloadN X52.here hx rfl (hb hby d10_41) rfl  k) ?_
  show own_Fin p e below s Q 2 25 (T52.setTop (mkF m 42 #[.val (.ref o0), .val (.ref o1), .val (.int (0 : Int32))] [(.int (0 : Int32)), (.ref b48), (.int (1 : Int32)), (.ref b48)]))
  obtain ⟨ca42, Ar42, Sz42, Ht42⟩ := id V49_b48
  have hin42 : ¬ ((0 : Int32) < 0 ∨ ca42.slots.size ≤ ((0 : Int32)).toNatClampNeg) := by rw [Sz42]; exact (by decide)
  refine own_step (X52.iaload hx (j := (0 : Int32)) (v := (.int ((fun _ => 0) ((0 : Int32)).toNatClampNeg))) (by rw [e52]; exact Ar42.1) (State.isArrayOf_alike hZ.alike Ar42.2.1) Ar42.2.2 hin42 (Ht42 _ (by have hq := Nat.lt_of_not_le (fun y => hin42 (Or.inr y)); rw [Sz42] at hq; exact hq)) (g := (mkF m 42 #[.val (.ref o0), .val (.ref o1), .val (.int (0 : Int32))] [(.int (0 : Int32)), (.ref b48), (.int (1 : Int32)), (.ref b48)])) rfl rfl (hb hby d10_42)) ?_
  show own_Fin p e below s Q 2 25 (T52.setTop (mkF m 43 #[.val (.ref o0), .val (.ref o1), .val (.int (0 : Int32))] [(.int ((fun _ => 0) ((0 : Int32)).toNatClampNeg)), (.int (1 : Int32)), (.ref b48)]))
  refine own_step (fun t k => XS.aloadN X52.here hx rfl (hb hby d10_43) rfl rfl k) ?_
  show own_Fin p e below s Q 2 25 (T52.setTop (mkF m 44 #[.val (.ref o0), .val (.ref o1), .val (.int (0 : Int32))] [(.ref o1), (.int ((fun _ => 0) ((0 : Int32)).toNatClampNeg)), (.int (1 : Int32)), (.ref b48)]))
  refine own_step (fun t k => XS.iloadN X52.here hx rfl (hb hby d10_44) rfl  k) ?_
  show own_Fin p e below s Q 2 25 (T52.setTop (mkF m 45 #[.val (.ref o0), .val (.ref o1), .val (.int (0 : Int32))] [(.int (0 : Int32)), (.ref o1), (.int ((fun _ => 0) ((0 : Int32)).toNatClampNeg)), (.int (1 : Int32)), (.ref b48)]))
  obtain ⟨cq53, kq53, q53a, q53b, q53c⟩ := isOf hZ e52 Ex49_o1
  obtain ⟨_, _, ⟨T53, L53, k53, n53⟩, -, X53, ⟨Lc53, hQ53, l53, y53, z53⟩, st53⟩ := X52.interfaceBack hx (xi := (⟨"java/util/List", "get", "(I)Ljava/lang/Object;"⟩ : MethodName)) (y := (⟨"java/util/ArrayList", "get", "(I)Ljava/lang/Object;"⟩ : MethodName)) hown (mvT hZ (hw _ (List.mem_of_getElem? (i := 76) rfl))) (mvT hZ (hw _ (List.mem_of_getElem? (i := 77) rfl))) (mvT hZ (hw _ (List.mem_of_getElem? (i := 78) rfl))) (mvT hZ (hw _ (List.mem_of_getElem? (i := 79) rfl))) (mvT hZ (hw _ (List.mem_of_getElem? (i := 80) rfl))) (mvT hZ (hw _ (List.mem_of_getElem? (i := 81) rfl))) (mvT hZ (hw _ (List.mem_of_getElem? (i := 82) rfl))) (mvT hZ (hw _ (List.mem_of_getElem? (i := 72) rfl))) (by decide) (backOf (W := 3) (rm12 l Z a0 hw [] o1 (0 : Int32) ea gE r0 (3 : Int32) h49 n0 Ex49_o1 F49_o1_size F49_o1_elementData R49_ea (by unfold own_In; decide) hg0 (by decide) (by decide)) hZ (hw _ (List.mem_of_getElem? (i := 83) rfl)) (hw _ (List.mem_of_getElem? (i := 3) rfl)) (by decide) (by decide)) q53a q53b q53c (g := (mkF m 45 #[.val (.ref o0), .val (.ref o1), .val (.int (0 : Int32))] [(.int (0 : Int32)), (.ref o1), (.int ((fun _ => 0) ((0 : Int32)).toNatClampNeg)), (.int (1 : Int32)), (.ref b48)])) rfl (by rw [hml]; rfl) (Steps.refl _) (argsL := [(.int (0 : Int32))]) (rest := [(.int ((fun _ => 0) ((0 : Int32)).toNatClampNeg)), (.int (1 : Int32)), (.ref b48)]) (lenOf pdm_8 rfl) rfl (by show 2 * 0 + _ ≤ _; exact Nat.le_of_eq rfl) (hb hby d10_45) (fun _ _ => ⟨rfl, e52, (show cells + 0 + 1 + 0 + 0 ≤ 2 from (Nat.le_trans (Nat.add_le_add_right hc 1) (by decide))), (show slots + 0 + 4 + 0 + 0 ≤ 25 from (Nat.le_trans (Nat.add_le_add_right hs 4) (by decide)))⟩)
  dsimp only [Pt.U, Pt.locs, Pt.cells, Pt.slots] at X53 l53 y53 z53 st53 hQ53
  have yy53 : k53 = cells + 0 + 1 + 0 + 0 := y53
  have zz53 : n53 = slots + 0 + 4 + 0 + 0 := z53
  rw [yy53, zz53, l53] at X53
  obtain ⟨rfl, N53q, e53⟩ := hQ53
  have N53 := Fr.app N50 N53q
  refine own_step (fun t k => st53.trans k) ?_
  show own_Fin p e below s Q 2 25 (T53.setTop (mkF m 50 #[.val (.ref o0), .val (.ref o1), .val (.int (0 : Int32))] [(.ref r0), (.int ((fun _ => 0) ((0 : Int32)).toNatClampNeg)), (.int (1 : Int32)), (.ref b48)]))
  obtain ⟨T54, X54, e54, st54⟩ := castY X53 hx hZ hown (hw _ (List.mem_of_getElem? (i := 97) rfl)) e53 (Ins.of_exa Xa49_r0 (hw _ (List.mem_of_getElem? (i := 98) rfl))) (g := (mkF m 50 #[.val (.ref o0), .val (.ref o1), .val (.int (0 : Int32))] [(.ref r0), (.int ((fun _ => 0) ((0 : Int32)).toNatClampNeg)), (.int (1 : Int32)), (.ref b48)])) rfl rfl (hb hby d10_50)
  refine own_step st54 ?_
  show own_Fin p e below s Q 2 25 (T54.setTop (mkF m 53 #[.val (.ref o0), .val (.ref o1), .val (.int (0 : Int32))] [(.ref r0), (.int ((fun _ => 0) ((0 : Int32)).toNatClampNeg)), (.int (1 : Int32)), (.ref b48)]))
  obtain ⟨ca53, Ar53, Sz53, Ht53⟩ := id V49_r0
  refine own_step (X54.arraylength hx (by rw [e54]; exact Ar53.1) (State.isArrayOf_alike hZ.alike Ar53.2.1) (g := (mkF m 53 #[.val (.ref o0), .val (.ref o1), .val (.int (0 : Int32))] [(.ref r0), (.int ((fun _ => 0) ((0 : Int32)).toNatClampNeg)), (.int (1 : Int32)), (.ref b48)])) rfl rfl (hb hby d10_53)) ?_
  rw [Sz53]
  show own_Fin p e below s Q 2 25 (T54.setTop (mkF m 54 #[.val (.ref o0), .val (.ref o1), .val (.int (0 : Int32))] [(.int (z0.toInt32)), (.int ((fun _ => 0) ((0 : Int32)).toNatClampNeg)), (.int (1 : Int32)), (.ref b48)]))
  refine own_step (fun t k => XS.iadd X54.here hx rfl (hb hby d10_54) rfl k) ?_
  show own_Fin p e below s Q 2 25 (T54.setTop (mkF m 55 #[.val (.ref o0), .val (.ref o1), .val (.int (0 : Int32))] [(.int (((fun _ => 0) ((0 : Int32)).toNatClampNeg) + (z0.toInt32))), (.int (1 : Int32)), (.ref b48)]))
  obtain ⟨ca55, Ar55, Sz55, Ht55⟩ := id V49_b48
  have hin55 : ¬ ((1 : Int32) < 0 ∨ ca55.slots.size ≤ ((1 : Int32)).toNatClampNeg) := by rw [Sz55]; exact (by decide)
  obtain ⟨T55, h55, X55, e55, W55, st55⟩ := stI X54 hx hZ e54 Ar55 (j := (1 : Int32)) hin55 (g := (mkF m 55 #[.val (.ref o0), .val (.ref o1), .val (.int (0 : Int32))] [(.int (((fun _ => 0) ((0 : Int32)).toNatClampNeg) + (z0.toInt32))), (.int (1 : Int32)), (.ref b48)])) rfl rfl (hb hby d10_55)
  have V55 : own_AF Z h55 b48 .int 4 (fun i => if i = 1 then (((fun _ => 0) ((0 : Int32)).toNatClampNeg) + (z0.toInt32)) else (fun _ => 0) i) := own_AFset Ar55 Sz55 Ht55 W55
  obtain ⟨gf55, hgf55⟩ : ∃ g' : Nat → Int32, g' = (fun i => if i = 1 then (((fun _ => 0) ((0 : Int32)).toNatClampNeg) + (z0.toInt32)) else (fun _ => 0) i) := ⟨_, rfl⟩
  rw [← hgf55] at V55
  have N55 := Fr.snoc X55 N53 fr48
  have Z055 : n0 ≤ h55.size := Nat.le_trans Z049 (Nat.le_of_eq W55.size.symm)
  have V55_r0 := own_AFoth V49_r0 W55 ner0_48
  have V55_r1 := own_AFoth V49_r1 W55 ner1_48
  have V55_r2 := own_AFoth V49_r2 W55 ner2_48
  have Ex55_o1 := Ex49_o1.wr W55
  have F55_o1_modCount := F49_o1_modCount.other W55 (Or.inl neo1_48)
  have F55_o1_elementData := F49_o1_elementData.other W55 (Or.inl neo1_48)
  have F55_o1_size := F49_o1_size.other W55 (Or.inl neo1_48)
  have Ex55_o0 := Ex49_o0.wr W55
  have F55_o0_starts := F49_o0_starts.other W55 (Or.inl neo0_48)
  have F55_o0_values := F49_o0_values.other W55 (Or.inl neo0_48)
  have Xa55_r0 := Xa49_r0.wr W55
  have Xa55_r1 := Xa49_r1.wr W55
  have Xa55_r2 := Xa49_r2.wr W55
  have Xa55_b48 := Xa49_b48.wr W55
  have R55_ea := own_RFoth R49_ea W55 neea_48
  have K55 : Keep h h55 [o0] := K49.wr W55 (Or.inr sz48)
  refine own_step st55 ?_
  show own_Fin p e below s Q 2 25 (T55.setTop (mkF m 56 #[.val (.ref o0), .val (.ref o1), .val (.int (0 : Int32))] []))
  refine own_step (fun t k => XS.iinc X55.here hx rfl (hb hby d10_56) rfl (l' := #[.val (.ref o0), .val (.ref o1), .val (.int (1 : Int32))]) rfl k) ?_
  show own_Fin p e below s Q 2 25 (T55.setTop (mkF m 59 #[.val (.ref o0), .val (.ref o1), .val (.int (1 : Int32))] []))
  refine own_step (fun t k => XS.goto X55.here hx rfl (pc0 := 59) (pc' := 20) rfl (hb hby d10_59) (by decide) (by decide) k) ?_
  show own_Fin p e below s Q 2 25 (T55.setTop (mkF m 20 #[.val (.ref o0), .val (.ref o1), .val (.int (1 : Int32))] []))
  refine own_step (fun t k => XS.iloadN X55.here hx rfl (hb hby d10_20) rfl  k) ?_
  show own_Fin p e below s Q 2 25 (T55.setTop (mkF m 21 #[.val (.ref o0), .val (.ref o1), .val (.int (1 : Int32))] [(.int (1 : Int32))]))
  refine own_step (fun t k => XS.aloadN X55.here hx rfl (hb hby d10_21) rfl rfl k) ?_
  show own_Fin p e below s Q 2 25 (T55.setTop (mkF m 22 #[.val (.ref o0), .val (.ref o1), .val (.int (1 : Int32))] [(.ref o1), (.int (1 : Int32))]))
  obtain ⟨cq56, kq56, q56a, q56b, q56c⟩ := isOf hZ e55 Ex55_o1
  obtain ⟨_, _, ⟨T56, L56, k56, n56⟩, -, X56, ⟨Lc56, hQ56, l56, y56, z56⟩, st56⟩ := X55.interfaceBack hx (xi := (⟨"java/util/List", "size", "()I"⟩ : MethodName)) (y := (⟨"java/util/ArrayList", "size", "()I"⟩ : MethodName)) hown (mvT hZ (hw _ (List.mem_of_getElem? (i := 65) rfl))) (mvT hZ (hw _ (List.mem_of_getElem? (i := 66) rfl))) (mvT hZ (hw _ (List.mem_of_getElem? (i := 67) rfl))) (mvT hZ (hw _ (List.mem_of_getElem? (i := 68) rfl))) (mvT hZ (hw _ (List.mem_of_getElem? (i := 69) rfl))) (mvT hZ (hw _ (List.mem_of_getElem? (i := 70) rfl))) (mvT hZ (hw _ (List.mem_of_getElem? (i := 71) rfl))) (mvT hZ (hw _ (List.mem_of_getElem? (i := 72) rfl))) (by decide) (backOf (W := 1) (rm11 l Z a0 hw [] o1 (3 : Int32) h55 n0 F55_o1_size) hZ (hw _ (List.mem_of_getElem? (i := 73) rfl)) (hw _ (List.mem_of_getElem? (i := 3) rfl)) (by decide) (by decide)) q56a q56b q56c (g := (mkF m 22 #[.val (.ref o0), .val (.ref o1), .val (.int (1 : Int32))] [(.ref o1), (.int (1 : Int32))])) rfl (by rw [hml]; rfl) (Steps.refl _) (argsL := []) (rest := [(.int (1 : Int32))]) (lenOf pdm_6 rfl) rfl (by show 2 * 0 + _ ≤ _; exact Nat.le_of_eq rfl) (hb hby d10_22) (fun _ _ => ⟨rfl, e55, (show cells + 0 + 1 + 0 + 0 + 0 ≤ 2 from (Nat.le_trans (Nat.add_le_add_right hc 1) (by decide))), (show slots + 0 + 4 + 0 + 0 + 0 ≤ 25 from (Nat.le_trans (Nat.add_le_add_right hs 4) (by decide)))⟩)
  dsimp only [Pt.U, Pt.locs, Pt.cells, Pt.slots] at X56 l56 y56 z56 st56 hQ56
  have yy56 : k56 = cells + 0 + 1 + 0 + 0 + 0 := y56
  have zz56 : n56 = slots + 0 + 4 + 0 + 0 + 0 := z56
  rw [yy56, zz56, l56] at X56
  obtain ⟨rfl, N56q, e56⟩ := hQ56
  have N56 := Fr.app N55 N56q
  refine own_step (fun t k => st56.trans k) ?_
  show own_Fin p e below s Q 2 25 (T56.setTop (mkF m 27 #[.val (.ref o0), .val (.ref o1), .val (.int (1 : Int32))] [(.int (3 : Int32)), (.int (1 : Int32))]))
  refine own_step (fun t k => XS.icmpNo X56.here hx rfl (hb hby d10_27) rfl (tlt (by decide : (1 : Int32) < (3 : Int32))).2.1 k) ?_
  show own_Fin p e below s Q 2 25 (T56.setTop (mkF m 30 #[.val (.ref o0), .val (.ref o1), .val (.int (1 : Int32))] []))
  refine own_step (fun t k => XS.aloadN X56.here hx rfl (hb hby d10_30) rfl rfl k) ?_
  show own_Fin p e below s Q 2 25 (T56.setTop (mkF m 31 #[.val (.ref o0), .val (.ref o1), .val (.int (1 : Int32))] [(.ref o0)]))
  obtain ⟨T57, X57, e57, st57⟩ := getF X56 hx hZ hown (host := "") (Or.inl (hw _ (List.mem_of_getElem? (i := 74) rfl))) Via.refl e56 F55_o0_starts (g := (mkF m 31 #[.val (.ref o0), .val (.ref o1), .val (.int (1 : Int32))] [(.ref o0)])) rfl rfl (hb hby d10_31)
  refine own_step st57 ?_
  show own_Fin p e below s Q 2 25 (T57.setTop (mkF m 34 #[.val (.ref o0), .val (.ref o1), .val (.int (1 : Int32))] [(.ref b48)]))
  refine own_step (fun t k => XS.iloadN X57.here hx rfl (hb hby d10_34) rfl  k) ?_
  show own_Fin p e below s Q 2 25 (T57.setTop (mkF m 35 #[.val (.ref o0), .val (.ref o1), .val (.int (1 : Int32))] [(.int (1 : Int32)), (.ref b48)]))
  refine own_step (fun t k => XS.iconst X57.here hx rfl (hb hby d10_35) k) ?_
  show own_Fin p e below s Q 2 25 (T57.setTop (mkF m 36 #[.val (.ref o0), .val (.ref o1), .val (.int (1 : Int32))] [(.int (1 : Int32)), (.int (1 : Int32)), (.ref b48)]))
  refine own_step (fun t k => XS.iadd X57.here hx rfl (hb hby d10_36) rfl k) ?_
  show own_Fin p e below s Q 2 25 (T57.setTop (mkF m 37 #[.val (.ref o0), .val (.ref o1), .val (.int (1 : Int32))] [(.int (2 : Int32)), (.ref b48)]))
  refine own_step (fun t k => XS.aloadN X57.here hx rfl (hb hby d10_37) rfl rfl k) ?_
  show own_Fin p e below s Q 2 25 (T57.setTop (mkF m 38 #[.val (.ref o0), .val (.ref o1), .val (.int (1 : Int32))] [(.ref o0), (.int (2 : Int32)), (.ref b48)]))
  obtain ⟨T58, X58, e58, st58⟩ := getF X57 hx hZ hown (host := "") (Or.inl (hw _ (List.mem_of_getElem? (i := 74) rfl))) Via.refl e57 F55_o0_starts (g := (mkF m 38 #[.val (.ref o0), .val (.ref o1), .val (.int (1 : Int32))] [(.ref o0), (.int (2 : Int32)), (.ref b48)])) rfl rfl (hb hby d10_38)
  refine own_step st58 ?_
  show own_Fin p e below s Q 2 25 (T58.setTop (mkF m 41 #[.val (.ref o0), .val (.ref o1), .val (.int (1 : Int32))] [(.ref b48), (.int (2 : Int32)), (.ref b48)]))
  refine own_step (fun t k => XS.iloadN X58.here hx rfl (hb hby d10_41) rfl  k) ?_
  show own_Fin p e below s Q 2 25 (T58.setTop (mkF m 42 #[.val (.ref o0), .val (.ref o1), .val (.int (1 : Int32))] [(.int (1 : Int32)), (.ref b48), (.int (2 : Int32)), (.ref b48)]))
  obtain ⟨ca42, Ar42, Sz42, Ht42⟩ := id V55
  have hin42 : ¬ ((1 : Int32) < 0 ∨ ca42.slots.size ≤ ((1 : Int32)).toNatClampNeg) := by rw [Sz42]; exact (by decide)
  refine own_step (X58.iaload hx (j := (1 : Int32)) (v := (.int (gf55 ((1 : Int32)).toNatClampNeg))) (by rw [e58]; exact Ar42.1) (State.isArrayOf_alike hZ.alike Ar42.2.1) Ar42.2.2 hin42 (Ht42 _ (by have hq := Nat.lt_of_not_le (fun y => hin42 (Or.inr y)); rw [Sz42] at hq; exact hq)) (g := (mkF m 42 #[.val (.ref o0), .val (.ref o1), .val (.int (1 : Int32))] [(.int (1 : Int32)), (.ref b48), (.int (2 : Int32)), (.ref b48)])) rfl rfl (hb hby d10_42)) ?_
  show own_Fin p e below s Q 2 25 (T58.setTop (mkF m 43 #[.val (.ref o0), .val (.ref o1), .val (.int (1 : Int32))] [(.int (gf55 ((1 : Int32)).toNatClampNeg)), (.int (2 : Int32)), (.ref b48)]))
  refine own_step (fun t k => XS.aloadN X58.here hx rfl (hb hby d10_43) rfl rfl k) ?_
  show own_Fin p e below s Q 2 25 (T58.setTop (mkF m 44 #[.val (.ref o0), .val (.ref o1), .val (.int (1 : Int32))] [(.ref o1), (.int (gf55 ((1 : Int32)).toNatClampNeg)), (.int (2 : Int32)), (.ref b48)]))
  refine own_step (fun t k => XS.iloadN X58.here hx rfl (hb hby d10_44) rfl  k) ?_
  show own_Fin p e below s Q 2 25 (T58.setTop (mkF m 45 #[.val (.ref o0), .val (.ref o1), .val (.int (1 : Int32))] [(.int (1 : Int32)), (.ref o1), (.int (gf55 ((1 : Int32)).toNatClampNeg)), (.int (2 : Int32)), (.ref b48)]))
  obtain ⟨cq59, kq59, q59a, q59b, q59c⟩ := isOf hZ e58 Ex55_o1
  obtain ⟨_, _, ⟨T59, L59, k59, n59⟩, -, X59, ⟨Lc59, hQ59, l59, y59, z59⟩, st59⟩ := X58.interfaceBack hx (xi := (⟨"java/util/List", "get", "(I)Ljava/lang/Object;"⟩ : MethodName)) (y := (⟨"java/util/ArrayList", "get", "(I)Ljava/lang/Object;"⟩ : MethodName)) hown (mvT hZ (hw _ (List.mem_of_getElem? (i := 76) rfl))) (mvT hZ (hw _ (List.mem_of_getElem? (i := 77) rfl))) (mvT hZ (hw _ (List.mem_of_getElem? (i := 78) rfl))) (mvT hZ (hw _ (List.mem_of_getElem? (i := 79) rfl))) (mvT hZ (hw _ (List.mem_of_getElem? (i := 80) rfl))) (mvT hZ (hw _ (List.mem_of_getElem? (i := 81) rfl))) (mvT hZ (hw _ (List.mem_of_getElem? (i := 82) rfl))) (mvT hZ (hw _ (List.mem_of_getElem? (i := 72) rfl))) (by decide) (backOf (W := 3) (rm12 l Z a0 hw [] o1 (1 : Int32) ea gE r1 (3 : Int32) h55 n0 Ex55_o1 F55_o1_size F55_o1_elementData R55_ea (by unfold own_In; decide) hg1 (by decide) (by decide)) hZ (hw _ (List.mem_of_getElem? (i := 83) rfl)) (hw _ (List.mem_of_getElem? (i := 3) rfl)) (by decide) (by decide)) q59a q59b q59c (g := (mkF m 45 #[.val (.ref o0), .val (.ref o1), .val (.int (1 : Int32))] [(.int (1 : Int32)), (.ref o1), (.int (gf55 ((1 : Int32)).toNatClampNeg)), (.int (2 : Int32)), (.ref b48)])) rfl (by rw [hml]; rfl) (Steps.refl _) (argsL := [(.int (1 : Int32))]) (rest := [(.int (gf55 ((1 : Int32)).toNatClampNeg)), (.int (2 : Int32)), (.ref b48)]) (lenOf pdm_8 rfl) rfl (by show 2 * 0 + _ ≤ _; exact Nat.le_of_eq rfl) (hb hby d10_45) (fun _ _ => ⟨rfl, e58, (show cells + 0 + 1 + 0 + 0 + 0 + 0 ≤ 2 from (Nat.le_trans (Nat.add_le_add_right hc 1) (by decide))), (show slots + 0 + 4 + 0 + 0 + 0 + 0 ≤ 25 from (Nat.le_trans (Nat.add_le_add_right hs 4) (by decide)))⟩)
  dsimp only [Pt.U, Pt.locs, Pt.cells, Pt.slots] at X59 l59 y59 z59 st59 hQ59
  have yy59 : k59 = cells + 0 + 1 + 0 + 0 + 0 + 0 := y59
  have zz59 : n59 = slots + 0 + 4 + 0 + 0 + 0 + 0 := z59
  rw [yy59, zz59, l59] at X59
  obtain ⟨rfl, N59q, e59⟩ := hQ59
  have N59 := Fr.app N56 N59q
  refine own_step (fun t k => st59.trans k) ?_
  show own_Fin p e below s Q 2 25 (T59.setTop (mkF m 50 #[.val (.ref o0), .val (.ref o1), .val (.int (1 : Int32))] [(.ref r1), (.int (gf55 ((1 : Int32)).toNatClampNeg)), (.int (2 : Int32)), (.ref b48)]))
  obtain ⟨T60, X60, e60, st60⟩ := castY X59 hx hZ hown (hw _ (List.mem_of_getElem? (i := 97) rfl)) e59 (Ins.of_exa Xa55_r1 (hw _ (List.mem_of_getElem? (i := 98) rfl))) (g := (mkF m 50 #[.val (.ref o0), .val (.ref o1), .val (.int (1 : Int32))] [(.ref r1), (.int (gf55 ((1 : Int32)).toNatClampNeg)), (.int (2 : Int32)), (.ref b48)])) rfl rfl (hb hby d10_50)
  refine own_step st60 ?_
  show own_Fin p e below s Q 2 25 (T60.setTop (mkF m 53 #[.val (.ref o0), .val (.ref o1), .val (.int (1 : Int32))] [(.ref r1), (.int (gf55 ((1 : Int32)).toNatClampNeg)), (.int (2 : Int32)), (.ref b48)]))
  obtain ⟨ca53, Ar53, Sz53, Ht53⟩ := id V55_r1
  refine own_step (X60.arraylength hx (by rw [e60]; exact Ar53.1) (State.isArrayOf_alike hZ.alike Ar53.2.1) (g := (mkF m 53 #[.val (.ref o0), .val (.ref o1), .val (.int (1 : Int32))] [(.ref r1), (.int (gf55 ((1 : Int32)).toNatClampNeg)), (.int (2 : Int32)), (.ref b48)])) rfl rfl (hb hby d10_53)) ?_
  rw [Sz53]
  show own_Fin p e below s Q 2 25 (T60.setTop (mkF m 54 #[.val (.ref o0), .val (.ref o1), .val (.int (1 : Int32))] [(.int (z1.toInt32)), (.int (gf55 ((1 : Int32)).toNatClampNeg)), (.int (2 : Int32)), (.ref b48)]))
  refine own_step (fun t k => XS.iadd X60.here hx rfl (hb hby d10_54) rfl k) ?_
  show own_Fin p e below s Q 2 25 (T60.setTop (mkF m 55 #[.val (.ref o0), .val (.ref o1), .val (.int (1 : Int32))] [(.int ((gf55 ((1 : Int32)).toNatClampNeg) + (z1.toInt32))), (.int (2 : Int32)), (.ref b48)]))
  obtain ⟨ca61, Ar61, Sz61, Ht61⟩ := id V55
  have hin61 : ¬ ((2 : Int32) < 0 ∨ ca61.slots.size ≤ ((2 : Int32)).toNatClampNeg) := by rw [Sz61]; exact (by decide)
  obtain ⟨T61, h61, X61, e61, W61, st61⟩ := stI X60 hx hZ e60 Ar61 (j := (2 : Int32)) hin61 (g := (mkF m 55 #[.val (.ref o0), .val (.ref o1), .val (.int (1 : Int32))] [(.int ((gf55 ((1 : Int32)).toNatClampNeg) + (z1.toInt32))), (.int (2 : Int32)), (.ref b48)])) rfl rfl (hb hby d10_55)
  have V61 : own_AF Z h61 b48 .int 4 (fun i => if i = 2 then ((gf55 ((1 : Int32)).toNatClampNeg) + (z1.toInt32)) else gf55 i) := own_AFset Ar61 Sz61 Ht61 W61
  obtain ⟨gf61, hgf61⟩ : ∃ g' : Nat → Int32, g' = (fun i => if i = 2 then ((gf55 ((1 : Int32)).toNatClampNeg) + (z1.toInt32)) else gf55 i) := ⟨_, rfl⟩
  rw [← hgf61] at V61
  have N61 := Fr.snoc X61 N59 fr48
  have Z061 : n0 ≤ h61.size := Nat.le_trans Z055 (Nat.le_of_eq W61.size.symm)
  have V61_r0 := own_AFoth V55_r0 W61 ner0_48
  have V61_r1 := own_AFoth V55_r1 W61 ner1_48
  have V61_r2 := own_AFoth V55_r2 W61 ner2_48
  have Ex61_o1 := Ex55_o1.wr W61
  have F61_o1_modCount := F55_o1_modCount.other W61 (Or.inl neo1_48)
  have F61_o1_elementData := F55_o1_elementData.other W61 (Or.inl neo1_48)
  have F61_o1_size := F55_o1_size.other W61 (Or.inl neo1_48)
  have Ex61_o0 := Ex55_o0.wr W61
  have F61_o0_starts := F55_o0_starts.other W61 (Or.inl neo0_48)
  have F61_o0_values := F55_o0_values.other W61 (Or.inl neo0_48)
  have Xa61_r0 := Xa55_r0.wr W61
  have Xa61_r1 := Xa55_r1.wr W61
  have Xa61_r2 := Xa55_r2.wr W61
  have Xa61_b48 := Xa55_b48.wr W61
  have R61_ea := own_RFoth R55_ea W61 neea_48
  have K61 : Keep h h61 [o0] := K55.wr W61 (Or.inr sz48)
  refine own_step st61 ?_
  show own_Fin p e below s Q 2 25 (T61.setTop (mkF m 56 #[.val (.ref o0), .val (.ref o1), .val (.int (1 : Int32))] []))
  refine own_step (fun t k => XS.iinc X61.here hx rfl (hb hby d10_56) rfl (l' := #[.val (.ref o0), .val (.ref o1), .val (.int (2 : Int32))]) rfl k) ?_
  show own_Fin p e below s Q 2 25 (T61.setTop (mkF m 59 #[.val (.ref o0), .val (.ref o1), .val (.int (2 : Int32))] []))
  refine own_step (fun t k => XS.goto X61.here hx rfl (pc0 := 59) (pc' := 20) rfl (hb hby d10_59) (by decide) (by decide) k) ?_
  show own_Fin p e below s Q 2 25 (T61.setTop (mkF m 20 #[.val (.ref o0), .val (.ref o1), .val (.int (2 : Int32))] []))
  refine own_step (fun t k => XS.iloadN X61.here hx rfl (hb hby d10_20) rfl  k) ?_
  show own_Fin p e below s Q 2 25 (T61.setTop (mkF m 21 #[.val (.ref o0), .val (.ref o1), .val (.int (2 : Int32))] [(.int (2 : Int32))]))
  refine own_step (fun t k => XS.aloadN X61.here hx rfl (hb hby d10_21) rfl rfl k) ?_
  show own_Fin p e below s Q 2 25 (T61.setTop (mkF m 22 #[.val (.ref o0), .val (.ref o1), .val (.int (2 : Int32))] [(.ref o1), (.int (2 : Int32))]))
  obtain ⟨cq62, kq62, q62a, q62b, q62c⟩ := isOf hZ e61 Ex61_o1
  obtain ⟨_, _, ⟨T62, L62, k62, n62⟩, -, X62, ⟨Lc62, hQ62, l62, y62, z62⟩, st62⟩ := X61.interfaceBack hx (xi := (⟨"java/util/List", "size", "()I"⟩ : MethodName)) (y := (⟨"java/util/ArrayList", "size", "()I"⟩ : MethodName)) hown (mvT hZ (hw _ (List.mem_of_getElem? (i := 65) rfl))) (mvT hZ (hw _ (List.mem_of_getElem? (i := 66) rfl))) (mvT hZ (hw _ (List.mem_of_getElem? (i := 67) rfl))) (mvT hZ (hw _ (List.mem_of_getElem? (i := 68) rfl))) (mvT hZ (hw _ (List.mem_of_getElem? (i := 69) rfl))) (mvT hZ (hw _ (List.mem_of_getElem? (i := 70) rfl))) (mvT hZ (hw _ (List.mem_of_getElem? (i := 71) rfl))) (mvT hZ (hw _ (List.mem_of_getElem? (i := 72) rfl))) (by decide) (backOf (W := 1) (rm11 l Z a0 hw [] o1 (3 : Int32) h61 n0 F61_o1_size) hZ (hw _ (List.mem_of_getElem? (i := 73) rfl)) (hw _ (List.mem_of_getElem? (i := 3) rfl)) (by decide) (by decide)) q62a q62b q62c (g := (mkF m 22 #[.val (.ref o0), .val (.ref o1), .val (.int (2 : Int32))] [(.ref o1), (.int (2 : Int32))])) rfl (by rw [hml]; rfl) (Steps.refl _) (argsL := []) (rest := [(.int (2 : Int32))]) (lenOf pdm_6 rfl) rfl (by show 2 * 0 + _ ≤ _; exact Nat.le_of_eq rfl) (hb hby d10_22) (fun _ _ => ⟨rfl, e61, (show cells + 0 + 1 + 0 + 0 + 0 + 0 + 0 ≤ 2 from (Nat.le_trans (Nat.add_le_add_right hc 1) (by decide))), (show slots + 0 + 4 + 0 + 0 + 0 + 0 + 0 ≤ 25 from (Nat.le_trans (Nat.add_le_add_right hs 4) (by decide)))⟩)
  dsimp only [Pt.U, Pt.locs, Pt.cells, Pt.slots] at X62 l62 y62 z62 st62 hQ62
  have yy62 : k62 = cells + 0 + 1 + 0 + 0 + 0 + 0 + 0 := y62
  have zz62 : n62 = slots + 0 + 4 + 0 + 0 + 0 + 0 + 0 := z62
  rw [yy62, zz62, l62] at X62
  obtain ⟨rfl, N62q, e62⟩ := hQ62
  have N62 := Fr.app N61 N62q
  refine own_step (fun t k => st62.trans k) ?_
  show own_Fin p e below s Q 2 25 (T62.setTop (mkF m 27 #[.val (.ref o0), .val (.ref o1), .val (.int (2 : Int32))] [(.int (3 : Int32)), (.int (2 : Int32))]))
  refine own_step (fun t k => XS.icmpNo X62.here hx rfl (hb hby d10_27) rfl (tlt (by decide : (2 : Int32) < (3 : Int32))).2.1 k) ?_
  show own_Fin p e below s Q 2 25 (T62.setTop (mkF m 30 #[.val (.ref o0), .val (.ref o1), .val (.int (2 : Int32))] []))
  refine own_step (fun t k => XS.aloadN X62.here hx rfl (hb hby d10_30) rfl rfl k) ?_
  show own_Fin p e below s Q 2 25 (T62.setTop (mkF m 31 #[.val (.ref o0), .val (.ref o1), .val (.int (2 : Int32))] [(.ref o0)]))
  obtain ⟨T63, X63, e63, st63⟩ := getF X62 hx hZ hown (host := "") (Or.inl (hw _ (List.mem_of_getElem? (i := 74) rfl))) Via.refl e62 F61_o0_starts (g := (mkF m 31 #[.val (.ref o0), .val (.ref o1), .val (.int (2 : Int32))] [(.ref o0)])) rfl rfl (hb hby d10_31)
  refine own_step st63 ?_
  show own_Fin p e below s Q 2 25 (T63.setTop (mkF m 34 #[.val (.ref o0), .val (.ref o1), .val (.int (2 : Int32))] [(.ref b48)]))
  refine own_step (fun t k => XS.iloadN X63.here hx rfl (hb hby d10_34) rfl  k) ?_
  show own_Fin p e below s Q 2 25 (T63.setTop (mkF m 35 #[.val (.ref o0), .val (.ref o1), .val (.int (2 : Int32))] [(.int (2 : Int32)), (.ref b48)]))
  refine own_step (fun t k => XS.iconst X63.here hx rfl (hb hby d10_35) k) ?_
  show own_Fin p e below s Q 2 25 (T63.setTop (mkF m 36 #[.val (.ref o0), .val (.ref o1), .val (.int (2 : Int32))] [(.int (1 : Int32)), (.int (2 : Int32)), (.ref b48)]))
  refine own_step (fun t k => XS.iadd X63.here hx rfl (hb hby d10_36) rfl k) ?_
  show own_Fin p e below s Q 2 25 (T63.setTop (mkF m 37 #[.val (.ref o0), .val (.ref o1), .val (.int (2 : Int32))] [(.int (3 : Int32)), (.ref b48)]))
  refine own_step (fun t k => XS.aloadN X63.here hx rfl (hb hby d10_37) rfl rfl k) ?_
  show own_Fin p e below s Q 2 25 (T63.setTop (mkF m 38 #[.val (.ref o0), .val (.ref o1), .val (.int (2 : Int32))] [(.ref o0), (.int (3 : Int32)), (.ref b48)]))
  obtain ⟨T64, X64, e64, st64⟩ := getF X63 hx hZ hown (host := "") (Or.inl (hw _ (List.mem_of_getElem? (i := 74) rfl))) Via.refl e63 F61_o0_starts (g := (mkF m 38 #[.val (.ref o0), .val (.ref o1), .val (.int (2 : Int32))] [(.ref o0), (.int (3 : Int32)), (.ref b48)])) rfl rfl (hb hby d10_38)
  refine own_step st64 ?_
  show own_Fin p e below s Q 2 25 (T64.setTop (mkF m 41 #[.val (.ref o0), .val (.ref o1), .val (.int (2 : Int32))] [(.ref b48), (.int (3 : Int32)), (.ref b48)]))
  refine own_step (fun t k => XS.iloadN X64.here hx rfl (hb hby d10_41) rfl  k) ?_
  show own_Fin p e below s Q 2 25 (T64.setTop (mkF m 42 #[.val (.ref o0), .val (.ref o1), .val (.int (2 : Int32))] [(.int (2 : Int32)), (.ref b48), (.int (3 : Int32)), (.ref b48)]))
  obtain ⟨ca42, Ar42, Sz42, Ht42⟩ := id V61
  have hin42 : ¬ ((2 : Int32) < 0 ∨ ca42.slots.size ≤ ((2 : Int32)).toNatClampNeg) := by rw [Sz42]; exact (by decide)
  refine own_step (X64.iaload hx (j := (2 : Int32)) (v := (.int (gf61 ((2 : Int32)).toNatClampNeg))) (by rw [e64]; exact Ar42.1) (State.isArrayOf_alike hZ.alike Ar42.2.1) Ar42.2.2 hin42 (Ht42 _ (by have hq := Nat.lt_of_not_le (fun y => hin42 (Or.inr y)); rw [Sz42] at hq; exact hq)) (g := (mkF m 42 #[.val (.ref o0), .val (.ref o1), .val (.int (2 : Int32))] [(.int (2 : Int32)), (.ref b48), (.int (3 : Int32)), (.ref b48)])) rfl rfl (hb hby d10_42)) ?_
  show own_Fin p e below s Q 2 25 (T64.setTop (mkF m 43 #[.val (.ref o0), .val (.ref o1), .val (.int (2 : Int32))] [(.int (gf61 ((2 : Int32)).toNatClampNeg)), (.int (3 : Int32)), (.ref b48)]))
  refine own_step (fun t k => XS.aloadN X64.here hx rfl (hb hby d10_43) rfl rfl k) ?_
  show own_Fin p e below s Q 2 25 (T64.setTop (mkF m 44 #[.val (.ref o0), .val (.ref o1), .val (.int (2 : Int32))] [(.ref o1), (.int (gf61 ((2 : Int32)).toNatClampNeg)), (.int (3 : Int32)), (.ref b48)]))
  refine own_step (fun t k => XS.iloadN X64.here hx rfl (hb hby d10_44) rfl  k) ?_
  show own_Fin p e below s Q 2 25 (T64.setTop (mkF m 45 #[.val (.ref o0), .val (.ref o1), .val (.int (2 : Int32))] [(.int (2 : Int32)), (.ref o1), (.int (gf61 ((2 : Int32)).toNatClampNeg)), (.int (3 : Int32)), (.ref b48)]))
  obtain ⟨cq65, kq65, q65a, q65b, q65c⟩ := isOf hZ e64 Ex61_o1
  obtain ⟨_, _, ⟨T65, L65, k65, n65⟩, -, X65, ⟨Lc65, hQ65, l65, y65, z65⟩, st65⟩ := X64.interfaceBack hx (xi := (⟨"java/util/List", "get", "(I)Ljava/lang/Object;"⟩ : MethodName)) (y := (⟨"java/util/ArrayList", "get", "(I)Ljava/lang/Object;"⟩ : MethodName)) hown (mvT hZ (hw _ (List.mem_of_getElem? (i := 76) rfl))) (mvT hZ (hw _ (List.mem_of_getElem? (i := 77) rfl))) (mvT hZ (hw _ (List.mem_of_getElem? (i := 78) rfl))) (mvT hZ (hw _ (List.mem_of_getElem? (i := 79) rfl))) (mvT hZ (hw _ (List.mem_of_getElem? (i := 80) rfl))) (mvT hZ (hw _ (List.mem_of_getElem? (i := 81) rfl))) (mvT hZ (hw _ (List.mem_of_getElem? (i := 82) rfl))) (mvT hZ (hw _ (List.mem_of_getElem? (i := 72) rfl))) (by decide) (backOf (W := 3) (rm12 l Z a0 hw [] o1 (2 : Int32) ea gE r2 (3 : Int32) h61 n0 Ex61_o1 F61_o1_size F61_o1_elementData R61_ea (by unfold own_In; decide) hg2 (by decide) (by decide)) hZ (hw _ (List.mem_of_getElem? (i := 83) rfl)) (hw _ (List.mem_of_getElem? (i := 3) rfl)) (by decide) (by decide)) q65a q65b q65c (g := (mkF m 45 #[.val (.ref o0), .val (.ref o1), .val (.int (2 : Int32))] [(.int (2 : Int32)), (.ref o1), (.int (gf61 ((2 : Int32)).toNatClampNeg)), (.int (3 : Int32)), (.ref b48)])) rfl (by rw [hml]; rfl) (Steps.refl _) (argsL := [(.int (2 : Int32))]) (rest := [(.int (gf61 ((2 : Int32)).toNatClampNeg)), (.int (3 : Int32)), (.ref b48)]) (lenOf pdm_8 rfl) rfl (by show 2 * 0 + _ ≤ _; exact Nat.le_of_eq rfl) (hb hby d10_45) (fun _ _ => ⟨rfl, e64, (show cells + 0 + 1 + 0 + 0 + 0 + 0 + 0 + 0 ≤ 2 from (Nat.le_trans (Nat.add_le_add_right hc 1) (by decide))), (show slots + 0 + 4 + 0 + 0 + 0 + 0 + 0 + 0 ≤ 25 from (Nat.le_trans (Nat.add_le_add_right hs 4) (by decide)))⟩)
  dsimp only [Pt.U, Pt.locs, Pt.cells, Pt.slots] at X65 l65 y65 z65 st65 hQ65
  have yy65 : k65 = cells + 0 + 1 + 0 + 0 + 0 + 0 + 0 + 0 := y65
  have zz65 : n65 = slots + 0 + 4 + 0 + 0 + 0 + 0 + 0 + 0 := z65
  rw [yy65, zz65, l65] at X65
  obtain ⟨rfl, N65q, e65⟩ := hQ65
  have N65 := Fr.app N62 N65q
  refine own_step (fun t k => st65.trans k) ?_
  show own_Fin p e below s Q 2 25 (T65.setTop (mkF m 50 #[.val (.ref o0), .val (.ref o1), .val (.int (2 : Int32))] [(.ref r2), (.int (gf61 ((2 : Int32)).toNatClampNeg)), (.int (3 : Int32)), (.ref b48)]))
  obtain ⟨T66, X66, e66, st66⟩ := castY X65 hx hZ hown (hw _ (List.mem_of_getElem? (i := 97) rfl)) e65 (Ins.of_exa Xa61_r2 (hw _ (List.mem_of_getElem? (i := 98) rfl))) (g := (mkF m 50 #[.val (.ref o0), .val (.ref o1), .val (.int (2 : Int32))] [(.ref r2), (.int (gf61 ((2 : Int32)).toNatClampNeg)), (.int (3 : Int32)), (.ref b48)])) rfl rfl (hb hby d10_50)
  refine own_step st66 ?_
  show own_Fin p e below s Q 2 25 (T66.setTop (mkF m 53 #[.val (.ref o0), .val (.ref o1), .val (.int (2 : Int32))] [(.ref r2), (.int (gf61 ((2 : Int32)).toNatClampNeg)), (.int (3 : Int32)), (.ref b48)]))
  obtain ⟨ca53, Ar53, Sz53, Ht53⟩ := id V61_r2
  refine own_step (X66.arraylength hx (by rw [e66]; exact Ar53.1) (State.isArrayOf_alike hZ.alike Ar53.2.1) (g := (mkF m 53 #[.val (.ref o0), .val (.ref o1), .val (.int (2 : Int32))] [(.ref r2), (.int (gf61 ((2 : Int32)).toNatClampNeg)), (.int (3 : Int32)), (.ref b48)])) rfl rfl (hb hby d10_53)) ?_
  rw [Sz53]
  show own_Fin p e below s Q 2 25 (T66.setTop (mkF m 54 #[.val (.ref o0), .val (.ref o1), .val (.int (2 : Int32))] [(.int (z2.toInt32)), (.int (gf61 ((2 : Int32)).toNatClampNeg)), (.int (3 : Int32)), (.ref b48)]))
  refine own_step (fun t k => XS.iadd X66.here hx rfl (hb hby d10_54) rfl k) ?_
  show own_Fin p e below s Q 2 25 (T66.setTop (mkF m 55 #[.val (.ref o0), .val (.ref o1), .val (.int (2 : Int32))] [(.int ((gf61 ((2 : Int32)).toNatClampNeg) + (z2.toInt32))), (.int (3 : Int32)), (.ref b48)]))
  obtain ⟨ca67, Ar67, Sz67, Ht67⟩ := id V61
  have hin67 : ¬ ((3 : Int32) < 0 ∨ ca67.slots.size ≤ ((3 : Int32)).toNatClampNeg) := by rw [Sz67]; exact (by decide)
  obtain ⟨T67, h67, X67, e67, W67, st67⟩ := stI X66 hx hZ e66 Ar67 (j := (3 : Int32)) hin67 (g := (mkF m 55 #[.val (.ref o0), .val (.ref o1), .val (.int (2 : Int32))] [(.int ((gf61 ((2 : Int32)).toNatClampNeg) + (z2.toInt32))), (.int (3 : Int32)), (.ref b48)])) rfl rfl (hb hby d10_55)
  have V67 : own_AF Z h67 b48 .int 4 (fun i => if i = 3 then ((gf61 ((2 : Int32)).toNatClampNeg) + (z2.toInt32)) else gf61 i) := own_AFset Ar67 Sz67 Ht67 W67
  obtain ⟨gf67, hgf67⟩ : ∃ g' : Nat → Int32, g' = (fun i => if i = 3 then ((gf61 ((2 : Int32)).toNatClampNeg) + (z2.toInt32)) else gf61 i) := ⟨_, rfl⟩
  rw [← hgf67] at V67
  have N67 := Fr.snoc X67 N65 fr48
  have Z067 : n0 ≤ h67.size := Nat.le_trans Z061 (Nat.le_of_eq W67.size.symm)
  have V67_r0 := own_AFoth V61_r0 W67 ner0_48
  have V67_r1 := own_AFoth V61_r1 W67 ner1_48
  have V67_r2 := own_AFoth V61_r2 W67 ner2_48
  have Ex67_o1 := Ex61_o1.wr W67
  have F67_o1_modCount := F61_o1_modCount.other W67 (Or.inl neo1_48)
  have F67_o1_elementData := F61_o1_elementData.other W67 (Or.inl neo1_48)
  have F67_o1_size := F61_o1_size.other W67 (Or.inl neo1_48)
  have Ex67_o0 := Ex61_o0.wr W67
  have F67_o0_starts := F61_o0_starts.other W67 (Or.inl neo0_48)
  have F67_o0_values := F61_o0_values.other W67 (Or.inl neo0_48)
  have Xa67_r0 := Xa61_r0.wr W67
  have Xa67_r1 := Xa61_r1.wr W67
  have Xa67_r2 := Xa61_r2.wr W67
  have Xa67_b48 := Xa61_b48.wr W67
  have R67_ea := own_RFoth R61_ea W67 neea_48
  have K67 : Keep h h67 [o0] := K61.wr W67 (Or.inr sz48)
  refine own_step st67 ?_
  show own_Fin p e below s Q 2 25 (T67.setTop (mkF m 56 #[.val (.ref o0), .val (.ref o1), .val (.int (2 : Int32))] []))
  refine own_step (fun t k => XS.iinc X67.here hx rfl (hb hby d10_56) rfl (l' := #[.val (.ref o0), .val (.ref o1), .val (.int (3 : Int32))]) rfl k) ?_
  show own_Fin p e below s Q 2 25 (T67.setTop (mkF m 59 #[.val (.ref o0), .val (.ref o1), .val (.int (3 : Int32))] []))
  refine own_step (fun t k => XS.goto X67.here hx rfl (pc0 := 59) (pc' := 20) rfl (hb hby d10_59) (by decide) (by decide) k) ?_
  show own_Fin p e below s Q 2 25 (T67.setTop (mkF m 20 #[.val (.ref o0), .val (.ref o1), .val (.int (3 : Int32))] []))
  refine own_step (fun t k => XS.iloadN X67.here hx rfl (hb hby d10_20) rfl  k) ?_
  show own_Fin p e below s Q 2 25 (T67.setTop (mkF m 21 #[.val (.ref o0), .val (.ref o1), .val (.int (3 : Int32))] [(.int (3 : Int32))]))
  refine own_step (fun t k => XS.aloadN X67.here hx rfl (hb hby d10_21) rfl rfl k) ?_
  show own_Fin p e below s Q 2 25 (T67.setTop (mkF m 22 #[.val (.ref o0), .val (.ref o1), .val (.int (3 : Int32))] [(.ref o1), (.int (3 : Int32))]))
  obtain ⟨cq68, kq68, q68a, q68b, q68c⟩ := isOf hZ e67 Ex67_o1
  obtain ⟨_, _, ⟨T68, L68, k68, n68⟩, -, X68, ⟨Lc68, hQ68, l68, y68, z68⟩, st68⟩ := X67.interfaceBack hx (xi := (⟨"java/util/List", "size", "()I"⟩ : MethodName)) (y := (⟨"java/util/ArrayList", "size", "()I"⟩ : MethodName)) hown (mvT hZ (hw _ (List.mem_of_getElem? (i := 65) rfl))) (mvT hZ (hw _ (List.mem_of_getElem? (i := 66) rfl))) (mvT hZ (hw _ (List.mem_of_getElem? (i := 67) rfl))) (mvT hZ (hw _ (List.mem_of_getElem? (i := 68) rfl))) (mvT hZ (hw _ (List.mem_of_getElem? (i := 69) rfl))) (mvT hZ (hw _ (List.mem_of_getElem? (i := 70) rfl))) (mvT hZ (hw _ (List.mem_of_getElem? (i := 71) rfl))) (mvT hZ (hw _ (List.mem_of_getElem? (i := 72) rfl))) (by decide) (backOf (W := 1) (rm11 l Z a0 hw [] o1 (3 : Int32) h67 n0 F67_o1_size) hZ (hw _ (List.mem_of_getElem? (i := 73) rfl)) (hw _ (List.mem_of_getElem? (i := 3) rfl)) (by decide) (by decide)) q68a q68b q68c (g := (mkF m 22 #[.val (.ref o0), .val (.ref o1), .val (.int (3 : Int32))] [(.ref o1), (.int (3 : Int32))])) rfl (by rw [hml]; rfl) (Steps.refl _) (argsL := []) (rest := [(.int (3 : Int32))]) (lenOf pdm_6 rfl) rfl (by show 2 * 0 + _ ≤ _; exact Nat.le_of_eq rfl) (hb hby d10_22) (fun _ _ => ⟨rfl, e67, (show cells + 0 + 1 + 0 + 0 + 0 + 0 + 0 + 0 + 0 ≤ 2 from (Nat.le_trans (Nat.add_le_add_right hc 1) (by decide))), (show slots + 0 + 4 + 0 + 0 + 0 + 0 + 0 + 0 + 0 ≤ 25 from (Nat.le_trans (Nat.add_le_add_right hs 4) (by decide)))⟩)
  dsimp only [Pt.U, Pt.locs, Pt.cells, Pt.slots] at X68 l68 y68 z68 st68 hQ68
  have yy68 : k68 = cells + 0 + 1 + 0 + 0 + 0 + 0 + 0 + 0 + 0 := y68
  have zz68 : n68 = slots + 0 + 4 + 0 + 0 + 0 + 0 + 0 + 0 + 0 := z68
  rw [yy68, zz68, l68] at X68
  obtain ⟨rfl, N68q, e68⟩ := hQ68
  have N68 := Fr.app N67 N68q
  refine own_step (fun t k => st68.trans k) ?_
  show own_Fin p e below s Q 2 25 (T68.setTop (mkF m 27 #[.val (.ref o0), .val (.ref o1), .val (.int (3 : Int32))] [(.int (3 : Int32)), (.int (3 : Int32))]))
  refine own_step (fun t k => XS.icmpYes X68.here hx rfl (pc0 := 27) (pc' := 62) rfl (hb hby d10_27) rfl (flt (by decide : ¬ ((3 : Int32) < (3 : Int32)))).2.1 (by decide) (by decide) k) ?_
  show own_Fin p e below s Q 2 25 (T68.setTop (mkF m 62 #[.val (.ref o0), .val (.ref o1), .val (.int (3 : Int32))] []))
  refine own_step (fun t k => XS.aloadN X68.here hx rfl (hb hby d10_62) rfl rfl k) ?_
  show own_Fin p e below s Q 2 25 (T68.setTop (mkF m 63 #[.val (.ref o0), .val (.ref o1), .val (.int (3 : Int32))] [(.ref o0)]))
  refine own_step (fun t k => XS.aloadN X68.here hx rfl (hb hby d10_63) rfl rfl k) ?_
  show own_Fin p e below s Q 2 25 (T68.setTop (mkF m 64 #[.val (.ref o0), .val (.ref o1), .val (.int (3 : Int32))] [(.ref o0), (.ref o0)]))
  obtain ⟨T69, X69, e69, st69⟩ := getF X68 hx hZ hown (host := "") (Or.inl (hw _ (List.mem_of_getElem? (i := 74) rfl))) Via.refl e68 F67_o0_starts (g := (mkF m 64 #[.val (.ref o0), .val (.ref o1), .val (.int (3 : Int32))] [(.ref o0), (.ref o0)])) rfl rfl (hb hby d10_64)
  refine own_step st69 ?_
  show own_Fin p e below s Q 2 25 (T69.setTop (mkF m 67 #[.val (.ref o0), .val (.ref o1), .val (.int (3 : Int32))] [(.ref b48), (.ref o0)]))
  refine own_step (fun t k => XS.aloadN X69.here hx rfl (hb hby d10_67) rfl rfl k) ?_
  show own_Fin p e below s Q 2 25 (T69.setTop (mkF m 68 #[.val (.ref o0), .val (.ref o1), .val (.int (3 : Int32))] [(.ref o1), (.ref b48), (.ref o0)]))
  obtain ⟨cq70, kq70, q70a, q70b, q70c⟩ := isOf hZ e69 Ex67_o1
  obtain ⟨_, _, ⟨T70, L70, k70, n70⟩, -, X70, ⟨Lc70, hQ70, l70, y70, z70⟩, st70⟩ := X69.interfaceBack hx (xi := (⟨"java/util/List", "size", "()I"⟩ : MethodName)) (y := (⟨"java/util/ArrayList", "size", "()I"⟩ : MethodName)) hown (mvT hZ (hw _ (List.mem_of_getElem? (i := 65) rfl))) (mvT hZ (hw _ (List.mem_of_getElem? (i := 66) rfl))) (mvT hZ (hw _ (List.mem_of_getElem? (i := 67) rfl))) (mvT hZ (hw _ (List.mem_of_getElem? (i := 68) rfl))) (mvT hZ (hw _ (List.mem_of_getElem? (i := 69) rfl))) (mvT hZ (hw _ (List.mem_of_getElem? (i := 70) rfl))) (mvT hZ (hw _ (List.mem_of_getElem? (i := 71) rfl))) (mvT hZ (hw _ (List.mem_of_getElem? (i := 72) rfl))) (by decide) (backOf (W := 2) (rm11 l Z a0 hw [] o1 (3 : Int32) h67 n0 F67_o1_size) hZ (hw _ (List.mem_of_getElem? (i := 73) rfl)) (hw _ (List.mem_of_getElem? (i := 3) rfl)) (by decide) (by decide)) q70a q70b q70c (g := (mkF m 68 #[.val (.ref o0), .val (.ref o1), .val (.int (3 : Int32))] [(.ref o1), (.ref b48), (.ref o0)])) rfl (by rw [hml]; rfl) (Steps.refl _) (argsL := []) (rest := [(.ref b48), (.ref o0)]) (lenOf pdm_6 rfl) rfl (by show 2 * 0 + _ ≤ _; exact Nat.le_of_eq rfl) (hb hby d10_68) (fun _ _ => ⟨rfl, e69, (show cells + 0 + 1 + 0 + 0 + 0 + 0 + 0 + 0 + 0 + 0 ≤ 2 from (Nat.le_trans (Nat.add_le_add_right hc 1) (by decide))), (show slots + 0 + 4 + 0 + 0 + 0 + 0 + 0 + 0 + 0 + 0 ≤ 25 from (Nat.le_trans (Nat.add_le_add_right hs 4) (by decide)))⟩)
  dsimp only [Pt.U, Pt.locs, Pt.cells, Pt.slots] at X70 l70 y70 z70 st70 hQ70
  have yy70 : k70 = cells + 0 + 1 + 0 + 0 + 0 + 0 + 0 + 0 + 0 + 0 := y70
  have zz70 : n70 = slots + 0 + 4 + 0 + 0 + 0 + 0 + 0 + 0 + 0 + 0 := z70
  rw [yy70, zz70, l70] at X70
  obtain ⟨rfl, N70q, e70⟩ := hQ70
  have N70 := Fr.app N68 N70q
  refine own_step (fun t k => st70.trans k) ?_
  show own_Fin p e below s Q 2 25 (T70.setTop (mkF m 73 #[.val (.ref o0), .val (.ref o1), .val (.int (3 : Int32))] [(.int (3 : Int32)), (.ref b48), (.ref o0)]))
  obtain ⟨ca73, Ar73, Sz73, Ht73⟩ := id V67
  have hin73 : ¬ ((3 : Int32) < 0 ∨ ca73.slots.size ≤ ((3 : Int32)).toNatClampNeg) := by rw [Sz73]; exact (by decide)
  refine own_step (X70.iaload hx (j := (3 : Int32)) (v := (.int (gf67 ((3 : Int32)).toNatClampNeg))) (by rw [e70]; exact Ar73.1) (State.isArrayOf_alike hZ.alike Ar73.2.1) Ar73.2.2 hin73 (Ht73 _ (by have hq := Nat.lt_of_not_le (fun y => hin73 (Or.inr y)); rw [Sz73] at hq; exact hq)) (g := (mkF m 73 #[.val (.ref o0), .val (.ref o1), .val (.int (3 : Int32))] [(.int (3 : Int32)), (.ref b48), (.ref o0)])) rfl rfl (hb hby d10_73)) ?_
  show own_Fin p e below s Q 2 25 (T70.setTop (mkF m 74 #[.val (.ref o0), .val (.ref o1), .val (.int (3 : Int32))] [(.int (gf67 ((3 : Int32)).toNatClampNeg)), (.ref o0)]))
  obtain ⟨T71, h71, k71, X71, e71, E71, AA71, XX71, st71⟩ := newPE X70 hx hZ (hw _ (List.mem_of_getElem? (i := 0) rfl)) e70 (g := (mkF m 74 #[.val (.ref o0), .val (.ref o1), .val (.int (3 : Int32))] [(.int (gf67 ((3 : Int32)).toNatClampNeg)), (.ref o0)])) rfl (hb hby d10_74) rfl (by rw [(show (gf67 ((3 : Int32)).toNatClampNeg) = ((((0 : Int32) + (z0.toInt32)) + (z1.toInt32)) + (z2.toInt32)) from (by rw [hgf67, hgf61, hgf55]; rfl : gf67 3 = ((((0 : Int32) + (z0.toInt32)) + (z1.toInt32)) + (z2.toInt32))))]; exact (own_sn3 z0 z1 z2 hz0 hz1 hz2).1) (cap := 21) (by rw [(show (gf67 ((3 : Int32)).toNatClampNeg) = ((((0 : Int32) + (z0.toInt32)) + (z1.toInt32)) + (z2.toInt32)) from (by rw [hgf67, hgf61, hgf55]; rfl : gf67 3 = ((((0 : Int32) + (z0.toInt32)) + (z1.toInt32)) + (z2.toInt32)))), (own_sn3 z0 z1 z2 hz0 hz1 hz2).2]; omega) (by decide) (show cells + 0 + 1 + 0 + 0 + 0 + 0 + 0 + 0 + 0 + 0 + 1 ≤ 2 from (Nat.le_trans (Nat.add_le_add_right hc 2) (by decide))) (show slots + 0 + 4 + 0 + 0 + 0 + 0 + 0 + 0 + 0 + 0 + 21 ≤ 25 from (Nat.le_trans (Nat.add_le_add_right hs 25) (by decide))) (ad := "[I") (by decide)
  obtain ⟨b71, gg71⟩ : ∃ z, z = h67.size := ⟨_, rfl⟩
  rw [← gg71] at AA71 XX71 st71
  have V71 : own_AF Z h71 b71 .int ((gf67 ((3 : Int32)).toNatClampNeg)).toNatClampNeg (fun _ => 0) := own_AFnew AA71 rfl
  have fr71 : n0 ≤ b71 := Nat.le_trans Z067 (Nat.le_of_eq gg71.symm)
  have Z071 : n0 ≤ h71.size := Nat.le_trans Z067 E71.1
  have ner0_71 : r0 ≠ b71 := Nat.ne_of_lt (Nat.lt_of_lt_of_le V67_r0.lt (Nat.le_of_eq gg71.symm))
  have ner1_71 : r1 ≠ b71 := Nat.ne_of_lt (Nat.lt_of_lt_of_le V67_r1.lt (Nat.le_of_eq gg71.symm))
  have ner2_71 : r2 ≠ b71 := Nat.ne_of_lt (Nat.lt_of_lt_of_le V67_r2.lt (Nat.le_of_eq gg71.symm))
  have neb48_71 : b48 ≠ b71 := Nat.ne_of_lt (Nat.lt_of_lt_of_le V67.lt (Nat.le_of_eq gg71.symm))
  have neo1_71 : o1 ≠ b71 := Nat.ne_of_lt (Nat.lt_of_lt_of_le Ex67_o1.lt (Nat.le_of_eq gg71.symm))
  have neo0_71 : o0 ≠ b71 := Nat.ne_of_lt (Nat.lt_of_lt_of_le Ex67_o0.lt (Nat.le_of_eq gg71.symm))
  have sz71 : h.size ≤ b71 := Nat.le_trans K67.1 (Nat.le_of_eq gg71.symm)
  have neea_71 : ea ≠ b71 := Nat.ne_of_lt (Nat.lt_of_lt_of_le R67_ea.lt (Nat.le_of_eq gg71.symm))
  have V71_r0 := own_AFext V67_r0 E71
  have V71_r1 := own_AFext V67_r1 E71
  have V71_r2 := own_AFext V67_r2 E71
  have V71_b48 := own_AFext V67 E71
  have Ex71_o1 := Ex67_o1.ext E71
  have F71_o1_modCount := F67_o1_modCount.ext E71
  have F71_o1_elementData := F67_o1_elementData.ext E71
  have F71_o1_size := F67_o1_size.ext E71
  have Ex71_o0 := Ex67_o0.ext E71
  have F71_o0_starts := F67_o0_starts.ext E71
  have F71_o0_values := F67_o0_values.ext E71
  have Xa71_r0 := Xa67_r0.ext E71
  have Xa71_r1 := Xa67_r1.ext E71
  have Xa71_r2 := Xa67_r2.ext E71
  have Xa71_b48 := Xa67_b48.ext E71
  have R71_ea := own_RFext R67_ea E71
  have K71 : Keep h h71 [o0] := K67.ext E71
  refine own_step st71 ?_
  show own_Fin p e below s Q 2 25 (T71.setTop (mkF m 76 #[.val (.ref o0), .val (.ref o1), .val (.int (3 : Int32))] [(.ref b71), (.ref o0)]))
  obtain ⟨T72, h72, X72, e72, W72, st72⟩ := putF X71 hx hZ hown (host := "") (Or.inl (hw _ (List.mem_of_getElem? (i := 99) rfl))) Via.refl e71 F71_o0_values Ex71_o0 (Or.inr ⟨(hw _ (List.mem_of_getElem? (i := 100) rfl)), rfl, hnm⟩) (hw _ (List.mem_of_getElem? (i := 59) rfl)) (ty := (.array .int)) (by decide) rfl rfl (g := (mkF m 76 #[.val (.ref o0), .val (.ref o1), .val (.int (3 : Int32))] [(.ref b71), (.ref o0)])) rfl rfl (hb hby d10_76)
  have N72 := Fr.snoc X72 N70 fr0
  have Z072 : n0 ≤ h72.size := Nat.le_trans Z071 (Nat.le_of_eq W72.size.symm)
  have V72_r0 := own_AFoth V71_r0 W72 ne0
  have V72_r1 := own_AFoth V71_r1 W72 ne1
  have V72_r2 := own_AFoth V71_r2 W72 ne2
  have V72_b48 := own_AFoth V71_b48 W72 (Ne.symm neo0_48)
  have V72_b71 := own_AFoth V71 W72 (Ne.symm neo0_71)
  have Ex72_o1 := Ex71_o1.wr W72
  have F72_o1_modCount := F71_o1_modCount.other W72 (Or.inl nel)
  have F72_o1_elementData := F71_o1_elementData.other W72 (Or.inl nel)
  have F72_o1_size := F71_o1_size.other W72 (Or.inl nel)
  have Xa72_r0 := Xa71_r0.wr W72
  have Xa72_r1 := Xa71_r1.wr W72
  have Xa72_r2 := Xa71_r2.wr W72
  have Xa72_b48 := Xa71_b48.wr W72
  have Xa72_b71 := XX71.wr W72
  have R72_ea := own_RFoth R71_ea W72 nee
  have K72 : Keep h h72 [o0] := K71.wr W72 (Or.inl (List.mem_of_getElem? (i := 0) rfl))
  have Ex72_o0 := Ex71_o0.wr W72
  have F72_o0_starts := F71_o0_starts.other W72 (Or.inr (slot_ne (Or.inr (hw _ (List.mem_of_getElem? (i := 75) rfl))) (Or.inr (hw _ (List.mem_of_getElem? (i := 100) rfl))) (by decide) (t := (.array .int)) (t' := (.array .int)) (by decide) (by decide)))
  have F72_o0_values := F71_o0_values.same W72
  refine own_step st72 ?_
  show own_Fin p e below s Q 2 25 (T72.setTop (mkF m 79 #[.val (.ref o0), .val (.ref o1), .val (.int (3 : Int32))] []))
  have es0 : gf67 0 = (0 : Int32) := by rw [hgf67, hgf61, hgf55]; rfl
  have es1 : gf67 1 = ((0 : Int32) + (z0.toInt32)) := by rw [hgf67, hgf61, hgf55]; rfl
  have es2 : gf67 2 = (((0 : Int32) + (z0.toInt32)) + (z1.toInt32)) := by rw [hgf67, hgf61, hgf55]; rfl
  have es3 : gf67 3 = ((((0 : Int32) + (z0.toInt32)) + (z1.toInt32)) + (z2.toInt32)) := by rw [hgf67, hgf61, hgf55]; rfl
  have el : ((gf67 ((3 : Int32)).toNatClampNeg)).toNatClampNeg = 0 + z0 + z1 + z2 := (congrArg Int32.toNatClampNeg es3).trans (own_sn3 z0 z1 z2 hz0 hz1 hz2).2
  rw [el] at V72_b71
  refine own_step (fun t k => XS.iconst X72.here hx rfl (hb hby d10_79) k) ?_
  show own_Fin p e below s Q 2 25 (T72.setTop (mkF m 80 #[.val (.ref o0), .val (.ref o1), .val (.int (3 : Int32))] [(.int (0 : Int32))]))
  refine own_step (fun t k => XS.istoreN X72.here hx rfl (hb hby d10_80) rfl (l' := #[.val (.ref o0), .val (.ref o1), .val (.int (0 : Int32))]) rfl k) ?_
  show own_Fin p e below s Q 2 25 (T72.setTop (mkF m 81 #[.val (.ref o0), .val (.ref o1), .val (.int (0 : Int32))] []))
  refine own_step (fun t k => XS.iloadN X72.here hx rfl (hb hby d10_81) rfl  k) ?_
  show own_Fin p e below s Q 2 25 (T72.setTop (mkF m 82 #[.val (.ref o0), .val (.ref o1), .val (.int (0 : Int32))] [(.int (0 : Int32))]))
  refine own_step (fun t k => XS.aloadN X72.here hx rfl (hb hby d10_82) rfl rfl k) ?_
  show own_Fin p e below s Q 2 25 (T72.setTop (mkF m 83 #[.val (.ref o0), .val (.ref o1), .val (.int (0 : Int32))] [(.ref o1), (.int (0 : Int32))]))
  obtain ⟨cq73, kq73, q73a, q73b, q73c⟩ := isOf hZ e72 Ex72_o1
  obtain ⟨_, _, ⟨T73, L73, k73, n73⟩, -, X73, ⟨Lc73, hQ73, l73, y73, z73⟩, st73⟩ := X72.interfaceBack hx (xi := (⟨"java/util/List", "size", "()I"⟩ : MethodName)) (y := (⟨"java/util/ArrayList", "size", "()I"⟩ : MethodName)) hown (mvT hZ (hw _ (List.mem_of_getElem? (i := 65) rfl))) (mvT hZ (hw _ (List.mem_of_getElem? (i := 66) rfl))) (mvT hZ (hw _ (List.mem_of_getElem? (i := 67) rfl))) (mvT hZ (hw _ (List.mem_of_getElem? (i := 68) rfl))) (mvT hZ (hw _ (List.mem_of_getElem? (i := 69) rfl))) (mvT hZ (hw _ (List.mem_of_getElem? (i := 70) rfl))) (mvT hZ (hw _ (List.mem_of_getElem? (i := 71) rfl))) (mvT hZ (hw _ (List.mem_of_getElem? (i := 72) rfl))) (by decide) (backOf (W := 1) (rm11 l Z a0 hw [] o1 (3 : Int32) h72 n0 F72_o1_size) hZ (hw _ (List.mem_of_getElem? (i := 73) rfl)) (hw _ (List.mem_of_getElem? (i := 3) rfl)) (by decide) (by decide)) q73a q73b q73c (g := (mkF m 83 #[.val (.ref o0), .val (.ref o1), .val (.int (0 : Int32))] [(.ref o1), (.int (0 : Int32))])) rfl (by rw [hml]; rfl) (Steps.refl _) (argsL := []) (rest := [(.int (0 : Int32))]) (lenOf pdm_6 rfl) rfl (by show 2 * 0 + _ ≤ _; exact Nat.le_of_eq rfl) (hb hby d10_83) (fun _ _ => ⟨rfl, e72, (show cells + 0 + 1 + 0 + 0 + 0 + 0 + 0 + 0 + 0 + 0 + 1 + 0 ≤ 2 from (Nat.le_trans (Nat.add_le_add_right hc 2) (by decide))), (show slots + 0 + 4 + 0 + 0 + 0 + 0 + 0 + 0 + 0 + 0 + 21 + 0 ≤ 25 from (Nat.le_trans (Nat.add_le_add_right hs 25) (by decide)))⟩)
  dsimp only [Pt.U, Pt.locs, Pt.cells, Pt.slots] at X73 l73 y73 z73 st73 hQ73
  have yy73 : k73 = cells + 0 + 1 + 0 + 0 + 0 + 0 + 0 + 0 + 0 + 0 + 1 + 0 := y73
  have zz73 : n73 = slots + 0 + 4 + 0 + 0 + 0 + 0 + 0 + 0 + 0 + 0 + 21 + 0 := z73
  rw [yy73, zz73, l73] at X73
  obtain ⟨rfl, N73q, e73⟩ := hQ73
  have N73 := Fr.app N72 N73q
  refine own_step (fun t k => st73.trans k) ?_
  show own_Fin p e below s Q 2 25 (T73.setTop (mkF m 88 #[.val (.ref o0), .val (.ref o1), .val (.int (0 : Int32))] [(.int (3 : Int32)), (.int (0 : Int32))]))
  refine own_step (fun t k => XS.icmpNo X73.here hx rfl (hb hby d10_88) rfl (tlt (by decide : (0 : Int32) < (3 : Int32))).2.1 k) ?_
  show own_Fin p e below s Q 2 25 (T73.setTop (mkF m 91 #[.val (.ref o0), .val (.ref o1), .val (.int (0 : Int32))] []))
  refine own_step (fun t k => XS.aloadN X73.here hx rfl (hb hby d10_91) rfl rfl k) ?_
  show own_Fin p e below s Q 2 25 (T73.setTop (mkF m 92 #[.val (.ref o0), .val (.ref o1), .val (.int (0 : Int32))] [(.ref o1)]))
  refine own_step (fun t k => XS.iloadN X73.here hx rfl (hb hby d10_92) rfl  k) ?_
  show own_Fin p e below s Q 2 25 (T73.setTop (mkF m 93 #[.val (.ref o0), .val (.ref o1), .val (.int (0 : Int32))] [(.int (0 : Int32)), (.ref o1)]))
  obtain ⟨cq74, kq74, q74a, q74b, q74c⟩ := isOf hZ e73 Ex72_o1
  obtain ⟨_, _, ⟨T74, L74, k74, n74⟩, -, X74, ⟨Lc74, hQ74, l74, y74, z74⟩, st74⟩ := X73.interfaceBack hx (xi := (⟨"java/util/List", "get", "(I)Ljava/lang/Object;"⟩ : MethodName)) (y := (⟨"java/util/ArrayList", "get", "(I)Ljava/lang/Object;"⟩ : MethodName)) hown (mvT hZ (hw _ (List.mem_of_getElem? (i := 76) rfl))) (mvT hZ (hw _ (List.mem_of_getElem? (i := 77) rfl))) (mvT hZ (hw _ (List.mem_of_getElem? (i := 78) rfl))) (mvT hZ (hw _ (List.mem_of_getElem? (i := 79) rfl))) (mvT hZ (hw _ (List.mem_of_getElem? (i := 80) rfl))) (mvT hZ (hw _ (List.mem_of_getElem? (i := 81) rfl))) (mvT hZ (hw _ (List.mem_of_getElem? (i := 82) rfl))) (mvT hZ (hw _ (List.mem_of_getElem? (i := 72) rfl))) (by decide) (backOf (W := 0) (rm12 l Z a0 hw [] o1 (0 : Int32) ea gE r0 (3 : Int32) h72 n0 Ex72_o1 F72_o1_size F72_o1_elementData R72_ea (by unfold own_In; decide) hg0 (by decide) (by decide)) hZ (hw _ (List.mem_of_getElem? (i := 83) rfl)) (hw _ (List.mem_of_getElem? (i := 3) rfl)) (by decide) (by decide)) q74a q74b q74c (g := (mkF m 93 #[.val (.ref o0), .val (.ref o1), .val (.int (0 : Int32))] [(.int (0 : Int32)), (.ref o1)])) rfl (by rw [hml]; rfl) (Steps.refl _) (argsL := [(.int (0 : Int32))]) (rest := []) (lenOf pdm_8 rfl) rfl (by show 2 * 0 + _ ≤ _; exact Nat.le_of_eq rfl) (hb hby d10_93) (fun _ _ => ⟨rfl, e73, (show cells + 0 + 1 + 0 + 0 + 0 + 0 + 0 + 0 + 0 + 0 + 1 + 0 + 0 ≤ 2 from (Nat.le_trans (Nat.add_le_add_right hc 2) (by decide))), (show slots + 0 + 4 + 0 + 0 + 0 + 0 + 0 + 0 + 0 + 0 + 21 + 0 + 0 ≤ 25 from (Nat.le_trans (Nat.add_le_add_right hs 25) (by decide)))⟩)
  dsimp only [Pt.U, Pt.locs, Pt.cells, Pt.slots] at X74 l74 y74 z74 st74 hQ74
  have yy74 : k74 = cells + 0 + 1 + 0 + 0 + 0 + 0 + 0 + 0 + 0 + 0 + 1 + 0 + 0 := y74
  have zz74 : n74 = slots + 0 + 4 + 0 + 0 + 0 + 0 + 0 + 0 + 0 + 0 + 21 + 0 + 0 := z74
  rw [yy74, zz74, l74] at X74
  obtain ⟨rfl, N74q, e74⟩ := hQ74
  have N74 := Fr.app N73 N74q
  refine own_step (fun t k => st74.trans k) ?_
  show own_Fin p e below s Q 2 25 (T74.setTop (mkF m 98 #[.val (.ref o0), .val (.ref o1), .val (.int (0 : Int32))] [(.ref r0)]))
  refine own_step (fun t k => XS.iconst X74.here hx rfl (hb hby d10_98) k) ?_
  show own_Fin p e below s Q 2 25 (T74.setTop (mkF m 99 #[.val (.ref o0), .val (.ref o1), .val (.int (0 : Int32))] [(.int (0 : Int32)), (.ref r0)]))
  refine own_step (fun t k => XS.aloadN X74.here hx rfl (hb hby d10_99) rfl rfl k) ?_
  show own_Fin p e below s Q 2 25 (T74.setTop (mkF m 100 #[.val (.ref o0), .val (.ref o1), .val (.int (0 : Int32))] [(.ref o0), (.int (0 : Int32)), (.ref r0)]))
  obtain ⟨T75, X75, e75, st75⟩ := getF X74 hx hZ hown (host := "") (Or.inl (hw _ (List.mem_of_getElem? (i := 99) rfl))) Via.refl e74 F72_o0_values (g := (mkF m 100 #[.val (.ref o0), .val (.ref o1), .val (.int (0 : Int32))] [(.ref o0), (.int (0 : Int32)), (.ref r0)])) rfl rfl (hb hby d10_100)
  refine own_step st75 ?_
  show own_Fin p e below s Q 2 25 (T75.setTop (mkF m 103 #[.val (.ref o0), .val (.ref o1), .val (.int (0 : Int32))] [(.ref b71), (.int (0 : Int32)), (.ref r0)]))
  refine own_step (fun t k => XS.aloadN X75.here hx rfl (hb hby d10_103) rfl rfl k) ?_
  show own_Fin p e below s Q 2 25 (T75.setTop (mkF m 104 #[.val (.ref o0), .val (.ref o1), .val (.int (0 : Int32))] [(.ref o0), (.ref b71), (.int (0 : Int32)), (.ref r0)]))
  obtain ⟨T76, X76, e76, st76⟩ := getF X75 hx hZ hown (host := "") (Or.inl (hw _ (List.mem_of_getElem? (i := 74) rfl))) Via.refl e75 F72_o0_starts (g := (mkF m 104 #[.val (.ref o0), .val (.ref o1), .val (.int (0 : Int32))] [(.ref o0), (.ref b71), (.int (0 : Int32)), (.ref r0)])) rfl rfl (hb hby d10_104)
  refine own_step st76 ?_
  show own_Fin p e below s Q 2 25 (T76.setTop (mkF m 107 #[.val (.ref o0), .val (.ref o1), .val (.int (0 : Int32))] [(.ref b48), (.ref b71), (.int (0 : Int32)), (.ref r0)]))
  refine own_step (fun t k => XS.iloadN X76.here hx rfl (hb hby d10_107) rfl  k) ?_
  show own_Fin p e below s Q 2 25 (T76.setTop (mkF m 108 #[.val (.ref o0), .val (.ref o1), .val (.int (0 : Int32))] [(.int (0 : Int32)), (.ref b48), (.ref b71), (.int (0 : Int32)), (.ref r0)]))
  obtain ⟨ca108, Ar108, Sz108, Ht108⟩ := id V72_b48
  have hin108 : ¬ ((0 : Int32) < 0 ∨ ca108.slots.size ≤ ((0 : Int32)).toNatClampNeg) := by rw [Sz108]; exact (by decide)
  refine own_step (X76.iaload hx (j := (0 : Int32)) (v := (.int (gf67 ((0 : Int32)).toNatClampNeg))) (by rw [e76]; exact Ar108.1) (State.isArrayOf_alike hZ.alike Ar108.2.1) Ar108.2.2 hin108 (Ht108 _ (by have hq := Nat.lt_of_not_le (fun y => hin108 (Or.inr y)); rw [Sz108] at hq; exact hq)) (g := (mkF m 108 #[.val (.ref o0), .val (.ref o1), .val (.int (0 : Int32))] [(.int (0 : Int32)), (.ref b48), (.ref b71), (.int (0 : Int32)), (.ref r0)])) rfl rfl (hb hby d10_108)) ?_
  show own_Fin p e below s Q 2 25 (T76.setTop (mkF m 109 #[.val (.ref o0), .val (.ref o1), .val (.int (0 : Int32))] [(.int (gf67 ((0 : Int32)).toNatClampNeg)), (.ref b71), (.int (0 : Int32)), (.ref r0)]))
  refine own_step (fun t k => XS.aloadN X76.here hx rfl (hb hby d10_109) rfl rfl k) ?_
  show own_Fin p e below s Q 2 25 (T76.setTop (mkF m 110 #[.val (.ref o0), .val (.ref o1), .val (.int (0 : Int32))] [(.ref o1), (.int (gf67 ((0 : Int32)).toNatClampNeg)), (.ref b71), (.int (0 : Int32)), (.ref r0)]))
  refine own_step (fun t k => XS.iloadN X76.here hx rfl (hb hby d10_110) rfl  k) ?_
  show own_Fin p e below s Q 2 25 (T76.setTop (mkF m 111 #[.val (.ref o0), .val (.ref o1), .val (.int (0 : Int32))] [(.int (0 : Int32)), (.ref o1), (.int (gf67 ((0 : Int32)).toNatClampNeg)), (.ref b71), (.int (0 : Int32)), (.ref r0)]))
  obtain ⟨cq77, kq77, q77a, q77b, q77c⟩ := isOf hZ e76 Ex72_o1
  obtain ⟨_, _, ⟨T77, L77, k77, n77⟩, -, X77, ⟨Lc77, hQ77, l77, y77, z77⟩, st77⟩ := X76.interfaceBack hx (xi := (⟨"java/util/List", "get", "(I)Ljava/lang/Object;"⟩ : MethodName)) (y := (⟨"java/util/ArrayList", "get", "(I)Ljava/lang/Object;"⟩ : MethodName)) hown (mvT hZ (hw _ (List.mem_of_getElem? (i := 76) rfl))) (mvT hZ (hw _ (List.mem_of_getElem? (i := 77) rfl))) (mvT hZ (hw _ (List.mem_of_getElem? (i := 78) rfl))) (mvT hZ (hw _ (List.mem_of_getElem? (i := 79) rfl))) (mvT hZ (hw _ (List.mem_of_getElem? (i := 80) rfl))) (mvT hZ (hw _ (List.mem_of_getElem? (i := 81) rfl))) (mvT hZ (hw _ (List.mem_of_getElem? (i := 82) rfl))) (mvT hZ (hw _ (List.mem_of_getElem? (i := 72) rfl))) (by decide) (backOf (W := 4) (rm12 l Z a0 hw [] o1 (0 : Int32) ea gE r0 (3 : Int32) h72 n0 Ex72_o1 F72_o1_size F72_o1_elementData R72_ea (by unfold own_In; decide) hg0 (by decide) (by decide)) hZ (hw _ (List.mem_of_getElem? (i := 83) rfl)) (hw _ (List.mem_of_getElem? (i := 3) rfl)) (by decide) (by decide)) q77a q77b q77c (g := (mkF m 111 #[.val (.ref o0), .val (.ref o1), .val (.int (0 : Int32))] [(.int (0 : Int32)), (.ref o1), (.int (gf67 ((0 : Int32)).toNatClampNeg)), (.ref b71), (.int (0 : Int32)), (.ref r0)])) rfl (by rw [hml]; rfl) (Steps.refl _) (argsL := [(.int (0 : Int32))]) (rest := [(.int (gf67 ((0 : Int32)).toNatClampNeg)), (.ref b71), (.int (0 : Int32)), (.ref r0)]) (lenOf pdm_8 rfl) rfl (by show 2 * 0 + _ ≤ _; exact Nat.le_of_eq rfl) (hb hby d10_111) (fun _ _ => ⟨rfl, e76, (show cells + 0 + 1 + 0 + 0 + 0 + 0 + 0 + 0 + 0 + 0 + 1 + 0 + 0 + 0 ≤ 2 from (Nat.le_trans (Nat.add_le_add_right hc 2) (by decide))), (show slots + 0 + 4 + 0 + 0 + 0 + 0 + 0 + 0 + 0 + 0 + 21 + 0 + 0 + 0 ≤ 25 from (Nat.le_trans (Nat.add_le_add_right hs 25) (by decide)))⟩)
  dsimp only [Pt.U, Pt.locs, Pt.cells, Pt.slots] at X77 l77 y77 z77 st77 hQ77
  have yy77 : k77 = cells + 0 + 1 + 0 + 0 + 0 + 0 + 0 + 0 + 0 + 0 + 1 + 0 + 0 + 0 := y77
  have zz77 : n77 = slots + 0 + 4 + 0 + 0 + 0 + 0 + 0 + 0 + 0 + 0 + 21 + 0 + 0 + 0 := z77
  rw [yy77, zz77, l77] at X77
  obtain ⟨rfl, N77q, e77⟩ := hQ77
  have N77 := Fr.app N74 N77q
  refine own_step (fun t k => st77.trans k) ?_
  show own_Fin p e below s Q 2 25 (T77.setTop (mkF m 116 #[.val (.ref o0), .val (.ref o1), .val (.int (0 : Int32))] [(.ref r0), (.int (gf67 ((0 : Int32)).toNatClampNeg)), (.ref b71), (.int (0 : Int32)), (.ref r0)]))
  obtain ⟨T78, X78, e78, st78⟩ := castY X77 hx hZ hown (hw _ (List.mem_of_getElem? (i := 97) rfl)) e77 (Ins.of_exa Xa72_r0 (hw _ (List.mem_of_getElem? (i := 98) rfl))) (g := (mkF m 116 #[.val (.ref o0), .val (.ref o1), .val (.int (0 : Int32))] [(.ref r0), (.int (gf67 ((0 : Int32)).toNatClampNeg)), (.ref b71), (.int (0 : Int32)), (.ref r0)])) rfl rfl (hb hby d10_116)
  refine own_step st78 ?_
  show own_Fin p e below s Q 2 25 (T78.setTop (mkF m 119 #[.val (.ref o0), .val (.ref o1), .val (.int (0 : Int32))] [(.ref r0), (.int (gf67 ((0 : Int32)).toNatClampNeg)), (.ref b71), (.int (0 : Int32)), (.ref r0)]))
  obtain ⟨ca119, Ar119, Sz119, Ht119⟩ := id V72_r0
  refine own_step (X78.arraylength hx (by rw [e78]; exact Ar119.1) (State.isArrayOf_alike hZ.alike Ar119.2.1) (g := (mkF m 119 #[.val (.ref o0), .val (.ref o1), .val (.int (0 : Int32))] [(.ref r0), (.int (gf67 ((0 : Int32)).toNatClampNeg)), (.ref b71), (.int (0 : Int32)), (.ref r0)])) rfl rfl (hb hby d10_119)) ?_
  rw [Sz119]
  show own_Fin p e below s Q 2 25 (T78.setTop (mkF m 120 #[.val (.ref o0), .val (.ref o1), .val (.int (0 : Int32))] [(.int (z0.toInt32)), (.int (gf67 ((0 : Int32)).toNatClampNeg)), (.ref b71), (.int (0 : Int32)), (.ref r0)]))
  obtain ⟨T79, h79, L79, X79, e79, N79, K79, V79, st79⟩ := own_cp X78 hx hZ hown (hw _ (List.mem_of_getElem? (i := 101) rfl)) (hw _ (List.mem_of_getElem? (i := 104) rfl)) (hw _ (List.mem_of_getElem? (i := 102) rfl)) (hw _ (List.mem_of_getElem? (i := 103) rfl)) e78 V72_r0 V72_b71 (by omega) (by omega) (by rw [(show (gf67 ((0 : Int32)).toNatClampNeg) = (0 : Int32) from es0)]; exact (own_sn0 z0 z1 z2 hz0 hz1 hz2).1) (by rw [(own_zl z0 (by omega)).1]; exact Nat.le_refl _) ((own_zl z0 (by omega)).2) (by rw [(show (gf67 ((0 : Int32)).toNatClampNeg) = (0 : Int32) from es0), (own_sn0 z0 z1 z2 hz0 hz1 hz2).2, (own_zl z0 (by omega)).1]; omega) N77 fr71  (g := (mkF m 120 #[.val (.ref o0), .val (.ref o1), .val (.int (0 : Int32))] [(.int (z0.toInt32)), (.int (gf67 ((0 : Int32)).toNatClampNeg)), (.ref b71), (.int (0 : Int32)), (.ref r0)])) rfl (by rw [hml]; rfl) rfl (hb hby d10_120) (by decide) (W := 0) (by show 2 * 0 + _ ≤ _; exact Nat.le_of_eq rfl) (by decide)
  have Z079 : n0 ≤ h79.size := Nat.le_trans Z072 K79.1
  obtain ⟨gf79, hgf79⟩ : ∃ g' : Nat → Int32, g' = (fun i => if ((gf67 ((0 : Int32)).toNatClampNeg)).toNatClampNeg ≤ i ∧ i < ((gf67 ((0 : Int32)).toNatClampNeg)).toNatClampNeg + ((z0.toInt32)).toNatClampNeg then g0 (i - ((gf67 ((0 : Int32)).toNatClampNeg)).toNatClampNeg) else (fun _ => 0) i) := ⟨_, rfl⟩
  rw [← hgf79] at V79
  have eh79 : T79.heap = h79 := e79
  subst e79
  have V79_r0 := own_AFkeep V72_r0 K79 (ninS ner0_71 nin0)
  have Xa79_r0 := Xa72_r0.keep K79
  have V79_r1 := own_AFkeep V72_r1 K79 (ninS ner1_71 nin0)
  have Xa79_r1 := Xa72_r1.keep K79
  have V79_r2 := own_AFkeep V72_r2 K79 (ninS ner2_71 nin0)
  have Xa79_r2 := Xa72_r2.keep K79
  have V79_b48 := own_AFkeep V72_b48 K79 (ninS neb48_71 nin0)
  have Xa79_b48 := Xa72_b48.keep K79
  have Xa79_b71 := Xa72_b71.keep K79
  have R79_ea := own_RFkeep R72_ea K79 (ninS neea_71 nin0)
  have Ex79_o1 := Ex72_o1.keep K79
  have F79_o1_modCount := F72_o1_modCount.keep K79 (ninS neo1_71 nin0)
  have F79_o1_elementData := F72_o1_elementData.keep K79 (ninS neo1_71 nin0)
  have F79_o1_size := F72_o1_size.keep K79 (ninS neo1_71 nin0)
  have Ex79_o0 := Ex72_o0.keep K79
  have F79_o0_starts := F72_o0_starts.keep K79 (ninS neo0_71 nin0)
  have F79_o0_values := F72_o0_values.keep K79 (ninS neo0_71 nin0)
  have KK79 : Keep h T79.heap [o0] := K72.trans K79 (allS (Or.inr sz71) all0)
  refine own_step st79 ?_
  show own_Fin p e below s Q 2 25 (T79.setTop (mkF m 123 #[.val (.ref o0), .val (.ref o1), .val (.int (0 : Int32))] []))
  refine own_step (fun t k => XS.iinc X79.here hx rfl (hb hby d10_123) rfl (l' := #[.val (.ref o0), .val (.ref o1), .val (.int (1 : Int32))]) rfl k) ?_
  show own_Fin p e below s Q 2 25 (T79.setTop (mkF m 126 #[.val (.ref o0), .val (.ref o1), .val (.int (1 : Int32))] []))
  refine own_step (fun t k => XS.goto X79.here hx rfl (pc0 := 126) (pc' := 81) rfl (hb hby d10_126) (by decide) (by decide) k) ?_
  show own_Fin p e below s Q 2 25 (T79.setTop (mkF m 81 #[.val (.ref o0), .val (.ref o1), .val (.int (1 : Int32))] []))
  refine own_step (fun t k => XS.iloadN X79.here hx rfl (hb hby d10_81) rfl  k) ?_
  show own_Fin p e below s Q 2 25 (T79.setTop (mkF m 82 #[.val (.ref o0), .val (.ref o1), .val (.int (1 : Int32))] [(.int (1 : Int32))]))
  refine own_step (fun t k => XS.aloadN X79.here hx rfl (hb hby d10_82) rfl rfl k) ?_
  show own_Fin p e below s Q 2 25 (T79.setTop (mkF m 83 #[.val (.ref o0), .val (.ref o1), .val (.int (1 : Int32))] [(.ref o1), (.int (1 : Int32))]))
  obtain ⟨cq80, kq80, q80a, q80b, q80c⟩ := isOf hZ rfl Ex79_o1
  obtain ⟨_, _, ⟨T80, L80, k80, n80⟩, -, X80, ⟨Lc80, hQ80, l80, y80, z80⟩, st80⟩ := X79.interfaceBack hx (xi := (⟨"java/util/List", "size", "()I"⟩ : MethodName)) (y := (⟨"java/util/ArrayList", "size", "()I"⟩ : MethodName)) hown (mvT hZ (hw _ (List.mem_of_getElem? (i := 65) rfl))) (mvT hZ (hw _ (List.mem_of_getElem? (i := 66) rfl))) (mvT hZ (hw _ (List.mem_of_getElem? (i := 67) rfl))) (mvT hZ (hw _ (List.mem_of_getElem? (i := 68) rfl))) (mvT hZ (hw _ (List.mem_of_getElem? (i := 69) rfl))) (mvT hZ (hw _ (List.mem_of_getElem? (i := 70) rfl))) (mvT hZ (hw _ (List.mem_of_getElem? (i := 71) rfl))) (mvT hZ (hw _ (List.mem_of_getElem? (i := 72) rfl))) (by decide) (backOf (W := 1) (rm11 l Z a0 hw [] o1 (3 : Int32) T79.heap n0 F79_o1_size) hZ (hw _ (List.mem_of_getElem? (i := 73) rfl)) (hw _ (List.mem_of_getElem? (i := 3) rfl)) (by decide) (by decide)) q80a q80b q80c (g := (mkF m 83 #[.val (.ref o0), .val (.ref o1), .val (.int (1 : Int32))] [(.ref o1), (.int (1 : Int32))])) rfl (by rw [hml]; rfl) (Steps.refl _) (argsL := []) (rest := [(.int (1 : Int32))]) (lenOf pdm_6 rfl) rfl (by show 2 * 0 + _ ≤ _; exact Nat.le_of_eq rfl) (hb hby d10_83) (fun _ _ => ⟨rfl, rfl, (show cells + 0 + 1 + 0 + 0 + 0 + 0 + 0 + 0 + 0 + 0 + 1 + 0 + 0 + 0 + 0 ≤ 2 from (Nat.le_trans (Nat.add_le_add_right hc 2) (by decide))), (show slots + 0 + 4 + 0 + 0 + 0 + 0 + 0 + 0 + 0 + 0 + 21 + 0 + 0 + 0 + 0 ≤ 25 from (Nat.le_trans (Nat.add_le_add_right hs 25) (by decide)))⟩)
  dsimp only [Pt.U, Pt.locs, Pt.cells, Pt.slots] at X80 l80 y80 z80 st80 hQ80
  have yy80 : k80 = cells + 0 + 1 + 0 + 0 + 0 + 0 + 0 + 0 + 0 + 0 + 1 + 0 + 0 + 0 + 0 := y80
  have zz80 : n80 = slots + 0 + 4 + 0 + 0 + 0 + 0 + 0 + 0 + 0 + 0 + 21 + 0 + 0 + 0 + 0 := z80
  rw [yy80, zz80, l80] at X80
  obtain ⟨rfl, N80q, e80⟩ := hQ80
  have N80 := Fr.app N79 N80q
  refine own_step (fun t k => st80.trans k) ?_
  show own_Fin p e below s Q 2 25 (T80.setTop (mkF m 88 #[.val (.ref o0), .val (.ref o1), .val (.int (1 : Int32))] [(.int (3 : Int32)), (.int (1 : Int32))]))
  refine own_step (fun t k => XS.icmpNo X80.here hx rfl (hb hby d10_88) rfl (tlt (by decide : (1 : Int32) < (3 : Int32))).2.1 k) ?_
  show own_Fin p e below s Q 2 25 (T80.setTop (mkF m 91 #[.val (.ref o0), .val (.ref o1), .val (.int (1 : Int32))] []))
  refine own_step (fun t k => XS.aloadN X80.here hx rfl (hb hby d10_91) rfl rfl k) ?_
  show own_Fin p e below s Q 2 25 (T80.setTop (mkF m 92 #[.val (.ref o0), .val (.ref o1), .val (.int (1 : Int32))] [(.ref o1)]))
  refine own_step (fun t k => XS.iloadN X80.here hx rfl (hb hby d10_92) rfl  k) ?_
  show own_Fin p e below s Q 2 25 (T80.setTop (mkF m 93 #[.val (.ref o0), .val (.ref o1), .val (.int (1 : Int32))] [(.int (1 : Int32)), (.ref o1)]))
  obtain ⟨cq81, kq81, q81a, q81b, q81c⟩ := isOf hZ e80 Ex79_o1
  obtain ⟨_, _, ⟨T81, L81, k81, n81⟩, -, X81, ⟨Lc81, hQ81, l81, y81, z81⟩, st81⟩ := X80.interfaceBack hx (xi := (⟨"java/util/List", "get", "(I)Ljava/lang/Object;"⟩ : MethodName)) (y := (⟨"java/util/ArrayList", "get", "(I)Ljava/lang/Object;"⟩ : MethodName)) hown (mvT hZ (hw _ (List.mem_of_getElem? (i := 76) rfl))) (mvT hZ (hw _ (List.mem_of_getElem? (i := 77) rfl))) (mvT hZ (hw _ (List.mem_of_getElem? (i := 78) rfl))) (mvT hZ (hw _ (List.mem_of_getElem? (i := 79) rfl))) (mvT hZ (hw _ (List.mem_of_getElem? (i := 80) rfl))) (mvT hZ (hw _ (List.mem_of_getElem? (i := 81) rfl))) (mvT hZ (hw _ (List.mem_of_getElem? (i := 82) rfl))) (mvT hZ (hw _ (List.mem_of_getElem? (i := 72) rfl))) (by decide) (backOf (W := 0) (rm12 l Z a0 hw [] o1 (1 : Int32) ea gE r1 (3 : Int32) T79.heap n0 Ex79_o1 F79_o1_size F79_o1_elementData R79_ea (by unfold own_In; decide) hg1 (by decide) (by decide)) hZ (hw _ (List.mem_of_getElem? (i := 83) rfl)) (hw _ (List.mem_of_getElem? (i := 3) rfl)) (by decide) (by decide)) q81a q81b q81c (g := (mkF m 93 #[.val (.ref o0), .val (.ref o1), .val (.int (1 : Int32))] [(.int (1 : Int32)), (.ref o1)])) rfl (by rw [hml]; rfl) (Steps.refl _) (argsL := [(.int (1 : Int32))]) (rest := []) (lenOf pdm_8 rfl) rfl (by show 2 * 0 + _ ≤ _; exact Nat.le_of_eq rfl) (hb hby d10_93) (fun _ _ => ⟨rfl, e80, (show cells + 0 + 1 + 0 + 0 + 0 + 0 + 0 + 0 + 0 + 0 + 1 + 0 + 0 + 0 + 0 + 0 ≤ 2 from (Nat.le_trans (Nat.add_le_add_right hc 2) (by decide))), (show slots + 0 + 4 + 0 + 0 + 0 + 0 + 0 + 0 + 0 + 0 + 21 + 0 + 0 + 0 + 0 + 0 ≤ 25 from (Nat.le_trans (Nat.add_le_add_right hs 25) (by decide)))⟩)
  dsimp only [Pt.U, Pt.locs, Pt.cells, Pt.slots] at X81 l81 y81 z81 st81 hQ81
  have yy81 : k81 = cells + 0 + 1 + 0 + 0 + 0 + 0 + 0 + 0 + 0 + 0 + 1 + 0 + 0 + 0 + 0 + 0 := y81
  have zz81 : n81 = slots + 0 + 4 + 0 + 0 + 0 + 0 + 0 + 0 + 0 + 0 + 21 + 0 + 0 + 0 + 0 + 0 := z81
  rw [yy81, zz81, l81] at X81
  obtain ⟨rfl, N81q, e81⟩ := hQ81
  have N81 := Fr.app N80 N81q
  refine own_step (fun t k => st81.trans k) ?_
  show own_Fin p e below s Q 2 25 (T81.setTop (mkF m 98 #[.val (.ref o0), .val (.ref o1), .val (.int (1 : Int32))] [(.ref r1)]))
  refine own_step (fun t k => XS.iconst X81.here hx rfl (hb hby d10_98) k) ?_
  show own_Fin p e below s Q 2 25 (T81.setTop (mkF m 99 #[.val (.ref o0), .val (.ref o1), .val (.int (1 : Int32))] [(.int (0 : Int32)), (.ref r1)]))
  refine own_step (fun t k => XS.aloadN X81.here hx rfl (hb hby d10_99) rfl rfl k) ?_
  show own_Fin p e below s Q 2 25 (T81.setTop (mkF m 100 #[.val (.ref o0), .val (.ref o1), .val (.int (1 : Int32))] [(.ref o0), (.int (0 : Int32)), (.ref r1)]))
  obtain ⟨T82, X82, e82, st82⟩ := getF X81 hx hZ hown (host := "") (Or.inl (hw _ (List.mem_of_getElem? (i := 99) rfl))) Via.refl e81 F79_o0_values (g := (mkF m 100 #[.val (.ref o0), .val (.ref o1), .val (.int (1 : Int32))] [(.ref o0), (.int (0 : Int32)), (.ref r1)])) rfl rfl (hb hby d10_100)
  refine own_step st82 ?_
  show own_Fin p e below s Q 2 25 (T82.setTop (mkF m 103 #[.val (.ref o0), .val (.ref o1), .val (.int (1 : Int32))] [(.ref b71), (.int (0 : Int32)), (.ref r1)]))
  refine own_step (fun t k => XS.aloadN X82.here hx rfl (hb hby d10_103) rfl rfl k) ?_
  show own_Fin p e below s Q 2 25 (T82.setTop (mkF m 104 #[.val (.ref o0), .val (.ref o1), .val (.int (1 : Int32))] [(.ref o0), (.ref b71), (.int (0 : Int32)), (.ref r1)]))
  obtain ⟨T83, X83, e83, st83⟩ := getF X82 hx hZ hown (host := "") (Or.inl (hw _ (List.mem_of_getElem? (i := 74) rfl))) Via.refl e82 F79_o0_starts (g := (mkF m 104 #[.val (.ref o0), .val (.ref o1), .val (.int (1 : Int32))] [(.ref o0), (.ref b71), (.int (0 : Int32)), (.ref r1)])) rfl rfl (hb hby d10_104)
  refine own_step st83 ?_
  show own_Fin p e below s Q 2 25 (T83.setTop (mkF m 107 #[.val (.ref o0), .val (.ref o1), .val (.int (1 : Int32))] [(.ref b48), (.ref b71), (.int (0 : Int32)), (.ref r1)]))
  refine own_step (fun t k => XS.iloadN X83.here hx rfl (hb hby d10_107) rfl  k) ?_
  show own_Fin p e below s Q 2 25 (T83.setTop (mkF m 108 #[.val (.ref o0), .val (.ref o1), .val (.int (1 : Int32))] [(.int (1 : Int32)), (.ref b48), (.ref b71), (.int (0 : Int32)), (.ref r1)]))
  obtain ⟨ca108, Ar108, Sz108, Ht108⟩ := id V79_b48
  have hin108 : ¬ ((1 : Int32) < 0 ∨ ca108.slots.size ≤ ((1 : Int32)).toNatClampNeg) := by rw [Sz108]; exact (by decide)
  refine own_step (X83.iaload hx (j := (1 : Int32)) (v := (.int (gf67 ((1 : Int32)).toNatClampNeg))) (by rw [e83]; exact Ar108.1) (State.isArrayOf_alike hZ.alike Ar108.2.1) Ar108.2.2 hin108 (Ht108 _ (by have hq := Nat.lt_of_not_le (fun y => hin108 (Or.inr y)); rw [Sz108] at hq; exact hq)) (g := (mkF m 108 #[.val (.ref o0), .val (.ref o1), .val (.int (1 : Int32))] [(.int (1 : Int32)), (.ref b48), (.ref b71), (.int (0 : Int32)), (.ref r1)])) rfl rfl (hb hby d10_108)) ?_
  show own_Fin p e below s Q 2 25 (T83.setTop (mkF m 109 #[.val (.ref o0), .val (.ref o1), .val (.int (1 : Int32))] [(.int (gf67 ((1 : Int32)).toNatClampNeg)), (.ref b71), (.int (0 : Int32)), (.ref r1)]))
  refine own_step (fun t k => XS.aloadN X83.here hx rfl (hb hby d10_109) rfl rfl k) ?_
  show own_Fin p e below s Q 2 25 (T83.setTop (mkF m 110 #[.val (.ref o0), .val (.ref o1), .val (.int (1 : Int32))] [(.ref o1), (.int (gf67 ((1 : Int32)).toNatClampNeg)), (.ref b71), (.int (0 : Int32)), (.ref r1)]))
  refine own_step (fun t k => XS.iloadN X83.here hx rfl (hb hby d10_110) rfl  k) ?_
  show own_Fin p e below s Q 2 25 (T83.setTop (mkF m 111 #[.val (.ref o0), .val (.ref o1), .val (.int (1 : Int32))] [(.int (1 : Int32)), (.ref o1), (.int (gf67 ((1 : Int32)).toNatClampNeg)), (.ref b71), (.int (0 : Int32)), (.ref r1)]))
  obtain ⟨cq84, kq84, q84a, q84b, q84c⟩ := isOf hZ e83 Ex79_o1
  obtain ⟨_, _, ⟨T84, L84, k84, n84⟩, -, X84, ⟨Lc84, hQ84, l84, y84, z84⟩, st84⟩ := X83.interfaceBack hx (xi := (⟨"java/util/List", "get", "(I)Ljava/lang/Object;"⟩ : MethodName)) (y := (⟨"java/util/ArrayList", "get", "(I)Ljava/lang/Object;"⟩ : MethodName)) hown (mvT hZ (hw _ (List.mem_of_getElem? (i := 76) rfl))) (mvT hZ (hw _ (List.mem_of_getElem? (i := 77) rfl))) (mvT hZ (hw _ (List.mem_of_getElem? (i := 78) rfl))) (mvT hZ (hw _ (List.mem_of_getElem? (i := 79) rfl))) (mvT hZ (hw _ (List.mem_of_getElem? (i := 80) rfl))) (mvT hZ (hw _ (List.mem_of_getElem? (i := 81) rfl))) (mvT hZ (hw _ (List.mem_of_getElem? (i := 82) rfl))) (mvT hZ (hw _ (List.mem_of_getElem? (i := 72) rfl))) (by decide) (backOf (W := 4) (rm12 l Z a0 hw [] o1 (1 : Int32) ea gE r1 (3 : Int32) T79.heap n0 Ex79_o1 F79_o1_size F79_o1_elementData R79_ea (by unfold own_In; decide) hg1 (by decide) (by decide)) hZ (hw _ (List.mem_of_getElem? (i := 83) rfl)) (hw _ (List.mem_of_getElem? (i := 3) rfl)) (by decide) (by decide)) q84a q84b q84c (g := (mkF m 111 #[.val (.ref o0), .val (.ref o1), .val (.int (1 : Int32))] [(.int (1 : Int32)), (.ref o1), (.int (gf67 ((1 : Int32)).toNatClampNeg)), (.ref b71), (.int (0 : Int32)), (.ref r1)])) rfl (by rw [hml]; rfl) (Steps.refl _) (argsL := [(.int (1 : Int32))]) (rest := [(.int (gf67 ((1 : Int32)).toNatClampNeg)), (.ref b71), (.int (0 : Int32)), (.ref r1)]) (lenOf pdm_8 rfl) rfl (by show 2 * 0 + _ ≤ _; exact Nat.le_of_eq rfl) (hb hby d10_111) (fun _ _ => ⟨rfl, e83, (show cells + 0 + 1 + 0 + 0 + 0 + 0 + 0 + 0 + 0 + 0 + 1 + 0 + 0 + 0 + 0 + 0 + 0 ≤ 2 from (Nat.le_trans (Nat.add_le_add_right hc 2) (by decide))), (show slots + 0 + 4 + 0 + 0 + 0 + 0 + 0 + 0 + 0 + 0 + 21 + 0 + 0 + 0 + 0 + 0 + 0 ≤ 25 from (Nat.le_trans (Nat.add_le_add_right hs 25) (by decide)))⟩)
  dsimp only [Pt.U, Pt.locs, Pt.cells, Pt.slots] at X84 l84 y84 z84 st84 hQ84
  have yy84 : k84 = cells + 0 + 1 + 0 + 0 + 0 + 0 + 0 + 0 + 0 + 0 + 1 + 0 + 0 + 0 + 0 + 0 + 0 := y84
  have zz84 : n84 = slots + 0 + 4 + 0 + 0 + 0 + 0 + 0 + 0 + 0 + 0 + 21 + 0 + 0 + 0 + 0 + 0 + 0 := z84
  rw [yy84, zz84, l84] at X84
  obtain ⟨rfl, N84q, e84⟩ := hQ84
  have N84 := Fr.app N81 N84q
  refine own_step (fun t k => st84.trans k) ?_
  show own_Fin p e below s Q 2 25 (T84.setTop (mkF m 116 #[.val (.ref o0), .val (.ref o1), .val (.int (1 : Int32))] [(.ref r1), (.int (gf67 ((1 : Int32)).toNatClampNeg)), (.ref b71), (.int (0 : Int32)), (.ref r1)]))
  obtain ⟨T85, X85, e85, st85⟩ := castY X84 hx hZ hown (hw _ (List.mem_of_getElem? (i := 97) rfl)) e84 (Ins.of_exa Xa79_r1 (hw _ (List.mem_of_getElem? (i := 98) rfl))) (g := (mkF m 116 #[.val (.ref o0), .val (.ref o1), .val (.int (1 : Int32))] [(.ref r1), (.int (gf67 ((1 : Int32)).toNatClampNeg)), (.ref b71), (.int (0 : Int32)), (.ref r1)])) rfl rfl (hb hby d10_116)
  refine own_step st85 ?_
  show own_Fin p e below s Q 2 25 (T85.setTop (mkF m 119 #[.val (.ref o0), .val (.ref o1), .val (.int (1 : Int32))] [(.ref r1), (.int (gf67 ((1 : Int32)).toNatClampNeg)), (.ref b71), (.int (0 : Int32)), (.ref r1)]))
  obtain ⟨ca119, Ar119, Sz119, Ht119⟩ := id V79_r1
  refine own_step (X85.arraylength hx (by rw [e85]; exact Ar119.1) (State.isArrayOf_alike hZ.alike Ar119.2.1) (g := (mkF m 119 #[.val (.ref o0), .val (.ref o1), .val (.int (1 : Int32))] [(.ref r1), (.int (gf67 ((1 : Int32)).toNatClampNeg)), (.ref b71), (.int (0 : Int32)), (.ref r1)])) rfl rfl (hb hby d10_119)) ?_
  rw [Sz119]
  show own_Fin p e below s Q 2 25 (T85.setTop (mkF m 120 #[.val (.ref o0), .val (.ref o1), .val (.int (1 : Int32))] [(.int (z1.toInt32)), (.int (gf67 ((1 : Int32)).toNatClampNeg)), (.ref b71), (.int (0 : Int32)), (.ref r1)]))
  obtain ⟨T86, h86, L86, X86, e86, N86, K86, V86, st86⟩ := own_cp X85 hx hZ hown (hw _ (List.mem_of_getElem? (i := 101) rfl)) (hw _ (List.mem_of_getElem? (i := 104) rfl)) (hw _ (List.mem_of_getElem? (i := 102) rfl)) (hw _ (List.mem_of_getElem? (i := 103) rfl)) e85 V79_r1 V79 (by omega) (by omega) (by rw [(show (gf67 ((1 : Int32)).toNatClampNeg) = ((0 : Int32) + (z0.toInt32)) from es1)]; exact (own_sn1 z0 z1 z2 hz0 hz1 hz2).1) (by rw [(own_zl z1 (by omega)).1]; exact Nat.le_refl _) ((own_zl z1 (by omega)).2) (by rw [(show (gf67 ((1 : Int32)).toNatClampNeg) = ((0 : Int32) + (z0.toInt32)) from es1), (own_sn1 z0 z1 z2 hz0 hz1 hz2).2, (own_zl z1 (by omega)).1]; omega) N84 fr71  (g := (mkF m 120 #[.val (.ref o0), .val (.ref o1), .val (.int (1 : Int32))] [(.int (z1.toInt32)), (.int (gf67 ((1 : Int32)).toNatClampNeg)), (.ref b71), (.int (0 : Int32)), (.ref r1)])) rfl (by rw [hml]; rfl) rfl (hb hby d10_120) (by decide) (W := 0) (by show 2 * 0 + _ ≤ _; exact Nat.le_of_eq rfl) (by decide)
  have Z086 : n0 ≤ h86.size := Nat.le_trans Z079 K86.1
  obtain ⟨gf86, hgf86⟩ : ∃ g' : Nat → Int32, g' = (fun i => if ((gf67 ((1 : Int32)).toNatClampNeg)).toNatClampNeg ≤ i ∧ i < ((gf67 ((1 : Int32)).toNatClampNeg)).toNatClampNeg + ((z1.toInt32)).toNatClampNeg then g1 (i - ((gf67 ((1 : Int32)).toNatClampNeg)).toNatClampNeg) else gf79 i) := ⟨_, rfl⟩
  rw [← hgf86] at V86
  have eh86 : T86.heap = h86 := e86
  subst e86
  have V86_r0 := own_AFkeep V79_r0 K86 (ninS ner0_71 nin0)
  have Xa86_r0 := Xa79_r0.keep K86
  have V86_r1 := own_AFkeep V79_r1 K86 (ninS ner1_71 nin0)
  have Xa86_r1 := Xa79_r1.keep K86
  have V86_r2 := own_AFkeep V79_r2 K86 (ninS ner2_71 nin0)
  have Xa86_r2 := Xa79_r2.keep K86
  have V86_b48 := own_AFkeep V79_b48 K86 (ninS neb48_71 nin0)
  have Xa86_b48 := Xa79_b48.keep K86
  have Xa86_b71 := Xa79_b71.keep K86
  have R86_ea := own_RFkeep R79_ea K86 (ninS neea_71 nin0)
  have Ex86_o1 := Ex79_o1.keep K86
  have F86_o1_modCount := F79_o1_modCount.keep K86 (ninS neo1_71 nin0)
  have F86_o1_elementData := F79_o1_elementData.keep K86 (ninS neo1_71 nin0)
  have F86_o1_size := F79_o1_size.keep K86 (ninS neo1_71 nin0)
  have Ex86_o0 := Ex79_o0.keep K86
  have F86_o0_starts := F79_o0_starts.keep K86 (ninS neo0_71 nin0)
  have F86_o0_values := F79_o0_values.keep K86 (ninS neo0_71 nin0)
  have KK86 : Keep h T86.heap [o0] := KK79.trans K86 (allS (Or.inr sz71) all0)
  refine own_step st86 ?_
  show own_Fin p e below s Q 2 25 (T86.setTop (mkF m 123 #[.val (.ref o0), .val (.ref o1), .val (.int (1 : Int32))] []))
  refine own_step (fun t k => XS.iinc X86.here hx rfl (hb hby d10_123) rfl (l' := #[.val (.ref o0), .val (.ref o1), .val (.int (2 : Int32))]) rfl k) ?_
  show own_Fin p e below s Q 2 25 (T86.setTop (mkF m 126 #[.val (.ref o0), .val (.ref o1), .val (.int (2 : Int32))] []))
  refine own_step (fun t k => XS.goto X86.here hx rfl (pc0 := 126) (pc' := 81) rfl (hb hby d10_126) (by decide) (by decide) k) ?_
  show own_Fin p e below s Q 2 25 (T86.setTop (mkF m 81 #[.val (.ref o0), .val (.ref o1), .val (.int (2 : Int32))] []))
  refine own_step (fun t k => XS.iloadN X86.here hx rfl (hb hby d10_81) rfl  k) ?_
  show own_Fin p e below s Q 2 25 (T86.setTop (mkF m 82 #[.val (.ref o0), .val (.ref o1), .val (.int (2 : Int32))] [(.int (2 : Int32))]))
  refine own_step (fun t k => XS.aloadN X86.here hx rfl (hb hby d10_82) rfl rfl k) ?_
  show own_Fin p e below s Q 2 25 (T86.setTop (mkF m 83 #[.val (.ref o0), .val (.ref o1), .val (.int (2 : Int32))] [(.ref o1), (.int (2 : Int32))]))
  obtain ⟨cq87, kq87, q87a, q87b, q87c⟩ := isOf hZ rfl Ex86_o1
  obtain ⟨_, _, ⟨T87, L87, k87, n87⟩, -, X87, ⟨Lc87, hQ87, l87, y87, z87⟩, st87⟩ := X86.interfaceBack hx (xi := (⟨"java/util/List", "size", "()I"⟩ : MethodName)) (y := (⟨"java/util/ArrayList", "size", "()I"⟩ : MethodName)) hown (mvT hZ (hw _ (List.mem_of_getElem? (i := 65) rfl))) (mvT hZ (hw _ (List.mem_of_getElem? (i := 66) rfl))) (mvT hZ (hw _ (List.mem_of_getElem? (i := 67) rfl))) (mvT hZ (hw _ (List.mem_of_getElem? (i := 68) rfl))) (mvT hZ (hw _ (List.mem_of_getElem? (i := 69) rfl))) (mvT hZ (hw _ (List.mem_of_getElem? (i := 70) rfl))) (mvT hZ (hw _ (List.mem_of_getElem? (i := 71) rfl))) (mvT hZ (hw _ (List.mem_of_getElem? (i := 72) rfl))) (by decide) (backOf (W := 1) (rm11 l Z a0 hw [] o1 (3 : Int32) T86.heap n0 F86_o1_size) hZ (hw _ (List.mem_of_getElem? (i := 73) rfl)) (hw _ (List.mem_of_getElem? (i := 3) rfl)) (by decide) (by decide)) q87a q87b q87c (g := (mkF m 83 #[.val (.ref o0), .val (.ref o1), .val (.int (2 : Int32))] [(.ref o1), (.int (2 : Int32))])) rfl (by rw [hml]; rfl) (Steps.refl _) (argsL := []) (rest := [(.int (2 : Int32))]) (lenOf pdm_6 rfl) rfl (by show 2 * 0 + _ ≤ _; exact Nat.le_of_eq rfl) (hb hby d10_83) (fun _ _ => ⟨rfl, rfl, (show cells + 0 + 1 + 0 + 0 + 0 + 0 + 0 + 0 + 0 + 0 + 1 + 0 + 0 + 0 + 0 + 0 + 0 + 0 ≤ 2 from (Nat.le_trans (Nat.add_le_add_right hc 2) (by decide))), (show slots + 0 + 4 + 0 + 0 + 0 + 0 + 0 + 0 + 0 + 0 + 21 + 0 + 0 + 0 + 0 + 0 + 0 + 0 ≤ 25 from (Nat.le_trans (Nat.add_le_add_right hs 25) (by decide)))⟩)
  dsimp only [Pt.U, Pt.locs, Pt.cells, Pt.slots] at X87 l87 y87 z87 st87 hQ87
  have yy87 : k87 = cells + 0 + 1 + 0 + 0 + 0 + 0 + 0 + 0 + 0 + 0 + 1 + 0 + 0 + 0 + 0 + 0 + 0 + 0 := y87
  have zz87 : n87 = slots + 0 + 4 + 0 + 0 + 0 + 0 + 0 + 0 + 0 + 0 + 21 + 0 + 0 + 0 + 0 + 0 + 0 + 0 := z87
  rw [yy87, zz87, l87] at X87
  obtain ⟨rfl, N87q, e87⟩ := hQ87
  have N87 := Fr.app N86 N87q
  refine own_step (fun t k => st87.trans k) ?_
  show own_Fin p e below s Q 2 25 (T87.setTop (mkF m 88 #[.val (.ref o0), .val (.ref o1), .val (.int (2 : Int32))] [(.int (3 : Int32)), (.int (2 : Int32))]))
  refine own_step (fun t k => XS.icmpNo X87.here hx rfl (hb hby d10_88) rfl (tlt (by decide : (2 : Int32) < (3 : Int32))).2.1 k) ?_
  show own_Fin p e below s Q 2 25 (T87.setTop (mkF m 91 #[.val (.ref o0), .val (.ref o1), .val (.int (2 : Int32))] []))
  refine own_step (fun t k => XS.aloadN X87.here hx rfl (hb hby d10_91) rfl rfl k) ?_
  show own_Fin p e below s Q 2 25 (T87.setTop (mkF m 92 #[.val (.ref o0), .val (.ref o1), .val (.int (2 : Int32))] [(.ref o1)]))
  refine own_step (fun t k => XS.iloadN X87.here hx rfl (hb hby d10_92) rfl  k) ?_
  show own_Fin p e below s Q 2 25 (T87.setTop (mkF m 93 #[.val (.ref o0), .val (.ref o1), .val (.int (2 : Int32))] [(.int (2 : Int32)), (.ref o1)]))
  obtain ⟨cq88, kq88, q88a, q88b, q88c⟩ := isOf hZ e87 Ex86_o1
  obtain ⟨_, _, ⟨T88, L88, k88, n88⟩, -, X88, ⟨Lc88, hQ88, l88, y88, z88⟩, st88⟩ := X87.interfaceBack hx (xi := (⟨"java/util/List", "get", "(I)Ljava/lang/Object;"⟩ : MethodName)) (y := (⟨"java/util/ArrayList", "get", "(I)Ljava/lang/Object;"⟩ : MethodName)) hown (mvT hZ (hw _ (List.mem_of_getElem? (i := 76) rfl))) (mvT hZ (hw _ (List.mem_of_getElem? (i := 77) rfl))) (mvT hZ (hw _ (List.mem_of_getElem? (i := 78) rfl))) (mvT hZ (hw _ (List.mem_of_getElem? (i := 79) rfl))) (mvT hZ (hw _ (List.mem_of_getElem? (i := 80) rfl))) (mvT hZ (hw _ (List.mem_of_getElem? (i := 81) rfl))) (mvT hZ (hw _ (List.mem_of_getElem? (i := 82) rfl))) (mvT hZ (hw _ (List.mem_of_getElem? (i := 72) rfl))) (by decide) (backOf (W := 0) (rm12 l Z a0 hw [] o1 (2 : Int32) ea gE r2 (3 : Int32) T86.heap n0 Ex86_o1 F86_o1_size F86_o1_elementData R86_ea (by unfold own_In; decide) hg2 (by decide) (by decide)) hZ (hw _ (List.mem_of_getElem? (i := 83) rfl)) (hw _ (List.mem_of_getElem? (i := 3) rfl)) (by decide) (by decide)) q88a q88b q88c (g := (mkF m 93 #[.val (.ref o0), .val (.ref o1), .val (.int (2 : Int32))] [(.int (2 : Int32)), (.ref o1)])) rfl (by rw [hml]; rfl) (Steps.refl _) (argsL := [(.int (2 : Int32))]) (rest := []) (lenOf pdm_8 rfl) rfl (by show 2 * 0 + _ ≤ _; exact Nat.le_of_eq rfl) (hb hby d10_93) (fun _ _ => ⟨rfl, e87, (show cells + 0 + 1 + 0 + 0 + 0 + 0 + 0 + 0 + 0 + 0 + 1 + 0 + 0 + 0 + 0 + 0 + 0 + 0 + 0 ≤ 2 from (Nat.le_trans (Nat.add_le_add_right hc 2) (by decide))), (show slots + 0 + 4 + 0 + 0 + 0 + 0 + 0 + 0 + 0 + 0 + 21 + 0 + 0 + 0 + 0 + 0 + 0 + 0 + 0 ≤ 25 from (Nat.le_trans (Nat.add_le_add_right hs 25) (by decide)))⟩)
  dsimp only [Pt.U, Pt.locs, Pt.cells, Pt.slots] at X88 l88 y88 z88 st88 hQ88
  have yy88 : k88 = cells + 0 + 1 + 0 + 0 + 0 + 0 + 0 + 0 + 0 + 0 + 1 + 0 + 0 + 0 + 0 + 0 + 0 + 0 + 0 := y88
  have zz88 : n88 = slots + 0 + 4 + 0 + 0 + 0 + 0 + 0 + 0 + 0 + 0 + 21 + 0 + 0 + 0 + 0 + 0 + 0 + 0 + 0 := z88
  rw [yy88, zz88, l88] at X88
  obtain ⟨rfl, N88q, e88⟩ := hQ88
  have N88 := Fr.app N87 N88q
  refine own_step (fun t k => st88.trans k) ?_
  show own_Fin p e below s Q 2 25 (T88.setTop (mkF m 98 #[.val (.ref o0), .val (.ref o1), .val (.int (2 : Int32))] [(.ref r2)]))
  refine own_step (fun t k => XS.iconst X88.here hx rfl (hb hby d10_98) k) ?_
  show own_Fin p e below s Q 2 25 (T88.setTop (mkF m 99 #[.val (.ref o0), .val (.ref o1), .val (.int (2 : Int32))] [(.int (0 : Int32)), (.ref r2)]))
  refine own_step (fun t k => XS.aloadN X88.here hx rfl (hb hby d10_99) rfl rfl k) ?_
  show own_Fin p e below s Q 2 25 (T88.setTop (mkF m 100 #[.val (.ref o0), .val (.ref o1), .val (.int (2 : Int32))] [(.ref o0), (.int (0 : Int32)), (.ref r2)]))
  obtain ⟨T89, X89, e89, st89⟩ := getF X88 hx hZ hown (host := "") (Or.inl (hw _ (List.mem_of_getElem? (i := 99) rfl))) Via.refl e88 F86_o0_values (g := (mkF m 100 #[.val (.ref o0), .val (.ref o1), .val (.int (2 : Int32))] [(.ref o0), (.int (0 : Int32)), (.ref r2)])) rfl rfl (hb hby d10_100)
  refine own_step st89 ?_
  show own_Fin p e below s Q 2 25 (T89.setTop (mkF m 103 #[.val (.ref o0), .val (.ref o1), .val (.int (2 : Int32))] [(.ref b71), (.int (0 : Int32)), (.ref r2)]))
  refine own_step (fun t k => XS.aloadN X89.here hx rfl (hb hby d10_103) rfl rfl k) ?_
  show own_Fin p e below s Q 2 25 (T89.setTop (mkF m 104 #[.val (.ref o0), .val (.ref o1), .val (.int (2 : Int32))] [(.ref o0), (.ref b71), (.int (0 : Int32)), (.ref r2)]))
  obtain ⟨T90, X90, e90, st90⟩ := getF X89 hx hZ hown (host := "") (Or.inl (hw _ (List.mem_of_getElem? (i := 74) rfl))) Via.refl e89 F86_o0_starts (g := (mkF m 104 #[.val (.ref o0), .val (.ref o1), .val (.int (2 : Int32))] [(.ref o0), (.ref b71), (.int (0 : Int32)), (.ref r2)])) rfl rfl (hb hby d10_104)
  refine own_step st90 ?_
  show own_Fin p e below s Q 2 25 (T90.setTop (mkF m 107 #[.val (.ref o0), .val (.ref o1), .val (.int (2 : Int32))] [(.ref b48), (.ref b71), (.int (0 : Int32)), (.ref r2)]))
  refine own_step (fun t k => XS.iloadN X90.here hx rfl (hb hby d10_107) rfl  k) ?_
  show own_Fin p e below s Q 2 25 (T90.setTop (mkF m 108 #[.val (.ref o0), .val (.ref o1), .val (.int (2 : Int32))] [(.int (2 : Int32)), (.ref b48), (.ref b71), (.int (0 : Int32)), (.ref r2)]))
  obtain ⟨ca108, Ar108, Sz108, Ht108⟩ := id V86_b48
  have hin108 : ¬ ((2 : Int32) < 0 ∨ ca108.slots.size ≤ ((2 : Int32)).toNatClampNeg) := by rw [Sz108]; exact (by decide)
  refine own_step (X90.iaload hx (j := (2 : Int32)) (v := (.int (gf67 ((2 : Int32)).toNatClampNeg))) (by rw [e90]; exact Ar108.1) (State.isArrayOf_alike hZ.alike Ar108.2.1) Ar108.2.2 hin108 (Ht108 _ (by have hq := Nat.lt_of_not_le (fun y => hin108 (Or.inr y)); rw [Sz108] at hq; exact hq)) (g := (mkF m 108 #[.val (.ref o0), .val (.ref o1), .val (.int (2 : Int32))] [(.int (2 : Int32)), (.ref b48), (.ref b71), (.int (0 : Int32)), (.ref r2)])) rfl rfl (hb hby d10_108)) ?_
  show own_Fin p e below s Q 2 25 (T90.setTop (mkF m 109 #[.val (.ref o0), .val (.ref o1), .val (.int (2 : Int32))] [(.int (gf67 ((2 : Int32)).toNatClampNeg)), (.ref b71), (.int (0 : Int32)), (.ref r2)]))
  refine own_step (fun t k => XS.aloadN X90.here hx rfl (hb hby d10_109) rfl rfl k) ?_
  show own_Fin p e below s Q 2 25 (T90.setTop (mkF m 110 #[.val (.ref o0), .val (.ref o1), .val (.int (2 : Int32))] [(.ref o1), (.int (gf67 ((2 : Int32)).toNatClampNeg)), (.ref b71), (.int (0 : Int32)), (.ref r2)]))
  refine own_step (fun t k => XS.iloadN X90.here hx rfl (hb hby d10_110) rfl  k) ?_
  show own_Fin p e below s Q 2 25 (T90.setTop (mkF m 111 #[.val (.ref o0), .val (.ref o1), .val (.int (2 : Int32))] [(.int (2 : Int32)), (.ref o1), (.int (gf67 ((2 : Int32)).toNatClampNeg)), (.ref b71), (.int (0 : Int32)), (.ref r2)]))
  obtain ⟨cq91, kq91, q91a, q91b, q91c⟩ := isOf hZ e90 Ex86_o1
  obtain ⟨_, _, ⟨T91, L91, k91, n91⟩, -, X91, ⟨Lc91, hQ91, l91, y91, z91⟩, st91⟩ := X90.interfaceBack hx (xi := (⟨"java/util/List", "get", "(I)Ljava/lang/Object;"⟩ : MethodName)) (y := (⟨"java/util/ArrayList", "get", "(I)Ljava/lang/Object;"⟩ : MethodName)) hown (mvT hZ (hw _ (List.mem_of_getElem? (i := 76) rfl))) (mvT hZ (hw _ (List.mem_of_getElem? (i := 77) rfl))) (mvT hZ (hw _ (List.mem_of_getElem? (i := 78) rfl))) (mvT hZ (hw _ (List.mem_of_getElem? (i := 79) rfl))) (mvT hZ (hw _ (List.mem_of_getElem? (i := 80) rfl))) (mvT hZ (hw _ (List.mem_of_getElem? (i := 81) rfl))) (mvT hZ (hw _ (List.mem_of_getElem? (i := 82) rfl))) (mvT hZ (hw _ (List.mem_of_getElem? (i := 72) rfl))) (by decide) (backOf (W := 4) (rm12 l Z a0 hw [] o1 (2 : Int32) ea gE r2 (3 : Int32) T86.heap n0 Ex86_o1 F86_o1_size F86_o1_elementData R86_ea (by unfold own_In; decide) hg2 (by decide) (by decide)) hZ (hw _ (List.mem_of_getElem? (i := 83) rfl)) (hw _ (List.mem_of_getElem? (i := 3) rfl)) (by decide) (by decide)) q91a q91b q91c (g := (mkF m 111 #[.val (.ref o0), .val (.ref o1), .val (.int (2 : Int32))] [(.int (2 : Int32)), (.ref o1), (.int (gf67 ((2 : Int32)).toNatClampNeg)), (.ref b71), (.int (0 : Int32)), (.ref r2)])) rfl (by rw [hml]; rfl) (Steps.refl _) (argsL := [(.int (2 : Int32))]) (rest := [(.int (gf67 ((2 : Int32)).toNatClampNeg)), (.ref b71), (.int (0 : Int32)), (.ref r2)]) (lenOf pdm_8 rfl) rfl (by show 2 * 0 + _ ≤ _; exact Nat.le_of_eq rfl) (hb hby d10_111) (fun _ _ => ⟨rfl, e90, (show cells + 0 + 1 + 0 + 0 + 0 + 0 + 0 + 0 + 0 + 0 + 1 + 0 + 0 + 0 + 0 + 0 + 0 + 0 + 0 + 0 ≤ 2 from (Nat.le_trans (Nat.add_le_add_right hc 2) (by decide))), (show slots + 0 + 4 + 0 + 0 + 0 + 0 + 0 + 0 + 0 + 0 + 21 + 0 + 0 + 0 + 0 + 0 + 0 + 0 + 0 + 0 ≤ 25 from (Nat.le_trans (Nat.add_le_add_right hs 25) (by decide)))⟩)
  dsimp only [Pt.U, Pt.locs, Pt.cells, Pt.slots] at X91 l91 y91 z91 st91 hQ91
  have yy91 : k91 = cells + 0 + 1 + 0 + 0 + 0 + 0 + 0 + 0 + 0 + 0 + 1 + 0 + 0 + 0 + 0 + 0 + 0 + 0 + 0 + 0 := y91
  have zz91 : n91 = slots + 0 + 4 + 0 + 0 + 0 + 0 + 0 + 0 + 0 + 0 + 21 + 0 + 0 + 0 + 0 + 0 + 0 + 0 + 0 + 0 := z91
  rw [yy91, zz91, l91] at X91
  obtain ⟨rfl, N91q, e91⟩ := hQ91
  have N91 := Fr.app N88 N91q
  refine own_step (fun t k => st91.trans k) ?_
  show own_Fin p e below s Q 2 25 (T91.setTop (mkF m 116 #[.val (.ref o0), .val (.ref o1), .val (.int (2 : Int32))] [(.ref r2), (.int (gf67 ((2 : Int32)).toNatClampNeg)), (.ref b71), (.int (0 : Int32)), (.ref r2)]))
  obtain ⟨T92, X92, e92, st92⟩ := castY X91 hx hZ hown (hw _ (List.mem_of_getElem? (i := 97) rfl)) e91 (Ins.of_exa Xa86_r2 (hw _ (List.mem_of_getElem? (i := 98) rfl))) (g := (mkF m 116 #[.val (.ref o0), .val (.ref o1), .val (.int (2 : Int32))] [(.ref r2), (.int (gf67 ((2 : Int32)).toNatClampNeg)), (.ref b71), (.int (0 : Int32)), (.ref r2)])) rfl rfl (hb hby d10_116)
  refine own_step st92 ?_
  show own_Fin p e below s Q 2 25 (T92.setTop (mkF m 119 #[.val (.ref o0), .val (.ref o1), .val (.int (2 : Int32))] [(.ref r2), (.int (gf67 ((2 : Int32)).toNatClampNeg)), (.ref b71), (.int (0 : Int32)), (.ref r2)]))
  obtain ⟨ca119, Ar119, Sz119, Ht119⟩ := id V86_r2
  refine own_step (X92.arraylength hx (by rw [e92]; exact Ar119.1) (State.isArrayOf_alike hZ.alike Ar119.2.1) (g := (mkF m 119 #[.val (.ref o0), .val (.ref o1), .val (.int (2 : Int32))] [(.ref r2), (.int (gf67 ((2 : Int32)).toNatClampNeg)), (.ref b71), (.int (0 : Int32)), (.ref r2)])) rfl rfl (hb hby d10_119)) ?_
  rw [Sz119]
  show own_Fin p e below s Q 2 25 (T92.setTop (mkF m 120 #[.val (.ref o0), .val (.ref o1), .val (.int (2 : Int32))] [(.int (z2.toInt32)), (.int (gf67 ((2 : Int32)).toNatClampNeg)), (.ref b71), (.int (0 : Int32)), (.ref r2)]))
  obtain ⟨T93, h93, L93, X93, e93, N93, K93, V93, st93⟩ := own_cp X92 hx hZ hown (hw _ (List.mem_of_getElem? (i := 101) rfl)) (hw _ (List.mem_of_getElem? (i := 104) rfl)) (hw _ (List.mem_of_getElem? (i := 102) rfl)) (hw _ (List.mem_of_getElem? (i := 103) rfl)) e92 V86_r2 V86 (by omega) (by omega) (by rw [(show (gf67 ((2 : Int32)).toNatClampNeg) = (((0 : Int32) + (z0.toInt32)) + (z1.toInt32)) from es2)]; exact (own_sn2 z0 z1 z2 hz0 hz1 hz2).1) (by rw [(own_zl z2 (by omega)).1]; exact Nat.le_refl _) ((own_zl z2 (by omega)).2) (by rw [(show (gf67 ((2 : Int32)).toNatClampNeg) = (((0 : Int32) + (z0.toInt32)) + (z1.toInt32)) from es2), (own_sn2 z0 z1 z2 hz0 hz1 hz2).2, (own_zl z2 (by omega)).1]; omega) N91 fr71  (g := (mkF m 120 #[.val (.ref o0), .val (.ref o1), .val (.int (2 : Int32))] [(.int (z2.toInt32)), (.int (gf67 ((2 : Int32)).toNatClampNeg)), (.ref b71), (.int (0 : Int32)), (.ref r2)])) rfl (by rw [hml]; rfl) rfl (hb hby d10_120) (by decide) (W := 0) (by show 2 * 0 + _ ≤ _; exact Nat.le_of_eq rfl) (by decide)
  have Z093 : n0 ≤ h93.size := Nat.le_trans Z086 K93.1
  obtain ⟨gf93, hgf93⟩ : ∃ g' : Nat → Int32, g' = (fun i => if ((gf67 ((2 : Int32)).toNatClampNeg)).toNatClampNeg ≤ i ∧ i < ((gf67 ((2 : Int32)).toNatClampNeg)).toNatClampNeg + ((z2.toInt32)).toNatClampNeg then g2 (i - ((gf67 ((2 : Int32)).toNatClampNeg)).toNatClampNeg) else gf86 i) := ⟨_, rfl⟩
  rw [← hgf93] at V93
  have eh93 : T93.heap = h93 := e93
  subst e93
  have V93_r0 := own_AFkeep V86_r0 K93 (ninS ner0_71 nin0)
  have Xa93_r0 := Xa86_r0.keep K93
  have V93_r1 := own_AFkeep V86_r1 K93 (ninS ner1_71 nin0)
  have Xa93_r1 := Xa86_r1.keep K93
  have V93_r2 := own_AFkeep V86_r2 K93 (ninS ner2_71 nin0)
  have Xa93_r2 := Xa86_r2.keep K93
  have V93_b48 := own_AFkeep V86_b48 K93 (ninS neb48_71 nin0)
  have Xa93_b48 := Xa86_b48.keep K93
  have Xa93_b71 := Xa86_b71.keep K93
  have R93_ea := own_RFkeep R86_ea K93 (ninS neea_71 nin0)
  have Ex93_o1 := Ex86_o1.keep K93
  have F93_o1_modCount := F86_o1_modCount.keep K93 (ninS neo1_71 nin0)
  have F93_o1_elementData := F86_o1_elementData.keep K93 (ninS neo1_71 nin0)
  have F93_o1_size := F86_o1_size.keep K93 (ninS neo1_71 nin0)
  have Ex93_o0 := Ex86_o0.keep K93
  have F93_o0_starts := F86_o0_starts.keep K93 (ninS neo0_71 nin0)
  have F93_o0_values := F86_o0_values.keep K93 (ninS neo0_71 nin0)
  have KK93 : Keep h T93.heap [o0] := KK86.trans K93 (allS (Or.inr sz71) all0)
  refine own_step st93 ?_
  show own_Fin p e below s Q 2 25 (T93.setTop (mkF m 123 #[.val (.ref o0), .val (.ref o1), .val (.int (2 : Int32))] []))
  refine own_step (fun t k => XS.iinc X93.here hx rfl (hb hby d10_123) rfl (l' := #[.val (.ref o0), .val (.ref o1), .val (.int (3 : Int32))]) rfl k) ?_
  show own_Fin p e below s Q 2 25 (T93.setTop (mkF m 126 #[.val (.ref o0), .val (.ref o1), .val (.int (3 : Int32))] []))
  refine own_step (fun t k => XS.goto X93.here hx rfl (pc0 := 126) (pc' := 81) rfl (hb hby d10_126) (by decide) (by decide) k) ?_
  show own_Fin p e below s Q 2 25 (T93.setTop (mkF m 81 #[.val (.ref o0), .val (.ref o1), .val (.int (3 : Int32))] []))
  refine own_step (fun t k => XS.iloadN X93.here hx rfl (hb hby d10_81) rfl  k) ?_
  show own_Fin p e below s Q 2 25 (T93.setTop (mkF m 82 #[.val (.ref o0), .val (.ref o1), .val (.int (3 : Int32))] [(.int (3 : Int32))]))
  refine own_step (fun t k => XS.aloadN X93.here hx rfl (hb hby d10_82) rfl rfl k) ?_
  show own_Fin p e below s Q 2 25 (T93.setTop (mkF m 83 #[.val (.ref o0), .val (.ref o1), .val (.int (3 : Int32))] [(.ref o1), (.int (3 : Int32))]))
  obtain ⟨cq94, kq94, q94a, q94b, q94c⟩ := isOf hZ rfl Ex93_o1
  obtain ⟨_, _, ⟨T94, L94, k94, n94⟩, -, X94, ⟨Lc94, hQ94, l94, y94, z94⟩, st94⟩ := X93.interfaceBack hx (xi := (⟨"java/util/List", "size", "()I"⟩ : MethodName)) (y := (⟨"java/util/ArrayList", "size", "()I"⟩ : MethodName)) hown (mvT hZ (hw _ (List.mem_of_getElem? (i := 65) rfl))) (mvT hZ (hw _ (List.mem_of_getElem? (i := 66) rfl))) (mvT hZ (hw _ (List.mem_of_getElem? (i := 67) rfl))) (mvT hZ (hw _ (List.mem_of_getElem? (i := 68) rfl))) (mvT hZ (hw _ (List.mem_of_getElem? (i := 69) rfl))) (mvT hZ (hw _ (List.mem_of_getElem? (i := 70) rfl))) (mvT hZ (hw _ (List.mem_of_getElem? (i := 71) rfl))) (mvT hZ (hw _ (List.mem_of_getElem? (i := 72) rfl))) (by decide) (backOf (W := 1) (rm11 l Z a0 hw [] o1 (3 : Int32) T93.heap n0 F93_o1_size) hZ (hw _ (List.mem_of_getElem? (i := 73) rfl)) (hw _ (List.mem_of_getElem? (i := 3) rfl)) (by decide) (by decide)) q94a q94b q94c (g := (mkF m 83 #[.val (.ref o0), .val (.ref o1), .val (.int (3 : Int32))] [(.ref o1), (.int (3 : Int32))])) rfl (by rw [hml]; rfl) (Steps.refl _) (argsL := []) (rest := [(.int (3 : Int32))]) (lenOf pdm_6 rfl) rfl (by show 2 * 0 + _ ≤ _; exact Nat.le_of_eq rfl) (hb hby d10_83) (fun _ _ => ⟨rfl, rfl, (show cells + 0 + 1 + 0 + 0 + 0 + 0 + 0 + 0 + 0 + 0 + 1 + 0 + 0 + 0 + 0 + 0 + 0 + 0 + 0 + 0 + 0 ≤ 2 from (Nat.le_trans (Nat.add_le_add_right hc 2) (by decide))), (show slots + 0 + 4 + 0 + 0 + 0 + 0 + 0 + 0 + 0 + 0 + 21 + 0 + 0 + 0 + 0 + 0 + 0 + 0 + 0 + 0 + 0 ≤ 25 from (Nat.le_trans (Nat.add_le_add_right hs 25) (by decide)))⟩)
  dsimp only [Pt.U, Pt.locs, Pt.cells, Pt.slots] at X94 l94 y94 z94 st94 hQ94
  have yy94 : k94 = cells + 0 + 1 + 0 + 0 + 0 + 0 + 0 + 0 + 0 + 0 + 1 + 0 + 0 + 0 + 0 + 0 + 0 + 0 + 0 + 0 + 0 := y94
  have zz94 : n94 = slots + 0 + 4 + 0 + 0 + 0 + 0 + 0 + 0 + 0 + 0 + 21 + 0 + 0 + 0 + 0 + 0 + 0 + 0 + 0 + 0 + 0 := z94
  rw [yy94, zz94, l94] at X94
  obtain ⟨rfl, N94q, e94⟩ := hQ94
  have N94 := Fr.app N93 N94q
  refine own_step (fun t k => st94.trans k) ?_
  show own_Fin p e below s Q 2 25 (T94.setTop (mkF m 88 #[.val (.ref o0), .val (.ref o1), .val (.int (3 : Int32))] [(.int (3 : Int32)), (.int (3 : Int32))]))
  refine own_step (fun t k => XS.icmpYes X94.here hx rfl (pc0 := 88) (pc' := 129) rfl (hb hby d10_88) rfl (flt (by decide : ¬ ((3 : Int32) < (3 : Int32)))).2.1 (by decide) (by decide) k) ?_
  show own_Fin p e below s Q 2 25 (T94.setTop (mkF m 129 #[.val (.ref o0), .val (.ref o1), .val (.int (3 : Int32))] []))
  refine own_ret0 X94 hx hlk hret (hb hby d10_129) (Nat.le_trans (Nat.add_le_add_right hc 2) (by decide)) (Nat.le_trans (Nat.add_le_add_right hs 25) (by decide)) e94 ?_
  exact hQ _ _ b48 b71 gf67 gf93 N94 KK93 fr48 sz48 fr71 sz71 neb48_71 V93_b48 V93 es0 es1 es2 es3 Ex93_o0 F93_o0_starts F93_o0_values
theorem pnm_5 : plainName "com/example/libentitle/libentitle/role/Rows" = true := by first | (simp [plainName, overriddenIn]; done) | decide +kernel
theorem pdm_9 : parseMethodDescriptor "(Ljava/util/List;)V" = some ⟨[(.object "java/util/List")], none⟩ := by decide +kernel
theorem ef_10 (m : MethodId) (o0 : Addr) (o1 : Addr) : entryFrame m #[(.ref o0), (.ref o1)] 3 = (mkF m 0 #[.val (.ref o0), .val (.ref o1), .unset] []) := by first | (simp [entryFrame, mkF, argsToLocals, Value.category]; done) | rfl
def Q10 (Z : State) (o0 : Addr) (o1 : Addr) (ust : Value) (uva : Value) (um : Value) (ea : Addr) (gE : Nat → Value) (r0 : Addr) (z0 : Nat) (g0 : Nat → Int32) (r1 : Addr) (z1 : Nat) (g1 : Nat → Int32) (r2 : Addr) (z2 : Nat) (g2 : Nat → Int32) (h0 : Heap) (n0 : Nat) (v : Option Value) (h : Heap) (L : List Loc) : Prop := ∃ (bs : Addr) (bv : Addr) (gs : Nat → Int32) (gv : Nat → Int32), v = none ∧ Fr n0 L ∧ Keep h0 h [o0] ∧ (n0 ≤ bs) ∧ (h0.size ≤ bs) ∧ (n0 ≤ bv) ∧ (h0.size ≤ bv) ∧ (bs ≠ bv) ∧ (own_AF Z h bs .int 4 gs) ∧ (own_AF Z h bv .int (0 + z0 + z1 + z2) gv) ∧ (gs 0 = (0 : Int32)) ∧ (gs 1 = ((0 : Int32) + (z0.toInt32))) ∧ (gs 2 = (((0 : Int32) + (z0.toInt32)) + (z1.toInt32))) ∧ (gs 3 = ((((0 : Int32) + (z0.toInt32)) + (z1.toInt32)) + (z2.toInt32))) ∧ (Exa Z h o0 "com/example/libentitle/libentitle/role/Rows") ∧ (Fld Z h o0 "com/example/libentitle/libentitle/role/Rows" "starts" "[I" (.ref bs)) ∧ (Fld Z h o0 "com/example/libentitle/libentitle/role/Rows" "values" "[I" (.ref bv))
set_option maxRecDepth 65536 in
set_option maxHeartbeats 4000000 in
theorem rm10 (l : Launch) (Z : State) (a0 : Array Value) (hw : ∀ d ∈ tables_1, d.before a0 Z = true) (ws : List Jvm.Cond) (o0 : Addr) (o1 : Addr) (ust : Value) (uva : Value) (um : Value) (ea : Addr) (gE : Nat → Value) (r0 : Addr) (z0 : Nat) (g0 : Nat → Int32) (r1 : Addr) (z1 : Nat) (g1 : Nat → Int32) (r2 : Addr) (z2 : Nat) (g2 : Nat → Int32) (h0 : Heap) (n0 : Nat) (Z0 : n0 ≤ h0.size) (fr0 : n0 ≤ o0) (Er : Exa Z h0 o0 "com/example/libentitle/libentitle/role/Rows") (Fst : Fld Z h0 o0 "com/example/libentitle/libentitle/role/Rows" "starts" "[I" ust) (Fva : Fld Z h0 o0 "com/example/libentitle/libentitle/role/Rows" "values" "[I" uva) (E0 : Exa Z h0 o1 "java/util/ArrayList") (Fm : Fld Z h0 o1 "java/util/AbstractList" "modCount" "I" um) (Fe : Fld Z h0 o1 "java/util/ArrayList" "elementData" "[Ljava/lang/Object;" (.ref ea)) (Fs : Fld Z h0 o1 "java/util/ArrayList" "size" "I" (.int (3 : Int32))) (Re : own_RF Z h0 ea "java/lang/Object" 10 gE) (A0 : own_AF Z h0 r0 .int z0 g0) (Xr0 : Exa Z h0 r0 "[I") (hg0 : gE 0 = .ref r0) (hz0 : z0 ≤ 7) (A1 : own_AF Z h0 r1 .int z1 g1) (Xr1 : Exa Z h0 r1 "[I") (hg1 : gE 1 = .ref r1) (hz1 : z1 ≤ 7) (A2 : own_AF Z h0 r2 .int z2 g2) (Xr2 : Exa Z h0 r2 "[I") (hg2 : gE 2 = .ref r2) (hz2 : z2 ≤ 7) (nel : o1 ≠ o0) (nee : ea ≠ o0) (ne0 : r0 ≠ o0) (ne1 : r1 ≠ o0) (ne2 : r2 ≠ o0) :
    MetFree l (⟨"com/example/libentitle/libentitle/role/Rows", "<init>", "(Ljava/util/List;)V"⟩ : MethodName) (head1 (Jvm.Cond.code (⟨"com/example/libentitle/libentitle/role/Rows", "<init>", "(Ljava/util/List;)V"⟩ : MethodName) prog_60_method_1_code 3 none :: ws) ({ frames := 3, cells := 2, slots := 25, locals := 90 } : Room)) (fun a U => a = #[(.ref o0), (.ref o1)] ∧ Z.Warmed39 U.vm ∧ U.heap = h0) (fun _ _ _ _ _ => True) (fun _ U o U' => ∃ v L, o = .returned v ∧ Q10 Z o0 o1 ust uva um ea gE r0 z0 g0 r1 z1 g1 r2 z2 g2 h0 n0 v U'.heap L ∧ FrameEnd U o U' L ({ frames := 3, cells := 2, slots := 25, locals := 90 } : Room).cells ({ frames := 3, cells := 2, slots := 25, locals := 90 } : Room).slots) := by
  refine MetFree.of_bodySF (plainFor_of_name pnm_5) hisR ?_
  intro p e s m args below meth c s₁ Bd hml0 hP hK
  obtain ⟨rfl, hZ, hh⟩ := hP
  have hx := Bd.exec
  have hby := Bd.bytes
  have hml : c.maxLocals = 3 := hml0
  have hown : s.vm.findClass "com/example/libentitle/libentitle/role/Rows" = some m.cls := findClass_of_methodNamed Bd.named
  have X0 : Stand p l e ({ frames := 3, cells := 2, slots := 25, locals := 90 } : Room) s m #[(.ref o0), (.ref o1)] below meth c s₁ [] 0 0 := Stand.of_body Bd
  have e0 : s₁.heap = h0 := by rw [← hh, Bd.state]; rfl
  have fin := b10_0 o0 o1 ust uva um ea gE r0 z0 g0 r1 z1 g1 r2 z2 g2 (Q := Q10 Z o0 o1 ust uva um ea gE r0 z0 g0 r1 z1 g1 r2 z2 g2 h0 n0) hw X0 hx hZ hby hml hown Bd.returns (BodyLoose.notSynchronized Bd) (name_of_methodNamed Bd.named Bd.method).1 e0 (Fr.nil n0) (Nat.zero_le _) (Nat.zero_le _) Z0 fr0 Er Fst Fva E0 Fm Fe Fs Re A0 Xr0 hg0 hz0 A1 Xr1 hg1 hz1 A2 Xr2 hg2 hz2 nel nee ne0 ne1 ne2 (fun H' L' bs bv gs gv n' k' r0 r1 r2 r3 r4 r5 r6 r7 r8 r9 r10 r11 r12 r13 => ⟨bs, bv, gs, gv, rfl, n', k', r0, r1, r2, r3, r4, r5, r6, r7, r8, r9, r10, r11, r12, r13⟩)
  exact own_step (fun t k => castTop (ef_10 m o0 o1) k) fin
theorem d16_0 : decode prog_60_method_10_code 0 = .ok (.aload_n 0, 1) := by decide +kernel
theorem d16_1 : decode prog_60_method_10_code 1 = .ok (.getfield 13, 3) := by decide +kernel
theorem d16_4 : decode prog_60_method_10_code 4 = .ok (.iload_n 1, 1) := by decide +kernel
theorem d16_5 : decode prog_60_method_10_code 5 = .ok (.iconst 1, 1) := by decide +kernel
theorem d16_6 : decode prog_60_method_10_code 6 = .ok (.iadd, 1) := by decide +kernel
theorem d16_7 : decode prog_60_method_10_code 7 = .ok (.iaload, 1) := by decide +kernel
theorem d16_8 : decode prog_60_method_10_code 8 = .ok (.aload_n 0, 1) := by decide +kernel
theorem d16_9 : decode prog_60_method_10_code 9 = .ok (.getfield 13, 3) := by decide +kernel
theorem d16_12 : decode prog_60_method_10_code 12 = .ok (.iload_n 1, 1) := by decide +kernel
theorem d16_13 : decode prog_60_method_10_code 13 = .ok (.iaload, 1) := by decide +kernel
theorem d16_14 : decode prog_60_method_10_code 14 = .ok (.isub, 1) := by decide +kernel
theorem d16_15 : decode prog_60_method_10_code 15 = .ok (.ireturn, 1) := by decide +kernel
def f16_0 (i1 : Int32) (gn : Nat → Int32) (zn : Nat) : Int32 := ((gn ((i1 + (1 : Int32))).toNatClampNeg) - (gn (i1).toNatClampNeg))
set_option maxRecDepth 65536 in
set_option maxHeartbeats 40000000 in
theorem b16_0 {p : Program} {l : Launch} {e : Env} {s : State} {m : MethodId} {args : Array Value} {below : List Frame} {meth : Method} {c : Code} {T : State} {locs : List Loc} {cells slots : Nat} {Z : State} {a0 : Array Value} {h : Heap} {n0 : Nat} {Q : Option Value → Heap → List Loc → Prop} (o0 : Addr) (i1 : Int32) (nm : Addr) (gn : Nat → Int32) (zn : Nat) (hw : ∀ d ∈ tables_1, d.before a0 Z = true) (X : Stand p l e ({ frames := 0, cells := 0, slots := 0, locals := 0 } : Room) s m args below meth c T locs cells slots) (hx : p.tables.exec = Jvm.exec) (hZ : Z.Warmed39 s.vm) (hby : c.code = prog_60_method_10_code) (hml : c.maxLocals = 2) (hown : s.vm.findClass "com/example/libentitle/libentitle/role/Rows" = some m.cls) (hret : meth.sig.returnType = some .int) (hlk : meth.locks = false) (eT : T.heap = h) (N : Fr n0 locs) (hc : cells ≤ 0) (hs : slots ≤ 0) (F1 : Fld Z h o0 "com/example/libentitle/libentitle/role/Rows" "starts" "[I" (.ref nm)) (An : own_AF Z h nm .int zn gn) (h1 : own_In zn i1) (h2 : own_In zn (i1 + (1 : Int32))) (v : Int32) (hv : v = f16_0 i1 gn zn) (hQ : ∀ L', Fr n0 L' → Q (some (.int v)) h L') :
    own_Fin p e below s Q 0 0 (T.setTop (mkF m 0 #[.val (.ref o0), .val (.int i1)] [])) := by
  refine own_step (fun t k => XS.aloadN X.here hx rfl (hb hby d16_0) rfl rfl k) ?_
  show own_Fin p e below s Q 0 0 (T.setTop (mkF m 1 #[.val (.ref o0), .val (.int i1)] [(.ref o0)]))
  obtain ⟨T95, X95, e95, st95⟩ := getF X hx hZ hown (host := "") (Or.inl (hw _ (List.mem_of_getElem? (i := 74) rfl))) Via.refl eT F1 (g := (mkF m 1 #[.val (.ref o0), .val (.int i1)] [(.ref o0)])) rfl rfl (hb hby d16_1)
  refine own_step st95 ?_
  show own_Fin p e below s Q 0 0 (T95.setTop (mkF m 4 #[.val (.ref o0), .val (.int i1)] [(.ref nm)]))
  refine own_step (fun t k => XS.iloadN X95.here hx rfl (hb hby d16_4) rfl  k) ?_
  show own_Fin p e below s Q 0 0 (T95.setTop (mkF m 5 #[.val (.ref o0), .val (.int i1)] [(.int i1), (.ref nm)]))
  refine own_step (fun t k => XS.iconst X95.here hx rfl (hb hby d16_5) k) ?_
  show own_Fin p e below s Q 0 0 (T95.setTop (mkF m 6 #[.val (.ref o0), .val (.int i1)] [(.int (1 : Int32)), (.int i1), (.ref nm)]))
  refine own_step (fun t k => XS.iadd X95.here hx rfl (hb hby d16_6) rfl k) ?_
  show own_Fin p e below s Q 0 0 (T95.setTop (mkF m 7 #[.val (.ref o0), .val (.int i1)] [(.int (i1 + (1 : Int32))), (.ref nm)]))
  obtain ⟨ca7, Ar7, Sz7, Ht7⟩ := id An
  have hin7 : ¬ ((i1 + (1 : Int32)) < 0 ∨ ca7.slots.size ≤ ((i1 + (1 : Int32))).toNatClampNeg) := by rw [Sz7]; exact h2
  refine own_step (X95.iaload hx (j := (i1 + (1 : Int32))) (v := (.int (gn ((i1 + (1 : Int32))).toNatClampNeg))) (by rw [e95]; exact Ar7.1) (State.isArrayOf_alike hZ.alike Ar7.2.1) Ar7.2.2 hin7 (Ht7 _ (by have hq := Nat.lt_of_not_le (fun y => hin7 (Or.inr y)); rw [Sz7] at hq; exact hq)) (g := (mkF m 7 #[.val (.ref o0), .val (.int i1)] [(.int (i1 + (1 : Int32))), (.ref nm)])) rfl rfl (hb hby d16_7)) ?_
  show own_Fin p e below s Q 0 0 (T95.setTop (mkF m 8 #[.val (.ref o0), .val (.int i1)] [(.int (gn ((i1 + (1 : Int32))).toNatClampNeg))]))
  refine own_step (fun t k => XS.aloadN X95.here hx rfl (hb hby d16_8) rfl rfl k) ?_
  show own_Fin p e below s Q 0 0 (T95.setTop (mkF m 9 #[.val (.ref o0), .val (.int i1)] [(.ref o0), (.int (gn ((i1 + (1 : Int32))).toNatClampNeg))]))
  obtain ⟨T96, X96, e96, st96⟩ := getF X95 hx hZ hown (host := "") (Or.inl (hw _ (List.mem_of_getElem? (i := 74) rfl))) Via.refl e95 F1 (g := (mkF m 9 #[.val (.ref o0), .val (.int i1)] [(.ref o0), (.int (gn ((i1 + (1 : Int32))).toNatClampNeg))])) rfl rfl (hb hby d16_9)
  refine own_step st96 ?_
  show own_Fin p e below s Q 0 0 (T96.setTop (mkF m 12 #[.val (.ref o0), .val (.int i1)] [(.ref nm), (.int (gn ((i1 + (1 : Int32))).toNatClampNeg))]))
  refine own_step (fun t k => XS.iloadN X96.here hx rfl (hb hby d16_12) rfl  k) ?_
  show own_Fin p e below s Q 0 0 (T96.setTop (mkF m 13 #[.val (.ref o0), .val (.int i1)] [(.int i1), (.ref nm), (.int (gn ((i1 + (1 : Int32))).toNatClampNeg))]))
  obtain ⟨ca13, Ar13, Sz13, Ht13⟩ := id An
  have hin13 : ¬ (i1 < 0 ∨ ca13.slots.size ≤ (i1).toNatClampNeg) := by rw [Sz13]; exact h1
  refine own_step (X96.iaload hx (j := i1) (v := (.int (gn (i1).toNatClampNeg))) (by rw [e96]; exact Ar13.1) (State.isArrayOf_alike hZ.alike Ar13.2.1) Ar13.2.2 hin13 (Ht13 _ (by have hq := Nat.lt_of_not_le (fun y => hin13 (Or.inr y)); rw [Sz13] at hq; exact hq)) (g := (mkF m 13 #[.val (.ref o0), .val (.int i1)] [(.int i1), (.ref nm), (.int (gn ((i1 + (1 : Int32))).toNatClampNeg))])) rfl rfl (hb hby d16_13)) ?_
  show own_Fin p e below s Q 0 0 (T96.setTop (mkF m 14 #[.val (.ref o0), .val (.int i1)] [(.int (gn (i1).toNatClampNeg)), (.int (gn ((i1 + (1 : Int32))).toNatClampNeg))]))
  refine own_step (fun t k => XS.isub X96.here hx rfl (hb hby d16_14) rfl k) ?_
  show own_Fin p e below s Q 0 0 (T96.setTop (mkF m 15 #[.val (.ref o0), .val (.int i1)] [(.int ((gn ((i1 + (1 : Int32))).toNatClampNeg) - (gn (i1).toNatClampNeg)))]))
  exact own_retI X96 hx hlk hret (hb hby d16_15) (Nat.le_trans (Nat.add_le_add_right hc 0) (by decide)) (Nat.le_trans (Nat.add_le_add_right hs 0) (by decide)) e96 N hQ (hv)
theorem pdm_10 : parseMethodDescriptor "(I)I" = some ⟨[.int], some .int⟩ := by decide +kernel
theorem ef_16 (m : MethodId) (o0 : Addr) (i1 : Int32) : entryFrame m #[(.ref o0), (.int i1)] 2 = (mkF m 0 #[.val (.ref o0), .val (.int i1)] []) := by first | (simp [entryFrame, mkF, argsToLocals, Value.category]; done) | rfl
def Q16 (o0 : Addr) (i1 : Int32) (nm : Addr) (gn : Nat → Int32) (zn : Nat) (h0 : Heap) (n0 : Nat) (v : Option Value) (h : Heap) (L : List Loc) : Prop := v = some (.int (f16_0 i1 gn zn)) ∧ Fr n0 L ∧ h = h0
set_option maxRecDepth 65536 in
set_option maxHeartbeats 4000000 in
theorem rm16 (l : Launch) (Z : State) (a0 : Array Value) (hw : ∀ d ∈ tables_1, d.before a0 Z = true) (ws : List Jvm.Cond) (o0 : Addr) (i1 : Int32) (nm : Addr) (gn : Nat → Int32) (zn : Nat) (h0 : Heap) (n0 : Nat) (F1 : Fld Z h0 o0 "com/example/libentitle/libentitle/role/Rows" "starts" "[I" (.ref nm)) (An : own_AF Z h0 nm .int zn gn) (h1 : own_In zn i1) (h2 : own_In zn (i1 + (1 : Int32))) :
    MetFree l (⟨"com/example/libentitle/libentitle/role/Rows", "length", "(I)I"⟩ : MethodName) (head1 (Jvm.Cond.code (⟨"com/example/libentitle/libentitle/role/Rows", "length", "(I)I"⟩ : MethodName) prog_60_method_10_code 2 (some .int) :: ws) ({ frames := 0, cells := 0, slots := 0, locals := 0 } : Room)) (fun a U => a = #[(.ref o0), (.int i1)] ∧ Z.Warmed39 U.vm ∧ U.heap = h0) (fun _ _ _ _ _ => True) (fun _ U o U' => ∃ v L, o = .returned v ∧ Q16 o0 i1 nm gn zn h0 n0 v U'.heap L ∧ FrameEnd U o U' L ({ frames := 0, cells := 0, slots := 0, locals := 0 } : Room).cells ({ frames := 0, cells := 0, slots := 0, locals := 0 } : Room).slots) := by
  refine MetFree.of_bodySF (plainFor_of_name pnm_5) hisR ?_
  intro p e s m args below meth c s₁ Bd hml0 hP hK
  obtain ⟨rfl, hZ, hh⟩ := hP
  have hx := Bd.exec
  have hby := Bd.bytes
  have hml : c.maxLocals = 2 := hml0
  have hown : s.vm.findClass "com/example/libentitle/libentitle/role/Rows" = some m.cls := findClass_of_methodNamed Bd.named
  have X0 : Stand p l e ({ frames := 0, cells := 0, slots := 0, locals := 0 } : Room) s m #[(.ref o0), (.int i1)] below meth c s₁ [] 0 0 := Stand.of_body Bd
  have e0 : s₁.heap = h0 := by rw [← hh, Bd.state]; rfl
  have fin := b16_0 o0 i1 nm gn zn (Q := Q16 o0 i1 nm gn zn h0 n0) hw X0 hx hZ hby hml hown Bd.returns (BodyLoose.notSynchronized Bd) e0 (Fr.nil n0) (Nat.zero_le _) (Nat.zero_le _) F1 An h1 h2 _ rfl (fun L' n' => ⟨rfl, n', rfl⟩)
  exact own_step (fun t k => castTop (ef_16 m o0 i1) k) fin
theorem own_m7 (x : Int32) : ¬ (x &&& (7 : Int32)) < (0 : Int32) ∧ (x &&& (7 : Int32)).toNatClampNeg ≤ 7 := by
  have e := c_and x 7 (by decide)
  have z : (7 : Int32).toInt = 7 := by decide
  have q : ¬ (x &&& (7 : Int32)) < (0 : Int32) := fun y => by
    have := Int32.lt_iff_toInt_lt.mp y
    rw [own_z0i] at this
    omega
  have := nat_of q
  exact ⟨q, by omega⟩
theorem own_back {x : Int32} (h : ¬ x < (0 : Int32)) (h7 : x.toNatClampNeg ≤ 7) : (x.toNatClampNeg.toInt32) = x := by
  have a := own_t32 x.toNatClampNeg (by omega)
  have b := nat_of h
  exact Int32.toInt_inj.mp (by omega)
theorem own_df (a b : Int32) : (a + b) - a = b := by
  have e1 := c_iadd a b
  have e2 := c_isub (a + b) a
  have r1 := rng32 a
  have r2 := rng32 b
  have r3 := rng32 ((a + b) - a)
  have r4 := rng32 (a + b)
  exact Int32.toInt_inj.mp (by omega)
theorem own_len (g : Nat → Int32) (k : Int32) (j : Nat) (a x : Int32) (hk : (k).toNatClampNeg = j) (hk1 : (k + (1 : Int32)).toNatClampNeg = j + 1) (e0 : g j = a) (e1 : g (j + 1) = a + (x.toNatClampNeg.toInt32)) (hx : ¬ x < (0 : Int32)) (h7 : x.toNatClampNeg ≤ 7) (n : Nat) : f16_0 k g n = x := by
  show (g ((k + (1 : Int32))).toNatClampNeg) - (g (k).toNatClampNeg) = x
  rw [hk, hk1, e0, e1, own_back hx h7]
  exact own_df _ _
theorem own_p0 {x : Int32} (h : ¬ x < (0 : Int32) ∧ x.toNatClampNeg ≤ 7) (hp : (0 : Int32) < x) : own_In x.toNatClampNeg (0 : Int32) := by
  have := nat_of h.1
  have hp' := Int32.lt_iff_toInt_lt.mp hp
  rw [own_z0i] at hp'
  intro q
  rcases q with q | q
  · exact absurd q (by decide)
  · have z : (0 : Int32).toNatClampNeg = 0 := by decide
    omega
set_option maxRecDepth 65536 in
set_option maxHeartbeats 40000000 in
theorem b0_66 {p : Program} {l : Launch} {e : Env} {s : State} {m : MethodId} {args : Array Value} {below : List Frame} {meth : Method} {c : Code} {T : State} {locs : List Loc} {cells slots : Nat} {Z : State} {a0 : Array Value} {h : Heap} {n0 : Nat} {Q : Option Value → Heap → List Loc → Prop} (i0 : Int32) (i1 : Int32) (i2 : Int32) (i3 : Int32) (i4 : Int32) (i5 : Int32) (i6 : Int32) (o7 : Addr) (g7 : Nat → Int32) (z7 : Nat) (o8 : Addr) (g8 : Nat → Int32) (z8 : Nat) (o9 : Addr) (g9 : Nat → Int32) (z9 : Nat) (hw : ∀ d ∈ tables_1, d.before a0 Z = true) (X : Stand p l e room_1 s m args below meth c T locs cells slots) (hx : p.tables.exec = Jvm.exec) (hZ : Z.Warmed39 s.vm) (hby : c.code = code) (hml : c.maxLocals = 12) (hown : s.vm.findClass "com/example/libentitle/libentitle/role/RowsLengthPinLaw" = some m.cls) (hret : meth.sig.returnType = some .boolean) (hlk : meth.locks = false) (eT : T.heap = h) (N : Fr n0 locs) (hc : cells ≤ 3) (hs : slots ≤ 21) (A7 : own_AF Z h o7 .int z7 g7) (fr7 : n0 ≤ o7) (A8 : own_AF Z h o8 .int z8 g8) (fr8 : n0 ≤ o8) (A9 : own_AF Z h o9 .int z9 g9) (fr9 : n0 ≤ o9) (D : Addr) (S0 : Sta Z Z.heap "java/util/ArrayList" "DEFAULTCAPACITY_EMPTY_ELEMENTDATA" "[Ljava/lang/Object;" (.ref D)) (DA : own_D Z D) (h4 : ¬ i4 < (0 : Int32) ∧ i4.toNatClampNeg ≤ 7) (h5 : ¬ i5 < (0 : Int32) ∧ i5.toNatClampNeg ≤ 7) (h6 : ¬ i6 < (0 : Int32) ∧ i6.toNatClampNeg ≤ 7) (hO : Old Z n0 h) (X7 : Exa Z h o7 "[I") (X8 : Exa Z h o8 "[I") (X9 : Exa Z h o9 "[I") (ne78 : o7 ≠ o8) (ne79 : o7 ≠ o9) (ne89 : o8 ≠ o9) (hl7 : z7 = i4.toNatClampNeg) (hl8 : z8 = i5.toNatClampNeg) (hl9 : z9 = i6.toNatClampNeg) (Z0 : n0 ≤ h.size) (hQ : ∀ H' L', Fr n0 L' → Q (some (.int 1)) H' L') :
    own_Fin p e below s Q 24 192 (T.setTop (mkF m 66 #[.val (.int i0), .val (.int i1), .val (.int i2), .val (.int i3), .val (.int i4), .val (.int i5), .val (.int i6), .val (.ref o7), .val (.ref o8), .val (.ref o9), .unset, .unset] [])) := by
  subst hl7
  subst hl8
  subst hl9
  obtain ⟨T106, h106, X106, e106, E106, A106, D106, -, st106⟩ := newO X hx hZ hown (hw _ (List.mem_of_getElem? (i := 1) rfl)) (hw _ (List.mem_of_getElem? (i := 2) rfl)) (hw _ (List.mem_of_getElem? (i := 3) rfl)) eT (g := (mkF m 66 #[.val (.int i0), .val (.int i1), .val (.int i2), .val (.int i3), .val (.int i4), .val (.int i5), .val (.int i6), .val (.ref o7), .val (.ref o8), .val (.ref o9), .unset, .unset] [])) rfl (hb hby at_66) (show cells + 1 ≤ 24 from (Nat.le_trans (Nat.add_le_add_right hc 1) (by decide))) (show slots + 3 ≤ 192 from (Nat.le_trans (Nat.add_le_add_right hs 3) (by decide)))
  obtain ⟨b106, gg106⟩ : ∃ z, z = h.size := ⟨_, rfl⟩
  rw [← gg106] at A106 D106 st106
  have F106_modCount : Fld Z h106 b106 "java/util/AbstractList" "modCount" "I" (.int (0 : Int32)) := D106 (Or.inl (hw _ (List.mem_of_getElem? (i := 23) rfl))) (ty := .int) (by decide)
  have F106_elementData : Fld Z h106 b106 "java/util/ArrayList" "elementData" "[Ljava/lang/Object;" .null := D106 (Or.inl (hw _ (List.mem_of_getElem? (i := 26) rfl))) (ty := (.array (.object "java/lang/Object"))) (by decide)
  have F106_size : Fld Z h106 b106 "java/util/ArrayList" "size" "I" (.int (0 : Int32)) := D106 (Or.inl (hw _ (List.mem_of_getElem? (i := 35) rfl))) (ty := .int) (by decide)
  have fr106 : n0 ≤ b106 := Nat.le_trans Z0 (Nat.le_of_eq gg106.symm)
  have Z0106 : n0 ≤ h106.size := Nat.le_trans Z0 E106.1
  have neo7_106 : o7 ≠ b106 := Nat.ne_of_lt (Nat.lt_of_lt_of_le A7.lt (Nat.le_of_eq gg106.symm))
  have neo8_106 : o8 ≠ b106 := Nat.ne_of_lt (Nat.lt_of_lt_of_le A8.lt (Nat.le_of_eq gg106.symm))
  have neo9_106 : o9 ≠ b106 := Nat.ne_of_lt (Nat.lt_of_lt_of_le A9.lt (Nat.le_of_eq gg106.symm))
  have V106_o7 := own_AFext A7 E106
  have V106_o8 := own_AFext A8 E106
  have V106_o9 := own_AFext A9 E106
  have Xa106_o7 := X7.ext E106
  have Xa106_o8 := X8.ext E106
  have Xa106_o9 := X9.ext E106
  have O106 := hO.ext E106
  refine own_step st106 ?_
  show own_Fin p e below s Q 24 192 (T106.setTop (mkF m 69 #[.val (.int i0), .val (.int i1), .val (.int i2), .val (.int i3), .val (.int i4), .val (.int i5), .val (.int i6), .val (.ref o7), .val (.ref o8), .val (.ref o9), .unset, .unset] [(.ref b106)]))
  refine own_step (fun t k => XS.dup X106.here hx rfl (hb hby at_69) rfl rfl k) ?_
  show own_Fin p e below s Q 24 192 (T106.setTop (mkF m 70 #[.val (.int i0), .val (.int i1), .val (.int i2), .val (.int i3), .val (.int i4), .val (.int i5), .val (.int i6), .val (.ref o7), .val (.ref o8), .val (.ref o9), .unset, .unset] [(.ref b106), (.ref b106)]))
  obtain ⟨_, _, ⟨T107, L107, k107, n107⟩, -, X107, ⟨Lc107, hQ107, l107, y107, z107⟩, st107⟩ := X106.specialBack hx (y := (⟨"java/util/ArrayList", "<init>", "()V"⟩ : MethodName)) rfl hown (mvT hZ (hw _ (List.mem_of_getElem? (i := 4) rfl))) (mvT hZ (hw _ (List.mem_of_getElem? (i := 5) rfl))) (mvT hZ (hw _ (List.mem_of_getElem? (i := 6) rfl))) (by decide) (backOf (W := 1) (rm1 l Z a0 hw [] b106 (.int (0 : Int32)) .null (.int (0 : Int32)) D h106 n0 Z0106 fr106 O106 S0 A106 F106_modCount F106_elementData F106_size) hZ (hw _ (List.mem_of_getElem? (i := 6) rfl)) (hw _ (List.mem_of_getElem? (i := 3) rfl)) (by decide) (by decide)) (g := (mkF m 70 #[.val (.int i0), .val (.int i1), .val (.int i2), .val (.int i3), .val (.int i4), .val (.int i5), .val (.int i6), .val (.ref o7), .val (.ref o8), .val (.ref o9), .unset, .unset] [(.ref b106), (.ref b106)])) rfl (by rw [hml]; rfl) (Steps.refl _) (a := b106) (argsL := []) (rest := [(.ref b106)]) (lenOf pdm_1 rfl) rfl (by show 2 * 0 + _ ≤ _; exact Nat.le_of_eq rfl) (hb hby at_70) (fun _ _ => ⟨rfl, e106, (show cells + 1 + 0 ≤ 24 from (Nat.le_trans (Nat.add_le_add_right hc 1) (by decide))), (show slots + 3 + 0 ≤ 192 from (Nat.le_trans (Nat.add_le_add_right hs 3) (by decide)))⟩)
  dsimp only [Pt.U, Pt.locs, Pt.cells, Pt.slots] at X107 l107 y107 z107 st107 hQ107
  have yy107 : k107 = cells + 1 + 0 := y107
  have zz107 : n107 = slots + 3 + 0 := z107
  rw [yy107, zz107, l107] at X107
  obtain ⟨rfl, N107q, K107, r0_107, r1_107, r2_107, r3_107⟩ := hQ107
  have N107 := Fr.app N N107q
  have Z0107 : n0 ≤ T107.heap.size := Nat.le_trans Z0106 K107.1
  have V107_o7 := own_AFkeep V106_o7 K107 (ninS neo7_106 nin0)
  have Xa107_o7 := Xa106_o7.keep K107
  have V107_o8 := own_AFkeep V106_o8 K107 (ninS neo8_106 nin0)
  have Xa107_o8 := Xa106_o8.keep K107
  have V107_o9 := own_AFkeep V106_o9 K107 (ninS neo9_106 nin0)
  have Xa107_o9 := Xa106_o9.keep K107
  have O107 := O106.keep K107 (allS fr106 all0)
  refine own_step (fun t k => st107.trans k) ?_
  show own_Fin p e below s Q 24 192 (T107.setTop (mkF m 73 #[.val (.int i0), .val (.int i1), .val (.int i2), .val (.int i3), .val (.int i4), .val (.int i5), .val (.int i6), .val (.ref o7), .val (.ref o8), .val (.ref o9), .unset, .unset] [(.ref b106)]))
  refine own_step (fun t k => XS.astore X107.here hx rfl (hb hby at_73) rfl rfl (l' := #[.val (.int i0), .val (.int i1), .val (.int i2), .val (.int i3), .val (.int i4), .val (.int i5), .val (.int i6), .val (.ref o7), .val (.ref o8), .val (.ref o9), .val (.ref b106), .unset]) rfl k) ?_
  show own_Fin p e below s Q 24 192 (T107.setTop (mkF m 75 #[.val (.int i0), .val (.int i1), .val (.int i2), .val (.int i3), .val (.int i4), .val (.int i5), .val (.int i6), .val (.ref o7), .val (.ref o8), .val (.ref o9), .val (.ref b106), .unset] []))
  refine own_step (fun t k => XS.aload X107.here hx rfl (hb hby at_75) rfl rfl k) ?_
  show own_Fin p e below s Q 24 192 (T107.setTop (mkF m 77 #[.val (.int i0), .val (.int i1), .val (.int i2), .val (.int i3), .val (.int i4), .val (.int i5), .val (.int i6), .val (.ref o7), .val (.ref o8), .val (.ref o9), .val (.ref b106), .unset] [(.ref b106)]))
  refine own_step (fun t k => XS.aload X107.here hx rfl (hb hby at_77) rfl rfl k) ?_
  show own_Fin p e below s Q 24 192 (T107.setTop (mkF m 79 #[.val (.int i0), .val (.int i1), .val (.int i2), .val (.int i3), .val (.int i4), .val (.int i5), .val (.int i6), .val (.ref o7), .val (.ref o8), .val (.ref o9), .val (.ref b106), .unset] [(.ref o7), (.ref b106)]))
  obtain ⟨cq108, kq108, q108a, q108b, q108c⟩ := isOf hZ rfl r0_107
  obtain ⟨_, _, ⟨T108, L108, k108, n108⟩, -, X108, ⟨Lc108, hQ108, l108, y108, z108⟩, st108⟩ := X107.virtualBack hx (y := (⟨"java/util/ArrayList", "add", "(Ljava/lang/Object;)Z"⟩ : MethodName)) (z := (⟨"java/util/ArrayList", "add", "(Ljava/lang/Object;)Z"⟩ : MethodName)) hown (mvT hZ (hw _ (List.mem_of_getElem? (i := 27) rfl))) (mvT hZ (hw _ (List.mem_of_getElem? (i := 28) rfl))) (notFace_of_selects (args := #[]) (mvT hZ (hw _ (List.mem_of_getElem? (i := 30) rfl)))) (mvT hZ (hw _ (List.mem_of_getElem? (i := 30) rfl))) (mvT hZ (hw _ (List.mem_of_getElem? (i := 29) rfl))) (by decide) (backOf (W := 0) (rm50 l Z a0 hw [] b106 o7 (0 : Int32) D T107.heap n0 Z0107 fr106 O107 S0 DA (Ins.of_exa Xa107_o7 (hw _ (List.mem_of_getElem? (i := 57) rfl))) r0_107 r1_107 r2_107 r3_107) hZ (hw _ (List.mem_of_getElem? (i := 31) rfl)) (hw _ (List.mem_of_getElem? (i := 3) rfl)) (by decide) (by decide)) q108a q108c (g := (mkF m 79 #[.val (.int i0), .val (.int i1), .val (.int i2), .val (.int i3), .val (.int i4), .val (.int i5), .val (.int i6), .val (.ref o7), .val (.ref o8), .val (.ref o9), .val (.ref b106), .unset] [(.ref o7), (.ref b106)])) rfl (by rw [hml]; rfl) (Steps.refl _) (argsL := [(.ref o7)]) (rest := []) (lenOf pdm_5 rfl) rfl (by show 2 * 0 + _ ≤ _; exact Nat.le_of_eq rfl) (hb hby at_79) (fun _ _ => ⟨rfl, rfl, (show cells + 1 + 0 + 1 ≤ 24 from (Nat.le_trans (Nat.add_le_add_right hc 2) (by decide))), (show slots + 3 + 0 + 10 ≤ 192 from (Nat.le_trans (Nat.add_le_add_right hs 13) (by decide)))⟩)
  dsimp only [Pt.U, Pt.locs, Pt.cells, Pt.slots] at X108 l108 y108 z108 st108 hQ108
  have yy108 : k108 = cells + 1 + 0 + 1 := y108
  have zz108 : n108 = slots + 3 + 0 + 10 := z108
  rw [yy108, zz108, l108] at X108
  obtain ⟨b_108, rfl, N108q, K108, r0_108, r1_108, r2_108, r3_108, r4_108, r5_108, r6_108⟩ := hQ108
  have N108 := Fr.app N107 N108q
  have Z0108 : n0 ≤ T108.heap.size := Nat.le_trans Z0107 K108.1
  have V108_o7 := own_AFkeep V107_o7 K108 (ninS neo7_106 nin0)
  have Xa108_o7 := Xa107_o7.keep K108
  have V108_o8 := own_AFkeep V107_o8 K108 (ninS neo8_106 nin0)
  have Xa108_o8 := Xa107_o8.keep K108
  have V108_o9 := own_AFkeep V107_o9 K108 (ninS neo9_106 nin0)
  have Xa108_o9 := Xa107_o9.keep K108
  have O108 := O107.keep K108 (allS fr106 all0)
  have neo7_108 : o7 ≠ b_108 := Nat.ne_of_lt (Nat.lt_of_lt_of_le V107_o7.lt r1_108)
  have neo8_108 : o8 ≠ b_108 := Nat.ne_of_lt (Nat.lt_of_lt_of_le V107_o8.lt r1_108)
  have neo9_108 : o9 ≠ b_108 := Nat.ne_of_lt (Nat.lt_of_lt_of_le V107_o9.lt r1_108)
  have neb106_108 : b106 ≠ b_108 := Nat.ne_of_lt (Nat.lt_of_lt_of_le r0_107.lt r1_108)
  refine own_step (fun t k => st108.trans k) ?_
  show own_Fin p e below s Q 24 192 (T108.setTop (mkF m 82 #[.val (.int i0), .val (.int i1), .val (.int i2), .val (.int i3), .val (.int i4), .val (.int i5), .val (.int i6), .val (.ref o7), .val (.ref o8), .val (.ref o9), .val (.ref b106), .unset] [(.int (1 : Int32))]))
  refine own_step (fun t k => XS.pop X108.here hx rfl (hb hby at_82) rfl rfl k) ?_
  show own_Fin p e below s Q 24 192 (T108.setTop (mkF m 83 #[.val (.int i0), .val (.int i1), .val (.int i2), .val (.int i3), .val (.int i4), .val (.int i5), .val (.int i6), .val (.ref o7), .val (.ref o8), .val (.ref o9), .val (.ref b106), .unset] []))
  refine own_step (fun t k => XS.aload X108.here hx rfl (hb hby at_83) rfl rfl k) ?_
  show own_Fin p e below s Q 24 192 (T108.setTop (mkF m 85 #[.val (.int i0), .val (.int i1), .val (.int i2), .val (.int i3), .val (.int i4), .val (.int i5), .val (.int i6), .val (.ref o7), .val (.ref o8), .val (.ref o9), .val (.ref b106), .unset] [(.ref b106)]))
  refine own_step (fun t k => XS.aload X108.here hx rfl (hb hby at_85) rfl rfl k) ?_
  show own_Fin p e below s Q 24 192 (T108.setTop (mkF m 87 #[.val (.int i0), .val (.int i1), .val (.int i2), .val (.int i3), .val (.int i4), .val (.int i5), .val (.int i6), .val (.ref o7), .val (.ref o8), .val (.ref o9), .val (.ref b106), .unset] [(.ref o8), (.ref b106)]))
  obtain ⟨cq109, kq109, q109a, q109b, q109c⟩ := isOf hZ rfl r3_108
  obtain ⟨_, _, ⟨T109, L109, k109, n109⟩, -, X109, ⟨Lc109, hQ109, l109, y109, z109⟩, st109⟩ := X108.virtualBack hx (y := (⟨"java/util/ArrayList", "add", "(Ljava/lang/Object;)Z"⟩ : MethodName)) (z := (⟨"java/util/ArrayList", "add", "(Ljava/lang/Object;)Z"⟩ : MethodName)) hown (mvT hZ (hw _ (List.mem_of_getElem? (i := 27) rfl))) (mvT hZ (hw _ (List.mem_of_getElem? (i := 28) rfl))) (notFace_of_selects (args := #[]) (mvT hZ (hw _ (List.mem_of_getElem? (i := 30) rfl)))) (mvT hZ (hw _ (List.mem_of_getElem? (i := 30) rfl))) (mvT hZ (hw _ (List.mem_of_getElem? (i := 29) rfl))) (by decide) (backOf (W := 0) (rm51 l Z a0 hw [] b106 o8 ((0 : Int32) + (1 : Int32)) b_108 (fun i => if i = 0 then (.ref o7) else (fun _ => .null) i) T108.heap n0 Z0108 fr106 r0_108 neb106_108 (Ins.of_exa Xa108_o8 (hw _ (List.mem_of_getElem? (i := 57) rfl))) r2_108 r3_108 r4_108 r5_108 r6_108) hZ (hw _ (List.mem_of_getElem? (i := 31) rfl)) (hw _ (List.mem_of_getElem? (i := 3) rfl)) (by decide) (by decide)) q109a q109c (g := (mkF m 87 #[.val (.int i0), .val (.int i1), .val (.int i2), .val (.int i3), .val (.int i4), .val (.int i5), .val (.int i6), .val (.ref o7), .val (.ref o8), .val (.ref o9), .val (.ref b106), .unset] [(.ref o8), (.ref b106)])) rfl (by rw [hml]; rfl) (Steps.refl _) (argsL := [(.ref o8)]) (rest := []) (lenOf pdm_5 rfl) rfl (by show 2 * 0 + _ ≤ _; exact Nat.le_of_eq rfl) (hb hby at_87) (fun _ _ => ⟨rfl, rfl, (show cells + 1 + 0 + 1 + 0 ≤ 24 from (Nat.le_trans (Nat.add_le_add_right hc 2) (by decide))), (show slots + 3 + 0 + 10 + 0 ≤ 192 from (Nat.le_trans (Nat.add_le_add_right hs 13) (by decide)))⟩)
  dsimp only [Pt.U, Pt.locs, Pt.cells, Pt.slots] at X109 l109 y109 z109 st109 hQ109
  have yy109 : k109 = cells + 1 + 0 + 1 + 0 := y109
  have zz109 : n109 = slots + 3 + 0 + 10 + 0 := z109
  rw [yy109, zz109, l109] at X109
  obtain ⟨rfl, N109q, K109, r0_109, r1_109, r2_109, r3_109, r4_109⟩ := hQ109
  have N109 := Fr.app N108 N109q
  have Z0109 : n0 ≤ T109.heap.size := Nat.le_trans Z0108 K109.1
  have V109_o7 := own_AFkeep V108_o7 K109 (ninS neo7_106 (ninS neo7_108 nin0))
  have Xa109_o7 := Xa108_o7.keep K109
  have V109_o8 := own_AFkeep V108_o8 K109 (ninS neo8_106 (ninS neo8_108 nin0))
  have Xa109_o8 := Xa108_o8.keep K109
  have V109_o9 := own_AFkeep V108_o9 K109 (ninS neo9_106 (ninS neo9_108 nin0))
  have Xa109_o9 := Xa108_o9.keep K109
  have O109 := O108.keep K109 (allS fr106 (allS r0_108 all0))
  refine own_step (fun t k => st109.trans k) ?_
  show own_Fin p e below s Q 24 192 (T109.setTop (mkF m 90 #[.val (.int i0), .val (.int i1), .val (.int i2), .val (.int i3), .val (.int i4), .val (.int i5), .val (.int i6), .val (.ref o7), .val (.ref o8), .val (.ref o9), .val (.ref b106), .unset] [(.int (1 : Int32))]))
  refine own_step (fun t k => XS.pop X109.here hx rfl (hb hby at_90) rfl rfl k) ?_
  show own_Fin p e below s Q 24 192 (T109.setTop (mkF m 91 #[.val (.int i0), .val (.int i1), .val (.int i2), .val (.int i3), .val (.int i4), .val (.int i5), .val (.int i6), .val (.ref o7), .val (.ref o8), .val (.ref o9), .val (.ref b106), .unset] []))
  refine own_step (fun t k => XS.aload X109.here hx rfl (hb hby at_91) rfl rfl k) ?_
  show own_Fin p e below s Q 24 192 (T109.setTop (mkF m 93 #[.val (.int i0), .val (.int i1), .val (.int i2), .val (.int i3), .val (.int i4), .val (.int i5), .val (.int i6), .val (.ref o7), .val (.ref o8), .val (.ref o9), .val (.ref b106), .unset] [(.ref b106)]))
  refine own_step (fun t k => XS.aload X109.here hx rfl (hb hby at_93) rfl rfl k) ?_
  show own_Fin p e below s Q 24 192 (T109.setTop (mkF m 95 #[.val (.int i0), .val (.int i1), .val (.int i2), .val (.int i3), .val (.int i4), .val (.int i5), .val (.int i6), .val (.ref o7), .val (.ref o8), .val (.ref o9), .val (.ref b106), .unset] [(.ref o9), (.ref b106)]))
  obtain ⟨cq110, kq110, q110a, q110b, q110c⟩ := isOf hZ rfl r1_109
  obtain ⟨_, _, ⟨T110, L110, k110, n110⟩, -, X110, ⟨Lc110, hQ110, l110, y110, z110⟩, st110⟩ := X109.virtualBack hx (y := (⟨"java/util/ArrayList", "add", "(Ljava/lang/Object;)Z"⟩ : MethodName)) (z := (⟨"java/util/ArrayList", "add", "(Ljava/lang/Object;)Z"⟩ : MethodName)) hown (mvT hZ (hw _ (List.mem_of_getElem? (i := 27) rfl))) (mvT hZ (hw _ (List.mem_of_getElem? (i := 28) rfl))) (notFace_of_selects (args := #[]) (mvT hZ (hw _ (List.mem_of_getElem? (i := 30) rfl)))) (mvT hZ (hw _ (List.mem_of_getElem? (i := 30) rfl))) (mvT hZ (hw _ (List.mem_of_getElem? (i := 29) rfl))) (by decide) (backOf (W := 0) (rm52 l Z a0 hw [] b106 o9 (((0 : Int32) + (1 : Int32)) + (1 : Int32)) b_108 (fun i => if i = 1 then (.ref o8) else (fun i => if i = 0 then (.ref o7) else (fun _ => .null) i) i) T109.heap n0 Z0109 fr106 r0_108 neb106_108 (Ins.of_exa Xa109_o9 (hw _ (List.mem_of_getElem? (i := 57) rfl))) r0_109 r1_109 r2_109 r3_109 r4_109) hZ (hw _ (List.mem_of_getElem? (i := 31) rfl)) (hw _ (List.mem_of_getElem? (i := 3) rfl)) (by decide) (by decide)) q110a q110c (g := (mkF m 95 #[.val (.int i0), .val (.int i1), .val (.int i2), .val (.int i3), .val (.int i4), .val (.int i5), .val (.int i6), .val (.ref o7), .val (.ref o8), .val (.ref o9), .val (.ref b106), .unset] [(.ref o9), (.ref b106)])) rfl (by rw [hml]; rfl) (Steps.refl _) (argsL := [(.ref o9)]) (rest := []) (lenOf pdm_5 rfl) rfl (by show 2 * 0 + _ ≤ _; exact Nat.le_of_eq rfl) (hb hby at_95) (fun _ _ => ⟨rfl, rfl, (show cells + 1 + 0 + 1 + 0 + 0 ≤ 24 from (Nat.le_trans (Nat.add_le_add_right hc 2) (by decide))), (show slots + 3 + 0 + 10 + 0 + 0 ≤ 192 from (Nat.le_trans (Nat.add_le_add_right hs 13) (by decide)))⟩)
  dsimp only [Pt.U, Pt.locs, Pt.cells, Pt.slots] at X110 l110 y110 z110 st110 hQ110
  have yy110 : k110 = cells + 1 + 0 + 1 + 0 + 0 := y110
  have zz110 : n110 = slots + 3 + 0 + 10 + 0 + 0 := z110
  rw [yy110, zz110, l110] at X110
  obtain ⟨rfl, N110q, K110, r0_110, r1_110, r2_110, r3_110, r4_110⟩ := hQ110
  have N110 := Fr.app N109 N110q
  have Z0110 : n0 ≤ T110.heap.size := Nat.le_trans Z0109 K110.1
  have V110_o7 := own_AFkeep V109_o7 K110 (ninS neo7_106 (ninS neo7_108 nin0))
  have Xa110_o7 := Xa109_o7.keep K110
  have V110_o8 := own_AFkeep V109_o8 K110 (ninS neo8_106 (ninS neo8_108 nin0))
  have Xa110_o8 := Xa109_o8.keep K110
  have V110_o9 := own_AFkeep V109_o9 K110 (ninS neo9_106 (ninS neo9_108 nin0))
  have Xa110_o9 := Xa109_o9.keep K110
  have O110 := O109.keep K110 (allS fr106 (allS r0_108 all0))
  refine own_step (fun t k => st110.trans k) ?_
  show own_Fin p e below s Q 24 192 (T110.setTop (mkF m 98 #[.val (.int i0), .val (.int i1), .val (.int i2), .val (.int i3), .val (.int i4), .val (.int i5), .val (.int i6), .val (.ref o7), .val (.ref o8), .val (.ref o9), .val (.ref b106), .unset] [(.int (1 : Int32))]))
  refine own_step (fun t k => XS.pop X110.here hx rfl (hb hby at_98) rfl rfl k) ?_
  show own_Fin p e below s Q 24 192 (T110.setTop (mkF m 99 #[.val (.int i0), .val (.int i1), .val (.int i2), .val (.int i3), .val (.int i4), .val (.int i5), .val (.int i6), .val (.ref o7), .val (.ref o8), .val (.ref o9), .val (.ref b106), .unset] []))
  obtain ⟨T111, h111, X111, e111, E111, A111, D111, -, st111⟩ := newO X110 hx hZ hown (hw _ (List.mem_of_getElem? (i := 58) rfl)) (hw _ (List.mem_of_getElem? (i := 59) rfl)) (hw _ (List.mem_of_getElem? (i := 60) rfl)) rfl (g := (mkF m 99 #[.val (.int i0), .val (.int i1), .val (.int i2), .val (.int i3), .val (.int i4), .val (.int i5), .val (.int i6), .val (.ref o7), .val (.ref o8), .val (.ref o9), .val (.ref b106), .unset] [])) rfl (hb hby at_99) (show cells + 1 + 0 + 1 + 0 + 0 + 1 ≤ 24 from (Nat.le_trans (Nat.add_le_add_right hc 3) (by decide))) (show slots + 3 + 0 + 10 + 0 + 0 + 2 ≤ 192 from (Nat.le_trans (Nat.add_le_add_right hs 15) (by decide)))
  obtain ⟨b111, gg111⟩ : ∃ z, z = T110.heap.size := ⟨_, rfl⟩
  rw [← gg111] at A111 D111 st111
  have F111_starts : Fld Z h111 b111 "com/example/libentitle/libentitle/role/Rows" "starts" "[I" .null := D111 (Or.inr (hw _ (List.mem_of_getElem? (i := 75) rfl))) (ty := (.array .int)) (by decide)
  have F111_values : Fld Z h111 b111 "com/example/libentitle/libentitle/role/Rows" "values" "[I" .null := D111 (Or.inr (hw _ (List.mem_of_getElem? (i := 100) rfl))) (ty := (.array .int)) (by decide)
  have fr111 : n0 ≤ b111 := Nat.le_trans Z0110 (Nat.le_of_eq gg111.symm)
  have Z0111 : n0 ≤ h111.size := Nat.le_trans Z0110 E111.1
  have neo7_111 : o7 ≠ b111 := Nat.ne_of_lt (Nat.lt_of_lt_of_le V110_o7.lt (Nat.le_of_eq gg111.symm))
  have neo8_111 : o8 ≠ b111 := Nat.ne_of_lt (Nat.lt_of_lt_of_le V110_o8.lt (Nat.le_of_eq gg111.symm))
  have neo9_111 : o9 ≠ b111 := Nat.ne_of_lt (Nat.lt_of_lt_of_le V110_o9.lt (Nat.le_of_eq gg111.symm))
  have neb106_111 : b106 ≠ b111 := Nat.ne_of_lt (Nat.lt_of_lt_of_le r1_110.lt (Nat.le_of_eq gg111.symm))
  have neb_108_111 : b_108 ≠ b111 := Nat.ne_of_lt (Nat.lt_of_lt_of_le r0_110.lt (Nat.le_of_eq gg111.symm))
  have V111_o7 := own_AFext V110_o7 E111
  have V111_o8 := own_AFext V110_o8 E111
  have V111_o9 := own_AFext V110_o9 E111
  have Ex111_b106 := r1_110.ext E111
  have F111_b106_modCount := r2_110.ext E111
  have F111_b106_elementData := r3_110.ext E111
  have F111_b106_size := r4_110.ext E111
  have Xa111_o7 := Xa110_o7.ext E111
  have Xa111_o8 := Xa110_o8.ext E111
  have Xa111_o9 := Xa110_o9.ext E111
  have R111_b_108 := own_RFext r0_110 E111
  have O111 := O110.ext E111
  refine own_step st111 ?_
  show own_Fin p e below s Q 24 192 (T111.setTop (mkF m 102 #[.val (.int i0), .val (.int i1), .val (.int i2), .val (.int i3), .val (.int i4), .val (.int i5), .val (.int i6), .val (.ref o7), .val (.ref o8), .val (.ref o9), .val (.ref b106), .unset] [(.ref b111)]))
  refine own_step (fun t k => XS.dup X111.here hx rfl (hb hby at_102) rfl rfl k) ?_
  show own_Fin p e below s Q 24 192 (T111.setTop (mkF m 103 #[.val (.int i0), .val (.int i1), .val (.int i2), .val (.int i3), .val (.int i4), .val (.int i5), .val (.int i6), .val (.ref o7), .val (.ref o8), .val (.ref o9), .val (.ref b106), .unset] [(.ref b111), (.ref b111)]))
  refine own_step (fun t k => XS.aload X111.here hx rfl (hb hby at_103) rfl rfl k) ?_
  show own_Fin p e below s Q 24 192 (T111.setTop (mkF m 105 #[.val (.int i0), .val (.int i1), .val (.int i2), .val (.int i3), .val (.int i4), .val (.int i5), .val (.int i6), .val (.ref o7), .val (.ref o8), .val (.ref o9), .val (.ref b106), .unset] [(.ref b106), (.ref b111), (.ref b111)]))
  obtain ⟨_, _, ⟨T112, L112, k112, n112⟩, -, X112, ⟨Lc112, hQ112, l112, y112, z112⟩, st112⟩ := X111.specialBack hx (y := (⟨"com/example/libentitle/libentitle/role/Rows", "<init>", "(Ljava/util/List;)V"⟩ : MethodName)) rfl hown (mvT hZ (hw _ (List.mem_of_getElem? (i := 61) rfl))) (mvT hZ (hw _ (List.mem_of_getElem? (i := 62) rfl))) (mvT hZ (hw _ (List.mem_of_getElem? (i := 63) rfl))) (by decide) (backOf (W := 1) (rm10 l Z a0 hw [] b111 b106 .null .null (.int ((((0 : Int32) + (1 : Int32)) + (1 : Int32)) + (1 : Int32))) b_108 (fun i => if i = 2 then (.ref o9) else (fun i => if i = 1 then (.ref o8) else (fun i => if i = 0 then (.ref o7) else (fun _ => .null) i) i) i) o7 i4.toNatClampNeg g7 o8 i5.toNatClampNeg g8 o9 i6.toNatClampNeg g9 h111 n0 Z0111 fr111 A111 F111_starts F111_values Ex111_b106 F111_b106_modCount F111_b106_elementData F111_b106_size R111_b_108 V111_o7 Xa111_o7 rfl h4.2 V111_o8 Xa111_o8 rfl h5.2 V111_o9 Xa111_o9 rfl h6.2 neb106_111 neb_108_111 neo7_111 neo8_111 neo9_111) hZ (hw _ (List.mem_of_getElem? (i := 63) rfl)) (hw _ (List.mem_of_getElem? (i := 60) rfl)) (by decide) (by decide)) (g := (mkF m 105 #[.val (.int i0), .val (.int i1), .val (.int i2), .val (.int i3), .val (.int i4), .val (.int i5), .val (.int i6), .val (.ref o7), .val (.ref o8), .val (.ref o9), .val (.ref b106), .unset] [(.ref b106), (.ref b111), (.ref b111)])) rfl (by rw [hml]; rfl) (Steps.refl _) (a := b111) (argsL := [(.ref b106)]) (rest := [(.ref b111)]) (lenOf pdm_9 rfl) rfl (by show 2 * 0 + _ ≤ _; exact Nat.le_of_eq rfl) (hb hby at_105) (fun _ _ => ⟨rfl, e111, (show cells + 1 + 0 + 1 + 0 + 0 + 1 + 2 ≤ 24 from (Nat.le_trans (Nat.add_le_add_right hc 5) (by decide))), (show slots + 3 + 0 + 10 + 0 + 0 + 2 + 25 ≤ 192 from (Nat.le_trans (Nat.add_le_add_right hs 40) (by decide)))⟩)
  dsimp only [Pt.U, Pt.locs, Pt.cells, Pt.slots] at X112 l112 y112 z112 st112 hQ112
  have yy112 : k112 = cells + 1 + 0 + 1 + 0 + 0 + 1 + 2 := y112
  have zz112 : n112 = slots + 3 + 0 + 10 + 0 + 0 + 2 + 25 := z112
  rw [yy112, zz112, l112] at X112
  obtain ⟨bs_112, bv_112, gs_112, gv_112, rfl, N112q, K112, r0_112, r1_112, r2_112, r3_112, r4_112, r5_112, r6_112, r7_112, r8_112, r9_112, r10_112, r11_112, r12_112, r13_112⟩ := hQ112
  have N112 := Fr.app N110 N112q
  have Z0112 : n0 ≤ T112.heap.size := Nat.le_trans Z0111 K112.1
  have V112_o7 := own_AFkeep V111_o7 K112 (ninS neo7_111 nin0)
  have Xa112_o7 := Xa111_o7.keep K112
  have V112_o8 := own_AFkeep V111_o8 K112 (ninS neo8_111 nin0)
  have Xa112_o8 := Xa111_o8.keep K112
  have V112_o9 := own_AFkeep V111_o9 K112 (ninS neo9_111 nin0)
  have Xa112_o9 := Xa111_o9.keep K112
  have R112_b_108 := own_RFkeep R111_b_108 K112 (ninS neb_108_111 nin0)
  have Ex112_b106 := Ex111_b106.keep K112
  have F112_b106_modCount := F111_b106_modCount.keep K112 (ninS neb106_111 nin0)
  have F112_b106_elementData := F111_b106_elementData.keep K112 (ninS neb106_111 nin0)
  have F112_b106_size := F111_b106_size.keep K112 (ninS neb106_111 nin0)
  have O112 := O111.keep K112 (allS fr111 all0)
  have neo7_112s : o7 ≠ bs_112 := Nat.ne_of_lt (Nat.lt_of_lt_of_le V111_o7.lt r1_112)
  have neo8_112s : o8 ≠ bs_112 := Nat.ne_of_lt (Nat.lt_of_lt_of_le V111_o8.lt r1_112)
  have neo9_112s : o9 ≠ bs_112 := Nat.ne_of_lt (Nat.lt_of_lt_of_le V111_o9.lt r1_112)
  have neb106_112s : b106 ≠ bs_112 := Nat.ne_of_lt (Nat.lt_of_lt_of_le Ex111_b106.lt r1_112)
  have neb111_112s : b111 ≠ bs_112 := Nat.ne_of_lt (Nat.lt_of_lt_of_le A111.lt r1_112)
  have neb_108_112s : b_108 ≠ bs_112 := Nat.ne_of_lt (Nat.lt_of_lt_of_le R111_b_108.lt r1_112)
  have neo7_112v : o7 ≠ bv_112 := Nat.ne_of_lt (Nat.lt_of_lt_of_le V111_o7.lt r3_112)
  have neo8_112v : o8 ≠ bv_112 := Nat.ne_of_lt (Nat.lt_of_lt_of_le V111_o8.lt r3_112)
  have neo9_112v : o9 ≠ bv_112 := Nat.ne_of_lt (Nat.lt_of_lt_of_le V111_o9.lt r3_112)
  have neb106_112v : b106 ≠ bv_112 := Nat.ne_of_lt (Nat.lt_of_lt_of_le Ex111_b106.lt r3_112)
  have neb111_112v : b111 ≠ bv_112 := Nat.ne_of_lt (Nat.lt_of_lt_of_le A111.lt r3_112)
  have neb_108_112v : b_108 ≠ bv_112 := Nat.ne_of_lt (Nat.lt_of_lt_of_le R111_b_108.lt r3_112)
  refine own_step (fun t k => st112.trans k) ?_
  show own_Fin p e below s Q 24 192 (T112.setTop (mkF m 108 #[.val (.int i0), .val (.int i1), .val (.int i2), .val (.int i3), .val (.int i4), .val (.int i5), .val (.int i6), .val (.ref o7), .val (.ref o8), .val (.ref o9), .val (.ref b106), .unset] [(.ref b111)]))
  refine own_step (fun t k => XS.astore X112.here hx rfl (hb hby at_108) rfl rfl (l' := #[.val (.int i0), .val (.int i1), .val (.int i2), .val (.int i3), .val (.int i4), .val (.int i5), .val (.int i6), .val (.ref o7), .val (.ref o8), .val (.ref o9), .val (.ref b106), .val (.ref b111)]) rfl k) ?_
  show own_Fin p e below s Q 24 192 (T112.setTop (mkF m 110 #[.val (.int i0), .val (.int i1), .val (.int i2), .val (.int i3), .val (.int i4), .val (.int i5), .val (.int i6), .val (.ref o7), .val (.ref o8), .val (.ref o9), .val (.ref b106), .val (.ref b111)] []))
  refine own_step (fun t k => XS.aload X112.here hx rfl (hb hby at_110) rfl rfl k) ?_
  show own_Fin p e below s Q 24 192 (T112.setTop (mkF m 112 #[.val (.int i0), .val (.int i1), .val (.int i2), .val (.int i3), .val (.int i4), .val (.int i5), .val (.int i6), .val (.ref o7), .val (.ref o8), .val (.ref o9), .val (.ref b106), .val (.ref b111)] [(.ref b111)]))
  refine own_step (fun t k => XS.iconst X112.here hx rfl (hb hby at_112) k) ?_
  show own_Fin p e below s Q 24 192 (T112.setTop (mkF m 113 #[.val (.int i0), .val (.int i1), .val (.int i2), .val (.int i3), .val (.int i4), .val (.int i5), .val (.int i6), .val (.ref o7), .val (.ref o8), .val (.ref o9), .val (.ref b106), .val (.ref b111)] [(.int (0 : Int32)), (.ref b111)]))
  obtain ⟨cq113, kq113, q113a, q113b, q113c⟩ := isOf hZ rfl r11_112
  obtain ⟨_, _, ⟨T113, L113, k113, n113⟩, -, X113, ⟨Lc113, hQ113, l113, y113, z113⟩, st113⟩ := X112.virtualBack hx (y := (⟨"com/example/libentitle/libentitle/role/Rows", "length", "(I)I"⟩ : MethodName)) (z := (⟨"com/example/libentitle/libentitle/role/Rows", "length", "(I)I"⟩ : MethodName)) hown (mvT hZ (hw _ (List.mem_of_getElem? (i := 105) rfl))) (mvT hZ (hw _ (List.mem_of_getElem? (i := 106) rfl))) (notFace_of_selects (args := #[]) (mvT hZ (hw _ (List.mem_of_getElem? (i := 108) rfl)))) (mvT hZ (hw _ (List.mem_of_getElem? (i := 108) rfl))) (mvT hZ (hw _ (List.mem_of_getElem? (i := 107) rfl))) (by decide) (backOf (W := 0) (rm16 l Z a0 hw [] b111 (0 : Int32) bs_112 gs_112 4 T112.heap n0 r12_112 r5_112 (by unfold own_In; decide) (by unfold own_In; decide)) hZ (hw _ (List.mem_of_getElem? (i := 109) rfl)) (hw _ (List.mem_of_getElem? (i := 60) rfl)) (by decide) (by decide)) q113a q113c (g := (mkF m 113 #[.val (.int i0), .val (.int i1), .val (.int i2), .val (.int i3), .val (.int i4), .val (.int i5), .val (.int i6), .val (.ref o7), .val (.ref o8), .val (.ref o9), .val (.ref b106), .val (.ref b111)] [(.int (0 : Int32)), (.ref b111)])) rfl (by rw [hml]; rfl) (Steps.refl _) (argsL := [(.int (0 : Int32))]) (rest := []) (lenOf pdm_10 rfl) rfl (by show 2 * 0 + _ ≤ _; exact Nat.le_of_eq rfl) (hb hby at_113) (fun _ _ => ⟨rfl, rfl, (show cells + 1 + 0 + 1 + 0 + 0 + 1 + 2 + 0 ≤ 24 from (Nat.le_trans (Nat.add_le_add_right hc 5) (by decide))), (show slots + 3 + 0 + 10 + 0 + 0 + 2 + 25 + 0 ≤ 192 from (Nat.le_trans (Nat.add_le_add_right hs 40) (by decide)))⟩)
  dsimp only [Pt.U, Pt.locs, Pt.cells, Pt.slots] at X113 l113 y113 z113 st113 hQ113
  have yy113 : k113 = cells + 1 + 0 + 1 + 0 + 0 + 1 + 2 + 0 := y113
  have zz113 : n113 = slots + 3 + 0 + 10 + 0 + 0 + 2 + 25 + 0 := z113
  rw [yy113, zz113, l113] at X113
  obtain ⟨rfl, N113q, e113⟩ := hQ113
  have N113 := Fr.app N112 N113q
  refine own_step (fun t k => st113.trans k) ?_
  show own_Fin p e below s Q 24 192 (T113.setTop (mkF m 116 #[.val (.int i0), .val (.int i1), .val (.int i2), .val (.int i3), .val (.int i4), .val (.int i5), .val (.int i6), .val (.ref o7), .val (.ref o8), .val (.ref o9), .val (.ref b106), .val (.ref b111)] [(.int (f16_0 (0 : Int32) gs_112 4))]))
  refine own_step (fun t k => XS.iload X113.here hx rfl (hb hby at_116) rfl  k) ?_
  show own_Fin p e below s Q 24 192 (T113.setTop (mkF m 118 #[.val (.int i0), .val (.int i1), .val (.int i2), .val (.int i3), .val (.int i4), .val (.int i5), .val (.int i6), .val (.ref o7), .val (.ref o8), .val (.ref o9), .val (.ref b106), .val (.ref b111)] [(.int i4), (.int (f16_0 (0 : Int32) gs_112 4))]))
  refine own_step (fun t k => XS.icmpNo X113.here hx rfl (hb hby at_118) rfl (teq (own_len _ _ 0 _ i4 (by decide) (by decide) r7_112 r8_112 h4.1 h4.2 _)).2 k) ?_
  show own_Fin p e below s Q 24 192 (T113.setTop (mkF m 121 #[.val (.int i0), .val (.int i1), .val (.int i2), .val (.int i3), .val (.int i4), .val (.int i5), .val (.int i6), .val (.ref o7), .val (.ref o8), .val (.ref o9), .val (.ref b106), .val (.ref b111)] []))
  refine own_step (fun t k => XS.aload X113.here hx rfl (hb hby at_121) rfl rfl k) ?_
  show own_Fin p e below s Q 24 192 (T113.setTop (mkF m 123 #[.val (.int i0), .val (.int i1), .val (.int i2), .val (.int i3), .val (.int i4), .val (.int i5), .val (.int i6), .val (.ref o7), .val (.ref o8), .val (.ref o9), .val (.ref b106), .val (.ref b111)] [(.ref b111)]))
  refine own_step (fun t k => XS.iconst X113.here hx rfl (hb hby at_123) k) ?_
  show own_Fin p e below s Q 24 192 (T113.setTop (mkF m 124 #[.val (.int i0), .val (.int i1), .val (.int i2), .val (.int i3), .val (.int i4), .val (.int i5), .val (.int i6), .val (.ref o7), .val (.ref o8), .val (.ref o9), .val (.ref b106), .val (.ref b111)] [(.int (1 : Int32)), (.ref b111)]))
  obtain ⟨cq114, kq114, q114a, q114b, q114c⟩ := isOf hZ e113 r11_112
  obtain ⟨_, _, ⟨T114, L114, k114, n114⟩, -, X114, ⟨Lc114, hQ114, l114, y114, z114⟩, st114⟩ := X113.virtualBack hx (y := (⟨"com/example/libentitle/libentitle/role/Rows", "length", "(I)I"⟩ : MethodName)) (z := (⟨"com/example/libentitle/libentitle/role/Rows", "length", "(I)I"⟩ : MethodName)) hown (mvT hZ (hw _ (List.mem_of_getElem? (i := 105) rfl))) (mvT hZ (hw _ (List.mem_of_getElem? (i := 106) rfl))) (notFace_of_selects (args := #[]) (mvT hZ (hw _ (List.mem_of_getElem? (i := 108) rfl)))) (mvT hZ (hw _ (List.mem_of_getElem? (i := 108) rfl))) (mvT hZ (hw _ (List.mem_of_getElem? (i := 107) rfl))) (by decide) (backOf (W := 0) (rm16 l Z a0 hw [] b111 (1 : Int32) bs_112 gs_112 4 T112.heap n0 r12_112 r5_112 (by unfold own_In; decide) (by unfold own_In; decide)) hZ (hw _ (List.mem_of_getElem? (i := 109) rfl)) (hw _ (List.mem_of_getElem? (i := 60) rfl)) (by decide) (by decide)) q114a q114c (g := (mkF m 124 #[.val (.int i0), .val (.int i1), .val (.int i2), .val (.int i3), .val (.int i4), .val (.int i5), .val (.int i6), .val (.ref o7), .val (.ref o8), .val (.ref o9), .val (.ref b106), .val (.ref b111)] [(.int (1 : Int32)), (.ref b111)])) rfl (by rw [hml]; rfl) (Steps.refl _) (argsL := [(.int (1 : Int32))]) (rest := []) (lenOf pdm_10 rfl) rfl (by show 2 * 0 + _ ≤ _; exact Nat.le_of_eq rfl) (hb hby at_124) (fun _ _ => ⟨rfl, e113, (show cells + 1 + 0 + 1 + 0 + 0 + 1 + 2 + 0 + 0 ≤ 24 from (Nat.le_trans (Nat.add_le_add_right hc 5) (by decide))), (show slots + 3 + 0 + 10 + 0 + 0 + 2 + 25 + 0 + 0 ≤ 192 from (Nat.le_trans (Nat.add_le_add_right hs 40) (by decide)))⟩)
  dsimp only [Pt.U, Pt.locs, Pt.cells, Pt.slots] at X114 l114 y114 z114 st114 hQ114
  have yy114 : k114 = cells + 1 + 0 + 1 + 0 + 0 + 1 + 2 + 0 + 0 := y114
  have zz114 : n114 = slots + 3 + 0 + 10 + 0 + 0 + 2 + 25 + 0 + 0 := z114
  rw [yy114, zz114, l114] at X114
  obtain ⟨rfl, N114q, e114⟩ := hQ114
  have N114 := Fr.app N113 N114q
  refine own_step (fun t k => st114.trans k) ?_
  show own_Fin p e below s Q 24 192 (T114.setTop (mkF m 127 #[.val (.int i0), .val (.int i1), .val (.int i2), .val (.int i3), .val (.int i4), .val (.int i5), .val (.int i6), .val (.ref o7), .val (.ref o8), .val (.ref o9), .val (.ref b106), .val (.ref b111)] [(.int (f16_0 (1 : Int32) gs_112 4))]))
  refine own_step (fun t k => XS.iload X114.here hx rfl (hb hby at_127) rfl  k) ?_
  show own_Fin p e below s Q 24 192 (T114.setTop (mkF m 129 #[.val (.int i0), .val (.int i1), .val (.int i2), .val (.int i3), .val (.int i4), .val (.int i5), .val (.int i6), .val (.ref o7), .val (.ref o8), .val (.ref o9), .val (.ref b106), .val (.ref b111)] [(.int i5), (.int (f16_0 (1 : Int32) gs_112 4))]))
  refine own_step (fun t k => XS.icmpNo X114.here hx rfl (hb hby at_129) rfl (teq (own_len _ _ 1 _ i5 (by decide) (by decide) r8_112 r9_112 h5.1 h5.2 _)).2 k) ?_
  show own_Fin p e below s Q 24 192 (T114.setTop (mkF m 132 #[.val (.int i0), .val (.int i1), .val (.int i2), .val (.int i3), .val (.int i4), .val (.int i5), .val (.int i6), .val (.ref o7), .val (.ref o8), .val (.ref o9), .val (.ref b106), .val (.ref b111)] []))
  refine own_step (fun t k => XS.aload X114.here hx rfl (hb hby at_132) rfl rfl k) ?_
  show own_Fin p e below s Q 24 192 (T114.setTop (mkF m 134 #[.val (.int i0), .val (.int i1), .val (.int i2), .val (.int i3), .val (.int i4), .val (.int i5), .val (.int i6), .val (.ref o7), .val (.ref o8), .val (.ref o9), .val (.ref b106), .val (.ref b111)] [(.ref b111)]))
  refine own_step (fun t k => XS.iconst X114.here hx rfl (hb hby at_134) k) ?_
  show own_Fin p e below s Q 24 192 (T114.setTop (mkF m 135 #[.val (.int i0), .val (.int i1), .val (.int i2), .val (.int i3), .val (.int i4), .val (.int i5), .val (.int i6), .val (.ref o7), .val (.ref o8), .val (.ref o9), .val (.ref b106), .val (.ref b111)] [(.int (2 : Int32)), (.ref b111)]))
  obtain ⟨cq115, kq115, q115a, q115b, q115c⟩ := isOf hZ e114 r11_112
  obtain ⟨_, _, ⟨T115, L115, k115, n115⟩, -, X115, ⟨Lc115, hQ115, l115, y115, z115⟩, st115⟩ := X114.virtualBack hx (y := (⟨"com/example/libentitle/libentitle/role/Rows", "length", "(I)I"⟩ : MethodName)) (z := (⟨"com/example/libentitle/libentitle/role/Rows", "length", "(I)I"⟩ : MethodName)) hown (mvT hZ (hw _ (List.mem_of_getElem? (i := 105) rfl))) (mvT hZ (hw _ (List.mem_of_getElem? (i := 106) rfl))) (notFace_of_selects (args := #[]) (mvT hZ (hw _ (List.mem_of_getElem? (i := 108) rfl)))) (mvT hZ (hw _ (List.mem_of_getElem? (i := 108) rfl))) (mvT hZ (hw _ (List.mem_of_getElem? (i := 107) rfl))) (by decide) (backOf (W := 0) (rm16 l Z a0 hw [] b111 (2 : Int32) bs_112 gs_112 4 T112.heap n0 r12_112 r5_112 (by unfold own_In; decide) (by unfold own_In; decide)) hZ (hw _ (List.mem_of_getElem? (i := 109) rfl)) (hw _ (List.mem_of_getElem? (i := 60) rfl)) (by decide) (by decide)) q115a q115c (g := (mkF m 135 #[.val (.int i0), .val (.int i1), .val (.int i2), .val (.int i3), .val (.int i4), .val (.int i5), .val (.int i6), .val (.ref o7), .val (.ref o8), .val (.ref o9), .val (.ref b106), .val (.ref b111)] [(.int (2 : Int32)), (.ref b111)])) rfl (by rw [hml]; rfl) (Steps.refl _) (argsL := [(.int (2 : Int32))]) (rest := []) (lenOf pdm_10 rfl) rfl (by show 2 * 0 + _ ≤ _; exact Nat.le_of_eq rfl) (hb hby at_135) (fun _ _ => ⟨rfl, e114, (show cells + 1 + 0 + 1 + 0 + 0 + 1 + 2 + 0 + 0 + 0 ≤ 24 from (Nat.le_trans (Nat.add_le_add_right hc 5) (by decide))), (show slots + 3 + 0 + 10 + 0 + 0 + 2 + 25 + 0 + 0 + 0 ≤ 192 from (Nat.le_trans (Nat.add_le_add_right hs 40) (by decide)))⟩)
  dsimp only [Pt.U, Pt.locs, Pt.cells, Pt.slots] at X115 l115 y115 z115 st115 hQ115
  have yy115 : k115 = cells + 1 + 0 + 1 + 0 + 0 + 1 + 2 + 0 + 0 + 0 := y115
  have zz115 : n115 = slots + 3 + 0 + 10 + 0 + 0 + 2 + 25 + 0 + 0 + 0 := z115
  rw [yy115, zz115, l115] at X115
  obtain ⟨rfl, N115q, e115⟩ := hQ115
  have N115 := Fr.app N114 N115q
  refine own_step (fun t k => st115.trans k) ?_
  show own_Fin p e below s Q 24 192 (T115.setTop (mkF m 138 #[.val (.int i0), .val (.int i1), .val (.int i2), .val (.int i3), .val (.int i4), .val (.int i5), .val (.int i6), .val (.ref o7), .val (.ref o8), .val (.ref o9), .val (.ref b106), .val (.ref b111)] [(.int (f16_0 (2 : Int32) gs_112 4))]))
  refine own_step (fun t k => XS.iload X115.here hx rfl (hb hby at_138) rfl  k) ?_
  show own_Fin p e below s Q 24 192 (T115.setTop (mkF m 140 #[.val (.int i0), .val (.int i1), .val (.int i2), .val (.int i3), .val (.int i4), .val (.int i5), .val (.int i6), .val (.ref o7), .val (.ref o8), .val (.ref o9), .val (.ref b106), .val (.ref b111)] [(.int i6), (.int (f16_0 (2 : Int32) gs_112 4))]))
  refine own_step (fun t k => XS.icmpNo X115.here hx rfl (hb hby at_140) rfl (teq (own_len _ _ 2 _ i6 (by decide) (by decide) r9_112 r10_112 h6.1 h6.2 _)).2 k) ?_
  show own_Fin p e below s Q 24 192 (T115.setTop (mkF m 143 #[.val (.int i0), .val (.int i1), .val (.int i2), .val (.int i3), .val (.int i4), .val (.int i5), .val (.int i6), .val (.ref o7), .val (.ref o8), .val (.ref o9), .val (.ref b106), .val (.ref b111)] []))
  refine own_step (fun t k => XS.iconst X115.here hx rfl (hb hby at_143) k) ?_
  show own_Fin p e below s Q 24 192 (T115.setTop (mkF m 144 #[.val (.int i0), .val (.int i1), .val (.int i2), .val (.int i3), .val (.int i4), .val (.int i5), .val (.int i6), .val (.ref o7), .val (.ref o8), .val (.ref o9), .val (.ref b106), .val (.ref b111)] [(.int (1 : Int32))]))
  refine own_step (fun t k => XS.goto X115.here hx rfl (pc0 := 144) (pc' := 148) rfl (hb hby at_144) (by decide) (by decide) k) ?_
  show own_Fin p e below s Q 24 192 (T115.setTop (mkF m 148 #[.val (.int i0), .val (.int i1), .val (.int i2), .val (.int i3), .val (.int i4), .val (.int i5), .val (.int i6), .val (.ref o7), .val (.ref o8), .val (.ref o9), .val (.ref b106), .val (.ref b111)] [(.int (1 : Int32))]))
  exact own_retN X115 hx hlk hret (by simp) (hb hby at_148) (Nat.le_trans (Nat.add_le_add_right hc 5) (by decide)) (Nat.le_trans (Nat.add_le_add_right hs 40) (by decide)) rfl N115 (fun L' n' => hQ _ L' n') (rfl)
set_option maxRecDepth 65536 in
set_option maxHeartbeats 40000000 in
theorem b0_56 {p : Program} {l : Launch} {e : Env} {s : State} {m : MethodId} {args : Array Value} {below : List Frame} {meth : Method} {c : Code} {T : State} {locs : List Loc} {cells slots : Nat} {Z : State} {a0 : Array Value} {h : Heap} {n0 : Nat} {Q : Option Value → Heap → List Loc → Prop} (i0 : Int32) (i1 : Int32) (i2 : Int32) (i3 : Int32) (i4 : Int32) (i5 : Int32) (i6 : Int32) (o7 : Addr) (g7 : Nat → Int32) (z7 : Nat) (o8 : Addr) (g8 : Nat → Int32) (z8 : Nat) (o9 : Addr) (g9 : Nat → Int32) (z9 : Nat) (hw : ∀ d ∈ tables_1, d.before a0 Z = true) (X : Stand p l e room_1 s m args below meth c T locs cells slots) (hx : p.tables.exec = Jvm.exec) (hZ : Z.Warmed39 s.vm) (hby : c.code = code) (hml : c.maxLocals = 12) (hown : s.vm.findClass "com/example/libentitle/libentitle/role/RowsLengthPinLaw" = some m.cls) (hret : meth.sig.returnType = some .boolean) (hlk : meth.locks = false) (eT : T.heap = h) (N : Fr n0 locs) (hc : cells ≤ 3) (hs : slots ≤ 21) (A7 : own_AF Z h o7 .int z7 g7) (fr7 : n0 ≤ o7) (A8 : own_AF Z h o8 .int z8 g8) (fr8 : n0 ≤ o8) (A9 : own_AF Z h o9 .int z9 g9) (fr9 : n0 ≤ o9) (D : Addr) (S0 : Sta Z Z.heap "java/util/ArrayList" "DEFAULTCAPACITY_EMPTY_ELEMENTDATA" "[Ljava/lang/Object;" (.ref D)) (DA : own_D Z D) (h4 : ¬ i4 < (0 : Int32) ∧ i4.toNatClampNeg ≤ 7) (h5 : ¬ i5 < (0 : Int32) ∧ i5.toNatClampNeg ≤ 7) (h6 : ¬ i6 < (0 : Int32) ∧ i6.toNatClampNeg ≤ 7) (hO : Old Z n0 h) (X7 : Exa Z h o7 "[I") (X8 : Exa Z h o8 "[I") (X9 : Exa Z h o9 "[I") (ne78 : o7 ≠ o8) (ne79 : o7 ≠ o9) (ne89 : o8 ≠ o9) (hl7 : z7 = i4.toNatClampNeg) (hl8 : z8 = i5.toNatClampNeg) (hl9 : z9 = i6.toNatClampNeg) (Z0 : n0 ≤ h.size) (hQ : ∀ H' L', Fr n0 L' → Q (some (.int 1)) H' L') :
    own_Fin p e below s Q 24 192 (T.setTop (mkF m 56 #[.val (.int i0), .val (.int i1), .val (.int i2), .val (.int i3), .val (.int i4), .val (.int i5), .val (.int i6), .val (.ref o7), .val (.ref o8), .val (.ref o9), .unset, .unset] [])) := by
  subst hl7
  subst hl8
  subst hl9
  refine own_step (fun t k => XS.iload X.here hx rfl (hb hby at_56) rfl  k) ?_
  show own_Fin p e below s Q 24 192 (T.setTop (mkF m 58 #[.val (.int i0), .val (.int i1), .val (.int i2), .val (.int i3), .val (.int i4), .val (.int i5), .val (.int i6), .val (.ref o7), .val (.ref o8), .val (.ref o9), .unset, .unset] [(.int i6)]))
  by_cases hB58_104 : (0 : Int32) < i6
  · refine own_step (fun t k => XS.ifNo X.here hx rfl (hb hby at_58) rfl ((if0 _ _).trans (tlt hB58_104).2.2.2) k) ?_
    show own_Fin p e below s Q 24 192 (T.setTop (mkF m 61 #[.val (.int i0), .val (.int i1), .val (.int i2), .val (.int i3), .val (.int i4), .val (.int i5), .val (.int i6), .val (.ref o7), .val (.ref o8), .val (.ref o9), .unset, .unset] []))
    refine own_step (fun t k => XS.aload X.here hx rfl (hb hby at_61) rfl rfl k) ?_
    show own_Fin p e below s Q 24 192 (T.setTop (mkF m 63 #[.val (.int i0), .val (.int i1), .val (.int i2), .val (.int i3), .val (.int i4), .val (.int i5), .val (.int i6), .val (.ref o7), .val (.ref o8), .val (.ref o9), .unset, .unset] [(.ref o9)]))
    refine own_step (fun t k => XS.iconst X.here hx rfl (hb hby at_63) k) ?_
    show own_Fin p e below s Q 24 192 (T.setTop (mkF m 64 #[.val (.int i0), .val (.int i1), .val (.int i2), .val (.int i3), .val (.int i4), .val (.int i5), .val (.int i6), .val (.ref o7), .val (.ref o8), .val (.ref o9), .unset, .unset] [(.int (0 : Int32)), (.ref o9)]))
    refine own_step (fun t k => XS.iloadN X.here hx rfl (hb hby at_64) rfl  k) ?_
    show own_Fin p e below s Q 24 192 (T.setTop (mkF m 65 #[.val (.int i0), .val (.int i1), .val (.int i2), .val (.int i3), .val (.int i4), .val (.int i5), .val (.int i6), .val (.ref o7), .val (.ref o8), .val (.ref o9), .unset, .unset] [(.int i3), (.int (0 : Int32)), (.ref o9)]))
    obtain ⟨ca105, Ar105, Sz105, Ht105⟩ := id A9
    have hin105 : ¬ ((0 : Int32) < 0 ∨ ca105.slots.size ≤ ((0 : Int32)).toNatClampNeg) := by rw [Sz105]; exact own_p0 h6 hB58_104
    obtain ⟨T105, h105, X105, e105, W105, st105⟩ := stI X hx hZ eT Ar105 (j := (0 : Int32)) hin105 (g := (mkF m 65 #[.val (.int i0), .val (.int i1), .val (.int i2), .val (.int i3), .val (.int i4), .val (.int i5), .val (.int i6), .val (.ref o7), .val (.ref o8), .val (.ref o9), .unset, .unset] [(.int i3), (.int (0 : Int32)), (.ref o9)])) rfl rfl (hb hby at_65)
    have V105 : own_AF Z h105 o9 .int i6.toNatClampNeg (fun i => if i = 0 then i3 else g9 i) := own_AFset Ar105 Sz105 Ht105 W105
    obtain ⟨gf105, hgf105⟩ : ∃ g' : Nat → Int32, g' = (fun i => if i = 0 then i3 else g9 i) := ⟨_, rfl⟩
    rw [← hgf105] at V105
    have N105 := Fr.snoc X105 N fr9
    have Z0105 : n0 ≤ h105.size := Nat.le_trans Z0 (Nat.le_of_eq W105.size.symm)
    have V105_o7 := own_AFoth A7 W105 ne79
    have V105_o8 := own_AFoth A8 W105 ne89
    have Xa105_o7 := X7.wr W105
    have Xa105_o8 := X8.wr W105
    have Xa105_o9 := X9.wr W105
    have O105 := hO.wr W105 fr9
    refine own_step st105 ?_
    exact b0_66 i0 i1 i2 i3 i4 i5 i6 o7 g7 i4.toNatClampNeg o8 g8 i5.toNatClampNeg o9 gf105 i6.toNatClampNeg hw X105 hx hZ hby hml hown hret hlk e105 N105 (Nat.le_trans (Nat.add_le_add_right hc 0) (by decide)) (Nat.le_trans (Nat.add_le_add_right hs 0) (by decide)) V105_o7 fr7 V105_o8 fr8 V105 fr9 D S0 DA (h4) (h5) (h6) (O105) (Xa105_o7) (Xa105_o8) (Xa105_o9) (ne78) (ne79) (ne89) (rfl) (rfl) (rfl) Z0105 hQ
  · refine own_step (fun t k => XS.ifYes X.here hx rfl (pc0 := 58) (pc' := 66) rfl (hb hby at_58) rfl ((if0 _ _).trans (flt hB58_104).2.2.2) (by decide) (by decide) k) ?_
    exact b0_66 i0 i1 i2 i3 i4 i5 i6 o7 g7 i4.toNatClampNeg o8 g8 i5.toNatClampNeg o9 g9 i6.toNatClampNeg hw X hx hZ hby hml hown hret hlk eT N (Nat.le_trans (Nat.add_le_add_right hc 0) (by decide)) (Nat.le_trans (Nat.add_le_add_right hs 0) (by decide)) A7 fr7 A8 fr8 A9 fr9 D S0 DA (h4) (h5) (h6) (hO) (X7) (X8) (X9) (ne78) (ne79) (ne89) (rfl) (rfl) (rfl) Z0 hQ
set_option maxRecDepth 65536 in
set_option maxHeartbeats 40000000 in
theorem b0_46 {p : Program} {l : Launch} {e : Env} {s : State} {m : MethodId} {args : Array Value} {below : List Frame} {meth : Method} {c : Code} {T : State} {locs : List Loc} {cells slots : Nat} {Z : State} {a0 : Array Value} {h : Heap} {n0 : Nat} {Q : Option Value → Heap → List Loc → Prop} (i0 : Int32) (i1 : Int32) (i2 : Int32) (i3 : Int32) (i4 : Int32) (i5 : Int32) (i6 : Int32) (o7 : Addr) (g7 : Nat → Int32) (z7 : Nat) (o8 : Addr) (g8 : Nat → Int32) (z8 : Nat) (o9 : Addr) (g9 : Nat → Int32) (z9 : Nat) (hw : ∀ d ∈ tables_1, d.before a0 Z = true) (X : Stand p l e room_1 s m args below meth c T locs cells slots) (hx : p.tables.exec = Jvm.exec) (hZ : Z.Warmed39 s.vm) (hby : c.code = code) (hml : c.maxLocals = 12) (hown : s.vm.findClass "com/example/libentitle/libentitle/role/RowsLengthPinLaw" = some m.cls) (hret : meth.sig.returnType = some .boolean) (hlk : meth.locks = false) (eT : T.heap = h) (N : Fr n0 locs) (hc : cells ≤ 3) (hs : slots ≤ 21) (A7 : own_AF Z h o7 .int z7 g7) (fr7 : n0 ≤ o7) (A8 : own_AF Z h o8 .int z8 g8) (fr8 : n0 ≤ o8) (A9 : own_AF Z h o9 .int z9 g9) (fr9 : n0 ≤ o9) (D : Addr) (S0 : Sta Z Z.heap "java/util/ArrayList" "DEFAULTCAPACITY_EMPTY_ELEMENTDATA" "[Ljava/lang/Object;" (.ref D)) (DA : own_D Z D) (h4 : ¬ i4 < (0 : Int32) ∧ i4.toNatClampNeg ≤ 7) (h5 : ¬ i5 < (0 : Int32) ∧ i5.toNatClampNeg ≤ 7) (h6 : ¬ i6 < (0 : Int32) ∧ i6.toNatClampNeg ≤ 7) (hO : Old Z n0 h) (X7 : Exa Z h o7 "[I") (X8 : Exa Z h o8 "[I") (X9 : Exa Z h o9 "[I") (ne78 : o7 ≠ o8) (ne79 : o7 ≠ o9) (ne89 : o8 ≠ o9) (hl7 : z7 = i4.toNatClampNeg) (hl8 : z8 = i5.toNatClampNeg) (hl9 : z9 = i6.toNatClampNeg) (Z0 : n0 ≤ h.size) (hQ : ∀ H' L', Fr n0 L' → Q (some (.int 1)) H' L') :
    own_Fin p e below s Q 24 192 (T.setTop (mkF m 46 #[.val (.int i0), .val (.int i1), .val (.int i2), .val (.int i3), .val (.int i4), .val (.int i5), .val (.int i6), .val (.ref o7), .val (.ref o8), .val (.ref o9), .unset, .unset] [])) := by
  subst hl7
  subst hl8
  subst hl9
  refine own_step (fun t k => XS.iload X.here hx rfl (hb hby at_46) rfl  k) ?_
  show own_Fin p e below s Q 24 192 (T.setTop (mkF m 48 #[.val (.int i0), .val (.int i1), .val (.int i2), .val (.int i3), .val (.int i4), .val (.int i5), .val (.int i6), .val (.ref o7), .val (.ref o8), .val (.ref o9), .unset, .unset] [(.int i5)]))
  by_cases hB48_102 : (0 : Int32) < i5
  · refine own_step (fun t k => XS.ifNo X.here hx rfl (hb hby at_48) rfl ((if0 _ _).trans (tlt hB48_102).2.2.2) k) ?_
    show own_Fin p e below s Q 24 192 (T.setTop (mkF m 51 #[.val (.int i0), .val (.int i1), .val (.int i2), .val (.int i3), .val (.int i4), .val (.int i5), .val (.int i6), .val (.ref o7), .val (.ref o8), .val (.ref o9), .unset, .unset] []))
    refine own_step (fun t k => XS.aload X.here hx rfl (hb hby at_51) rfl rfl k) ?_
    show own_Fin p e below s Q 24 192 (T.setTop (mkF m 53 #[.val (.int i0), .val (.int i1), .val (.int i2), .val (.int i3), .val (.int i4), .val (.int i5), .val (.int i6), .val (.ref o7), .val (.ref o8), .val (.ref o9), .unset, .unset] [(.ref o8)]))
    refine own_step (fun t k => XS.iconst X.here hx rfl (hb hby at_53) k) ?_
    show own_Fin p e below s Q 24 192 (T.setTop (mkF m 54 #[.val (.int i0), .val (.int i1), .val (.int i2), .val (.int i3), .val (.int i4), .val (.int i5), .val (.int i6), .val (.ref o7), .val (.ref o8), .val (.ref o9), .unset, .unset] [(.int (0 : Int32)), (.ref o8)]))
    refine own_step (fun t k => XS.iloadN X.here hx rfl (hb hby at_54) rfl  k) ?_
    show own_Fin p e below s Q 24 192 (T.setTop (mkF m 55 #[.val (.int i0), .val (.int i1), .val (.int i2), .val (.int i3), .val (.int i4), .val (.int i5), .val (.int i6), .val (.ref o7), .val (.ref o8), .val (.ref o9), .unset, .unset] [(.int i3), (.int (0 : Int32)), (.ref o8)]))
    obtain ⟨ca103, Ar103, Sz103, Ht103⟩ := id A8
    have hin103 : ¬ ((0 : Int32) < 0 ∨ ca103.slots.size ≤ ((0 : Int32)).toNatClampNeg) := by rw [Sz103]; exact own_p0 h5 hB48_102
    obtain ⟨T103, h103, X103, e103, W103, st103⟩ := stI X hx hZ eT Ar103 (j := (0 : Int32)) hin103 (g := (mkF m 55 #[.val (.int i0), .val (.int i1), .val (.int i2), .val (.int i3), .val (.int i4), .val (.int i5), .val (.int i6), .val (.ref o7), .val (.ref o8), .val (.ref o9), .unset, .unset] [(.int i3), (.int (0 : Int32)), (.ref o8)])) rfl rfl (hb hby at_55)
    have V103 : own_AF Z h103 o8 .int i5.toNatClampNeg (fun i => if i = 0 then i3 else g8 i) := own_AFset Ar103 Sz103 Ht103 W103
    obtain ⟨gf103, hgf103⟩ : ∃ g' : Nat → Int32, g' = (fun i => if i = 0 then i3 else g8 i) := ⟨_, rfl⟩
    rw [← hgf103] at V103
    have N103 := Fr.snoc X103 N fr8
    have Z0103 : n0 ≤ h103.size := Nat.le_trans Z0 (Nat.le_of_eq W103.size.symm)
    have V103_o7 := own_AFoth A7 W103 ne78
    have V103_o9 := own_AFoth A9 W103 (Ne.symm ne89)
    have Xa103_o7 := X7.wr W103
    have Xa103_o8 := X8.wr W103
    have Xa103_o9 := X9.wr W103
    have O103 := hO.wr W103 fr8
    refine own_step st103 ?_
    exact b0_56 i0 i1 i2 i3 i4 i5 i6 o7 g7 i4.toNatClampNeg o8 gf103 i5.toNatClampNeg o9 g9 i6.toNatClampNeg hw X103 hx hZ hby hml hown hret hlk e103 N103 (Nat.le_trans (Nat.add_le_add_right hc 0) (by decide)) (Nat.le_trans (Nat.add_le_add_right hs 0) (by decide)) V103_o7 fr7 V103 fr8 V103_o9 fr9 D S0 DA (h4) (h5) (h6) (O103) (Xa103_o7) (Xa103_o8) (Xa103_o9) (ne78) (ne79) (ne89) (rfl) (rfl) (rfl) Z0103 hQ
  · refine own_step (fun t k => XS.ifYes X.here hx rfl (pc0 := 48) (pc' := 56) rfl (hb hby at_48) rfl ((if0 _ _).trans (flt hB48_102).2.2.2) (by decide) (by decide) k) ?_
    exact b0_56 i0 i1 i2 i3 i4 i5 i6 o7 g7 i4.toNatClampNeg o8 g8 i5.toNatClampNeg o9 g9 i6.toNatClampNeg hw X hx hZ hby hml hown hret hlk eT N (Nat.le_trans (Nat.add_le_add_right hc 0) (by decide)) (Nat.le_trans (Nat.add_le_add_right hs 0) (by decide)) A7 fr7 A8 fr8 A9 fr9 D S0 DA (h4) (h5) (h6) (hO) (X7) (X8) (X9) (ne78) (ne79) (ne89) (rfl) (rfl) (rfl) Z0 hQ
set_option maxRecDepth 65536 in
set_option maxHeartbeats 40000000 in
theorem b0_18 {p : Program} {l : Launch} {e : Env} {s : State} {m : MethodId} {args : Array Value} {below : List Frame} {meth : Method} {c : Code} {T : State} {locs : List Loc} {cells slots : Nat} {Z : State} {a0 : Array Value} {h : Heap} {n0 : Nat} {Q : Option Value → Heap → List Loc → Prop} (i0 : Int32) (i1 : Int32) (i2 : Int32) (i3 : Int32) (i4 : Int32) (i5 : Int32) (i6 : Int32) (hw : ∀ d ∈ tables_1, d.before a0 Z = true) (X : Stand p l e room_1 s m args below meth c T locs cells slots) (hx : p.tables.exec = Jvm.exec) (hZ : Z.Warmed39 s.vm) (hby : c.code = code) (hml : c.maxLocals = 12) (hown : s.vm.findClass "com/example/libentitle/libentitle/role/RowsLengthPinLaw" = some m.cls) (hret : meth.sig.returnType = some .boolean) (hlk : meth.locks = false) (eT : T.heap = h) (N : Fr n0 locs) (hc : cells ≤ 0) (hs : slots ≤ 0) (D : Addr) (S0 : Sta Z Z.heap "java/util/ArrayList" "DEFAULTCAPACITY_EMPTY_ELEMENTDATA" "[Ljava/lang/Object;" (.ref D)) (DA : own_D Z D) (h4 : ¬ i4 < (0 : Int32) ∧ i4.toNatClampNeg ≤ 7) (h5 : ¬ i5 < (0 : Int32) ∧ i5.toNatClampNeg ≤ 7) (h6 : ¬ i6 < (0 : Int32) ∧ i6.toNatClampNeg ≤ 7) (hO : Old Z n0 h) (Z0 : n0 ≤ h.size) (hQ : ∀ H' L', Fr n0 L' → Q (some (.int 1)) H' L') :
    own_Fin p e below s Q 24 192 (T.setTop (mkF m 18 #[.val (.int i0), .val (.int i1), .val (.int i2), .val (.int i3), .val (.int i4), .val (.int i5), .val (.int i6), .unset, .unset, .unset, .unset, .unset] [])) := by
  refine own_step (fun t k => XS.iload X.here hx rfl (hb hby at_18) rfl  k) ?_
  show own_Fin p e below s Q 24 192 (T.setTop (mkF m 20 #[.val (.int i0), .val (.int i1), .val (.int i2), .val (.int i3), .val (.int i4), .val (.int i5), .val (.int i6), .unset, .unset, .unset, .unset, .unset] [(.int i4)]))
  obtain ⟨T97, h97, k97, X97, e97, E97, AA97, XX97, st97⟩ := newPE X hx hZ (hw _ (List.mem_of_getElem? (i := 0) rfl)) eT (g := (mkF m 20 #[.val (.int i0), .val (.int i1), .val (.int i2), .val (.int i3), .val (.int i4), .val (.int i5), .val (.int i6), .unset, .unset, .unset, .unset, .unset] [(.int i4)])) rfl (hb hby at_20) rfl h4.1 (cap := 7) h4.2 (by decide) (show cells + 1 ≤ 24 from (Nat.le_trans (Nat.add_le_add_right hc 1) (by decide))) (show slots + 7 ≤ 192 from (Nat.le_trans (Nat.add_le_add_right hs 7) (by decide))) (ad := "[I") (by decide)
  obtain ⟨b97, gg97⟩ : ∃ z, z = h.size := ⟨_, rfl⟩
  rw [← gg97] at AA97 XX97 st97
  have V97 : own_AF Z h97 b97 .int (i4).toNatClampNeg (fun _ => 0) := own_AFnew AA97 rfl
  have fr97 : n0 ≤ b97 := Nat.le_trans Z0 (Nat.le_of_eq gg97.symm)
  have Z097 : n0 ≤ h97.size := Nat.le_trans Z0 E97.1
  have O97 := hO.ext E97
  refine own_step st97 ?_
  show own_Fin p e below s Q 24 192 (T97.setTop (mkF m 22 #[.val (.int i0), .val (.int i1), .val (.int i2), .val (.int i3), .val (.int i4), .val (.int i5), .val (.int i6), .unset, .unset, .unset, .unset, .unset] [(.ref b97)]))
  refine own_step (fun t k => XS.astore X97.here hx rfl (hb hby at_22) rfl rfl (l' := #[.val (.int i0), .val (.int i1), .val (.int i2), .val (.int i3), .val (.int i4), .val (.int i5), .val (.int i6), .val (.ref b97), .unset, .unset, .unset, .unset]) rfl k) ?_
  show own_Fin p e below s Q 24 192 (T97.setTop (mkF m 24 #[.val (.int i0), .val (.int i1), .val (.int i2), .val (.int i3), .val (.int i4), .val (.int i5), .val (.int i6), .val (.ref b97), .unset, .unset, .unset, .unset] []))
  refine own_step (fun t k => XS.iload X97.here hx rfl (hb hby at_24) rfl  k) ?_
  show own_Fin p e below s Q 24 192 (T97.setTop (mkF m 26 #[.val (.int i0), .val (.int i1), .val (.int i2), .val (.int i3), .val (.int i4), .val (.int i5), .val (.int i6), .val (.ref b97), .unset, .unset, .unset, .unset] [(.int i5)]))
  obtain ⟨T98, h98, k98, X98, e98, E98, AA98, XX98, st98⟩ := newPE X97 hx hZ (hw _ (List.mem_of_getElem? (i := 0) rfl)) e97 (g := (mkF m 26 #[.val (.int i0), .val (.int i1), .val (.int i2), .val (.int i3), .val (.int i4), .val (.int i5), .val (.int i6), .val (.ref b97), .unset, .unset, .unset, .unset] [(.int i5)])) rfl (hb hby at_26) rfl h5.1 (cap := 7) h5.2 (by decide) (show cells + 1 + 1 ≤ 24 from (Nat.le_trans (Nat.add_le_add_right hc 2) (by decide))) (show slots + 7 + 7 ≤ 192 from (Nat.le_trans (Nat.add_le_add_right hs 14) (by decide))) (ad := "[I") (by decide)
  obtain ⟨b98, gg98⟩ : ∃ z, z = h97.size := ⟨_, rfl⟩
  rw [← gg98] at AA98 XX98 st98
  have V98 : own_AF Z h98 b98 .int (i5).toNatClampNeg (fun _ => 0) := own_AFnew AA98 rfl
  have fr98 : n0 ≤ b98 := Nat.le_trans Z097 (Nat.le_of_eq gg98.symm)
  have Z098 : n0 ≤ h98.size := Nat.le_trans Z097 E98.1
  have neb97_98 : b97 ≠ b98 := Nat.ne_of_lt (Nat.lt_of_lt_of_le V97.lt (Nat.le_of_eq gg98.symm))
  have V98_b97 := own_AFext V97 E98
  have Xa98_b97 := XX97.ext E98
  have O98 := O97.ext E98
  refine own_step st98 ?_
  show own_Fin p e below s Q 24 192 (T98.setTop (mkF m 28 #[.val (.int i0), .val (.int i1), .val (.int i2), .val (.int i3), .val (.int i4), .val (.int i5), .val (.int i6), .val (.ref b97), .unset, .unset, .unset, .unset] [(.ref b98)]))
  refine own_step (fun t k => XS.astore X98.here hx rfl (hb hby at_28) rfl rfl (l' := #[.val (.int i0), .val (.int i1), .val (.int i2), .val (.int i3), .val (.int i4), .val (.int i5), .val (.int i6), .val (.ref b97), .val (.ref b98), .unset, .unset, .unset]) rfl k) ?_
  show own_Fin p e below s Q 24 192 (T98.setTop (mkF m 30 #[.val (.int i0), .val (.int i1), .val (.int i2), .val (.int i3), .val (.int i4), .val (.int i5), .val (.int i6), .val (.ref b97), .val (.ref b98), .unset, .unset, .unset] []))
  refine own_step (fun t k => XS.iload X98.here hx rfl (hb hby at_30) rfl  k) ?_
  show own_Fin p e below s Q 24 192 (T98.setTop (mkF m 32 #[.val (.int i0), .val (.int i1), .val (.int i2), .val (.int i3), .val (.int i4), .val (.int i5), .val (.int i6), .val (.ref b97), .val (.ref b98), .unset, .unset, .unset] [(.int i6)]))
  obtain ⟨T99, h99, k99, X99, e99, E99, AA99, XX99, st99⟩ := newPE X98 hx hZ (hw _ (List.mem_of_getElem? (i := 0) rfl)) e98 (g := (mkF m 32 #[.val (.int i0), .val (.int i1), .val (.int i2), .val (.int i3), .val (.int i4), .val (.int i5), .val (.int i6), .val (.ref b97), .val (.ref b98), .unset, .unset, .unset] [(.int i6)])) rfl (hb hby at_32) rfl h6.1 (cap := 7) h6.2 (by decide) (show cells + 1 + 1 + 1 ≤ 24 from (Nat.le_trans (Nat.add_le_add_right hc 3) (by decide))) (show slots + 7 + 7 + 7 ≤ 192 from (Nat.le_trans (Nat.add_le_add_right hs 21) (by decide))) (ad := "[I") (by decide)
  obtain ⟨b99, gg99⟩ : ∃ z, z = h98.size := ⟨_, rfl⟩
  rw [← gg99] at AA99 XX99 st99
  have V99 : own_AF Z h99 b99 .int (i6).toNatClampNeg (fun _ => 0) := own_AFnew AA99 rfl
  have fr99 : n0 ≤ b99 := Nat.le_trans Z098 (Nat.le_of_eq gg99.symm)
  have Z099 : n0 ≤ h99.size := Nat.le_trans Z098 E99.1
  have neb97_99 : b97 ≠ b99 := Nat.ne_of_lt (Nat.lt_of_lt_of_le V98_b97.lt (Nat.le_of_eq gg99.symm))
  have neb98_99 : b98 ≠ b99 := Nat.ne_of_lt (Nat.lt_of_lt_of_le V98.lt (Nat.le_of_eq gg99.symm))
  have V99_b97 := own_AFext V98_b97 E99
  have V99_b98 := own_AFext V98 E99
  have Xa99_b97 := Xa98_b97.ext E99
  have Xa99_b98 := XX98.ext E99
  have O99 := O98.ext E99
  refine own_step st99 ?_
  show own_Fin p e below s Q 24 192 (T99.setTop (mkF m 34 #[.val (.int i0), .val (.int i1), .val (.int i2), .val (.int i3), .val (.int i4), .val (.int i5), .val (.int i6), .val (.ref b97), .val (.ref b98), .unset, .unset, .unset] [(.ref b99)]))
  refine own_step (fun t k => XS.astore X99.here hx rfl (hb hby at_34) rfl rfl (l' := #[.val (.int i0), .val (.int i1), .val (.int i2), .val (.int i3), .val (.int i4), .val (.int i5), .val (.int i6), .val (.ref b97), .val (.ref b98), .val (.ref b99), .unset, .unset]) rfl k) ?_
  show own_Fin p e below s Q 24 192 (T99.setTop (mkF m 36 #[.val (.int i0), .val (.int i1), .val (.int i2), .val (.int i3), .val (.int i4), .val (.int i5), .val (.int i6), .val (.ref b97), .val (.ref b98), .val (.ref b99), .unset, .unset] []))
  refine own_step (fun t k => XS.iload X99.here hx rfl (hb hby at_36) rfl  k) ?_
  show own_Fin p e below s Q 24 192 (T99.setTop (mkF m 38 #[.val (.int i0), .val (.int i1), .val (.int i2), .val (.int i3), .val (.int i4), .val (.int i5), .val (.int i6), .val (.ref b97), .val (.ref b98), .val (.ref b99), .unset, .unset] [(.int i4)]))
  by_cases hB38_100 : (0 : Int32) < i4
  · refine own_step (fun t k => XS.ifNo X99.here hx rfl (hb hby at_38) rfl ((if0 _ _).trans (tlt hB38_100).2.2.2) k) ?_
    show own_Fin p e below s Q 24 192 (T99.setTop (mkF m 41 #[.val (.int i0), .val (.int i1), .val (.int i2), .val (.int i3), .val (.int i4), .val (.int i5), .val (.int i6), .val (.ref b97), .val (.ref b98), .val (.ref b99), .unset, .unset] []))
    refine own_step (fun t k => XS.aload X99.here hx rfl (hb hby at_41) rfl rfl k) ?_
    show own_Fin p e below s Q 24 192 (T99.setTop (mkF m 43 #[.val (.int i0), .val (.int i1), .val (.int i2), .val (.int i3), .val (.int i4), .val (.int i5), .val (.int i6), .val (.ref b97), .val (.ref b98), .val (.ref b99), .unset, .unset] [(.ref b97)]))
    refine own_step (fun t k => XS.iconst X99.here hx rfl (hb hby at_43) k) ?_
    show own_Fin p e below s Q 24 192 (T99.setTop (mkF m 44 #[.val (.int i0), .val (.int i1), .val (.int i2), .val (.int i3), .val (.int i4), .val (.int i5), .val (.int i6), .val (.ref b97), .val (.ref b98), .val (.ref b99), .unset, .unset] [(.int (0 : Int32)), (.ref b97)]))
    refine own_step (fun t k => XS.iloadN X99.here hx rfl (hb hby at_44) rfl  k) ?_
    show own_Fin p e below s Q 24 192 (T99.setTop (mkF m 45 #[.val (.int i0), .val (.int i1), .val (.int i2), .val (.int i3), .val (.int i4), .val (.int i5), .val (.int i6), .val (.ref b97), .val (.ref b98), .val (.ref b99), .unset, .unset] [(.int i3), (.int (0 : Int32)), (.ref b97)]))
    obtain ⟨ca101, Ar101, Sz101, Ht101⟩ := id V99_b97
    have hin101 : ¬ ((0 : Int32) < 0 ∨ ca101.slots.size ≤ ((0 : Int32)).toNatClampNeg) := by rw [Sz101]; exact own_p0 h4 hB38_100
    obtain ⟨T101, h101, X101, e101, W101, st101⟩ := stI X99 hx hZ e99 Ar101 (j := (0 : Int32)) hin101 (g := (mkF m 45 #[.val (.int i0), .val (.int i1), .val (.int i2), .val (.int i3), .val (.int i4), .val (.int i5), .val (.int i6), .val (.ref b97), .val (.ref b98), .val (.ref b99), .unset, .unset] [(.int i3), (.int (0 : Int32)), (.ref b97)])) rfl rfl (hb hby at_45)
    have V101 : own_AF Z h101 b97 .int (i4).toNatClampNeg (fun i => if i = 0 then i3 else (fun _ => 0) i) := own_AFset Ar101 Sz101 Ht101 W101
    obtain ⟨gf101, hgf101⟩ : ∃ g' : Nat → Int32, g' = (fun i => if i = 0 then i3 else (fun _ => 0) i) := ⟨_, rfl⟩
    rw [← hgf101] at V101
    have N101 := Fr.snoc X101 N fr97
    have Z0101 : n0 ≤ h101.size := Nat.le_trans Z099 (Nat.le_of_eq W101.size.symm)
    have V101_b98 := own_AFoth V99_b98 W101 (Ne.symm neb97_98)
    have V101_b99 := own_AFoth V99 W101 (Ne.symm neb97_99)
    have Xa101_b97 := Xa99_b97.wr W101
    have Xa101_b98 := Xa99_b98.wr W101
    have Xa101_b99 := XX99.wr W101
    have O101 := O99.wr W101 fr97
    refine own_step st101 ?_
    exact b0_46 i0 i1 i2 i3 i4 i5 i6 b97 gf101 (i4).toNatClampNeg b98 (fun _ => 0) (i5).toNatClampNeg b99 (fun _ => 0) (i6).toNatClampNeg hw X101 hx hZ hby hml hown hret hlk e101 N101 (Nat.le_trans (Nat.add_le_add_right hc 3) (by decide)) (Nat.le_trans (Nat.add_le_add_right hs 21) (by decide)) V101 fr97 V101_b98 fr98 V101_b99 fr99 D S0 DA (h4) (h5) (h6) (O101) (Xa101_b97) (Xa101_b98) (Xa101_b99) (neb97_98) (neb97_99) (neb98_99) (rfl) (rfl) (rfl) Z0101 hQ
  · refine own_step (fun t k => XS.ifYes X99.here hx rfl (pc0 := 38) (pc' := 46) rfl (hb hby at_38) rfl ((if0 _ _).trans (flt hB38_100).2.2.2) (by decide) (by decide) k) ?_
    exact b0_46 i0 i1 i2 i3 i4 i5 i6 b97 (fun _ => 0) (i4).toNatClampNeg b98 (fun _ => 0) (i5).toNatClampNeg b99 (fun _ => 0) (i6).toNatClampNeg hw X99 hx hZ hby hml hown hret hlk e99 N (Nat.le_trans (Nat.add_le_add_right hc 3) (by decide)) (Nat.le_trans (Nat.add_le_add_right hs 21) (by decide)) V99_b97 fr97 V99_b98 fr98 V99 fr99 D S0 DA (h4) (h5) (h6) (O99) (Xa99_b97) (Xa99_b98) (XX99) (neb97_98) (neb97_99) (neb98_99) (rfl) (rfl) (rfl) Z099 hQ
set_option maxRecDepth 65536 in
set_option maxHeartbeats 40000000 in
theorem b0_0 {p : Program} {l : Launch} {e : Env} {s : State} {m : MethodId} {args : Array Value} {below : List Frame} {meth : Method} {c : Code} {T : State} {locs : List Loc} {cells slots : Nat} {Z : State} {a0 : Array Value} {h : Heap} {n0 : Nat} {Q : Option Value → Heap → List Loc → Prop} (i0 : Int32) (i1 : Int32) (i2 : Int32) (i3 : Int32) (hw : ∀ d ∈ tables_1, d.before a0 Z = true) (X : Stand p l e room_1 s m args below meth c T locs cells slots) (hx : p.tables.exec = Jvm.exec) (hZ : Z.Warmed39 s.vm) (hby : c.code = code) (hml : c.maxLocals = 12) (hown : s.vm.findClass "com/example/libentitle/libentitle/role/RowsLengthPinLaw" = some m.cls) (hret : meth.sig.returnType = some .boolean) (hlk : meth.locks = false) (eT : T.heap = h) (N : Fr n0 locs) (hc : cells ≤ 0) (hs : slots ≤ 0) (D : Addr) (S0 : Sta Z Z.heap "java/util/ArrayList" "DEFAULTCAPACITY_EMPTY_ELEMENTDATA" "[Ljava/lang/Object;" (.ref D)) (DA : own_D Z D) (hO : Old Z n0 h) (Z0 : n0 ≤ h.size) (hQ : ∀ H' L', Fr n0 L' → Q (some (.int 1)) H' L') :
    own_Fin p e below s Q 24 192 (T.setTop (mkF m 0 #[.val (.int i0), .val (.int i1), .val (.int i2), .val (.int i3), .unset, .unset, .unset, .unset, .unset, .unset, .unset, .unset] [])) := by
  refine own_step (fun t k => XS.iloadN X.here hx rfl (hb hby at_0) rfl  k) ?_
  show own_Fin p e below s Q 24 192 (T.setTop (mkF m 1 #[.val (.int i0), .val (.int i1), .val (.int i2), .val (.int i3), .unset, .unset, .unset, .unset, .unset, .unset, .unset, .unset] [(.int i0)]))
  refine own_step (fun t k => XS.bipush X.here hx rfl (hb hby at_1) k) ?_
  show own_Fin p e below s Q 24 192 (T.setTop (mkF m 3 #[.val (.int i0), .val (.int i1), .val (.int i2), .val (.int i3), .unset, .unset, .unset, .unset, .unset, .unset, .unset, .unset] [(.int (7 : Int32)), (.int i0)]))
  refine own_step (fun t k => XS.iand X.here hx rfl (hb hby at_3) rfl k) ?_
  show own_Fin p e below s Q 24 192 (T.setTop (mkF m 4 #[.val (.int i0), .val (.int i1), .val (.int i2), .val (.int i3), .unset, .unset, .unset, .unset, .unset, .unset, .unset, .unset] [(.int (i0 &&& (7 : Int32)))]))
  refine own_step (fun t k => XS.istore X.here hx rfl (hb hby at_4) rfl (l' := #[.val (.int i0), .val (.int i1), .val (.int i2), .val (.int i3), .val (.int (i0 &&& (7 : Int32))), .unset, .unset, .unset, .unset, .unset, .unset, .unset]) rfl k) ?_
  show own_Fin p e below s Q 24 192 (T.setTop (mkF m 6 #[.val (.int i0), .val (.int i1), .val (.int i2), .val (.int i3), .val (.int (i0 &&& (7 : Int32))), .unset, .unset, .unset, .unset, .unset, .unset, .unset] []))
  refine own_step (fun t k => XS.iloadN X.here hx rfl (hb hby at_6) rfl  k) ?_
  show own_Fin p e below s Q 24 192 (T.setTop (mkF m 7 #[.val (.int i0), .val (.int i1), .val (.int i2), .val (.int i3), .val (.int (i0 &&& (7 : Int32))), .unset, .unset, .unset, .unset, .unset, .unset, .unset] [(.int i1)]))
  refine own_step (fun t k => XS.bipush X.here hx rfl (hb hby at_7) k) ?_
  show own_Fin p e below s Q 24 192 (T.setTop (mkF m 9 #[.val (.int i0), .val (.int i1), .val (.int i2), .val (.int i3), .val (.int (i0 &&& (7 : Int32))), .unset, .unset, .unset, .unset, .unset, .unset, .unset] [(.int (7 : Int32)), (.int i1)]))
  refine own_step (fun t k => XS.iand X.here hx rfl (hb hby at_9) rfl k) ?_
  show own_Fin p e below s Q 24 192 (T.setTop (mkF m 10 #[.val (.int i0), .val (.int i1), .val (.int i2), .val (.int i3), .val (.int (i0 &&& (7 : Int32))), .unset, .unset, .unset, .unset, .unset, .unset, .unset] [(.int (i1 &&& (7 : Int32)))]))
  refine own_step (fun t k => XS.istore X.here hx rfl (hb hby at_10) rfl (l' := #[.val (.int i0), .val (.int i1), .val (.int i2), .val (.int i3), .val (.int (i0 &&& (7 : Int32))), .val (.int (i1 &&& (7 : Int32))), .unset, .unset, .unset, .unset, .unset, .unset]) rfl k) ?_
  show own_Fin p e below s Q 24 192 (T.setTop (mkF m 12 #[.val (.int i0), .val (.int i1), .val (.int i2), .val (.int i3), .val (.int (i0 &&& (7 : Int32))), .val (.int (i1 &&& (7 : Int32))), .unset, .unset, .unset, .unset, .unset, .unset] []))
  refine own_step (fun t k => XS.iloadN X.here hx rfl (hb hby at_12) rfl  k) ?_
  show own_Fin p e below s Q 24 192 (T.setTop (mkF m 13 #[.val (.int i0), .val (.int i1), .val (.int i2), .val (.int i3), .val (.int (i0 &&& (7 : Int32))), .val (.int (i1 &&& (7 : Int32))), .unset, .unset, .unset, .unset, .unset, .unset] [(.int i2)]))
  refine own_step (fun t k => XS.bipush X.here hx rfl (hb hby at_13) k) ?_
  show own_Fin p e below s Q 24 192 (T.setTop (mkF m 15 #[.val (.int i0), .val (.int i1), .val (.int i2), .val (.int i3), .val (.int (i0 &&& (7 : Int32))), .val (.int (i1 &&& (7 : Int32))), .unset, .unset, .unset, .unset, .unset, .unset] [(.int (7 : Int32)), (.int i2)]))
  refine own_step (fun t k => XS.iand X.here hx rfl (hb hby at_15) rfl k) ?_
  show own_Fin p e below s Q 24 192 (T.setTop (mkF m 16 #[.val (.int i0), .val (.int i1), .val (.int i2), .val (.int i3), .val (.int (i0 &&& (7 : Int32))), .val (.int (i1 &&& (7 : Int32))), .unset, .unset, .unset, .unset, .unset, .unset] [(.int (i2 &&& (7 : Int32)))]))
  refine own_step (fun t k => XS.istore X.here hx rfl (hb hby at_16) rfl (l' := #[.val (.int i0), .val (.int i1), .val (.int i2), .val (.int i3), .val (.int (i0 &&& (7 : Int32))), .val (.int (i1 &&& (7 : Int32))), .val (.int (i2 &&& (7 : Int32))), .unset, .unset, .unset, .unset, .unset]) rfl k) ?_
  exact b0_18 i0 i1 i2 i3 (i0 &&& (7 : Int32)) (i1 &&& (7 : Int32)) (i2 &&& (7 : Int32)) hw X hx hZ hby hml hown hret hlk eT N (Nat.le_trans (Nat.add_le_add_right hc 0) (by decide)) (Nat.le_trans (Nat.add_le_add_right hs 0) (by decide)) D S0 DA (own_m7 _) (own_m7 _) (own_m7 _) (hO) Z0 hQ
theorem pnm_6 : plainName "com/example/libentitle/libentitle/role/RowsLengthPinLaw" = true := by first | (simp [plainName, overriddenIn]; done) | decide +kernel
theorem pdm_11 : parseMethodDescriptor "(IIII)Z" = some ⟨[.int, .int, .int, .int], some .boolean⟩ := by decide +kernel
theorem ef_0 (m : MethodId) (i0 : Int32) (i1 : Int32) (i2 : Int32) (i3 : Int32) : entryFrame m #[(.int i0), (.int i1), (.int i2), (.int i3)] maxLocals = (mkF m 0 #[.val (.int i0), .val (.int i1), .val (.int i2), .val (.int i3), .unset, .unset, .unset, .unset, .unset, .unset, .unset, .unset] []) := by first | (simp [entryFrame, mkF, argsToLocals, Value.category, maxLocals]; done) | rfl
def Q0 (i0 : Int32) (i1 : Int32) (i2 : Int32) (i3 : Int32) (h0 : Heap) (n0 : Nat) (v : Option Value) (h : Heap) (L : List Loc) : Prop := v = some (.int 1) ∧ Fr n0 L
set_option maxRecDepth 65536 in
set_option maxHeartbeats 4000000 in
theorem rm0 (l : Launch) (Z : State) (a0 : Array Value) (hw : ∀ d ∈ tables_1, d.before a0 Z = true) (ws : List Jvm.Cond) (i0 : Int32) (i1 : Int32) (i2 : Int32) (i3 : Int32) (h0 : Heap) (n0 : Nat) (D : Addr) (S0 : Sta Z Z.heap "java/util/ArrayList" "DEFAULTCAPACITY_EMPTY_ELEMENTDATA" "[Ljava/lang/Object;" (.ref D)) (DA : own_D Z D) (Z0 : n0 ≤ h0.size) (hO : Old Z n0 h0) :
    MetFree l x (head1 (Jvm.Cond.code x code maxLocals ret :: ws) room_1) (fun a U => a = #[(.int i0), (.int i1), (.int i2), (.int i3)] ∧ Z.Warmed39 U.vm ∧ U.heap = h0) (fun _ _ _ _ _ => True) (fun _ U o U' => ∃ v L, o = .returned v ∧ Q0 i0 i1 i2 i3 h0 n0 v U'.heap L ∧ FrameEnd U o U' L 24 192) := by
  refine MetFree.of_bodySF (plainFor_of_name pnm_6) hisR ?_
  intro p e s m args below meth c s₁ Bd hml0 hP hK
  obtain ⟨rfl, hZ, hh⟩ := hP
  have hx := Bd.exec
  have hby := Bd.bytes
  have hml : c.maxLocals = 12 := hml0
  have hown : s.vm.findClass "com/example/libentitle/libentitle/role/RowsLengthPinLaw" = some m.cls := findClass_of_methodNamed Bd.named
  have X0 : Stand p l e room_1 s m #[(.int i0), (.int i1), (.int i2), (.int i3)] below meth c s₁ [] 0 0 := Stand.of_body Bd
  have e0 : s₁.heap = h0 := by rw [← hh, Bd.state]; rfl
  have fin := b0_0 i0 i1 i2 i3 (Q := Q0 i0 i1 i2 i3 h0 n0) hw X0 hx hZ hby hml hown Bd.returns (BodyLoose.notSynchronized Bd) e0 (Fr.nil n0) (Nat.zero_le _) (Nat.zero_le _) D S0 DA hO Z0 (fun H' L' n' => ⟨rfl, n'⟩)
  exact own_step (fun t k => castTop (ef_0 m i0 i1 i2 i3) k) fin
set_option maxRecDepth 65536 in
set_option maxHeartbeats 40000000 in
theorem comes_1 {Post : Tables → Env → Array Value → State → Outcome → State → Prop} (hpost : ∀ tb e args s v u, (limb_1_1.after args s (.returned v) u = true ∧ limb_1_2.after args s (.returned v) u = true ∧ True) → FrameEnd s (.returned v) u (Jvm.fieldLocs frame_1_writes args s ++ Jvm.arrayLocs frame_1_arrays args s ++ Jvm.staticLocs frame_1_statics s) 24 192 → Post tb e args s (.returned v) u) :
    ArmFor flags0 classFile x code maxLocals ret World_1 tables_1 room_1 Calls_1 rest_1 Pre_1 Post := by
  intro l hfl _ _ p e ha hc hk s m args below hf hA hF happ hP
  obtain ⟨hcalls, hrest, hpre⟩ := hP
  obtain ⟨-, -, -, hnamed, -, -, -, hat⟩ := (Spec.applies_iff hf).mp happ
  obtain ⟨hg, hn⟩ := and_e (Cond.before_iff.mp (show (Jvm.Cond.and given_1 narrow_1).before args s = true from hpre))
  obtain ⟨g1, g2⟩ := and_e hg
  obtain ⟨g3, g4⟩ := and_e g2
  obtain ⟨g5, g6⟩ := and_e g4
  obtain ⟨g7, g8⟩ := and_e g6
  obtain ⟨w0, w1, w2, w3, rfl⟩ : ∃ w0 w1 w2 w3 : Value, args = #[w0, w1, w2, w3] := by
    have hs : args.size = 4 := by simpa [Cond.value, given_1] using g1
    obtain ⟨L⟩ := args
    match L, hs with
    | [w0, w1, w2, w3], _ => exact ⟨w0, w1, w2, w3, rfl⟩
  have hw := fun d (hd : d ∈ tables_1) => atoms_spec (ws := Jvm.Cond.code x code maxLocals ret :: tables_1) hat d (List.mem_cons_of_mem _ hd)
  obtain ⟨i0, ei0⟩ := is_v g3
  obtain rfl : w0 = (.int i0) := Option.some.inj ei0
  obtain ⟨i1, ei1⟩ := is_v g5
  obtain rfl : w1 = (.int i1) := Option.some.inj ei1
  obtain ⟨i2, ei2⟩ := is_v g7
  obtain rfl : w2 = (.int i2) := Option.some.inj ei2
  obtain ⟨i3, ei3⟩ := is_v g8
  obtain rfl : w3 = (.int i3) := Option.some.inj ei3
  obtain ⟨hsets, hown0⟩ := atoms_of _ (rest_1_c_eq ▸ (show rest_1_c.before _ s = true from hrest))
  obtain ⟨D, S0, DA⟩ := own_statics _ s hsets (hw _ (List.mem_of_getElem? (i := 3) rfl))
  obtain ⟨n, o, h1, h2, h3, _, L, rfl, ⟨hval, N⟩, hq⟩ := rm0 l s _ hw tables_1 i0 i1 i2 i3 s.heap s.heap.size D S0 DA (Nat.le_refl _) (Old.start s) p e ha hc hk s m _ below hf ((Spec.applies_iff_loose hf).mp happ).1 ⟨rfl, State.Warmed39.refl s, rfl⟩ trivial
  subst hval
  refine ⟨n, _, h1, h2, h3, hpost _ _ _ _ _ _ ⟨Cond.after_iff.mpr rfl, Cond.after_iff.mpr (eq_i res_at (Term.int_eval (1)) rfl), trivial⟩ ⟨hq.1, hq.2.1, (hq.2.2.sift fun y hy => Or.inr (N y hy)).mono (by decide) (by decide)⟩⟩
theorem main_1_1 : Claimed_1_1 := comes_1 fun _ _ _ _ _ _ h hF => ⟨h.1, hF⟩
theorem main_1_2 : Claimed_1_2 := comes_1 fun _ _ _ _ _ _ h hF => ⟨h.2.1, hF⟩
end Jvm.Pilot.@@N@@
namespace Jvm.Pilot.@@N@@
open Jvm Jvm.ClassFile Sem Op Lib Jvm.Free Jvm.Stand Jvm.Pilot.@@N@@.Jvm.D
/-! MADE BY PROGRAM (witnessworld.py) out of the Statement's table words and the real class files: 22 classes; the members and pool entries that the words name. The judged class is class 1, her method 1. -/
namespace start1
open Jvm.ClassFile
def u (s : String) : CpInfo := .utf8 (stringToUtf16 s)
/-- a pool by its gaps: so many unusable entries, then the entry; so many at the end -/
def gap : Nat → List CpInfo → List CpInfo
  | 0, r => r
  | n + 1, r => .unusable :: gap n r
def poolList (es : List (Nat × CpInfo)) (last : Nat) : List CpInfo := es.foldr (fun e r => gap e.1 (e.2 :: r)) (gap last [])
def pool (es : List (Nat × CpInfo)) (last : Nat) : Array CpInfo := ⟨poolList es last⟩
def fileOf (pool : Array CpInfo) (this : Nat) (attrs : Array Attribute := #[]) (ms : Array MethodInfo := #[]) (fl : Nat := 33) (sup : Nat := 0) (ifs : Array Nat := #[]) (fds : Array FieldInfo := #[]) : ClassFile where
  minorVersion := 0
  majorVersion := 65
  constantPool := pool
  accessFlags := fl
  thisClass := this
  superClass := sup
  interfaces := ifs
  fields := fds
  methods := ms
  attributes := attrs
def plain (name : String) (sup : Option ClassId) : Class where
  name := name
  kind := .ordinary
  loader := none
  accessFlags := 33
  super := sup
  interfaces := #[]
  cf := none
  fields := #[]
  methods := #[]
  instanceTypes := #[]
  staticTypes := #[]
  resolved := #[]
  callSites := []
  init := .initialized
  statics := none
  mirror := none

def pool0 : Array CpInfo := pool [(5, u "<init>"), (0, u "()V"), (1, .class_ 10), (1, u "java/lang/Object")] 113

def k0c0 : Code := { maxStack := 0, maxLocals := 1, code := object_method_1_code, exceptionTable := #[], attributes := #[] }
def k0m0 : Method := { name := "<init>", desc := "()V", sig := { parameters := [], returnType := none }, accessFlags := 1, code := some k0c0 }
/-- java/lang/Object -/
def k0 : Class := { plain "java/lang/Object" none with
  accessFlags := 33
  interfaces := #[]
  cf := some (fileOf pool0 8 #[] #[{ accessFlags := 1, nameIndex := 5, descriptorIndex := 6, attributes := #[] }] 33 0 #[] #[])
  fields := #[]
  methods := #[k0m0]
  instanceTypes := #[]
  staticTypes := #[]
  resolved := Array.replicate 124 none
  statics := none }

def pool1 : Array CpInfo := pool [(2, .class_ 4), (0, .nameAndType 5 6), (0, u "java/lang/Object"), (0, u "<init>"), (0, u "()V"), (0, .class_ 8), (0, u "java/util/ArrayList"), (0, .methodref 7 3), (0, .methodref 7 11), (0, .nameAndType 12 13), (0, u "add"), (0, u "(Ljava/lang/Object;)Z"), (0, .class_ 15), (0, u "com/example/libentitle/libentitle/role/Rows"), (0, .methodref 14 17), (0, .nameAndType 5 18), (0, u "(Ljava/util/List;)V"), (0, .methodref 14 20), (0, .nameAndType 21 22), (0, u "length"), (0, u "(I)I"), (0, .class_ 24), (0, u "com/example/libentitle/libentitle/role/RowsLengthPinLaw"), (2, u "law"), (0, u "(IIII)Z")] 5

def k1m0 : Method := { name := "<init>", desc := "()V", sig := { parameters := [], returnType := none }, accessFlags := 1, code := none }
def k1c1 : Code := { maxStack := 3, maxLocals := 12, code := code, exceptionTable := #[], attributes := #[] }
def k1m1 : Method := { name := "law", desc := "(IIII)Z", sig := { parameters := [.int, .int, .int, .int], returnType := some .boolean }, accessFlags := 9, code := some k1c1 }
/-- com/example/libentitle/libentitle/role/RowsLengthPinLaw -/
def k1 : Class := { plain "com/example/libentitle/libentitle/role/RowsLengthPinLaw" (some 0) with
  accessFlags := 49
  interfaces := #[]
  cf := some (fileOf pool1 23 #[] #[{ accessFlags := 1, nameIndex := 5, descriptorIndex := 6, attributes := #[] }, { accessFlags := 9, nameIndex := 27, descriptorIndex := 28, attributes := #[] }] 49 2 #[] #[])
  fields := #[]
  methods := #[k1m0, k1m1]
  instanceTypes := #[]
  staticTypes := #[]
  resolved := Array.replicate 34 none
  statics := none }

def pool2 : Array CpInfo := pool [(8, .class_ 10), (1, u "java/lang/Iterable"), (24, .class_ 36), (0, u "java/lang/Object")] 25

/-- java/lang/Iterable -/
def k2 : Class := { plain "java/lang/Iterable" (some 0) with
  accessFlags := 1537
  interfaces := #[]
  cf := some (fileOf pool2 8 #[] #[] 1537 35 #[] #[])
  fields := #[]
  methods := #[]
  instanceTypes := #[]
  staticTypes := #[]
  resolved := Array.replicate 62 none
  statics := none }

def pool3 : Array CpInfo := pool [(10, .class_ 12), (1, u "java/util/Collection"), (47, .class_ 61), (0, u "java/lang/Object"), (0, .class_ 63), (0, u "java/lang/Iterable")] 51

/-- java/util/Collection -/
def k3 : Class := { plain "java/util/Collection" (some 0) with
  accessFlags := 1537
  interfaces := #[2]
  cf := some (fileOf pool3 10 #[] #[] 1537 60 #[62] #[])
  fields := #[]
  methods := #[]
  instanceTypes := #[]
  staticTypes := #[]
  resolved := Array.replicate 115 none
  statics := none }

def pool4 : Array CpInfo := pool [(1, .methodref 2 3), (0, .class_ 4), (0, .nameAndType 5 6), (0, u "java/lang/Object"), (0, u "<init>"), (0, u "()V"), (1, .class_ 10), (1, u "java/util/AbstractCollection"), (66, .class_ 78), (0, u "java/util/Collection")] 81

def k4c0 : Code := { maxStack := 1, maxLocals := 1, code := jdk_22_method_1_code, exceptionTable := #[], attributes := #[] }
def k4m0 : Method := { name := "<init>", desc := "()V", sig := { parameters := [], returnType := none }, accessFlags := 4, code := some k4c0 }
/-- java/util/AbstractCollection -/
def k4 : Class := { plain "java/util/AbstractCollection" (some 0) with
  accessFlags := 1057
  interfaces := #[3]
  cf := some (fileOf pool4 8 #[] #[{ accessFlags := 4, nameIndex := 5, descriptorIndex := 6, attributes := #[] }] 1057 2 #[77] #[])
  fields := #[]
  methods := #[k4m0]
  instanceTypes := #[]
  staticTypes := #[]
  resolved := Array.replicate 160 none
  statics := none }

def pool5 : Array CpInfo := pool [(8, .class_ 10), (1, u "java/util/SequencedCollection"), (15, .class_ 27), (0, u "java/lang/Object"), (0, .class_ 29), (0, u "java/util/Collection")] 27

/-- java/util/SequencedCollection -/
def k5 : Class := { plain "java/util/SequencedCollection" (some 0) with
  accessFlags := 1537
  interfaces := #[3]
  cf := some (fileOf pool5 8 #[] #[] 1537 26 #[28] #[])
  fields := #[]
  methods := #[]
  instanceTypes := #[]
  staticTypes := #[]
  resolved := Array.replicate 57 none
  statics := none }

def pool6 : Array CpInfo := pool [(8, .class_ 10), (1, u "java/util/List"), (64, u "get"), (0, u "(I)Ljava/lang/Object;"), (2, u "size"), (0, u "()I"), (22, .class_ 104), (0, u "java/lang/Object"), (15, .class_ 121), (0, u "java/util/SequencedCollection")] 129

def k6m0 : Method := { name := "size", desc := "()I", sig := { parameters := [], returnType := some .int }, accessFlags := 1025, code := none }
def k6m1 : Method := { name := "get", desc := "(I)Ljava/lang/Object;", sig := { parameters := [.int], returnType := some (.object "java/lang/Object") }, accessFlags := 1025, code := none }
/-- java/util/List -/
def k6 : Class := { plain "java/util/List" (some 0) with
  accessFlags := 1537
  interfaces := #[5]
  cf := some (fileOf pool6 8 #[] #[{ accessFlags := 1025, nameIndex := 79, descriptorIndex := 80, attributes := #[] }, { accessFlags := 1025, nameIndex := 75, descriptorIndex := 76, attributes := #[] }] 1537 103 #[120] #[])
  fields := #[]
  methods := #[k6m0, k6m1]
  instanceTypes := #[]
  staticTypes := #[]
  resolved := Array.replicate 251 none
  statics := none }

def pool7 : Array CpInfo := pool [(1, .methodref 2 3), (0, .class_ 4), (0, .nameAndType 5 6), (0, u "java/util/AbstractCollection"), (0, u "<init>"), (0, u "()V"), (0, .fieldref 8 9), (0, .class_ 10), (0, .nameAndType 11 12), (0, u "java/util/AbstractList"), (0, u "modCount"), (0, u "I"), (64, .class_ 78), (0, u "java/util/AbstractList$Itr"), (3, .class_ 83), (0, u "java/util/AbstractList$ListItr"), (9, .class_ 94), (0, u "java/util/AbstractList$RandomAccessSubList"), (3, .class_ 99), (0, u "java/util/AbstractList$SubList"), (33, .class_ 134), (0, u "java/util/List"), (73, .class_ 209), (0, u "java/util/AbstractList$SubList$1"), (0, .class_ 211), (0, u "java/util/AbstractList$RandomAccessSpliterator")] 6

def k7c0 : Code := { maxStack := 2, maxLocals := 1, code := jdk_39_method_1_code, exceptionTable := #[], attributes := #[] }
def k7m0 : Method := { name := "<init>", desc := "()V", sig := { parameters := [], returnType := none }, accessFlags := 4, code := some k7c0 }
/-- java/util/AbstractList -/
def k7 : Class := { plain "java/util/AbstractList" (some 4) with
  accessFlags := 1057
  interfaces := #[6]
  cf := some (fileOf pool7 8 #[.nestMembers #[93, 98, 208, 210, 82, 77]] #[{ accessFlags := 4, nameIndex := 5, descriptorIndex := 6, attributes := #[] }] 1057 2 #[133] #[{ accessFlags := 132, nameIndex := 11, descriptorIndex := 12, attributes := #[] }])
  fields := #[{ name := "modCount", type := .int, accessFlags := 132, slot := 0, constantValue := 0 }]
  methods := #[k7m0]
  instanceTypes := #[.int]
  staticTypes := #[]
  resolved := Array.replicate 218 none
  statics := none }

def pool8 : Array CpInfo := pool [(1, .class_ 2), (0, u "java/util/RandomAccess"), (0, .class_ 4), (0, u "java/lang/Object")] 2

/-- java/util/RandomAccess -/
def k8 : Class := { plain "java/util/RandomAccess" (some 0) with
  accessFlags := 1537
  interfaces := #[]
  cf := some (fileOf pool8 1 #[] #[] 1537 3 #[] #[])
  fields := #[]
  methods := #[]
  instanceTypes := #[]
  staticTypes := #[]
  resolved := Array.replicate 7 none
  statics := none }

def pool9 : Array CpInfo := pool [(1, .class_ 2), (0, u "java/lang/Cloneable"), (0, .class_ 4), (0, u "java/lang/Object")] 2

/-- java/lang/Cloneable -/
def k9 : Class := { plain "java/lang/Cloneable" (some 0) with
  accessFlags := 1537
  interfaces := #[]
  cf := some (fileOf pool9 1 #[] #[] 1537 3 #[] #[])
  fields := #[]
  methods := #[]
  instanceTypes := #[]
  staticTypes := #[]
  resolved := Array.replicate 7 none
  statics := none }

def pool10 : Array CpInfo := pool [(1, .class_ 2), (0, u "java/io/Serializable"), (0, .class_ 4), (0, u "java/lang/Object")] 2

/-- java/io/Serializable -/
def k10 : Class := { plain "java/io/Serializable" (some 0) with
  accessFlags := 1537
  interfaces := #[]
  cf := some (fileOf pool10 1 #[] #[] 1537 3 #[] #[])
  fields := #[]
  methods := #[]
  instanceTypes := #[]
  staticTypes := #[]
  resolved := Array.replicate 7 none
  statics := none }

def pool11 : Array CpInfo := pool [(1, .methodref 2 3), (0, .class_ 4), (0, .nameAndType 5 6), (0, u "java/util/AbstractList"), (0, u "<init>"), (0, u "()V"), (0, .class_ 8), (0, u "java/lang/Object"), (0, .fieldref 10 11), (0, .class_ 12), (0, .nameAndType 13 14), (0, u "java/util/ArrayList"), (0, u "elementData"), (0, u "[Ljava/lang/Object;"), (2, u "EMPTY_ELEMENTDATA"), (21, .fieldref 10 40), (0, .nameAndType 41 14), (0, u "DEFAULTCAPACITY_EMPTY_ELEMENTDATA"), (5, u "()[Ljava/lang/Object;"), (0, .fieldref 10 49), (0, .nameAndType 50 51), (0, u "size"), (0, u "I"), (11, .fieldref 10 64), (0, .nameAndType 65 51), (0, u "modCount"), (3, .methodref 10 70), (0, .nameAndType 71 72), (0, u "grow"), (0, u "(I)[Ljava/lang/Object;"), (6, .methodref 80 81), (0, .class_ 82), (0, .nameAndType 83 84), (0, u "java/lang/Math"), (0, u "max"), (0, u "(II)I"), (11, u "(Ljava/lang/Object;)Z"), (21, .methodref 119 120), (0, .class_ 121), (0, .nameAndType 122 84), (0, u "java/util/Objects"), (0, u "checkIndex"), (0, .methodref 10 124), (0, .nameAndType 13 125), (0, u "(I)Ljava/lang/Object;"), (3, .methodref 10 130), (0, .nameAndType 71 47), (0, .methodref 10 132), (0, .nameAndType 133 134), (0, u "add"), (0, u "(Ljava/lang/Object;[Ljava/lang/Object;I)V"), (13, .class_ 149), (0, u "java/util/List"), (36, u "()I"), (75, .class_ 263), (0, u "java/util/ArrayList$ListItr"), (3, .class_ 268), (0, u "java/util/ArrayList$Itr"), (7, .class_ 277), (0, u "java/util/ArrayList$SubList"), (12, .class_ 291), (0, u "java/util/ArrayList$ArrayListSpliterator"), (37, .class_ 330), (0, u "java/util/RandomAccess"), (0, .class_ 332), (0, u "java/lang/Cloneable"), (0, .class_ 334), (0, u "java/io/Serializable"), (0, u "serialVersionUID"), (0, u "J"), (3, u "DEFAULT_CAPACITY"), (40, u "get"), (118, .class_ 501), (0, u "java/util/ArrayList$SubList$2"), (0, .class_ 503), (0, u "java/util/ArrayList$SubList$1")] 5

def k11c0 : Code := { maxStack := 2, maxLocals := 1, code := jdk_38_method_2_code, exceptionTable := #[], attributes := #[] }
def k11m0 : Method := { name := "<init>", desc := "()V", sig := { parameters := [], returnType := none }, accessFlags := 1, code := some k11c0 }
def k11c1 : Code := { maxStack := 4, maxLocals := 4, code := jdk_38_method_6_code, exceptionTable := #[], attributes := #[] }
def k11m1 : Method := { name := "grow", desc := "(I)[Ljava/lang/Object;", sig := { parameters := [.int], returnType := some (.array (.object "java/lang/Object")) }, accessFlags := 2, code := some k11c1 }
def k11c2 : Code := { maxStack := 3, maxLocals := 1, code := jdk_38_method_7_code, exceptionTable := #[], attributes := #[] }
def k11m2 : Method := { name := "grow", desc := "()[Ljava/lang/Object;", sig := { parameters := [], returnType := some (.array (.object "java/lang/Object")) }, accessFlags := 2, code := some k11c2 }
def k11c3 : Code := { maxStack := 1, maxLocals := 1, code := jdk_38_method_8_code, exceptionTable := #[], attributes := #[] }
def k11m3 : Method := { name := "size", desc := "()I", sig := { parameters := [], returnType := some .int }, accessFlags := 1, code := some k11c3 }
def k11c4 : Code := { maxStack := 2, maxLocals := 2, code := jdk_38_method_18_code, exceptionTable := #[], attributes := #[] }
def k11m4 : Method := { name := "elementData", desc := "(I)Ljava/lang/Object;", sig := { parameters := [.int], returnType := some (.object "java/lang/Object") }, accessFlags := 0, code := some k11c4 }
def k11c5 : Code := { maxStack := 2, maxLocals := 2, code := jdk_38_method_20_code, exceptionTable := #[], attributes := #[] }
def k11m5 : Method := { name := "get", desc := "(I)Ljava/lang/Object;", sig := { parameters := [.int], returnType := some (.object "java/lang/Object") }, accessFlags := 1, code := some k11c5 }
def k11c6 : Code := { maxStack := 3, maxLocals := 4, code := jdk_38_method_24_code, exceptionTable := #[], attributes := #[] }
def k11m6 : Method := { name := "add", desc := "(Ljava/lang/Object;[Ljava/lang/Object;I)V", sig := { parameters := [(.object "java/lang/Object"), (.array (.object "java/lang/Object")), .int], returnType := none }, accessFlags := 2, code := some k11c6 }
def k11c7 : Code := { maxStack := 4, maxLocals := 2, code := jdk_38_method_25_code, exceptionTable := #[], attributes := #[] }
def k11m7 : Method := { name := "add", desc := "(Ljava/lang/Object;)Z", sig := { parameters := [(.object "java/lang/Object")], returnType := some .boolean }, accessFlags := 1, code := some k11c7 }
/-- java/util/ArrayList -/
def k11 : Class := { plain "java/util/ArrayList" (some 7) with
  accessFlags := 33
  interfaces := #[6, 8, 9, 10]
  cf := some (fileOf pool11 10 #[.nestMembers #[290, 276, 500, 502, 262, 267]] #[{ accessFlags := 1, nameIndex := 5, descriptorIndex := 6, attributes := #[] }, { accessFlags := 2, nameIndex := 71, descriptorIndex := 72, attributes := #[] }, { accessFlags := 2, nameIndex := 71, descriptorIndex := 47, attributes := #[] }, { accessFlags := 1, nameIndex := 50, descriptorIndex := 186, attributes := #[] }, { accessFlags := 0, nameIndex := 13, descriptorIndex := 125, attributes := #[] }, { accessFlags := 1, nameIndex := 381, descriptorIndex := 125, attributes := #[] }, { accessFlags := 2, nameIndex := 133, descriptorIndex := 134, attributes := #[] }, { accessFlags := 1, nameIndex := 133, descriptorIndex := 96, attributes := #[] }] 33 2 #[148, 329, 331, 333] #[{ accessFlags := 26, nameIndex := 335, descriptorIndex := 336, attributes := #[] }, { accessFlags := 26, nameIndex := 340, descriptorIndex := 51, attributes := #[] }, { accessFlags := 26, nameIndex := 17, descriptorIndex := 14, attributes := #[] }, { accessFlags := 26, nameIndex := 41, descriptorIndex := 14, attributes := #[] }, { accessFlags := 128, nameIndex := 13, descriptorIndex := 14, attributes := #[] }, { accessFlags := 2, nameIndex := 50, descriptorIndex := 51, attributes := #[] }])
  fields := #[{ name := "serialVersionUID", type := .long, accessFlags := 26, slot := 0, constantValue := 0 }, { name := "DEFAULT_CAPACITY", type := .int, accessFlags := 26, slot := 1, constantValue := 0 }, { name := "EMPTY_ELEMENTDATA", type := (.array (.object "java/lang/Object")), accessFlags := 26, slot := 2, constantValue := 0 }, { name := "DEFAULTCAPACITY_EMPTY_ELEMENTDATA", type := (.array (.object "java/lang/Object")), accessFlags := 26, slot := 3, constantValue := 0 }, { name := "elementData", type := (.array (.object "java/lang/Object")), accessFlags := 128, slot := 1, constantValue := 0 }, { name := "size", type := .int, accessFlags := 2, slot := 2, constantValue := 0 }]
  methods := #[k11m0, k11m1, k11m2, k11m3, k11m4, k11m5, k11m6, k11m7]
  instanceTypes := #[.int, (.array (.object "java/lang/Object")), .int]
  staticTypes := #[.long, .int, (.array (.object "java/lang/Object")), (.array (.object "java/lang/Object"))]
  resolved := Array.replicate 509 none
  statics := some 0 }

def pool12 : Array CpInfo := pool [(1, .class_ 2), (0, u "java/lang/Math"), (1, .class_ 6), (1, u "java/lang/Object"), (0, u "<init>"), (0, u "()V"), (89, .class_ 100), (1, u "java/lang/Math$RandomNumberGeneratorHolder"), (71, u "negativeZeroFloatBits"), (0, u "J"), (2, u "negativeZeroDoubleBits"), (21, u "max"), (46, u "$assertionsDisabled"), (0, u "Z"), (88, u "(II)I"), (2, u "twoToTheDoubleScaleDown"), (0, u "D"), (4, u "twoToTheDoubleScaleUp"), (9, u "E"), (3, u "PI"), (2, u "TAU"), (2, u "DEGREES_TO_RADIANS"), (0, u "RADIANS_TO_DEGREES")] 94

def k12m0 : Method := { name := "<init>", desc := "()V", sig := { parameters := [], returnType := none }, accessFlags := 2, code := none }
def k12c1 : Code := { maxStack := 2, maxLocals := 2, code := jdk_29_method_65_code, exceptionTable := #[], attributes := #[] }
def k12m1 : Method := { name := "max", desc := "(II)I", sig := { parameters := [.int, .int], returnType := some .int }, accessFlags := 9, code := some k12c1 }
/-- java/lang/Math -/
def k12 : Class := { plain "java/lang/Math" (some 0) with
  accessFlags := 49
  interfaces := #[]
  cf := some (fileOf pool12 1 #[.nestMembers #[98]] #[{ accessFlags := 2, nameIndex := 7, descriptorIndex := 8, attributes := #[] }, { accessFlags := 9, nameIndex := 198, descriptorIndex := 335, attributes := #[] }] 49 4 #[] #[{ accessFlags := 25, nameIndex := 354, descriptorIndex := 339, attributes := #[] }, { accessFlags := 25, nameIndex := 358, descriptorIndex := 339, attributes := #[] }, { accessFlags := 25, nameIndex := 361, descriptorIndex := 339, attributes := #[] }, { accessFlags := 26, nameIndex := 364, descriptorIndex := 339, attributes := #[] }, { accessFlags := 26, nameIndex := 365, descriptorIndex := 339, attributes := #[] }, { accessFlags := 26, nameIndex := 172, descriptorIndex := 173, attributes := #[] }, { accessFlags := 26, nameIndex := 176, descriptorIndex := 173, attributes := #[] }, { accessFlags := 8, nameIndex := 344, descriptorIndex := 339, attributes := #[] }, { accessFlags := 8, nameIndex := 338, descriptorIndex := 339, attributes := #[] }, { accessFlags := 4120, nameIndex := 245, descriptorIndex := 246, attributes := #[] }])
  fields := #[{ name := "E", type := .double, accessFlags := 25, slot := 0, constantValue := 0 }, { name := "PI", type := .double, accessFlags := 25, slot := 1, constantValue := 0 }, { name := "TAU", type := .double, accessFlags := 25, slot := 2, constantValue := 0 }, { name := "DEGREES_TO_RADIANS", type := .double, accessFlags := 26, slot := 3, constantValue := 0 }, { name := "RADIANS_TO_DEGREES", type := .double, accessFlags := 26, slot := 4, constantValue := 0 }, { name := "negativeZeroFloatBits", type := .long, accessFlags := 26, slot := 5, constantValue := 0 }, { name := "negativeZeroDoubleBits", type := .long, accessFlags := 26, slot := 6, constantValue := 0 }, { name := "twoToTheDoubleScaleUp", type := .double, accessFlags := 8, slot := 7, constantValue := 0 }, { name := "twoToTheDoubleScaleDown", type := .double, accessFlags := 8, slot := 8, constantValue := 0 }, { name := "$assertionsDisabled", type := .boolean, accessFlags := 4120, slot := 9, constantValue := 0 }]
  methods := #[k12m0, k12m1]
  instanceTypes := #[]
  staticTypes := #[.double, .double, .double, .double, .double, .long, .long, .double, .double, .boolean]
  resolved := Array.replicate 460 none
  statics := none }

def pool13 : Array CpInfo := pool [(1, .methodref 2 3), (0, .class_ 4), (0, .nameAndType 5 6), (0, u "java/lang/Object"), (0, u "<init>"), (0, u "()V"), (0, .interfaceMethodref 8 9), (0, .class_ 10), (0, .nameAndType 11 12), (0, u "java/util/List"), (0, u "size"), (0, u "()I"), (0, .fieldref 14 15), (0, .class_ 16), (0, .nameAndType 17 18), (0, u "com/example/libentitle/libentitle/role/Rows"), (0, u "starts"), (0, u "[I"), (0, .interfaceMethodref 8 20), (0, .nameAndType 21 22), (0, u "get"), (0, u "(I)Ljava/lang/Object;"), (0, .class_ 18), (0, .fieldref 14 25), (0, .nameAndType 26 18), (0, u "values"), (0, .methodref 28 29), (0, .class_ 30), (0, .nameAndType 31 32), (0, u "java/lang/System"), (0, u "arraycopy"), (0, u "(Ljava/lang/Object;ILjava/lang/Object;II)V"), (21, .class_ 55), (0, u "com/example/libentitle/libentitle/role/Rows$Union"), (13, u "length"), (0, u "(I)I"), (13, u "(Ljava/util/List;)V")] 22

def k13c0 : Code := { maxStack := 6, maxLocals := 3, code := prog_60_method_1_code, exceptionTable := #[], attributes := #[] }
def k13m0 : Method := { name := "<init>", desc := "(Ljava/util/List;)V", sig := { parameters := [(.object "java/util/List")], returnType := none }, accessFlags := 0, code := some k13c0 }
def k13c1 : Code := { maxStack := 3, maxLocals := 2, code := prog_60_method_10_code, exceptionTable := #[], attributes := #[] }
def k13m1 : Method := { name := "length", desc := "(I)I", sig := { parameters := [.int], returnType := some .int }, accessFlags := 0, code := some k13c1 }
/-- com/example/libentitle/libentitle/role/Rows -/
def k13 : Class := { plain "com/example/libentitle/libentitle/role/Rows" (some 0) with
  accessFlags := 32
  interfaces := #[]
  cf := some (fileOf pool13 14 #[.nestMembers #[54]] #[{ accessFlags := 0, nameIndex := 5, descriptorIndex := 84, attributes := #[] }, { accessFlags := 0, nameIndex := 69, descriptorIndex := 70, attributes := #[] }] 32 2 #[] #[{ accessFlags := 18, nameIndex := 17, descriptorIndex := 18, attributes := #[] }, { accessFlags := 18, nameIndex := 26, descriptorIndex := 18, attributes := #[] }])
  fields := #[{ name := "starts", type := (.array .int), accessFlags := 18, slot := 0, constantValue := 0 }, { name := "values", type := (.array .int), accessFlags := 18, slot := 1, constantValue := 0 }]
  methods := #[k13m0, k13m1]
  instanceTypes := #[(.array .int), (.array .int)]
  staticTypes := #[]
  resolved := Array.replicate 107 none
  statics := none }

def pool14 : Array CpInfo := pool [(2, .class_ 4), (1, u "java/lang/Object"), (0, u "<init>"), (0, u "()V"), (35, .class_ 44), (1, u "java/util/Objects"), (60, .methodref 106 107), (0, .class_ 108), (0, .nameAndType 109 110), (0, u "jdk/internal/util/Preconditions"), (0, u "checkIndex"), (0, u "(IILjava/util/function/BiFunction;)I"), (60, u "(II)I")] 12

def k14m0 : Method := { name := "<init>", desc := "()V", sig := { parameters := [], returnType := none }, accessFlags := 2, code := none }
def k14c1 : Code := { maxStack := 3, maxLocals := 2, code := jdk_31_method_17_code, exceptionTable := #[], attributes := #[] }
def k14m1 : Method := { name := "checkIndex", desc := "(II)I", sig := { parameters := [.int, .int], returnType := some .int }, accessFlags := 9, code := some k14c1 }
/-- java/util/Objects -/
def k14 : Class := { plain "java/util/Objects" (some 0) with
  accessFlags := 49
  interfaces := #[]
  cf := some (fileOf pool14 42 #[] #[{ accessFlags := 2, nameIndex := 5, descriptorIndex := 6, attributes := #[] }, { accessFlags := 9, nameIndex := 109, descriptorIndex := 171, attributes := #[] }] 49 2 #[] #[])
  fields := #[]
  methods := #[k14m0, k14m1]
  instanceTypes := #[]
  staticTypes := #[]
  resolved := Array.replicate 184 none
  statics := none }

def pool15 : Array CpInfo := pool [(2, .class_ 4), (1, u "java/lang/Object"), (0, u "<init>"), (0, u "()V"), (17, .class_ 26), (1, u "jdk/internal/util/Preconditions"), (6, u "checkIndex"), (21, .class_ 56), (0, u "jdk/internal/util/Preconditions$4"), (57, .class_ 115), (0, u "jdk/internal/util/Preconditions$1"), (7, u "SIOOBE_FORMATTER"), (0, u "Ljava/util/function/BiFunction;"), (0, .class_ 126), (0, u "jdk/internal/util/Preconditions$2"), (3, u "AIOOBE_FORMATTER"), (0, .class_ 132), (0, u "jdk/internal/util/Preconditions$3"), (3, u "IOOBE_FORMATTER"), (41, u "(IILjava/util/function/BiFunction;)I")] 15

def k15m0 : Method := { name := "<init>", desc := "()V", sig := { parameters := [], returnType := none }, accessFlags := 1, code := none }
def k15c1 : Code := { maxStack := 3, maxLocals := 3, code := jdk_41_method_11_code, exceptionTable := #[], attributes := #[] }
def k15m1 : Method := { name := "checkIndex", desc := "(IILjava/util/function/BiFunction;)I", sig := { parameters := [.int, .int, (.object "java/util/function/BiFunction")], returnType := some .int }, accessFlags := 9, code := some k15c1 }
/-- jdk/internal/util/Preconditions -/
def k15 : Class := { plain "jdk/internal/util/Preconditions" (some 0) with
  accessFlags := 33
  interfaces := #[]
  cf := some (fileOf pool15 24 #[.nestMembers #[55, 131, 125, 114]] #[{ accessFlags := 1, nameIndex := 5, descriptorIndex := 6, attributes := #[] }, { accessFlags := 9, nameIndex := 33, descriptorIndex := 178, attributes := #[] }] 33 2 #[] #[{ accessFlags := 25, nameIndex := 123, descriptorIndex := 124, attributes := #[] }, { accessFlags := 25, nameIndex := 130, descriptorIndex := 124, attributes := #[] }, { accessFlags := 25, nameIndex := 136, descriptorIndex := 124, attributes := #[] }])
  fields := #[{ name := "SIOOBE_FORMATTER", type := (.object "java/util/function/BiFunction"), accessFlags := 25, slot := 0, constantValue := 0 }, { name := "AIOOBE_FORMATTER", type := (.object "java/util/function/BiFunction"), accessFlags := 25, slot := 1, constantValue := 0 }, { name := "IOOBE_FORMATTER", type := (.object "java/util/function/BiFunction"), accessFlags := 25, slot := 2, constantValue := 0 }]
  methods := #[k15m0, k15m1]
  instanceTypes := #[]
  staticTypes := #[(.object "java/util/function/BiFunction"), (.object "java/util/function/BiFunction"), (.object "java/util/function/BiFunction")]
  resolved := Array.replicate 194 none
  statics := none }

def pool16 : Array CpInfo := pool [(2, .class_ 4), (1, u "java/lang/Object"), (0, u "<init>"), (0, u "()V"), (1, .class_ 10), (1, u "java/lang/System"), (0, u "allowSecurityManager"), (0, u "I"), (16, u "cons"), (0, u "Ljava/io/Console;"), (77, .class_ 110), (1, u "java/lang/System$CallersHolder"), (43, u "initialErrStream"), (0, u "Ljava/io/PrintStream;"), (19, u "security"), (0, u "Ljava/lang/SecurityManager;"), (31, .class_ 209), (0, u "java/lang/System$1"), (7, u "props"), (0, u "Ljava/util/Properties;"), (2, u "lineSeparator"), (0, u "Ljava/lang/String;"), (96, .class_ 321), (1, u "java/lang/System$LoggerFinder"), (5, .class_ 328), (0, u "java/lang/System$Logger"), (67, u "err"), (2, u "out"), (91, u "notSupportedJnuEncoding"), (15, u "in"), (17, u "initialIn"), (0, u "Ljava/io/InputStream;"), (35, u "bootLayer"), (0, u "Ljava/lang/ModuleLayer;"), (99, .class_ 664), (0, u "java/lang/System$2"), (9, u "NEVER"), (2, u "MAYBE"), (49, u "arraycopy"), (0, u "(Ljava/lang/Object;ILjava/lang/Object;II)V"), (72, .class_ 802), (0, u "java/lang/System$Logger$Level")] 31

def k16m0 : Method := { name := "<init>", desc := "()V", sig := { parameters := [], returnType := none }, accessFlags := 2, code := none }
def k16m1 : Method := { name := "arraycopy", desc := "(Ljava/lang/Object;ILjava/lang/Object;II)V", sig := { parameters := [(.object "java/lang/Object"), .int, (.object "java/lang/Object"), .int, .int], returnType := none }, accessFlags := 265, code := none }
/-- java/lang/System -/
def k16 : Class := { plain "java/lang/System" (some 0) with
  accessFlags := 49
  interfaces := #[]
  cf := some (fileOf pool16 8 #[.nestMembers #[319, 327, 801, 108, 663, 208]] #[{ accessFlags := 2, nameIndex := 5, descriptorIndex := 6, attributes := #[] }, { accessFlags := 265, nameIndex := 727, descriptorIndex := 728, attributes := #[] }] 49 2 #[] #[{ accessFlags := 25, nameIndex := 507, descriptorIndex := 526, attributes := #[] }, { accessFlags := 25, nameIndex := 399, descriptorIndex := 155, attributes := #[] }, { accessFlags := 25, nameIndex := 396, descriptorIndex := 155, attributes := #[] }, { accessFlags := 10, nameIndex := 525, descriptorIndex := 526, attributes := #[] }, { accessFlags := 26, nameIndex := 674, descriptorIndex := 12, attributes := #[] }, { accessFlags := 26, nameIndex := 677, descriptorIndex := 12, attributes := #[] }, { accessFlags := 10, nameIndex := 11, descriptorIndex := 12, attributes := #[] }, { accessFlags := 74, nameIndex := 175, descriptorIndex := 176, attributes := #[] }, { accessFlags := 10, nameIndex := 491, descriptorIndex := 222, attributes := #[] }, { accessFlags := 74, nameIndex := 29, descriptorIndex := 30, attributes := #[] }, { accessFlags := 74, nameIndex := 154, descriptorIndex := 155, attributes := #[] }, { accessFlags := 10, nameIndex := 217, descriptorIndex := 218, attributes := #[] }, { accessFlags := 10, nameIndex := 221, descriptorIndex := 222, attributes := #[] }, { accessFlags := 8, nameIndex := 562, descriptorIndex := 563, attributes := #[] }])
  fields := #[{ name := "in", type := (.object "java/io/InputStream"), accessFlags := 25, slot := 0, constantValue := 0 }, { name := "out", type := (.object "java/io/PrintStream"), accessFlags := 25, slot := 1, constantValue := 0 }, { name := "err", type := (.object "java/io/PrintStream"), accessFlags := 25, slot := 2, constantValue := 0 }, { name := "initialIn", type := (.object "java/io/InputStream"), accessFlags := 10, slot := 3, constantValue := 0 }, { name := "NEVER", type := .int, accessFlags := 26, slot := 4, constantValue := 0 }, { name := "MAYBE", type := .int, accessFlags := 26, slot := 5, constantValue := 0 }, { name := "allowSecurityManager", type := .int, accessFlags := 10, slot := 6, constantValue := 0 }, { name := "security", type := (.object "java/lang/SecurityManager"), accessFlags := 74, slot := 7, constantValue := 0 }, { name := "notSupportedJnuEncoding", type := (.object "java/lang/String"), accessFlags := 10, slot := 8, constantValue := 0 }, { name := "cons", type := (.object "java/io/Console"), accessFlags := 74, slot := 9, constantValue := 0 }, { name := "initialErrStream", type := (.object "java/io/PrintStream"), accessFlags := 74, slot := 10, constantValue := 0 }, { name := "props", type := (.object "java/util/Properties"), accessFlags := 10, slot := 11, constantValue := 0 }, { name := "lineSeparator", type := (.object "java/lang/String"), accessFlags := 10, slot := 12, constantValue := 0 }, { name := "bootLayer", type := (.object "java/lang/ModuleLayer"), accessFlags := 8, slot := 13, constantValue := 0 }]
  methods := #[k16m0, k16m1]
  instanceTypes := #[]
  staticTypes := #[(.object "java/io/InputStream"), (.object "java/io/PrintStream"), (.object "java/io/PrintStream"), (.object "java/io/InputStream"), .int, .int, .int, (.object "java/lang/SecurityManager"), (.object "java/lang/String"), (.object "java/io/Console"), (.object "java/io/PrintStream"), (.object "java/util/Properties"), (.object "java/lang/String"), (.object "java/lang/ModuleLayer")]
  resolved := Array.replicate 834 none
  statics := none }

/-- the primitive byte -/
def k17 : Class := { plain "byte" none with kind := .primitive 'B', accessFlags := 0x411 }
/-- [B -/
def k18 : Class := { plain "[B" (some 0) with kind := .array 17 .byte, interfaces := #[9, 10], accessFlags := 1041 }

/-- the primitive int -/
def k19 : Class := { plain "int" none with kind := .primitive 'I', accessFlags := 0x411 }
/-- [I -/
def k20 : Class := { plain "[I" (some 0) with kind := .array 19 .int, interfaces := #[9, 10], accessFlags := 1041 }

/-- [Ljava/lang/Object; -/
def k21 : Class := { plain "[Ljava/lang/Object;" (some 0) with kind := .array 0 (.object "java/lang/Object"), interfaces := #[9, 10], accessFlags := 1041 }

def heap : Heap := #[{ cls := 11, slots := #[.long 0, .int 0, .ref 1, .ref 2], vm := .statics 11 },
  { cls := 21, slots := #[], vm := .none },
  { cls := 21, slots := #[], vm := .none }]
def classes : Array Class := #[k0, k1, k2, k3, k4, k5, k6, k7, k8, k9, k10, k11, k12, k13, k14, k15, k16, k17, k18, k19, k20, k21]
def interned : List (Array UInt16 × Addr) := []
def slotsUsed : Nat := 4
def theMethod : MethodId := ⟨1, 1⟩
def args0 : Array Value := #[.int 5, .int 5, .int 5, .int 5]
def aboutOver (below : List Frame) : State where
  vm := { classes := classes, interned := interned.toArray }
  heap := heap
  slotsUsed := slotsUsed
  threads := #[{ frames := .invoking theMethod args0 :: below }]
def below0 : List Frame := [.native { method := ⟨0, 0⟩, args := #[] }]
def about1 : State := aboutOver below0
def p0 : Program := .bare "" "" ""
def e0 : Env := launch0.env 0 0 0
theorem w_frames : about1.frames = Frame.invoking theMethod args0 :: below0 := rfl
set_option maxRecDepth 65536 in
theorem w_args : argsFit about1.vm theMethod args0 = true := by decide +kernel
set_option maxRecDepth 65536 in
theorem w_heap : heapFits about1 = true := by decide +kernel
set_option maxRecDepth 65536 in
theorem w_runnable : about1.curStatus? = some .runnable := by decide +kernel
set_option maxRecDepth 65536 in
theorem w_alone : about1.alone = true := by decide +kernel
set_option maxRecDepth 65536 in
theorem w_named : about1.methodNamed? x = some theMethod := by decide +kernel
set_option maxRecDepth 65536 in
theorem w_hears : about1.hears theMethod below0 = true := by decide +kernel
set_option maxRecDepth 65536 in
theorem w_ripe : about1.ripe theMethod args0 below0 = true := by decide +kernel
theorem w_running : about1.status = .running := rfl
set_option maxRecDepth 65536 in
theorem w_room : about1.hasRoom e0.platform room_1 = true :=
  launch0.hasRoom_least _ room_1 (by decide +kernel) (by decide +kernel) (by decide +kernel) (by decide +kernel) (by decide +kernel) (by decide +kernel)
theorem allAtoms_all (ts : List Jvm.Cond) (a : Array Jvm.Value) (st : Jvm.State) : (allAtoms ts).before a st = ts.all (fun c => c.before a st) := by
  induction ts with
  | nil => rfl
  | cons c t ih =>
    show (Jvm.Cond.and c (allAtoms t)).before a st = _
    rw [Jvm.Cond.before_and, ih, List.all_cons]
def words1 : List Jvm.Cond := Jvm.Cond.code x code maxLocals ret :: tables_1
/-- a 'code' word, met by the world's own term for the bytes: nothing is compared byte by byte -/
theorem code_word {y : MethodName} {bytes : ByteArray} {mx : Nat} {rt : Option FieldType} {a : Array Value} {s : State} {m : MethodId} {meth : Method} {c : Code} (h1 : s.methodNamed? y = some m) (h2 : s.vm.method? m = some meth) (h3 : meth.code = some c) (h4 : c.code = bytes)
    (h5 : (c.maxLocals == mx && c.exceptionTable.isEmpty && decide (c.maxStack ≤ mostOperands) && decide (meth.sig.returnType = rt) && !meth.locks && decide (parseMethodDescriptor y.desc = some meth.sig)) = true) : (Jvm.Cond.code y bytes mx rt).before a s = true := by
  simp only [Bool.and_eq_true, beq_iff_eq, Bool.not_eq_true', decide_eq_true_eq] at h5
  obtain ⟨⟨⟨⟨⟨g1, g2⟩, g3⟩, g4⟩, g5⟩, g6⟩ := h5
  simp [Cond.before, Cond.holds, Cond.value, h1, h2, h3, h4, g1, g2, g3, g4, g5, g6]
def isCode : Jvm.Cond → Bool
  | .code _ _ _ _ => true
  | _ => false
theorem all_split {L : List Jvm.Cond} {P : Jvm.Cond → Bool} (h1 : L.all (fun c => isCode c || P c) = true) (h2 : ∀ c ∈ L.filter isCode, P c = true) : L.all P = true := by
  refine List.all_eq_true.mpr fun c hc => ?_
  have h := List.all_eq_true.mp h1 c hc
  rcases Bool.eq_false_or_eq_true (isCode c) with hi | hi
  · exact h2 c (List.mem_filter.mpr ⟨hc, hi⟩)
  · simpa [hi] using h
set_option maxRecDepth 65536 in
theorem w_c0 : (Jvm.Cond.code x code maxLocals ret).before args0 about1 = true := code_word (m := ⟨1, 1⟩) (meth := k1m1) (c := k1c1) (by decide +kernel) rfl rfl rfl (by decide +kernel)
set_option maxRecDepth 65536 in
theorem w_c1 : (Jvm.Cond.code ({ cls := "java/util/ArrayList", name := "<init>", desc := "()V" } : Jvm.MethodName) jdk_38_method_2_code (1 : Nat) (Option.none : Option Jvm.ClassFile.FieldType)).before args0 about1 = true := code_word (m := ⟨11, 0⟩) (meth := k11m0) (c := k11c0) (by decide +kernel) rfl rfl rfl (by decide +kernel)
set_option maxRecDepth 65536 in
theorem w_c2 : (Jvm.Cond.code ({ cls := "java/util/AbstractList", name := "<init>", desc := "()V" } : Jvm.MethodName) jdk_39_method_1_code (1 : Nat) (Option.none : Option Jvm.ClassFile.FieldType)).before args0 about1 = true := code_word (m := ⟨7, 0⟩) (meth := k7m0) (c := k7c0) (by decide +kernel) rfl rfl rfl (by decide +kernel)
set_option maxRecDepth 65536 in
theorem w_c3 : (Jvm.Cond.code ({ cls := "java/util/AbstractCollection", name := "<init>", desc := "()V" } : Jvm.MethodName) jdk_22_method_1_code (1 : Nat) (Option.none : Option Jvm.ClassFile.FieldType)).before args0 about1 = true := code_word (m := ⟨4, 0⟩) (meth := k4m0) (c := k4c0) (by decide +kernel) rfl rfl rfl (by decide +kernel)
set_option maxRecDepth 65536 in
theorem w_c4 : (Jvm.Cond.code ({ cls := "java/lang/Object", name := "<init>", desc := "()V" } : Jvm.MethodName) object_method_1_code (1 : Nat) (Option.none : Option Jvm.ClassFile.FieldType)).before args0 about1 = true := code_word (m := ⟨0, 0⟩) (meth := k0m0) (c := k0c0) (by decide +kernel) rfl rfl rfl (by decide +kernel)
set_option maxRecDepth 65536 in
theorem w_c5 : (Jvm.Cond.code ({ cls := "java/util/ArrayList", name := "add", desc := "(Ljava/lang/Object;)Z" } : Jvm.MethodName) jdk_38_method_25_code (2 : Nat) (Option.some Jvm.ClassFile.FieldType.boolean)).before args0 about1 = true := code_word (m := ⟨11, 7⟩) (meth := k11m7) (c := k11c7) (by decide +kernel) rfl rfl rfl (by decide +kernel)
set_option maxRecDepth 65536 in
theorem w_c6 : (Jvm.Cond.code ({ cls := "java/util/ArrayList", name := "add", desc := "(Ljava/lang/Object;[Ljava/lang/Object;I)V" } : Jvm.MethodName) jdk_38_method_24_code (4 : Nat) (Option.none : Option Jvm.ClassFile.FieldType)).before args0 about1 = true := code_word (m := ⟨11, 6⟩) (meth := k11m6) (c := k11c6) (by decide +kernel) rfl rfl rfl (by decide +kernel)
set_option maxRecDepth 65536 in
theorem w_c7 : (Jvm.Cond.code ({ cls := "java/util/ArrayList", name := "grow", desc := "()[Ljava/lang/Object;" } : Jvm.MethodName) jdk_38_method_7_code (1 : Nat) (Option.some (Jvm.ClassFile.FieldType.array (Jvm.ClassFile.FieldType.object "java/lang/Object")))).before args0 about1 = true := code_word (m := ⟨11, 2⟩) (meth := k11m2) (c := k11c2) (by decide +kernel) rfl rfl rfl (by decide +kernel)
set_option maxRecDepth 65536 in
theorem w_c8 : (Jvm.Cond.code ({ cls := "java/util/ArrayList", name := "grow", desc := "(I)[Ljava/lang/Object;" } : Jvm.MethodName) jdk_38_method_6_code (4 : Nat) (Option.some (Jvm.ClassFile.FieldType.array (Jvm.ClassFile.FieldType.object "java/lang/Object")))).before args0 about1 = true := code_word (m := ⟨11, 1⟩) (meth := k11m1) (c := k11c1) (by decide +kernel) rfl rfl rfl (by decide +kernel)
set_option maxRecDepth 65536 in
theorem w_c9 : (Jvm.Cond.code ({ cls := "java/lang/Math", name := "max", desc := "(II)I" } : Jvm.MethodName) jdk_29_method_65_code (2 : Nat) (Option.some Jvm.ClassFile.FieldType.int)).before args0 about1 = true := code_word (m := ⟨12, 1⟩) (meth := k12m1) (c := k12c1) (by decide +kernel) rfl rfl rfl (by decide +kernel)
set_option maxRecDepth 65536 in
theorem w_c10 : (Jvm.Cond.code ({ cls := "com/example/libentitle/libentitle/role/Rows", name := "<init>", desc := "(Ljava/util/List;)V" } : Jvm.MethodName) prog_60_method_1_code (3 : Nat) (Option.none : Option Jvm.ClassFile.FieldType)).before args0 about1 = true := code_word (m := ⟨13, 0⟩) (meth := k13m0) (c := k13c0) (by decide +kernel) rfl rfl rfl (by decide +kernel)
set_option maxRecDepth 65536 in
theorem w_c11 : (Jvm.Cond.code ({ cls := "java/util/ArrayList", name := "size", desc := "()I" } : Jvm.MethodName) jdk_38_method_8_code (1 : Nat) (Option.some Jvm.ClassFile.FieldType.int)).before args0 about1 = true := code_word (m := ⟨11, 3⟩) (meth := k11m3) (c := k11c3) (by decide +kernel) rfl rfl rfl (by decide +kernel)
set_option maxRecDepth 65536 in
theorem w_c12 : (Jvm.Cond.code ({ cls := "java/util/ArrayList", name := "get", desc := "(I)Ljava/lang/Object;" } : Jvm.MethodName) jdk_38_method_20_code (2 : Nat) (Option.some (Jvm.ClassFile.FieldType.object "java/lang/Object"))).before args0 about1 = true := code_word (m := ⟨11, 5⟩) (meth := k11m5) (c := k11c5) (by decide +kernel) rfl rfl rfl (by decide +kernel)
set_option maxRecDepth 65536 in
theorem w_c13 : (Jvm.Cond.code ({ cls := "java/util/Objects", name := "checkIndex", desc := "(II)I" } : Jvm.MethodName) jdk_31_method_17_code (2 : Nat) (Option.some Jvm.ClassFile.FieldType.int)).before args0 about1 = true := code_word (m := ⟨14, 1⟩) (meth := k14m1) (c := k14c1) (by decide +kernel) rfl rfl rfl (by decide +kernel)
set_option maxRecDepth 65536 in
theorem w_c14 : (Jvm.Cond.code ({ cls := "jdk/internal/util/Preconditions", name := "checkIndex", desc := "(IILjava/util/function/BiFunction;)I" } : Jvm.MethodName) jdk_41_method_11_code (3 : Nat) (Option.some Jvm.ClassFile.FieldType.int)).before args0 about1 = true := code_word (m := ⟨15, 1⟩) (meth := k15m1) (c := k15c1) (by decide +kernel) rfl rfl rfl (by decide +kernel)
set_option maxRecDepth 65536 in
theorem w_c15 : (Jvm.Cond.code ({ cls := "java/util/ArrayList", name := "elementData", desc := "(I)Ljava/lang/Object;" } : Jvm.MethodName) jdk_38_method_18_code (2 : Nat) (Option.some (Jvm.ClassFile.FieldType.object "java/lang/Object"))).before args0 about1 = true := code_word (m := ⟨11, 4⟩) (meth := k11m4) (c := k11c4) (by decide +kernel) rfl rfl rfl (by decide +kernel)
set_option maxRecDepth 65536 in
theorem w_c16 : (Jvm.Cond.code ({ cls := "com/example/libentitle/libentitle/role/Rows", name := "length", desc := "(I)I" } : Jvm.MethodName) prog_60_method_10_code (2 : Nat) (Option.some Jvm.ClassFile.FieldType.int)).before args0 about1 = true := code_word (m := ⟨13, 1⟩) (meth := k13m1) (c := k13c1) (by decide +kernel) rfl rfl rfl (by decide +kernel)
def codes1 : List Jvm.Cond := [Jvm.Cond.code x code maxLocals ret, Jvm.Cond.code ({ cls := "java/util/ArrayList", name := "<init>", desc := "()V" } : Jvm.MethodName) jdk_38_method_2_code (1 : Nat) (Option.none : Option Jvm.ClassFile.FieldType), Jvm.Cond.code ({ cls := "java/util/AbstractList", name := "<init>", desc := "()V" } : Jvm.MethodName) jdk_39_method_1_code (1 : Nat) (Option.none : Option Jvm.ClassFile.FieldType), Jvm.Cond.code ({ cls := "java/util/AbstractCollection", name := "<init>", desc := "()V" } : Jvm.MethodName) jdk_22_method_1_code (1 : Nat) (Option.none : Option Jvm.ClassFile.FieldType), Jvm.Cond.code ({ cls := "java/lang/Object", name := "<init>", desc := "()V" } : Jvm.MethodName) object_method_1_code (1 : Nat) (Option.none : Option Jvm.ClassFile.FieldType), Jvm.Cond.code ({ cls := "java/util/ArrayList", name := "add", desc := "(Ljava/lang/Object;)Z" } : Jvm.MethodName) jdk_38_method_25_code (2 : Nat) (Option.some Jvm.ClassFile.FieldType.boolean), Jvm.Cond.code ({ cls := "java/util/ArrayList", name := "add", desc := "(Ljava/lang/Object;[Ljava/lang/Object;I)V" } : Jvm.MethodName) jdk_38_method_24_code (4 : Nat) (Option.none : Option Jvm.ClassFile.FieldType), Jvm.Cond.code ({ cls := "java/util/ArrayList", name := "grow", desc := "()[Ljava/lang/Object;" } : Jvm.MethodName) jdk_38_method_7_code (1 : Nat) (Option.some (Jvm.ClassFile.FieldType.array (Jvm.ClassFile.FieldType.object "java/lang/Object"))), Jvm.Cond.code ({ cls := "java/util/ArrayList", name := "grow", desc := "(I)[Ljava/lang/Object;" } : Jvm.MethodName) jdk_38_method_6_code (4 : Nat) (Option.some (Jvm.ClassFile.FieldType.array (Jvm.ClassFile.FieldType.object "java/lang/Object"))), Jvm.Cond.code ({ cls := "java/lang/Math", name := "max", desc := "(II)I" } : Jvm.MethodName) jdk_29_method_65_code (2 : Nat) (Option.some Jvm.ClassFile.FieldType.int), Jvm.Cond.code ({ cls := "com/example/libentitle/libentitle/role/Rows", name := "<init>", desc := "(Ljava/util/List;)V" } : Jvm.MethodName) prog_60_method_1_code (3 : Nat) (Option.none : Option Jvm.ClassFile.FieldType), Jvm.Cond.code ({ cls := "java/util/ArrayList", name := "size", desc := "()I" } : Jvm.MethodName) jdk_38_method_8_code (1 : Nat) (Option.some Jvm.ClassFile.FieldType.int), Jvm.Cond.code ({ cls := "java/util/ArrayList", name := "get", desc := "(I)Ljava/lang/Object;" } : Jvm.MethodName) jdk_38_method_20_code (2 : Nat) (Option.some (Jvm.ClassFile.FieldType.object "java/lang/Object")), Jvm.Cond.code ({ cls := "java/util/Objects", name := "checkIndex", desc := "(II)I" } : Jvm.MethodName) jdk_31_method_17_code (2 : Nat) (Option.some Jvm.ClassFile.FieldType.int), Jvm.Cond.code ({ cls := "jdk/internal/util/Preconditions", name := "checkIndex", desc := "(IILjava/util/function/BiFunction;)I" } : Jvm.MethodName) jdk_41_method_11_code (3 : Nat) (Option.some Jvm.ClassFile.FieldType.int), Jvm.Cond.code ({ cls := "java/util/ArrayList", name := "elementData", desc := "(I)Ljava/lang/Object;" } : Jvm.MethodName) jdk_38_method_18_code (2 : Nat) (Option.some (Jvm.ClassFile.FieldType.object "java/lang/Object")), Jvm.Cond.code ({ cls := "com/example/libentitle/libentitle/role/Rows", name := "length", desc := "(I)I" } : Jvm.MethodName) prog_60_method_10_code (2 : Nat) (Option.some Jvm.ClassFile.FieldType.int)]
set_option maxRecDepth 65536 in
theorem codes_eq : words1.filter isCode = codes1 := rfl
theorem w_codes : ∀ c ∈ words1.filter isCode, c.before args0 about1 = true := by
  rw [codes_eq]
  intro c hc
  simp only [codes1, List.mem_cons, List.not_mem_nil, or_false] at hc
  rcases hc with rfl | rfl | rfl | rfl | rfl | rfl | rfl | rfl | rfl | rfl | rfl | rfl | rfl | rfl | rfl | rfl | rfl
  · exact w_c0
  · exact w_c1
  · exact w_c2
  · exact w_c3
  · exact w_c4
  · exact w_c5
  · exact w_c6
  · exact w_c7
  · exact w_c8
  · exact w_c9
  · exact w_c10
  · exact w_c11
  · exact w_c12
  · exact w_c13
  · exact w_c14
  · exact w_c15
  · exact w_c16
set_option maxRecDepth 65536 in
theorem w_t1 : (words1.take 24).all (fun c => isCode c || c.before args0 about1) = true := by decide +kernel
set_option maxRecDepth 65536 in
theorem w_t2 : ((words1.drop 24).take 24).all (fun c => isCode c || c.before args0 about1) = true := by decide +kernel
set_option maxRecDepth 65536 in
theorem w_t3 : (((words1.drop 24).drop 24).take 24).all (fun c => isCode c || c.before args0 about1) = true := by decide +kernel
set_option maxRecDepth 65536 in
theorem w_t4 : ((((words1.drop 24).drop 24).drop 24).take 24).all (fun c => isCode c || c.before args0 about1) = true := by decide +kernel
set_option maxRecDepth 65536 in
theorem w_t5 : ((((words1.drop 24).drop 24).drop 24).drop 24).all (fun c => isCode c || c.before args0 about1) = true := by decide +kernel
theorem w_tables : (allAtoms (Jvm.Cond.code x code maxLocals ret :: tables_1)).before args0 about1 = true := by
  rw [allAtoms_all]
  show words1.all (fun c => c.before args0 about1) = true
  refine all_split ?_ w_codes
  rw [← List.take_append_drop 24 words1, List.all_append, w_t1, ← List.take_append_drop 24 (words1.drop 24), List.all_append, w_t2, ← List.take_append_drop 24 ((words1.drop 24).drop 24), List.all_append, w_t3, ← List.take_append_drop 24 (((words1.drop 24).drop 24).drop 24), List.all_append, w_t4, w_t5]
  rfl
set_option maxRecDepth 65536 in
theorem w_rest : rest_1_c.before args0 about1 = true := by decide +kernel
set_option maxRecDepth 65536 in
theorem w_case : (Jvm.Cond.and given_1 narrow_1).before args0 about1 = true := by decide +kernel
theorem w_applies : (headSpec (Jvm.Cond.code x code maxLocals ret :: tables_1) room_1).applies x e0.platform about1 = true :=
  (Spec.applies_iff w_frames).mpr ⟨w_running, w_runnable, w_alone, w_named, w_hears, w_ripe, w_room, w_tables⟩
theorem atStart : AtStart classFile x code maxLocals ret World_1 tables_1 room_1 Calls_1 rest_1 Pre_1 launch0 p0 e0 about1 theMethod args0 below0 :=
  ⟨lists_1, trivial, launch0.admits_env _ _ _, launch0.least_env, fairChoices_fair.cas, fairChoices_fair.clock, w_frames, w_args, w_heap, w_applies, trivial, w_rest, w_case⟩
end start1
theorem witness_1 : WitnessClaimed_1 := ⟨start1.p0, start1.e0, start1.about1, start1.theMethod, start1.args0, start1.below0, start1.atStart⟩
end Jvm.Pilot.@@N@@

import JvmDerived
import JvmDerived.Pilot.@@N@@Statement
import JvmDerived.Pilot.@@N@@Code
set_option linter.unusedVariables false
set_option linter.unusedSimpArgs false
namespace Jvm.RoadKit
open Sem ClassFile Op Lib Jvm.Stand Jvm.Free Jvm.LawKit
section New
variable {p : Program} {l : Launch} {e : Env} {R : Room} {s : State} {m : MethodId} {args : Array Value} {below : List Frame} {meth : Method} {c : Code} {T : State} {locs : List Loc} {cells slots : Nat}
theorem retI (X : Stand p l e R s m args below meth c T locs cells slots) (hx : p.tables.exec = Jvm.exec) {pc : Nat} {Ls : Array Slot} {z : Int32} {rest : List Value} (hret : meth.sig.returnType = some .int) (hd : decode c.code pc = .ok (.ireturn, 1)) {fs : List Frame}
    (hl : ∀ (f : JFrame) (acts : List Action), f.method = m → f.locked = none → f.entered = [] → (doReturn e (T.setTop f) acts (some (.int z))).1 = T.setFrames fs) : Steps p.tables e below (T.setTop (mkF m pc Ls (.int z :: rest))) (T.setFrames fs) := by
  have hm' : T.vm.method? m = some meth := X.method'
  have hn : narrow .int (.int z) = .int z := rfl
  show Steps p.tables e below (T.setTop { method := m, pc := pc, locals := Ls, stack := _ :: rest, locked := none }) _
  jvm_step X.here [X.here.top, hx, hd, hm', hret, hn]
  first | (intro acts; rw [hl _ acts rfl rfl rfl]) | rw [hl _ _ rfl rfl rfl]
  exact Steps.refl _
end New
end Jvm.RoadKit
namespace Jvm.Pilot.@@N@@
open Jvm Jvm.ClassFile Sem Op Lib Jvm.Free Jvm.Stand Jvm.LawKit Jvm.RoadKit Bundle Jvm.Pilot.@@N@@.Jvm.D
section OwnKit
variable {p : Program} {l : Launch} {e : Env} {R : Room} {s : State} {m : MethodId} {args : Array Value} {below : List Frame} {meth : Method} {c : Code} {T : State} {locs : List Loc} {cells slots : Nat}
/-- what a body owes from the state A on: it comes to its return, and what it returned, the heap and the written places satisfy Q -/
def own_Fin (p : Program) (e : Env) (below : List Frame) (s : State) (Q : Option Value → Heap → List Loc → Prop) (rc rs : Nat) (A : State) : Prop :=
  ∃ s₂ o, Steps p.tables e below A s₂ ∧ s₂.status = .running ∧ Ended s₂ below o ∧ ∃ v L, o = .returned v ∧ Q v s₂.heap L ∧ FrameEnd s o s₂ L rc rs
theorem own_step {Q : Option Value → Heap → List Loc → Prop} {rc rs : Nat} {A B : State} (k : ∀ t, Steps p.tables e below B t → Steps p.tables e below A t) (h : own_Fin p e below s Q rc rs B) : own_Fin p e below s Q rc rs A := by
  obtain ⟨s₂, o, h1, h2⟩ := h
  exact ⟨s₂, o, k _ h1, h2⟩
theorem own_retN (X : Stand p l e R s m args below meth c T locs cells slots) (hx : p.tables.exec = Jvm.exec) (hlk : meth.locks = false) {Q : Option Value → Heap → List Loc → Prop} {rc rs n0 : Nat} {h : Heap} {pc : Nat} {Ls : Array Slot} {z v : Int32} {t : FieldType} {rest : List Value} (hret : meth.sig.returnType = some t) (ht : t = .boolean ∨ t = .byte ∨ t = .char ∨ t = .short)
    (hd : decode c.code pc = .ok (.ireturn, 1)) (hc : cells ≤ rc) (hs : slots ≤ rs) (eT : T.heap = h) (N : Fr n0 locs) (hQ : ∀ L', Fr n0 L' → Q (some (.int v)) h L') (hv : v = nar t z) :
    own_Fin p e below s Q rc rs (T.setTop (mkF m pc Ls (.int z :: rest))) := by
  subst hv
  obtain ⟨fs, hr, hrun, hended, hW, hsame⟩ := X.leave (v := some (.int (nar t z))) (fun h => by rw [hret] at h; cases h) hlk
  refine ⟨_, _, retN X hx hret ht hd hr, hrun, hended, _, _, rfl, ?_, ⟨_, rfl⟩, hW, hsame.mono hc hs⟩
  show Q _ T.heap _
  rw [eT]
  exact hQ _ N
theorem own_retI (X : Stand p l e R s m args below meth c T locs cells slots) (hx : p.tables.exec = Jvm.exec) (hlk : meth.locks = false) {Q : Option Value → Heap → List Loc → Prop} {rc rs n0 : Nat} {h : Heap} {pc : Nat} {Ls : Array Slot} {z v : Int32} {rest : List Value} (hret : meth.sig.returnType = some .int)
    (hd : decode c.code pc = .ok (.ireturn, 1)) (hc : cells ≤ rc) (hs : slots ≤ rs) (eT : T.heap = h) (N : Fr n0 locs) (hQ : ∀ L', Fr n0 L' → Q (some (.int v)) h L') (hv : v = z) :
    own_Fin p e below s Q rc rs (T.setTop (mkF m pc Ls (.int z :: rest))) := by
  subst hv
  obtain ⟨fs, hr, hrun, hended, hW, hsame⟩ := X.leave (v := some (.int v)) (fun h => by rw [hret] at h; cases h) hlk
  refine ⟨_, _, retI X hx hret hd hr, hrun, hended, _, _, rfl, ?_, ⟨_, rfl⟩, hW, hsame.mono hc hs⟩
  show Q _ T.heap _
  rw [eT]
  exact hQ _ N
theorem own_ret0 (X : Stand p l e R s m args below meth c T locs cells slots) (hx : p.tables.exec = Jvm.exec) (hlk : meth.locks = false) {Q : Option Value → Heap → List Loc → Prop} {rc rs : Nat} {h : Heap} {pc : Nat} {Ls : Array Slot} (hret : meth.sig.returnType = none)
    (hd : decode c.code pc = .ok (.return_, 1)) (hc : cells ≤ rc) (hs : slots ≤ rs) (eT : T.heap = h) (hQ : Q none h locs) :
    own_Fin p e below s Q rc rs (T.setTop (mkF m pc Ls [])) := by
  obtain ⟨fs, hr, hrun, hended, hW, hsame⟩ := X.leave (v := none) (fun _ => rfl) hlk
  refine ⟨_, _, X.returnOut hx hret hd hr, hrun, hended, _, _, rfl, ?_, ⟨_, rfl⟩, hW, hsame.mono hc hs⟩
  show Q _ T.heap _
  rw [eT]
  exact hQ
end OwnKit
/-- an array of n ints (bytes, ..) at a: its i-th is g i -/
def own_AF (Z : State) (h : Heap) (a : Addr) (ty : FieldType) (n : Nat) (g : Nat → Int32) : Prop := ∃ c : Cell, Arr Z h a c ty ∧ c.slots.size = n ∧ ∀ i, i < n → c.slots[i]? = some (.int (g i))
def own_In (n : Nat) (j : Int32) : Prop := ¬ (j < 0 ∨ n ≤ j.toNatClampNeg)
theorem own_AF.lt {Z : State} {h : Heap} {a : Addr} {ty : FieldType} {n : Nat} {g : Nat → Int32} (F : own_AF Z h a ty n g) : a < h.size := by obtain ⟨c, A, -⟩ := F; exact A.lt
theorem own_AFext {Z : State} {h h' : Heap} {a : Addr} {ty : FieldType} {n : Nat} {g : Nat → Int32} (F : own_AF Z h a ty n g) (E : Ext h h') : own_AF Z h' a ty n g := by obtain ⟨c, A, r⟩ := F; exact ⟨c, A.ext E, r⟩
theorem own_AFoth {Z : State} {h h' : Heap} {a b : Addr} {sl : Nat} {v : Value} {ty : FieldType} {n : Nat} {g : Nat → Int32} (F : own_AF Z h b ty n g) (W : Wr h h' a sl v) (q : b ≠ a) : own_AF Z h' b ty n g := by obtain ⟨c, A, r⟩ := F; exact ⟨c, A.other W q, r⟩
theorem own_AFkeep {Z : State} {h h' : Heap} {a : Addr} {ws : List Addr} {ty : FieldType} {n : Nat} {g : Nat → Int32} (F : own_AF Z h a ty n g) (K : Keep h h' ws) (q : a ∉ ws) : own_AF Z h' a ty n g := by obtain ⟨c, A, r⟩ := F; exact ⟨c, ⟨K.2.1 a c A.1 q, A.2⟩, r⟩
theorem own_AFset {Z : State} {h h' : Heap} {a : Addr} {ty : FieldType} {n k : Nat} {g : Nat → Int32} {c : Cell} {x : Int32} (A : Arr Z h a c ty) (S : c.slots.size = n) (H : ∀ i, i < n → c.slots[i]? = some (.int (g i))) (W : Wr h h' a k (.int x)) : own_AF Z h' a ty n (fun i => if i = k then x else g i) := by
  obtain ⟨c', e1, e2, e3, e4, e5, e6, e7⟩ := wr_at W A.1
  refine ⟨c', ⟨e1, ?_⟩, e4.trans S, fun i hi => ?_⟩
  · rw [(e7 rfl).1]; exact A.2
  · by_cases q : i = k
    · subst q
      show c'.slots[i]? = some (.int (if i = i then x else g i))
      rw [if_pos rfl]
      exact (e7 rfl).2.1
    · show c'.slots[i]? = some (.int (if i = k then x else g i))
      rw [e6 i q, if_neg q]
      exact H i hi
theorem own_AFnew {Z : State} {h : Heap} {a : Addr} {k : ClassId} {ty : FieldType} {z : Int32} {n : Nat} (A : Arr Z h a (newA k ty z) ty) (hn : z.toNatClampNeg = n) (hd : defaultValue ty = .int 0 := by rfl) : own_AF Z h a ty n (fun _ => 0) :=
  ⟨_, A, (sz_new _ _ _).trans hn, fun i hi => by
    have hs : (newA k ty z).slots = Array.replicate z.toNatClampNeg (defaultValue ty) := rfl
    rw [hs, hn, hd]
    simp [hi]⟩
theorem own_eqi {x y : Int32} {b : Int} (h : y.toInt = b) : x = y ↔ x.toInt = b := by rw [← h]; exact Int32.toInt_inj.symm

section OwnHeap
variable {p : Program} {l : Launch} {e : Env} {R : Room} {s : State} {m : MethodId} {args : Array Value} {below : List Frame} {meth : Method} {c : Code} {T : State} {locs : List Loc} {cells slots : Nat}
theorem own_retA (X : Stand p l e R s m args below meth c T locs cells slots) (hx : p.tables.exec = Jvm.exec) (hlk : meth.locks = false) {Q : Option Value → Heap → List Loc → Prop} {rc rs : Nat} {h : Heap} {pc : Nat} {Ls : Array Slot} {b : Addr} {t : FieldType} {rest : List Value} (hret : meth.sig.returnType = some t) (ht : t.isReference = true)
    (hd : decode c.code pc = .ok (.areturn, 1)) (hc : cells ≤ rc) (hs : slots ≤ rs) (eT : T.heap = h) (hQ : Q (some (.ref b)) h locs) :
    own_Fin p e below s Q rc rs (T.setTop (mkF m pc Ls (.ref b :: rest))) := by
  obtain ⟨fs, hr, hrun, hended, hW, hsame⟩ := X.leave (v := some (.ref b)) (fun h => by rw [hret] at h; cases h) hlk
  refine ⟨_, _, ?_, hrun, hended, _, _, rfl, ?_, ⟨_, rfl⟩, hW, hsame.mono hc hs⟩
  · have hm' : T.vm.method? m = some meth := X.method'
    show Steps p.tables e below (T.setTop { method := m, pc := pc, locals := Ls, stack := _ :: rest, locked := none }) _
    jvm_step X.here [X.here.top, hx, hd, hm', hret, ht, Value.isRef]
    first | (intro acts; rw [hr _ acts rfl rfl rfl]) | rw [hr _ _ rfl rfl rfl]
    exact Steps.refl _
  · show Q _ T.heap _
    rw [eT]
    exact hQ
theorem own_retZ (X : Stand p l e R s m args below meth c T locs cells slots) (hx : p.tables.exec = Jvm.exec) (hlk : meth.locks = false) {Q : Option Value → Heap → List Loc → Prop} {rc rs : Nat} {h : Heap} {pc : Nat} {Ls : Array Slot} {z : Int32} {t : FieldType} {rest : List Value} (hret : meth.sig.returnType = some t) (ht : t = .boolean ∨ t = .byte ∨ t = .char ∨ t = .short)
    (hd : decode c.code pc = .ok (.ireturn, 1)) (hc : cells ≤ rc) (hs : slots ≤ rs) (eT : T.heap = h) (hQ : Q (some (.int (nar t z))) h locs) :
    own_Fin p e below s Q rc rs (T.setTop (mkF m pc Ls (.int z :: rest))) := by
  obtain ⟨fs, hr, hrun, hended, hW, hsame⟩ := X.leave (v := some (.int (nar t z))) (fun h => by rw [hret] at h; cases h) hlk
  refine ⟨_, _, retN X hx hret ht hd hr, hrun, hended, _, _, rfl, ?_, ⟨_, rfl⟩, hW, hsame.mono hc hs⟩
  show Q _ T.heap _
  rw [eT]
  exact hQ
theorem own_retJ (X : Stand p l e R s m args below meth c T locs cells slots) (hx : p.tables.exec = Jvm.exec) (hlk : meth.locks = false) {Q : Option Value → Heap → List Loc → Prop} {rc rs : Nat} {h : Heap} {pc : Nat} {Ls : Array Slot} {z : Int32} {rest : List Value} (hret : meth.sig.returnType = some .int)
    (hd : decode c.code pc = .ok (.ireturn, 1)) (hc : cells ≤ rc) (hs : slots ≤ rs) (eT : T.heap = h) (hQ : Q (some (.int z)) h locs) :
    own_Fin p e below s Q rc rs (T.setTop (mkF m pc Ls (.int z :: rest))) := by
  obtain ⟨fs, hr, hrun, hended, hW, hsame⟩ := X.leave (v := some (.int z)) (fun h => by rw [hret] at h; cases h) hlk
  refine ⟨_, _, retI X hx hret hd hr, hrun, hended, _, _, rfl, ?_, ⟨_, rfl⟩, hW, hsame.mono hc hs⟩
  show Q _ T.heap _
  rw [eT]
  exact hQ
end OwnHeap
/-- an array of n references to C at a: its i-th is g i -/
def own_RF (Z : State) (h : Heap) (a : Addr) (C : String) (n : Nat) (g : Nat → Value) : Prop := ∃ c : Cell, Arr Z h a c (.object C) ∧ Ovr Z c.cls C ∧ c.slots.size = n ∧ ∀ i, i < n → c.slots[i]? = some (g i)
theorem own_RF.lt {Z : State} {h : Heap} {a : Addr} {C : String} {n : Nat} {g : Nat → Value} (F : own_RF Z h a C n g) : a < h.size := by obtain ⟨c, A, -⟩ := F; exact A.lt
theorem own_RFext {Z : State} {h h' : Heap} {a : Addr} {C : String} {n : Nat} {g : Nat → Value} (F : own_RF Z h a C n g) (E : Ext h h') : own_RF Z h' a C n g := by obtain ⟨c, A, r⟩ := F; exact ⟨c, A.ext E, r⟩
theorem own_RFoth {Z : State} {h h' : Heap} {a b : Addr} {sl : Nat} {v : Value} {C : String} {n : Nat} {g : Nat → Value} (F : own_RF Z h b C n g) (W : Wr h h' a sl v) (q : b ≠ a) : own_RF Z h' b C n g := by obtain ⟨c, A, r⟩ := F; exact ⟨c, A.other W q, r⟩
theorem own_RFkeep {Z : State} {h h' : Heap} {a : Addr} {ws : List Addr} {C : String} {n : Nat} {g : Nat → Value} (F : own_RF Z h a C n g) (K : Keep h h' ws) (q : a ∉ ws) : own_RF Z h' a C n g := by obtain ⟨c, A, r⟩ := F; exact ⟨c, ⟨K.2.1 a c A.1 q, A.2⟩, r⟩
theorem own_RFset {Z : State} {h h' : Heap} {a : Addr} {C : String} {n k : Nat} {g : Nat → Value} {c : Cell} {x : Value} (A : Arr Z h a c (.object C)) (O : Ovr Z c.cls C) (S : c.slots.size = n) (H : ∀ i, i < n → c.slots[i]? = some (g i)) (W : Wr h h' a k x) : own_RF Z h' a C n (fun i => if i = k then x else g i) := by
  obtain ⟨c', e1, e2, e3, e4, e5, e6, e7⟩ := wr_at W A.1
  refine ⟨c', ⟨e1, ?_⟩, by rw [e2]; exact O, e4.trans S, fun i hi => ?_⟩
  · rw [(e7 rfl).1]; exact A.2
  · by_cases q : i = k
    · subst q
      show c'.slots[i]? = some (if i = i then x else g i)
      rw [if_pos rfl]
      exact (e7 rfl).2.1
    · show c'.slots[i]? = some (if i = k then x else g i)
      rw [e6 i q, if_neg q]
      exact H i hi
theorem own_RFnew {Z : State} {h : Heap} {a : Addr} {k : ClassId} {C : String} {z : Int32} {n : Nat} (A : Arr Z h a (newA k (.object C) z) (.object C)) (O : Ovr Z k C) (hn : z.toNatClampNeg = n) : own_RF Z h a C n (fun _ => .null) :=
  ⟨_, A, O, (sz_new _ _ _).trans hn, fun i hi => by
    have hs : (newA k (.object C) z).slots = Array.replicate z.toNatClampNeg .null := rfl
    rw [hs, hn]
    simp [hi]⟩
theorem own_InsK {Z : State} {h h' : Heap} {a : Addr} {C : String} {ws : List Addr} (F : Ins Z h a C true) (K : Keep h h' ws) : Ins Z h' a C true := by
  obtain ⟨cell, cT, h1, h2, h3⟩ := F
  obtain ⟨c', e1, e2, e3, -⟩ := K.2.2 _ _ h1
  exact ⟨c', cT, e1, h2, by rw [e2, e3]; exact h3⟩
theorem own_fld {Z : State} {h : Heap} {a : Addr} {C n d : String} {v w : Value} (F : Fld Z h a C n d v) (q : v = w) : Fld Z h a C n d w := q ▸ F
/-- System.arraycopy of ints, over own_AF -/
theorem own_arv {Z : State} {h : Heap} {a : Addr} {n : Nat} {g : Nat → Int32} (F : own_AF Z h a .int n g) (z : Int32) (hz : z.toNatClampNeg = n) (h0 : ¬ z < 0) : ∃ k, Arv Z h a k .int z ((List.range n).map fun i => Value.int (g i)) (.int 0) := by
  obtain ⟨c, A, S, H⟩ := F
  refine ⟨c.cls, c, A, rfl, S.trans hz.symm, h0, fun k hk => ?_, fun i hi => ?_⟩
  · rw [H k (by rw [← S]; exact hk)]
    rw [S] at hk
    simp [List.getD_eq_getElem?_getD, hk]
  · rw [S] at hi
    simp [List.getD_eq_getElem?_getD, hi, fits]
theorem own_ofarv {Z : State} {h : Heap} {a : Addr} {k : ClassId} {z : Int32} {vs : List Value} {d : Value} {n : Nat} {g : Nat → Int32} (F : Arv Z h a k .int z vs d) (hz : z.toNatClampNeg = n) (hg : ∀ i, i < n → vs.getD i d = .int (g i)) : own_AF Z h a .int n g := by
  obtain ⟨c, A, q, S, N, H, G⟩ := F
  exact ⟨c, A, S.trans hz, fun i hi => by rw [H i (by rw [S, hz]; exact hi), hg i hi]⟩
theorem own_lz : (0 : Int32).toInt = 0 := by decide
theorem own_i32 (n : Nat) (h : n < 2147483648) : (Int32.ofNat n).toNatClampNeg = n ∧ ¬ Int32.ofNat n < 0 := by
  have e : (Int32.ofNat n).toInt = n := Int32.toInt_ofNat_of_lt (by omega)
  have q : ¬ Int32.ofNat n < 0 := fun y => by have := Int32.lt_iff_toInt_lt.mp y; rw [own_lz] at this; omega
  have := nat_of q
  exact ⟨by omega, q⟩
theorem own_cp {p : Program} {l : Launch} {e : Env} {R : Room} {s : State} {m : MethodId} {args : Array Value} {below : List Frame} {meth : Method} {c : Code} {T : State} {locs : List Loc} {cells slots : Nat} {Z : State} {h : Heap} {a b : Addr}
    (X : Stand p l e R s m args below meth c T locs cells slots) (hx : p.tables.exec = Jvm.exec) (hZ : Z.Warmed39 s.vm) {a0 : Array Value} {own : String} {index : Nat} (hown : s.vm.findClass own = some m.cls)
    (w1 : (Cond.methodLink own index Jvm.Stand.acN).before a0 Z = true) (w2 : (Cond.native Jvm.Stand.acN).before a0 Z = true) (w3 : (Cond.static Jvm.Stand.acN).before a0 Z = true) (w4 : (Cond.initialized "java/lang/System").before a0 Z = true) (eT : T.heap = h)
    {n k : Nat} {ga gb : Nat → Int32} (A : own_AF Z h a .int n ga) (B : own_AF Z h b .int k gb) (hn : n < 2147483648) (hk : k < 2147483648) {dp nn : Int32} (h2 : ¬ dp < 0) (h3 : nn.toNatClampNeg ≤ n) (h3' : ¬ nn < 0) (h5 : dp.toNatClampNeg + nn.toNatClampNeg ≤ k)
    {n0 : Nat} (N : Fr n0 locs) (ge : n0 ≤ b) {g : JFrame} (hg : g.method = m) (hsize : g.locals.size = c.maxLocals) {rest : List Value} (hs : g.stack = .int nn :: .int dp :: .ref b :: .int 0 :: .ref a :: rest) (hd : decode c.code g.pc = .ok (.invokestatic index, 3))
    (hf : 1 ≤ R.frames) {W : Nat} (hW : 2 * g.monitorRoom + (rest.map fun v => v.category).sum ≤ W) (hlo : W + (nativeFrameWords "java/lang/System" "arraycopy" 5 + 11) ≤ R.locals) :
    ∃ T' h' L, Stand p l e R s m args below meth c T' L cells slots ∧ T'.heap = h' ∧ Fr n0 L ∧ Keep h h' [b] ∧ own_AF Z h' b .int k (fun i => if dp.toNatClampNeg ≤ i ∧ i < dp.toNatClampNeg + nn.toNatClampNeg then ga (i - dp.toNatClampNeg) else gb i) ∧
      ∀ target, Steps p.tables e below (T'.setTop { g with pc := g.pc + 3, stack := rest }) target → Steps p.tables e below (T.setTop g) target := by
  obtain ⟨z1, z1'⟩ := own_i32 n hn
  obtain ⟨z2, z2'⟩ := own_i32 k hk
  obtain ⟨k1, A'⟩ := own_arv A _ z1 z1'
  obtain ⟨k2, B'⟩ := own_arv B _ z2 z2'
  have z00 : (0 : Int32).toNatClampNeg = 0 := by decide
  obtain ⟨T', h', L, X', e', N', K', V', st⟩ := cpA X hx hZ hown w1 w2 w3 w4 eT A' B' (Or.inl ⟨rfl, rfl⟩) (sp := 0) (by decide) h2 h3' (by rw [z00, z1]; omega) (by rw [z2]; exact h5) rfl (by simp; exact h5) N ge hg hsize hs hd hf hW hlo
  refine ⟨T', h', L, X', e', N', K', own_ofarv V' z2 (fun i hi => ?_), st⟩
  rw [z00]
  simp only [List.getD_eq_getElem?_getD]
  have lt : (((List.range k).map fun i => Value.int (gb i)).take dp.toNatClampNeg).length = dp.toNatClampNeg := by simp; omega
  by_cases c1 : i < dp.toNatClampNeg
  · rw [if_neg (by omega), List.append_assoc, List.getElem?_append_left (by rw [lt]; exact c1), List.getElem?_take_of_lt c1]
    simp [hi]
  · by_cases c2 : i < dp.toNatClampNeg + nn.toNatClampNeg
    · rw [if_pos ⟨by omega, c2⟩, List.getElem?_append_left (by rw [List.length_append, lt]; simp; omega), List.getElem?_append_right (by rw [lt]; omega), lt]
      have c3 : i - dp.toNatClampNeg < nn.toNatClampNeg := by omega
      have c4 : i - dp.toNatClampNeg < n := by omega
      simp [c3, c4]
    · rw [if_neg (by omega), List.getElem?_append_right (by rw [List.length_append, lt]; simp; omega), List.length_append, lt, List.getElem?_drop]
      have c5 : dp.toNatClampNeg + nn.toNatClampNeg + (i - (dp.toNatClampNeg + nn.toNatClampNeg)) = i := by omega
      simp [c5, hi]

/-- the empty array that a list begins with -/
def own_D (Z : State) (D : Addr) : Prop := ∃ c : Cell, Arr Z Z.heap D c (.object "java/lang/Object") ∧ c.slots.size = 0
theorem own_ofD {Z : State} {D : Addr} {n0 : Nat} {h : Heap} (F : own_D Z D) (O : Old Z n0 h) : ∃ c : Cell, Arr Z h D c (.object "java/lang/Object") ∧ c.slots.size = 0 := by obtain ⟨c, A, r⟩ := F; exact ⟨c, A.ext O.2, r⟩
theorem d10_0 : decode jdk_29_method_65_code 0 = .ok (.iload_n 0, 1) := by decide +kernel
theorem d10_1 : decode jdk_29_method_65_code 1 = .ok (.iload_n 1, 1) := by decide +kernel
theorem d10_2 : decode jdk_29_method_65_code 2 = .ok (.if_icmp .lt 7, 3) := by decide +kernel
theorem d10_5 : decode jdk_29_method_65_code 5 = .ok (.iload_n 0, 1) := by decide +kernel
theorem d10_6 : decode jdk_29_method_65_code 6 = .ok (.goto 4, 3) := by decide +kernel
theorem d10_9 : decode jdk_29_method_65_code 9 = .ok (.iload_n 1, 1) := by decide +kernel
theorem d10_10 : decode jdk_29_method_65_code 10 = .ok (.ireturn, 1) := by decide +kernel
def f10_0 (i0 : Int32) (i1 : Int32) : Int32 := if i0 < i1 then i1 else i0
set_option maxRecDepth 65536 in
set_option maxHeartbeats 40000000 in
theorem b10_0 {p : Program} {l : Launch} {e : Env} {s : State} {m : MethodId} {args : Array Value} {below : List Frame} {meth : Method} {c : Code} {T : State} {locs : List Loc} {cells slots : Nat} {Z : State} {a0 : Array Value} {h : Heap} {n0 : Nat} {Q : Option Value → Heap → List Loc → Prop} (i0 : Int32) (i1 : Int32) (hw : ∀ d ∈ tables_1, d.before a0 Z = true) (X : Stand p l e ({ frames := 0, cells := 0, slots := 0, locals := 0 } : Room) s m args below meth c T locs cells slots) (hx : p.tables.exec = Jvm.exec) (hZ : Z.Warmed39 s.vm) (hby : c.code = jdk_29_method_65_code) (hml : c.maxLocals = 2) (hown : s.vm.findClass "java/lang/Math" = some m.cls) (hret : meth.sig.returnType = some .int) (hlk : meth.locks = false) (eT : T.heap = h) (N : Fr n0 locs) (hc : cells ≤ 0) (hs : slots ≤ 0) (v : Int32) (hv : v = f10_0 i0 i1) (hQ : ∀ L', Fr n0 L' → Q (some (.int v)) h L') :
    own_Fin p e below s Q 0 0 (T.setTop (mkF m 0 #[.val (.int i0), .val (.int i1)] [])) := by
  refine own_step (fun t k => XS.iloadN X.here hx rfl (hb hby d10_0) rfl  k) ?_
  show own_Fin p e below s Q 0 0 (T.setTop (mkF m 1 #[.val (.int i0), .val (.int i1)] [(.int i0)]))
  refine own_step (fun t k => XS.iloadN X.here hx rfl (hb hby d10_1) rfl  k) ?_
  show own_Fin p e below s Q 0 0 (T.setTop (mkF m 2 #[.val (.int i0), .val (.int i1)] [(.int i1), (.int i0)]))
  by_cases hB2_1 : i0 < i1
  · refine own_step (fun t k => XS.icmpYes X.here hx rfl (pc0 := 2) (pc' := 9) rfl (hb hby d10_2) rfl (tlt hB2_1).1 (by decide) (by decide) k) ?_
    have hvhB2_1 : v = i1 := hv.trans (if_pos hB2_1)
    show own_Fin p e below s Q 0 0 (T.setTop (mkF m 9 #[.val (.int i0), .val (.int i1)] []))
    refine own_step (fun t k => XS.iloadN X.here hx rfl (hb hby d10_9) rfl  k) ?_
    show own_Fin p e below s Q 0 0 (T.setTop (mkF m 10 #[.val (.int i0), .val (.int i1)] [(.int i1)]))
    exact own_retI X hx hlk hret (hb hby d10_10) (Nat.le_trans (Nat.add_le_add_right hc 0) (by decide)) (Nat.le_trans (Nat.add_le_add_right hs 0) (by decide)) eT N hQ (hvhB2_1)
  · refine own_step (fun t k => XS.icmpNo X.here hx rfl (hb hby d10_2) rfl (flt hB2_1).1 k) ?_
    have hvhB2_1 : v = i0 := hv.trans (if_neg hB2_1)
    show own_Fin p e below s Q 0 0 (T.setTop (mkF m 5 #[.val (.int i0), .val (.int i1)] []))
    refine own_step (fun t k => XS.iloadN X.here hx rfl (hb hby d10_5) rfl  k) ?_
    show own_Fin p e below s Q 0 0 (T.setTop (mkF m 6 #[.val (.int i0), .val (.int i1)] [(.int i0)]))
    refine own_step (fun t k => XS.goto X.here hx rfl (pc0 := 6) (pc' := 10) rfl (hb hby d10_6) (by decide) (by decide) k) ?_
    show own_Fin p e below s Q 0 0 (T.setTop (mkF m 10 #[.val (.int i0), .val (.int i1)] [(.int i0)]))
    exact own_retI X hx hlk hret (hb hby d10_10) (Nat.le_trans (Nat.add_le_add_right hc 0) (by decide)) (Nat.le_trans (Nat.add_le_add_right hs 0) (by decide)) eT N hQ (hvhB2_1)
theorem pdm_0 : parseMethodDescriptor "(II)I" = some ⟨[.int, .int], some .int⟩ := by decide +kernel
theorem ef_10 (m : MethodId) (i0 : Int32) (i1 : Int32) : entryFrame m #[(.int i0), (.int i1)] 2 = (mkF m 0 #[.val (.int i0), .val (.int i1)] []) := by first | (simp [entryFrame, mkF, argsToLocals, Value.category]; done) | rfl
def Q10 (i0 : Int32) (i1 : Int32) (h0 : Heap) (n0 : Nat) (v : Option Value) (h : Heap) (L : List Loc) : Prop := v = some (.int (f10_0 i0 i1)) ∧ Fr n0 L ∧ h = h0
set_option maxRecDepth 65536 in
set_option maxHeartbeats 4000000 in
theorem rm10 (l : Launch) (Z : State) (a0 : Array Value) (hw : ∀ d ∈ tables_1, d.before a0 Z = true) (ws : List Jvm.Cond) (i0 : Int32) (i1 : Int32) (h0 : Heap) (n0 : Nat) :
    MetFree l (⟨"java/lang/Math", "max", "(II)I"⟩ : MethodName) (head1 (Jvm.Cond.code (⟨"java/lang/Math", "max", "(II)I"⟩ : MethodName) jdk_29_method_65_code 2 (some .int) :: ws) ({ frames := 0, cells := 0, slots := 0, locals := 0 } : Room)) (fun a U => a = #[(.int i0), (.int i1)] ∧ Z.Warmed39 U.vm ∧ U.heap = h0) (fun _ _ _ _ _ => True) (fun _ U o U' => ∃ v L, o = .returned v ∧ Q10 i0 i1 h0 n0 v U'.heap L ∧ FrameEnd U o U' L ({ frames := 0, cells := 0, slots := 0, locals := 0 } : Room).cells ({ frames := 0, cells := 0, slots := 0, locals := 0 } : Room).slots) := by
  refine MetFree.of_bodySF (Jvm.Free.JP.mathPlain rfl (by decide +kernel)) hisR ?_
  intro p e s m args below meth c s₁ Bd hml0 hP hK
  obtain ⟨rfl, hZ, hh⟩ := hP
  have hx := Bd.exec
  have hby := Bd.bytes
  have hml : c.maxLocals = 2 := hml0
  have hown : s.vm.findClass "java/lang/Math" = some m.cls := findClass_of_methodNamed Bd.named
  have X0 : Stand p l e ({ frames := 0, cells := 0, slots := 0, locals := 0 } : Room) s m #[(.int i0), (.int i1)] below meth c s₁ [] 0 0 := Stand.of_body Bd
  have e0 : s₁.heap = h0 := by rw [← hh, Bd.state]; rfl
  have fin := b10_0 i0 i1 (Q := Q10 i0 i1 h0 n0) hw X0 hx hZ hby hml hown Bd.returns (BodyLoose.notSynchronized Bd) e0 (Fr.nil n0) (Nat.zero_le _) (Nat.zero_le _) _ rfl (fun L' n' => ⟨rfl, n', rfl⟩)
  exact own_step (fun t k => castTop (ef_10 m i0 i1) k) fin
theorem d3_0 : decode jdk_22_method_1_code 0 = .ok (.aload_n 0, 1) := by decide +kernel
theorem d3_1 : decode jdk_22_method_1_code 1 = .ok (.invokespecial 1, 3) := by decide +kernel
theorem d3_4 : decode jdk_22_method_1_code 4 = .ok (.return_, 1) := by decide +kernel
set_option maxRecDepth 65536 in
set_option maxHeartbeats 40000000 in
theorem b3_0 {p : Program} {l : Launch} {e : Env} {s : State} {m : MethodId} {args : Array Value} {below : List Frame} {meth : Method} {c : Code} {T : State} {locs : List Loc} {cells slots : Nat} {Z : State} {a0 : Array Value} {h : Heap} {n0 : Nat} {Q : Option Value → Heap → List Loc → Prop} (o0 : Addr) (hw : ∀ d ∈ tables_1, d.before a0 Z = true) (X : Stand p l e ({ frames := 1, cells := 0, slots := 0, locals := 12 } : Room) s m args below meth c T locs cells slots) (hx : p.tables.exec = Jvm.exec) (hZ : Z.Warmed39 s.vm) (hby : c.code = jdk_22_method_1_code) (hml : c.maxLocals = 1) (hown : s.vm.findClass "java/util/AbstractCollection" = some m.cls) (hret : meth.sig.returnType = none) (hlk : meth.locks = false) (eT : T.heap = h) (N : Fr n0 locs) (hc : cells ≤ 0) (hs : slots ≤ 0) (hQ : ∀ (H' : Heap) (L' : List Loc), Fr n0 L' → H' = h → Q none H' L') :
    own_Fin p e below s Q 0 0 (T.setTop (mkF m 0 #[.val (.ref o0)] [])) := by
  refine own_step (fun t k => XS.aloadN X.here hx rfl (hb hby d3_0) rfl rfl k) ?_
  show own_Fin p e below s Q 0 0 (T.setTop (mkF m 1 #[.val (.ref o0)] [(.ref o0)]))
  obtain ⟨T4, X4, e4, st4⟩ := initO X hx hZ hown (hw _ (List.mem_of_getElem? (i := 18) rfl)) (hw _ (List.mem_of_getElem? (i := 19) rfl)) (hw _ (List.mem_of_getElem? (i := 20) rfl)) eT (g := (mkF m 1 #[.val (.ref o0)] [(.ref o0)])) rfl (by rw [hml]; rfl) rfl (hb hby d3_1) (by decide) (W := 0) (by show 2 * 0 + _ ≤ _; exact Nat.le_of_eq rfl) (by decide)
  refine own_step st4 ?_
  show own_Fin p e below s Q 0 0 (T4.setTop (mkF m 4 #[.val (.ref o0)] []))
  refine own_ret0 X4 hx hlk hret (hb hby d3_4) (Nat.le_trans (Nat.add_le_add_right hc 0) (by decide)) (Nat.le_trans (Nat.add_le_add_right hs 0) (by decide)) e4 ?_
  exact hQ _ _ N rfl
theorem pnm_0 : plainName "java/util/AbstractCollection" = true := by first | (simp [plainName, overriddenIn]; done) | decide +kernel
theorem pdm_1 : parseMethodDescriptor "()V" = some ⟨[], none⟩ := by decide +kernel
theorem ef_3 (m : MethodId) (o0 : Addr) : entryFrame m #[(.ref o0)] 1 = (mkF m 0 #[.val (.ref o0)] []) := by first | (simp [entryFrame, mkF, argsToLocals, Value.category]; done) | rfl
def Q3 (Z : State) (o0 : Addr) (h0 : Heap) (n0 : Nat) (v : Option Value) (h : Heap) (L : List Loc) : Prop := v = none ∧ Fr n0 L ∧ h = h0
set_option maxRecDepth 65536 in
set_option maxHeartbeats 4000000 in
theorem rm3 (l : Launch) (Z : State) (a0 : Array Value) (hw : ∀ d ∈ tables_1, d.before a0 Z = true) (ws : List Jvm.Cond) (o0 : Addr) (h0 : Heap) (n0 : Nat) :
    MetFree l (⟨"java/util/AbstractCollection", "<init>", "()V"⟩ : MethodName) (head1 (Jvm.Cond.code (⟨"java/util/AbstractCollection", "<init>", "()V"⟩ : MethodName) jdk_22_method_1_code 1 none :: ws) ({ frames := 1, cells := 0, slots := 0, locals := 12 } : Room)) (fun a U => a = #[(.ref o0)] ∧ Z.Warmed39 U.vm ∧ U.heap = h0) (fun _ _ _ _ _ => True) (fun _ U o U' => ∃ v L, o = .returned v ∧ Q3 Z o0 h0 n0 v U'.heap L ∧ FrameEnd U o U' L ({ frames := 1, cells := 0, slots := 0, locals := 12 } : Room).cells ({ frames := 1, cells := 0, slots := 0, locals := 12 } : Room).slots) := by
  refine MetFree.of_bodySF (plainFor_of_name pnm_0) hisR ?_
  intro p e s m args below meth c s₁ Bd hml0 hP hK
  obtain ⟨rfl, hZ, hh⟩ := hP
  have hx := Bd.exec
  have hby := Bd.bytes
  have hml : c.maxLocals = 1 := hml0
  have hown : s.vm.findClass "java/util/AbstractCollection" = some m.cls := findClass_of_methodNamed Bd.named
  have X0 : Stand p l e ({ frames := 1, cells := 0, slots := 0, locals := 12 } : Room) s m #[(.ref o0)] below meth c s₁ [] 0 0 := Stand.of_body Bd
  have e0 : s₁.heap = h0 := by rw [← hh, Bd.state]; rfl
  have fin := b3_0 o0 (Q := Q3 Z o0 h0 n0) hw X0 hx hZ hby hml hown Bd.returns (BodyLoose.notSynchronized Bd) e0 (Fr.nil n0) (Nat.zero_le _) (Nat.zero_le _) (fun H' L' n' k' => ⟨rfl, n', k'⟩)
  exact own_step (fun t k => castTop (ef_3 m o0) k) fin
theorem d2_0 : decode jdk_39_method_1_code 0 = .ok (.aload_n 0, 1) := by decide +kernel
theorem d2_1 : decode jdk_39_method_1_code 1 = .ok (.invokespecial 1, 3) := by decide +kernel
theorem d2_4 : decode jdk_39_method_1_code 4 = .ok (.aload_n 0, 1) := by decide +kernel
theorem d2_5 : decode jdk_39_method_1_code 5 = .ok (.iconst 0, 1) := by decide +kernel
theorem d2_6 : decode jdk_39_method_1_code 6 = .ok (.putfield 7, 3) := by decide +kernel
theorem d2_9 : decode jdk_39_method_1_code 9 = .ok (.return_, 1) := by decide +kernel
set_option maxRecDepth 65536 in
set_option maxHeartbeats 40000000 in
theorem b2_0 {p : Program} {l : Launch} {e : Env} {s : State} {m : MethodId} {args : Array Value} {below : List Frame} {meth : Method} {c : Code} {T : State} {locs : List Loc} {cells slots : Nat} {Z : State} {a0 : Array Value} {h : Heap} {n0 : Nat} {Q : Option Value → Heap → List Loc → Prop} (o0 : Addr) (um : Value) (ue : Value) (us : Value) (hw : ∀ d ∈ tables_1, d.before a0 Z = true) (X : Stand p l e ({ frames := 2, cells := 0, slots := 0, locals := 24 } : Room) s m args below meth c T locs cells slots) (hx : p.tables.exec = Jvm.exec) (hZ : Z.Warmed39 s.vm) (hby : c.code = jdk_39_method_1_code) (hml : c.maxLocals = 1) (hown : s.vm.findClass "java/util/AbstractList" = some m.cls) (hret : meth.sig.returnType = none) (hlk : meth.locks = false) (eT : T.heap = h) (N : Fr n0 locs) (hc : cells ≤ 0) (hs : slots ≤ 0) (Z0 : n0 ≤ h.size) (fr0 : n0 ≤ o0) (E0 : Exa Z h o0 "java/util/ArrayList") (Fm : Fld Z h o0 "java/util/AbstractList" "modCount" "I" um) (Fe : Fld Z h o0 "java/util/ArrayList" "elementData" "[Ljava/lang/Object;" ue) (Fs : Fld Z h o0 "java/util/ArrayList" "size" "I" us) (hQ : ∀ (H' : Heap) (L' : List Loc), Fr n0 L' → Keep h H' [o0] → (Exa Z H' o0 "java/util/ArrayList") → (Fld Z H' o0 "java/util/AbstractList" "modCount" "I" (.int 0)) → (Fld Z H' o0 "java/util/ArrayList" "elementData" "[Ljava/lang/Object;" ue) → (Fld Z H' o0 "java/util/ArrayList" "size" "I" us) → Q none H' L') :
    own_Fin p e below s Q 0 0 (T.setTop (mkF m 0 #[.val (.ref o0)] [])) := by
  refine own_step (fun t k => XS.aloadN X.here hx rfl (hb hby d2_0) rfl rfl k) ?_
  show own_Fin p e below s Q 0 0 (T.setTop (mkF m 1 #[.val (.ref o0)] [(.ref o0)]))
  obtain ⟨_, _, ⟨T5, L5, k5, n5⟩, -, X5, ⟨Lc5, hQ5, l5, y5, z5⟩, st5⟩ := X.specialBack hx (y := (⟨"java/util/AbstractCollection", "<init>", "()V"⟩ : MethodName)) rfl hown (mvT hZ (hw _ (List.mem_of_getElem? (i := 12) rfl))) (mvT hZ (hw _ (List.mem_of_getElem? (i := 13) rfl))) (mvT hZ (hw _ (List.mem_of_getElem? (i := 17) rfl))) (by decide) (backOf (W := 0) (rm3 l Z a0 hw [] o0 h n0) hZ (hw _ (List.mem_of_getElem? (i := 17) rfl)) (hw _ (List.mem_of_getElem? (i := 16) rfl)) (by decide) (by decide)) (g := (mkF m 1 #[.val (.ref o0)] [(.ref o0)])) rfl (by rw [hml]; rfl) (Steps.refl _) (a := o0) (argsL := []) (rest := []) (lenOf pdm_1 rfl) rfl (by show 2 * 0 + _ ≤ _; exact Nat.le_of_eq rfl) (hb hby d2_1) (fun _ _ => ⟨rfl, eT, (show cells + 0 ≤ 0 from (Nat.le_trans (Nat.add_le_add_right hc 0) (by decide))), (show slots + 0 ≤ 0 from (Nat.le_trans (Nat.add_le_add_right hs 0) (by decide)))⟩)
  dsimp only [Pt.U, Pt.locs, Pt.cells, Pt.slots] at X5 l5 y5 z5 st5 hQ5
  have yy5 : k5 = cells + 0 := y5
  have zz5 : n5 = slots + 0 := z5
  rw [yy5, zz5, l5] at X5
  obtain ⟨rfl, N5q, e5⟩ := hQ5
  have N5 := Fr.app N N5q
  refine own_step (fun t k => st5.trans k) ?_
  show own_Fin p e below s Q 0 0 (T5.setTop (mkF m 4 #[.val (.ref o0)] []))
  refine own_step (fun t k => XS.aloadN X5.here hx rfl (hb hby d2_4) rfl rfl k) ?_
  show own_Fin p e below s Q 0 0 (T5.setTop (mkF m 5 #[.val (.ref o0)] [(.ref o0)]))
  refine own_step (fun t k => XS.iconst X5.here hx rfl (hb hby d2_5) k) ?_
  show own_Fin p e below s Q 0 0 (T5.setTop (mkF m 6 #[.val (.ref o0)] [(.int (0 : Int32)), (.ref o0)]))
  obtain ⟨T6, h6, X6, e6, W6, st6⟩ := putF X5 hx hZ hown (host := "") (Or.inl (hw _ (List.mem_of_getElem? (i := 21) rfl))) Via.refl e5 Fm E0 (Or.inl (hw _ (List.mem_of_getElem? (i := 22) rfl))) (hw _ (List.mem_of_getElem? (i := 1) rfl)) (ty := .int) (by decide) rfl rfl (g := (mkF m 6 #[.val (.ref o0)] [(.int (0 : Int32)), (.ref o0)])) rfl rfl (hb hby d2_6)
  have N6 := Fr.snoc X6 N5 fr0
  have Z06 : n0 ≤ h6.size := Nat.le_trans Z0 (Nat.le_of_eq W6.size.symm)
  have K6 : Keep h h6 [o0] := (Keep.refl h [o0]).wr W6 (Or.inl (List.mem_of_getElem? (i := 0) rfl))
  have Ex6_o0 := E0.wr W6
  have F6_o0_modCount := Fm.same W6
  have F6_o0_elementData := Fe.other W6 (Or.inr (slot_ne (Or.inl (hw _ (List.mem_of_getElem? (i := 25) rfl))) (Or.inl (hw _ (List.mem_of_getElem? (i := 22) rfl))) (by decide) (t := (.array (.object "java/lang/Object"))) (t' := .int) (by decide) (by decide)))
  have F6_o0_size := Fs.other W6 (Or.inr (slot_ne (Or.inl (hw _ (List.mem_of_getElem? (i := 43) rfl))) (Or.inl (hw _ (List.mem_of_getElem? (i := 22) rfl))) (by decide) (t := .int) (t' := .int) (by decide) (by decide)))
  refine own_step st6 ?_
  show own_Fin p e below s Q 0 0 (T6.setTop (mkF m 9 #[.val (.ref o0)] []))
  refine own_ret0 X6 hx hlk hret (hb hby d2_9) (Nat.le_trans (Nat.add_le_add_right hc 0) (by decide)) (Nat.le_trans (Nat.add_le_add_right hs 0) (by decide)) e6 ?_
  exact hQ _ _ N6 K6 Ex6_o0 F6_o0_modCount F6_o0_elementData F6_o0_size
theorem pnm_1 : plainName "java/util/AbstractList" = true := by first | (simp [plainName, overriddenIn]; done) | decide +kernel
theorem ef_2 (m : MethodId) (o0 : Addr) : entryFrame m #[(.ref o0)] 1 = (mkF m 0 #[.val (.ref o0)] []) := by first | (simp [entryFrame, mkF, argsToLocals, Value.category]; done) | rfl
def Q2 (Z : State) (o0 : Addr) (um : Value) (ue : Value) (us : Value) (h0 : Heap) (n0 : Nat) (v : Option Value) (h : Heap) (L : List Loc) : Prop := v = none ∧ Fr n0 L ∧ Keep h0 h [o0] ∧ (Exa Z h o0 "java/util/ArrayList") ∧ (Fld Z h o0 "java/util/AbstractList" "modCount" "I" (.int 0)) ∧ (Fld Z h o0 "java/util/ArrayList" "elementData" "[Ljava/lang/Object;" ue) ∧ (Fld Z h o0 "java/util/ArrayList" "size" "I" us)
set_option maxRecDepth 65536 in
set_option maxHeartbeats 4000000 in
theorem rm2 (l : Launch) (Z : State) (a0 : Array Value) (hw : ∀ d ∈ tables_1, d.before a0 Z = true) (ws : List Jvm.Cond) (o0 : Addr) (um : Value) (ue : Value) (us : Value) (h0 : Heap) (n0 : Nat) (Z0 : n0 ≤ h0.size) (fr0 : n0 ≤ o0) (E0 : Exa Z h0 o0 "java/util/ArrayList") (Fm : Fld Z h0 o0 "java/util/AbstractList" "modCount" "I" um) (Fe : Fld Z h0 o0 "java/util/ArrayList" "elementData" "[Ljava/lang/Object;" ue) (Fs : Fld Z h0 o0 "java/util/ArrayList" "size" "I" us) :
    MetFree l (⟨"java/util/AbstractList", "<init>", "()V"⟩ : MethodName) (head1 (Jvm.Cond.code (⟨"java/util/AbstractList", "<init>", "()V"⟩ : MethodName) jdk_39_method_1_code 1 none :: ws) ({ frames := 2, cells := 0, slots := 0, locals := 24 } : Room)) (fun a U => a = #[(.ref o0)] ∧ Z.Warmed39 U.vm ∧ U.heap = h0) (fun _ _ _ _ _ => True) (fun _ U o U' => ∃ v L, o = .returned v ∧ Q2 Z o0 um ue us h0 n0 v U'.heap L ∧ FrameEnd U o U' L ({ frames := 2, cells := 0, slots := 0, locals := 24 } : Room).cells ({ frames := 2, cells := 0, slots := 0, locals := 24 } : Room).slots) := by
  refine MetFree.of_bodySF (plainFor_of_name pnm_1) hisR ?_
  intro p e s m args below meth c s₁ Bd hml0 hP hK
  obtain ⟨rfl, hZ, hh⟩ := hP
  have hx := Bd.exec
  have hby := Bd.bytes
  have hml : c.maxLocals = 1 := hml0
  have hown : s.vm.findClass "java/util/AbstractList" = some m.cls := findClass_of_methodNamed Bd.named
  have X0 : Stand p l e ({ frames := 2, cells := 0, slots := 0, locals := 24 } : Room) s m #[(.ref o0)] below meth c s₁ [] 0 0 := Stand.of_body Bd
  have e0 : s₁.heap = h0 := by rw [← hh, Bd.state]; rfl
  have fin := b2_0 o0 um ue us (Q := Q2 Z o0 um ue us h0 n0) hw X0 hx hZ hby hml hown Bd.returns (BodyLoose.notSynchronized Bd) e0 (Fr.nil n0) (Nat.zero_le _) (Nat.zero_le _) Z0 fr0 E0 Fm Fe Fs (fun H' L' n' k' r0 r1 r2 r3 => ⟨rfl, n', k', r0, r1, r2, r3⟩)
  exact own_step (fun t k => castTop (ef_2 m o0) k) fin
theorem d1_0 : decode jdk_38_method_2_code 0 = .ok (.aload_n 0, 1) := by decide +kernel
theorem d1_1 : decode jdk_38_method_2_code 1 = .ok (.invokespecial 1, 3) := by decide +kernel
theorem d1_4 : decode jdk_38_method_2_code 4 = .ok (.aload_n 0, 1) := by decide +kernel
theorem d1_5 : decode jdk_38_method_2_code 5 = .ok (.getstatic 39, 3) := by decide +kernel
theorem d1_8 : decode jdk_38_method_2_code 8 = .ok (.putfield 9, 3) := by decide +kernel
theorem d1_11 : decode jdk_38_method_2_code 11 = .ok (.return_, 1) := by decide +kernel
set_option maxRecDepth 65536 in
set_option maxHeartbeats 40000000 in
theorem b1_0 {p : Program} {l : Launch} {e : Env} {s : State} {m : MethodId} {args : Array Value} {below : List Frame} {meth : Method} {c : Code} {T : State} {locs : List Loc} {cells slots : Nat} {Z : State} {a0 : Array Value} {h : Heap} {n0 : Nat} {Q : Option Value → Heap → List Loc → Prop} (o0 : Addr) (um : Value) (ue : Value) (us : Value) (D : Addr) (hw : ∀ d ∈ tables_1, d.before a0 Z = true) (X : Stand p l e ({ frames := 3, cells := 0, slots := 0, locals := 36 } : Room) s m args below meth c T locs cells slots) (hx : p.tables.exec = Jvm.exec) (hZ : Z.Warmed39 s.vm) (hby : c.code = jdk_38_method_2_code) (hml : c.maxLocals = 1) (hown : s.vm.findClass "java/util/ArrayList" = some m.cls) (hret : meth.sig.returnType = none) (hlk : meth.locks = false) (eT : T.heap = h) (N : Fr n0 locs) (hc : cells ≤ 0) (hs : slots ≤ 0) (Z0 : n0 ≤ h.size) (fr0 : n0 ≤ o0) (hO : Old Z n0 h) (S0 : Sta Z Z.heap "java/util/ArrayList" "DEFAULTCAPACITY_EMPTY_ELEMENTDATA" "[Ljava/lang/Object;" (.ref D)) (E0 : Exa Z h o0 "java/util/ArrayList") (Fm : Fld Z h o0 "java/util/AbstractList" "modCount" "I" um) (Fe : Fld Z h o0 "java/util/ArrayList" "elementData" "[Ljava/lang/Object;" ue) (Fs : Fld Z h o0 "java/util/ArrayList" "size" "I" us) (hQ : ∀ (H' : Heap) (L' : List Loc), Fr n0 L' → Keep h H' [o0] → (Exa Z H' o0 "java/util/ArrayList") → (Fld Z H' o0 "java/util/AbstractList" "modCount" "I" (.int 0)) → (Fld Z H' o0 "java/util/ArrayList" "elementData" "[Ljava/lang/Object;" (.ref D)) → (Fld Z H' o0 "java/util/ArrayList" "size" "I" us) → Q none H' L') :
    own_Fin p e below s Q 0 0 (T.setTop (mkF m 0 #[.val (.ref o0)] [])) := by
  refine own_step (fun t k => XS.aloadN X.here hx rfl (hb hby d1_0) rfl rfl k) ?_
  show own_Fin p e below s Q 0 0 (T.setTop (mkF m 1 #[.val (.ref o0)] [(.ref o0)]))
  obtain ⟨_, _, ⟨T7, L7, k7, n7⟩, -, X7, ⟨Lc7, hQ7, l7, y7, z7⟩, st7⟩ := X.specialBack hx (y := (⟨"java/util/AbstractList", "<init>", "()V"⟩ : MethodName)) rfl hown (mvT hZ (hw _ (List.mem_of_getElem? (i := 6) rfl))) (mvT hZ (hw _ (List.mem_of_getElem? (i := 7) rfl))) (mvT hZ (hw _ (List.mem_of_getElem? (i := 11) rfl))) (by decide) (backOf (W := 0) (rm2 l Z a0 hw [] o0 um ue us h n0 Z0 fr0 E0 Fm Fe Fs) hZ (hw _ (List.mem_of_getElem? (i := 11) rfl)) (hw _ (List.mem_of_getElem? (i := 10) rfl)) (by decide) (by decide)) (g := (mkF m 1 #[.val (.ref o0)] [(.ref o0)])) rfl (by rw [hml]; rfl) (Steps.refl _) (a := o0) (argsL := []) (rest := []) (lenOf pdm_1 rfl) rfl (by show 2 * 0 + _ ≤ _; exact Nat.le_of_eq rfl) (hb hby d1_1) (fun _ _ => ⟨rfl, eT, (show cells + 0 ≤ 0 from (Nat.le_trans (Nat.add_le_add_right hc 0) (by decide))), (show slots + 0 ≤ 0 from (Nat.le_trans (Nat.add_le_add_right hs 0) (by decide)))⟩)
  dsimp only [Pt.U, Pt.locs, Pt.cells, Pt.slots] at X7 l7 y7 z7 st7 hQ7
  have yy7 : k7 = cells + 0 := y7
  have zz7 : n7 = slots + 0 := z7
  rw [yy7, zz7, l7] at X7
  obtain ⟨rfl, N7q, K7, r0_7, r1_7, r2_7, r3_7⟩ := hQ7
  have N7 := Fr.app N N7q
  have Z07 : n0 ≤ T7.heap.size := Nat.le_trans Z0 K7.1
  have O7 := hO.keep K7 (allS fr0 all0)
  have KK7 : Keep h T7.heap [o0] := (Keep.refl h [o0]).trans K7 (allS (Or.inl (List.mem_of_getElem? (i := 0) rfl)) all0)
  refine own_step (fun t k => st7.trans k) ?_
  show own_Fin p e below s Q 0 0 (T7.setTop (mkF m 4 #[.val (.ref o0)] []))
  refine own_step (fun t k => XS.aloadN X7.here hx rfl (hb hby d1_4) rfl rfl k) ?_
  show own_Fin p e below s Q 0 0 (T7.setTop (mkF m 5 #[.val (.ref o0)] [(.ref o0)]))
  obtain ⟨T8, X8, e8, st8⟩ := getS2 X7 hx hZ hown (host := "") (Or.inl (hw _ (List.mem_of_getElem? (i := 23) rfl))) Via.refl rfl (S0.ext O7.2) (g := (mkF m 5 #[.val (.ref o0)] [(.ref o0)])) rfl (hb hby d1_5)
  refine own_step st8 ?_
  show own_Fin p e below s Q 0 0 (T8.setTop (mkF m 8 #[.val (.ref o0)] [(.ref D), (.ref o0)]))
  obtain ⟨T9, h9, X9, e9, W9, st9⟩ := putF X8 hx hZ hown (host := "") (Or.inl (hw _ (List.mem_of_getElem? (i := 24) rfl))) Via.refl e8 r2_7 r0_7 (Or.inl (hw _ (List.mem_of_getElem? (i := 25) rfl))) (hw _ (List.mem_of_getElem? (i := 1) rfl)) (ty := (.array (.object "java/lang/Object"))) (by decide) rfl rfl (g := (mkF m 8 #[.val (.ref o0)] [(.ref D), (.ref o0)])) rfl rfl (hb hby d1_8)
  have N9 := Fr.snoc X9 N7 fr0
  have Z09 : n0 ≤ h9.size := Nat.le_trans Z07 (Nat.le_of_eq W9.size.symm)
  have O9 := O7.wr W9 fr0
  have K9 : Keep h h9 [o0] := KK7.wr W9 (Or.inl (List.mem_of_getElem? (i := 0) rfl))
  have Ex9_o0 := r0_7.wr W9
  have F9_o0_modCount := r1_7.other W9 (Or.inr (slot_ne (Or.inl (hw _ (List.mem_of_getElem? (i := 22) rfl))) (Or.inl (hw _ (List.mem_of_getElem? (i := 25) rfl))) (by decide) (t := .int) (t' := (.array (.object "java/lang/Object"))) (by decide) (by decide)))
  have F9_o0_elementData := r2_7.same W9
  have F9_o0_size := r3_7.other W9 (Or.inr (slot_ne (Or.inl (hw _ (List.mem_of_getElem? (i := 43) rfl))) (Or.inl (hw _ (List.mem_of_getElem? (i := 25) rfl))) (by decide) (t := .int) (t' := (.array (.object "java/lang/Object"))) (by decide) (by decide)))
  refine own_step st9 ?_
  show own_Fin p e below s Q 0 0 (T9.setTop (mkF m 11 #[.val (.ref o0)] []))
  refine own_ret0 X9 hx hlk hret (hb hby d1_11) (Nat.le_trans (Nat.add_le_add_right hc 0) (by decide)) (Nat.le_trans (Nat.add_le_add_right hs 0) (by decide)) e9 ?_
  exact hQ _ _ N9 K9 Ex9_o0 F9_o0_modCount F9_o0_elementData F9_o0_size
theorem pnm_2 : plainName "java/util/ArrayList" = true := by first | (simp [plainName, overriddenIn]; done) | decide +kernel
theorem ef_1 (m : MethodId) (o0 : Addr) : entryFrame m #[(.ref o0)] 1 = (mkF m 0 #[.val (.ref o0)] []) := by first | (simp [entryFrame, mkF, argsToLocals, Value.category]; done) | rfl
def Q1 (Z : State) (o0 : Addr) (um : Value) (ue : Value) (us : Value) (D : Addr) (h0 : Heap) (n0 : Nat) (v : Option Value) (h : Heap) (L : List Loc) : Prop := v = none ∧ Fr n0 L ∧ Keep h0 h [o0] ∧ (Exa Z h o0 "java/util/ArrayList") ∧ (Fld Z h o0 "java/util/AbstractList" "modCount" "I" (.int 0)) ∧ (Fld Z h o0 "java/util/ArrayList" "elementData" "[Ljava/lang/Object;" (.ref D)) ∧ (Fld Z h o0 "java/util/ArrayList" "size" "I" us)
set_option maxRecDepth 65536 in
set_option maxHeartbeats 4000000 in
theorem rm1 (l : Launch) (Z : State) (a0 : Array Value) (hw : ∀ d ∈ tables_1, d.before a0 Z = true) (ws : List Jvm.Cond) (o0 : Addr) (um : Value) (ue : Value) (us : Value) (D : Addr) (h0 : Heap) (n0 : Nat) (Z0 : n0 ≤ h0.size) (fr0 : n0 ≤ o0) (hO : Old Z n0 h0) (S0 : Sta Z Z.heap "java/util/ArrayList" "DEFAULTCAPACITY_EMPTY_ELEMENTDATA" "[Ljava/lang/Object;" (.ref D)) (E0 : Exa Z h0 o0 "java/util/ArrayList") (Fm : Fld Z h0 o0 "java/util/AbstractList" "modCount" "I" um) (Fe : Fld Z h0 o0 "java/util/ArrayList" "elementData" "[Ljava/lang/Object;" ue) (Fs : Fld Z h0 o0 "java/util/ArrayList" "size" "I" us) :
    MetFree l (⟨"java/util/ArrayList", "<init>", "()V"⟩ : MethodName) (head1 (Jvm.Cond.code (⟨"java/util/ArrayList", "<init>", "()V"⟩ : MethodName) jdk_38_method_2_code 1 none :: ws) ({ frames := 3, cells := 0, slots := 0, locals := 36 } : Room)) (fun a U => a = #[(.ref o0)] ∧ Z.Warmed39 U.vm ∧ U.heap = h0) (fun _ _ _ _ _ => True) (fun _ U o U' => ∃ v L, o = .returned v ∧ Q1 Z o0 um ue us D h0 n0 v U'.heap L ∧ FrameEnd U o U' L ({ frames := 3, cells := 0, slots := 0, locals := 36 } : Room).cells ({ frames := 3, cells := 0, slots := 0, locals := 36 } : Room).slots) := by
  refine MetFree.of_bodySF (plainFor_of_name pnm_2) hisR ?_
  intro p e s m args below meth c s₁ Bd hml0 hP hK
  obtain ⟨rfl, hZ, hh⟩ := hP
  have hx := Bd.exec
  have hby := Bd.bytes
  have hml : c.maxLocals = 1 := hml0
  have hown : s.vm.findClass "java/util/ArrayList" = some m.cls := findClass_of_methodNamed Bd.named
  have X0 : Stand p l e ({ frames := 3, cells := 0, slots := 0, locals := 36 } : Room) s m #[(.ref o0)] below meth c s₁ [] 0 0 := Stand.of_body Bd
  have e0 : s₁.heap = h0 := by rw [← hh, Bd.state]; rfl
  have fin := b1_0 o0 um ue us D (Q := Q1 Z o0 um ue us D h0 n0) hw X0 hx hZ hby hml hown Bd.returns (BodyLoose.notSynchronized Bd) e0 (Fr.nil n0) (Nat.zero_le _) (Nat.zero_le _) Z0 fr0 hO S0 E0 Fm Fe Fs (fun H' L' n' k' r0 r1 r2 r3 => ⟨rfl, n', k', r0, r1, r2, r3⟩)
  exact own_step (fun t k => castTop (ef_1 m o0) k) fin
theorem d9_0 : decode jdk_38_method_6_code 0 = .ok (.aload_n 0, 1) := by decide +kernel
theorem d9_1 : decode jdk_38_method_6_code 1 = .ok (.getfield 9, 3) := by decide +kernel
theorem d9_4 : decode jdk_38_method_6_code 4 = .ok (.arraylength, 1) := by decide +kernel
theorem d9_5 : decode jdk_38_method_6_code 5 = .ok (.istore_n 2, 1) := by decide +kernel
theorem d9_6 : decode jdk_38_method_6_code 6 = .ok (.iload_n 2, 1) := by decide +kernel
theorem d9_7 : decode jdk_38_method_6_code 7 = .ok (.ifCond .gt 13, 3) := by decide +kernel
theorem d9_10 : decode jdk_38_method_6_code 10 = .ok (.aload_n 0, 1) := by decide +kernel
theorem d9_11 : decode jdk_38_method_6_code 11 = .ok (.getfield 9, 3) := by decide +kernel
theorem d9_14 : decode jdk_38_method_6_code 14 = .ok (.getstatic 39, 3) := by decide +kernel
theorem d9_17 : decode jdk_38_method_6_code 17 = .ok (.if_acmp .eq 28, 3) := by decide +kernel
theorem d9_20 : decode jdk_38_method_6_code 20 = .ok (.iload_n 2, 1) := by decide +kernel
theorem d9_21 : decode jdk_38_method_6_code 21 = .ok (.iload_n 1, 1) := by decide +kernel
theorem d9_22 : decode jdk_38_method_6_code 22 = .ok (.iload_n 2, 1) := by decide +kernel
theorem d9_23 : decode jdk_38_method_6_code 23 = .ok (.isub, 1) := by decide +kernel
theorem d9_24 : decode jdk_38_method_6_code 24 = .ok (.iload_n 2, 1) := by decide +kernel
theorem d9_25 : decode jdk_38_method_6_code 25 = .ok (.iconst 1, 1) := by decide +kernel
theorem d9_26 : decode jdk_38_method_6_code 26 = .ok (.ishr, 1) := by decide +kernel
theorem d9_27 : decode jdk_38_method_6_code 27 = .ok (.invokestatic 73, 3) := by decide +kernel
theorem d9_30 : decode jdk_38_method_6_code 30 = .ok (.istore_n 3, 1) := by decide +kernel
theorem d9_31 : decode jdk_38_method_6_code 31 = .ok (.aload_n 0, 1) := by decide +kernel
theorem d9_32 : decode jdk_38_method_6_code 32 = .ok (.aload_n 0, 1) := by decide +kernel
theorem d9_33 : decode jdk_38_method_6_code 33 = .ok (.getfield 9, 3) := by decide +kernel
theorem d9_36 : decode jdk_38_method_6_code 36 = .ok (.iload_n 3, 1) := by decide +kernel
theorem d9_37 : decode jdk_38_method_6_code 37 = .ok (.invokestatic 66, 3) := by decide +kernel
theorem d9_40 : decode jdk_38_method_6_code 40 = .ok (.dup_x1, 1) := by decide +kernel
theorem d9_41 : decode jdk_38_method_6_code 41 = .ok (.putfield 9, 3) := by decide +kernel
theorem d9_44 : decode jdk_38_method_6_code 44 = .ok (.areturn, 1) := by decide +kernel
theorem d9_45 : decode jdk_38_method_6_code 45 = .ok (.aload_n 0, 1) := by decide +kernel
theorem d9_46 : decode jdk_38_method_6_code 46 = .ok (.bipush 10, 2) := by decide +kernel
theorem d9_48 : decode jdk_38_method_6_code 48 = .ok (.iload_n 1, 1) := by decide +kernel
theorem d9_49 : decode jdk_38_method_6_code 49 = .ok (.invokestatic 79, 3) := by decide +kernel
theorem d9_52 : decode jdk_38_method_6_code 52 = .ok (.anewarray 7, 3) := by decide +kernel
theorem d9_55 : decode jdk_38_method_6_code 55 = .ok (.dup_x1, 1) := by decide +kernel
theorem d9_56 : decode jdk_38_method_6_code 56 = .ok (.putfield 9, 3) := by decide +kernel
theorem d9_59 : decode jdk_38_method_6_code 59 = .ok (.areturn, 1) := by decide +kernel
set_option maxRecDepth 65536 in
set_option maxHeartbeats 40000000 in
theorem b9_0 {p : Program} {l : Launch} {e : Env} {s : State} {m : MethodId} {args : Array Value} {below : List Frame} {meth : Method} {c : Code} {T : State} {locs : List Loc} {cells slots : Nat} {Z : State} {a0 : Array Value} {h : Heap} {n0 : Nat} {Q : Option Value → Heap → List Loc → Prop} (o0 : Addr) (i1 : Int32) (um : Value) (us : Value) (D : Addr) (hw : ∀ d ∈ tables_1, d.before a0 Z = true) (X : Stand p l e ({ frames := 1, cells := 1, slots := 10, locals := 16 } : Room) s m args below meth c T locs cells slots) (hx : p.tables.exec = Jvm.exec) (hZ : Z.Warmed39 s.vm) (hby : c.code = jdk_38_method_6_code) (hml : c.maxLocals = 4) (hown : s.vm.findClass "java/util/ArrayList" = some m.cls) (hret : meth.sig.returnType = some (.array (.object "java/lang/Object"))) (hlk : meth.locks = false) (eT : T.heap = h) (N : Fr n0 locs) (hc : cells ≤ 0) (hs : slots ≤ 0) (Z0 : n0 ≤ h.size) (fr0 : n0 ≤ o0) (hO : Old Z n0 h) (S0 : Sta Z Z.heap "java/util/ArrayList" "DEFAULTCAPACITY_EMPTY_ELEMENTDATA" "[Ljava/lang/Object;" (.ref D)) (DA : own_D Z D) (hi : f10_0 (10 : Int32) i1 = (10 : Int32)) (E0 : Exa Z h o0 "java/util/ArrayList") (Fm : Fld Z h o0 "java/util/AbstractList" "modCount" "I" um) (Fe : Fld Z h o0 "java/util/ArrayList" "elementData" "[Ljava/lang/Object;" (.ref D)) (Fs : Fld Z h o0 "java/util/ArrayList" "size" "I" us) (hQ : ∀ (H' : Heap) (L' : List Loc) (b : Addr), Fr n0 L' → Keep h H' [o0] → (n0 ≤ b) → (h.size ≤ b) → (own_RF Z H' b "java/lang/Object" 10 (fun _ => .null)) → (Exa Z H' o0 "java/util/ArrayList") → (Fld Z H' o0 "java/util/AbstractList" "modCount" "I" um) → (Fld Z H' o0 "java/util/ArrayList" "elementData" "[Ljava/lang/Object;" (.ref b)) → (Fld Z H' o0 "java/util/ArrayList" "size" "I" us) → Q (some (.ref b)) H' L') :
    own_Fin p e below s Q 1 10 (T.setTop (mkF m 0 #[.val (.ref o0), .val (.int i1), .unset, .unset] [])) := by
  refine own_step (fun t k => XS.aloadN X.here hx rfl (hb hby d9_0) rfl rfl k) ?_
  show own_Fin p e below s Q 1 10 (T.setTop (mkF m 1 #[.val (.ref o0), .val (.int i1), .unset, .unset] [(.ref o0)]))
  obtain ⟨T10, X10, e10, st10⟩ := getF X hx hZ hown (host := "") (Or.inl (hw _ (List.mem_of_getElem? (i := 24) rfl))) Via.refl eT Fe (g := (mkF m 1 #[.val (.ref o0), .val (.int i1), .unset, .unset] [(.ref o0)])) rfl rfl (hb hby d9_1)
  refine own_step st10 ?_
  show own_Fin p e below s Q 1 10 (T10.setTop (mkF m 4 #[.val (.ref o0), .val (.int i1), .unset, .unset] [(.ref D)]))
  obtain ⟨cd4, Ad4, Sd4⟩ := own_ofD DA hO
  refine own_step (X10.arraylength hx (by rw [e10]; exact Ad4.1) (State.isArrayOf_alike hZ.alike Ad4.2.1) (g := (mkF m 4 #[.val (.ref o0), .val (.int i1), .unset, .unset] [(.ref D)])) rfl rfl (hb hby d9_4)) ?_
  rw [Sd4]
  show own_Fin p e below s Q 1 10 (T10.setTop (mkF m 5 #[.val (.ref o0), .val (.int i1), .unset, .unset] [(.int (0 : Int32))]))
  refine own_step (fun t k => XS.istoreN X10.here hx rfl (hb hby d9_5) rfl (l' := #[.val (.ref o0), .val (.int i1), .val (.int (0 : Int32)), .unset]) rfl k) ?_
  show own_Fin p e below s Q 1 10 (T10.setTop (mkF m 6 #[.val (.ref o0), .val (.int i1), .val (.int (0 : Int32)), .unset] []))
  refine own_step (fun t k => XS.iloadN X10.here hx rfl (hb hby d9_6) rfl  k) ?_
  show own_Fin p e below s Q 1 10 (T10.setTop (mkF m 7 #[.val (.ref o0), .val (.int i1), .val (.int (0 : Int32)), .unset] [(.int (0 : Int32))]))
  refine own_step (fun t k => XS.ifNo X10.here hx rfl (hb hby d9_7) rfl ((if0 _ _).trans (flt (by decide : ¬ ((0 : Int32) < (0 : Int32)))).2.2.1) k) ?_
  show own_Fin p e below s Q 1 10 (T10.setTop (mkF m 10 #[.val (.ref o0), .val (.int i1), .val (.int (0 : Int32)), .unset] []))
  refine own_step (fun t k => XS.aloadN X10.here hx rfl (hb hby d9_10) rfl rfl k) ?_
  show own_Fin p e below s Q 1 10 (T10.setTop (mkF m 11 #[.val (.ref o0), .val (.int i1), .val (.int (0 : Int32)), .unset] [(.ref o0)]))
  obtain ⟨T11, X11, e11, st11⟩ := getF X10 hx hZ hown (host := "") (Or.inl (hw _ (List.mem_of_getElem? (i := 24) rfl))) Via.refl e10 Fe (g := (mkF m 11 #[.val (.ref o0), .val (.int i1), .val (.int (0 : Int32)), .unset] [(.ref o0)])) rfl rfl (hb hby d9_11)
  refine own_step st11 ?_
  show own_Fin p e below s Q 1 10 (T11.setTop (mkF m 14 #[.val (.ref o0), .val (.int i1), .val (.int (0 : Int32)), .unset] [(.ref D)]))
  obtain ⟨T12, X12, e12, st12⟩ := getS2 X11 hx hZ hown (host := "") (Or.inl (hw _ (List.mem_of_getElem? (i := 23) rfl))) Via.refl e11 (S0.ext hO.2) (g := (mkF m 14 #[.val (.ref o0), .val (.int i1), .val (.int (0 : Int32)), .unset] [(.ref D)])) rfl (hb hby d9_14)
  refine own_step st12 ?_
  show own_Fin p e below s Q 1 10 (T12.setTop (mkF m 17 #[.val (.ref o0), .val (.int i1), .val (.int (0 : Int32)), .unset] [(.ref D), (.ref D)]))
  refine own_step (fun t k => Jvm.RoadKit.acmp (g := (mkF m 17 #[.val (.ref o0), .val (.int i1), .val (.int (0 : Int32)), .unset] [(.ref D), (.ref D)])) X12 hx rfl rfl rfl (pc0 := 17) (pc' := 45) (same := true) rfl (hb hby d9_17) rfl (decide_eq_true rfl) (by decide) (by decide) k) ?_
  show own_Fin p e below s Q 1 10 (T12.setTop (mkF m 45 #[.val (.ref o0), .val (.int i1), .val (.int (0 : Int32)), .unset] []))
  refine own_step (fun t k => XS.aloadN X12.here hx rfl (hb hby d9_45) rfl rfl k) ?_
  show own_Fin p e below s Q 1 10 (T12.setTop (mkF m 46 #[.val (.ref o0), .val (.int i1), .val (.int (0 : Int32)), .unset] [(.ref o0)]))
  refine own_step (fun t k => XS.bipush X12.here hx rfl (hb hby d9_46) k) ?_
  show own_Fin p e below s Q 1 10 (T12.setTop (mkF m 48 #[.val (.ref o0), .val (.int i1), .val (.int (0 : Int32)), .unset] [(.int (10 : Int32)), (.ref o0)]))
  refine own_step (fun t k => XS.iloadN X12.here hx rfl (hb hby d9_48) rfl  k) ?_
  show own_Fin p e below s Q 1 10 (T12.setTop (mkF m 49 #[.val (.ref o0), .val (.int i1), .val (.int (0 : Int32)), .unset] [(.int i1), (.int (10 : Int32)), (.ref o0)]))
  obtain ⟨_, _, ⟨T13, L13, k13, n13⟩, -, X13, ⟨Lc13, hQ13, l13, y13, z13⟩, st13⟩ := Jvm.LawKit.callS X12 hx (y := (⟨"java/lang/Math", "max", "(II)I"⟩ : MethodName)) hown (mvT hZ (hw _ (List.mem_of_getElem? (i := 59) rfl))) (mvT hZ (hw _ (List.mem_of_getElem? (i := 60) rfl))) (mvT hZ (hw _ (List.mem_of_getElem? (i := 61) rfl))) (mvT hZ (hw _ (List.mem_of_getElem? (i := 62) rfl))) (by decide) (backOf (W := 1) (rm10 l Z a0 hw [] (10 : Int32) i1 h n0) hZ (hw _ (List.mem_of_getElem? (i := 62) rfl)) (hw _ (List.mem_of_getElem? (i := 61) rfl)) (by decide) (by decide)) (g := (mkF m 49 #[.val (.ref o0), .val (.int i1), .val (.int (0 : Int32)), .unset] [(.int i1), (.int (10 : Int32)), (.ref o0)])) rfl (by rw [hml]; rfl) (argsL := [(.int (10 : Int32)), (.int i1)]) (rest := [(.ref o0)]) (lenOf pdm_0 rfl) rfl (by show 2 * 0 + _ ≤ _; exact Nat.le_of_eq rfl) (hb hby d9_49) (fun _ _ => ⟨rfl, e12, (show cells + 0 ≤ 1 from (Nat.le_trans (Nat.add_le_add_right hc 0) (by decide))), (show slots + 0 ≤ 10 from (Nat.le_trans (Nat.add_le_add_right hs 0) (by decide)))⟩)
  dsimp only [Pt.U, Pt.locs, Pt.cells, Pt.slots] at X13 l13 y13 z13 st13 hQ13
  have yy13 : k13 = cells + 0 := y13
  have zz13 : n13 = slots + 0 := z13
  rw [yy13, zz13, l13] at X13
  obtain ⟨rfl, N13q, e13⟩ := hQ13
  have N13 := Fr.app N N13q
  refine own_step st13 ?_
  show own_Fin p e below s Q 1 10 (T13.setTop (mkF m 52 #[.val (.ref o0), .val (.int i1), .val (.int (0 : Int32)), .unset] [(.int (f10_0 (10 : Int32) i1)), (.ref o0)]))
  obtain ⟨T14, h14, k14, X14, e14, E14, AA14, OO14, st14⟩ := newR X13 hx hZ hown (hw _ (List.mem_of_getElem? (i := 63) rfl)) (hw _ (List.mem_of_getElem? (i := 64) rfl)) e13 (g := (mkF m 52 #[.val (.ref o0), .val (.int i1), .val (.int (0 : Int32)), .unset] [(.int (f10_0 (10 : Int32) i1)), (.ref o0)])) rfl (hb hby d9_52) rfl (by rw [hi]; decide) (cap := 10) (by rw [hi]; decide) (by decide) (show cells + 0 + 1 ≤ 1 from (Nat.le_trans (Nat.add_le_add_right hc 1) (by decide))) (show slots + 0 + 10 ≤ 10 from (Nat.le_trans (Nat.add_le_add_right hs 10) (by decide)))
  obtain ⟨b14, gg14⟩ : ∃ z, z = h.size := ⟨_, rfl⟩
  rw [← gg14] at AA14 st14
  have R14 : own_RF Z h14 b14 "java/lang/Object" 10 (fun _ => .null) := own_RFnew AA14 OO14 (by rw [hi]; decide)
  have fr14 : n0 ≤ b14 := Nat.le_trans Z0 (Nat.le_of_eq gg14.symm)
  have Z014 : n0 ≤ h14.size := Nat.le_trans Z0 E14.1
  have neo0_14 : o0 ≠ b14 := Nat.ne_of_lt (Nat.lt_of_lt_of_le E0.lt (Nat.le_of_eq gg14.symm))
  have sz14 : h.size ≤ b14 := Nat.le_trans (Keep.refl h [o0]).1 (Nat.le_of_eq gg14.symm)
  have Ex14_o0 := E0.ext E14
  have F14_o0_modCount := Fm.ext E14
  have F14_o0_elementData := Fe.ext E14
  have F14_o0_size := Fs.ext E14
  have O14 := hO.ext E14
  have K14 : Keep h h14 [o0] := (Keep.refl h [o0]).ext E14
  refine own_step st14 ?_
  show own_Fin p e below s Q 1 10 (T14.setTop (mkF m 55 #[.val (.ref o0), .val (.int i1), .val (.int (0 : Int32)), .unset] [(.ref b14), (.ref o0)]))
  refine own_step (fun t k => XS.dupX1 X14.here hx rfl (hb hby d9_55) rfl rfl rfl k) ?_
  show own_Fin p e below s Q 1 10 (T14.setTop (mkF m 56 #[.val (.ref o0), .val (.int i1), .val (.int (0 : Int32)), .unset] [(.ref b14), (.ref o0), (.ref b14)]))
  obtain ⟨T15, h15, X15, e15, W15, st15⟩ := putF X14 hx hZ hown (host := "") (Or.inl (hw _ (List.mem_of_getElem? (i := 24) rfl))) Via.refl e14 F14_o0_elementData Ex14_o0 (Or.inl (hw _ (List.mem_of_getElem? (i := 25) rfl))) (hw _ (List.mem_of_getElem? (i := 1) rfl)) (ty := (.array (.object "java/lang/Object"))) (by decide) rfl rfl (g := (mkF m 56 #[.val (.ref o0), .val (.int i1), .val (.int (0 : Int32)), .unset] [(.ref b14), (.ref o0), (.ref b14)])) rfl rfl (hb hby d9_56)
  have N15 := Fr.snoc X15 N13 fr0
  have Z015 : n0 ≤ h15.size := Nat.le_trans Z014 (Nat.le_of_eq W15.size.symm)
  have R15_b14 := own_RFoth R14 W15 (Ne.symm neo0_14)
  have O15 := O14.wr W15 fr0
  have K15 : Keep h h15 [o0] := K14.wr W15 (Or.inl (List.mem_of_getElem? (i := 0) rfl))
  have Ex15_o0 := Ex14_o0.wr W15
  have F15_o0_modCount := F14_o0_modCount.other W15 (Or.inr (slot_ne (Or.inl (hw _ (List.mem_of_getElem? (i := 22) rfl))) (Or.inl (hw _ (List.mem_of_getElem? (i := 25) rfl))) (by decide) (t := .int) (t' := (.array (.object "java/lang/Object"))) (by decide) (by decide)))
  have F15_o0_elementData := F14_o0_elementData.same W15
  have F15_o0_size := F14_o0_size.other W15 (Or.inr (slot_ne (Or.inl (hw _ (List.mem_of_getElem? (i := 43) rfl))) (Or.inl (hw _ (List.mem_of_getElem? (i := 25) rfl))) (by decide) (t := .int) (t' := (.array (.object "java/lang/Object"))) (by decide) (by decide)))
  refine own_step st15 ?_
  show own_Fin p e below s Q 1 10 (T15.setTop (mkF m 59 #[.val (.ref o0), .val (.int i1), .val (.int (0 : Int32)), .unset] [(.ref b14)]))
  refine own_retA X15 hx hlk hret rfl (hb hby d9_59) (Nat.le_trans (Nat.add_le_add_right hc 1) (by decide)) (Nat.le_trans (Nat.add_le_add_right hs 10) (by decide)) e15 ?_
  exact hQ _ _ b14 N15 K15 fr14 sz14 R15_b14 Ex15_o0 F15_o0_modCount F15_o0_elementData F15_o0_size
theorem pdm_2 : parseMethodDescriptor "(I)[Ljava/lang/Object;" = some ⟨[.int], some (.array (.object "java/lang/Object"))⟩ := by decide +kernel
theorem ef_9 (m : MethodId) (o0 : Addr) (i1 : Int32) : entryFrame m #[(.ref o0), (.int i1)] 4 = (mkF m 0 #[.val (.ref o0), .val (.int i1), .unset, .unset] []) := by first | (simp [entryFrame, mkF, argsToLocals, Value.category]; done) | rfl
def Q9 (Z : State) (o0 : Addr) (i1 : Int32) (um : Value) (us : Value) (D : Addr) (h0 : Heap) (n0 : Nat) (v : Option Value) (h : Heap) (L : List Loc) : Prop := ∃ (b : Addr), v = some (.ref b) ∧ Fr n0 L ∧ Keep h0 h [o0] ∧ (n0 ≤ b) ∧ (h0.size ≤ b) ∧ (own_RF Z h b "java/lang/Object" 10 (fun _ => .null)) ∧ (Exa Z h o0 "java/util/ArrayList") ∧ (Fld Z h o0 "java/util/AbstractList" "modCount" "I" um) ∧ (Fld Z h o0 "java/util/ArrayList" "elementData" "[Ljava/lang/Object;" (.ref b)) ∧ (Fld Z h o0 "java/util/ArrayList" "size" "I" us)
set_option maxRecDepth 65536 in
set_option maxHeartbeats 4000000 in
theorem rm9 (l : Launch) (Z : State) (a0 : Array Value) (hw : ∀ d ∈ tables_1, d.before a0 Z = true) (ws : List Jvm.Cond) (o0 : Addr) (i1 : Int32) (um : Value) (us : Value) (D : Addr) (h0 : Heap) (n0 : Nat) (Z0 : n0 ≤ h0.size) (fr0 : n0 ≤ o0) (hO : Old Z n0 h0) (S0 : Sta Z Z.heap "java/util/ArrayList" "DEFAULTCAPACITY_EMPTY_ELEMENTDATA" "[Ljava/lang/Object;" (.ref D)) (DA : own_D Z D) (hi : f10_0 (10 : Int32) i1 = (10 : Int32)) (E0 : Exa Z h0 o0 "java/util/ArrayList") (Fm : Fld Z h0 o0 "java/util/AbstractList" "modCount" "I" um) (Fe : Fld Z h0 o0 "java/util/ArrayList" "elementData" "[Ljava/lang/Object;" (.ref D)) (Fs : Fld Z h0 o0 "java/util/ArrayList" "size" "I" us) :
    MetFree l (⟨"java/util/ArrayList", "grow", "(I)[Ljava/lang/Object;"⟩ : MethodName) (head1 (Jvm.Cond.code (⟨"java/util/ArrayList", "grow", "(I)[Ljava/lang/Object;"⟩ : MethodName) jdk_38_method_6_code 4 (some (.array (.object "java/lang/Object"))) :: ws) ({ frames := 1, cells := 1, slots := 10, locals := 16 } : Room)) (fun a U => a = #[(.ref o0), (.int i1)] ∧ Z.Warmed39 U.vm ∧ U.heap = h0) (fun _ _ _ _ _ => True) (fun _ U o U' => ∃ v L, o = .returned v ∧ Q9 Z o0 i1 um us D h0 n0 v U'.heap L ∧ FrameEnd U o U' L ({ frames := 1, cells := 1, slots := 10, locals := 16 } : Room).cells ({ frames := 1, cells := 1, slots := 10, locals := 16 } : Room).slots) := by
  refine MetFree.of_bodySF (plainFor_of_name pnm_2) hisR ?_
  intro p e s m args below meth c s₁ Bd hml0 hP hK
  obtain ⟨rfl, hZ, hh⟩ := hP
  have hx := Bd.exec
  have hby := Bd.bytes
  have hml : c.maxLocals = 4 := hml0
  have hown : s.vm.findClass "java/util/ArrayList" = some m.cls := findClass_of_methodNamed Bd.named
  have X0 : Stand p l e ({ frames := 1, cells := 1, slots := 10, locals := 16 } : Room) s m #[(.ref o0), (.int i1)] below meth c s₁ [] 0 0 := Stand.of_body Bd
  have e0 : s₁.heap = h0 := by rw [← hh, Bd.state]; rfl
  have fin := b9_0 o0 i1 um us D (Q := Q9 Z o0 i1 um us D h0 n0) hw X0 hx hZ hby hml hown Bd.returns (BodyLoose.notSynchronized Bd) e0 (Fr.nil n0) (Nat.zero_le _) (Nat.zero_le _) Z0 fr0 hO S0 DA hi E0 Fm Fe Fs (fun H' L' b n' k' r0 r1 r2 r3 r4 r5 r6 => ⟨b, rfl, n', k', r0, r1, r2, r3, r4, r5, r6⟩)
  exact own_step (fun t k => castTop (ef_9 m o0 i1) k) fin
theorem d8_0 : decode jdk_38_method_7_code 0 = .ok (.aload_n 0, 1) := by decide +kernel
theorem d8_1 : decode jdk_38_method_7_code 1 = .ok (.aload_n 0, 1) := by decide +kernel
theorem d8_2 : decode jdk_38_method_7_code 2 = .ok (.getfield 48, 3) := by decide +kernel
theorem d8_5 : decode jdk_38_method_7_code 5 = .ok (.iconst 1, 1) := by decide +kernel
theorem d8_6 : decode jdk_38_method_7_code 6 = .ok (.iadd, 1) := by decide +kernel
theorem d8_7 : decode jdk_38_method_7_code 7 = .ok (.invokevirtual 69, 3) := by decide +kernel
theorem d8_10 : decode jdk_38_method_7_code 10 = .ok (.areturn, 1) := by decide +kernel
set_option maxRecDepth 65536 in
set_option maxHeartbeats 40000000 in
theorem b8_0 {p : Program} {l : Launch} {e : Env} {s : State} {m : MethodId} {args : Array Value} {below : List Frame} {meth : Method} {c : Code} {T : State} {locs : List Loc} {cells slots : Nat} {Z : State} {a0 : Array Value} {h : Heap} {n0 : Nat} {Q : Option Value → Heap → List Loc → Prop} (o0 : Addr) (um : Value) (D : Addr) (hw : ∀ d ∈ tables_1, d.before a0 Z = true) (X : Stand p l e ({ frames := 2, cells := 1, slots := 10, locals := 31 } : Room) s m args below meth c T locs cells slots) (hx : p.tables.exec = Jvm.exec) (hZ : Z.Warmed39 s.vm) (hby : c.code = jdk_38_method_7_code) (hml : c.maxLocals = 1) (hown : s.vm.findClass "java/util/ArrayList" = some m.cls) (hret : meth.sig.returnType = some (.array (.object "java/lang/Object"))) (hlk : meth.locks = false) (eT : T.heap = h) (N : Fr n0 locs) (hc : cells ≤ 0) (hs : slots ≤ 0) (Z0 : n0 ≤ h.size) (fr0 : n0 ≤ o0) (hO : Old Z n0 h) (S0 : Sta Z Z.heap "java/util/ArrayList" "DEFAULTCAPACITY_EMPTY_ELEMENTDATA" "[Ljava/lang/Object;" (.ref D)) (DA : own_D Z D) (E0 : Exa Z h o0 "java/util/ArrayList") (Fm : Fld Z h o0 "java/util/AbstractList" "modCount" "I" um) (Fe : Fld Z h o0 "java/util/ArrayList" "elementData" "[Ljava/lang/Object;" (.ref D)) (Fs : Fld Z h o0 "java/util/ArrayList" "size" "I" (.int 0)) (hQ : ∀ (H' : Heap) (L' : List Loc) (b : Addr), Fr n0 L' → Keep h H' [o0] → (n0 ≤ b) → (h.size ≤ b) → (own_RF Z H' b "java/lang/Object" 10 (fun _ => .null)) → (Exa Z H' o0 "java/util/ArrayList") → (Fld Z H' o0 "java/util/AbstractList" "modCount" "I" um) → (Fld Z H' o0 "java/util/ArrayList" "elementData" "[Ljava/lang/Object;" (.ref b)) → (Fld Z H' o0 "java/util/ArrayList" "size" "I" (.int 0)) → Q (some (.ref b)) H' L') :
    own_Fin p e below s Q 1 10 (T.setTop (mkF m 0 #[.val (.ref o0)] [])) := by
  refine own_step (fun t k => XS.aloadN X.here hx rfl (hb hby d8_0) rfl rfl k) ?_
  show own_Fin p e below s Q 1 10 (T.setTop (mkF m 1 #[.val (.ref o0)] [(.ref o0)]))
  refine own_step (fun t k => XS.aloadN X.here hx rfl (hb hby d8_1) rfl rfl k) ?_
  show own_Fin p e below s Q 1 10 (T.setTop (mkF m 2 #[.val (.ref o0)] [(.ref o0), (.ref o0)]))
  obtain ⟨T16, X16, e16, st16⟩ := getF X hx hZ hown (host := "") (Or.inl (hw _ (List.mem_of_getElem? (i := 42) rfl))) Via.refl eT Fs (g := (mkF m 2 #[.val (.ref o0)] [(.ref o0), (.ref o0)])) rfl rfl (hb hby d8_2)
  refine own_step st16 ?_
  show own_Fin p e below s Q 1 10 (T16.setTop (mkF m 5 #[.val (.ref o0)] [(.int (0 : Int32)), (.ref o0)]))
  refine own_step (fun t k => XS.iconst X16.here hx rfl (hb hby d8_5) k) ?_
  show own_Fin p e below s Q 1 10 (T16.setTop (mkF m 6 #[.val (.ref o0)] [(.int (1 : Int32)), (.int (0 : Int32)), (.ref o0)]))
  refine own_step (fun t k => XS.iadd X16.here hx rfl (hb hby d8_6) rfl k) ?_
  show own_Fin p e below s Q 1 10 (T16.setTop (mkF m 7 #[.val (.ref o0)] [(.int ((0 : Int32) + (1 : Int32))), (.ref o0)]))
  obtain ⟨cq17, q17, q17'⟩ := E0.cell
  obtain ⟨_, _, ⟨T17, L17, k17, n17⟩, -, X17, ⟨Lc17, hQ17, l17, y17, z17⟩, st17⟩ := X16.privateBack hx (y := (⟨"java/util/ArrayList", "grow", "(I)[Ljava/lang/Object;"⟩ : MethodName)) hown (mvT hZ (hw _ (List.mem_of_getElem? (i := 54) rfl))) (mvT hZ (hw _ (List.mem_of_getElem? (i := 55) rfl))) (mvT hZ (hw _ (List.mem_of_getElem? (i := 57) rfl))) (Cond.privateMethod_at (mvP hZ (hw _ (List.mem_of_getElem? (i := 56) rfl)) (args := #[]))) (mvT hZ (hw _ (List.mem_of_getElem? (i := 58) rfl))) (by decide) (backOf (W := 0) (rm9 l Z a0 hw [] o0 ((0 : Int32) + (1 : Int32)) um (.int (0 : Int32)) D h n0 Z0 fr0 hO S0 DA (by decide) E0 Fm Fe Fs) hZ (hw _ (List.mem_of_getElem? (i := 58) rfl)) (hw _ (List.mem_of_getElem? (i := 2) rfl)) (by decide) (by decide)) (g := (mkF m 7 #[.val (.ref o0)] [(.int ((0 : Int32) + (1 : Int32))), (.ref o0)])) rfl (by rw [hml]; rfl) (Steps.refl _) (a := o0) (by rw [e16]; exact q17) q17' (argsL := [(.int ((0 : Int32) + (1 : Int32)))]) (rest := []) (lenOf pdm_2 rfl) rfl (by show 2 * 0 + _ ≤ _; exact Nat.le_of_eq rfl) (hb hby d8_7) (fun _ _ => ⟨rfl, e16, (show cells + 1 ≤ 1 from (Nat.le_trans (Nat.add_le_add_right hc 1) (by decide))), (show slots + 10 ≤ 10 from (Nat.le_trans (Nat.add_le_add_right hs 10) (by decide)))⟩)
  dsimp only [Pt.U, Pt.locs, Pt.cells, Pt.slots] at X17 l17 y17 z17 st17 hQ17
  have yy17 : k17 = cells + 1 := y17
  have zz17 : n17 = slots + 10 := z17
  rw [yy17, zz17, l17] at X17
  obtain ⟨b_17, rfl, N17q, K17, r0_17, r1_17, r2_17, r3_17, r4_17, r5_17, r6_17⟩ := hQ17
  have N17 := Fr.app N N17q
  have Z017 : n0 ≤ T17.heap.size := Nat.le_trans Z0 K17.1
  have O17 := hO.keep K17 (allS fr0 all0)
  have KK17 : Keep h T17.heap [o0] := (Keep.refl h [o0]).trans K17 (allS (Or.inl (List.mem_of_getElem? (i := 0) rfl)) all0)
  have neo0_17 : o0 ≠ b_17 := Nat.ne_of_lt (Nat.lt_of_lt_of_le E0.lt r1_17)
  have sz17 : h.size ≤ b_17 := Nat.le_trans (Keep.refl h [o0]).1 r1_17
  refine own_step (fun t k => st17.trans k) ?_
  show own_Fin p e below s Q 1 10 (T17.setTop (mkF m 10 #[.val (.ref o0)] [(.ref b_17)]))
  refine own_retA X17 hx hlk hret rfl (hb hby d8_10) (Nat.le_trans (Nat.add_le_add_right hc 1) (by decide)) (Nat.le_trans (Nat.add_le_add_right hs 10) (by decide)) rfl ?_
  exact hQ _ _ b_17 N17 KK17 r0_17 sz17 r2_17 r3_17 r4_17 r5_17 r6_17
theorem pdm_3 : parseMethodDescriptor "()[Ljava/lang/Object;" = some ⟨[], some (.array (.object "java/lang/Object"))⟩ := by decide +kernel
theorem ef_8 (m : MethodId) (o0 : Addr) : entryFrame m #[(.ref o0)] 1 = (mkF m 0 #[.val (.ref o0)] []) := by first | (simp [entryFrame, mkF, argsToLocals, Value.category]; done) | rfl
def Q8 (Z : State) (o0 : Addr) (um : Value) (D : Addr) (h0 : Heap) (n0 : Nat) (v : Option Value) (h : Heap) (L : List Loc) : Prop := ∃ (b : Addr), v = some (.ref b) ∧ Fr n0 L ∧ Keep h0 h [o0] ∧ (n0 ≤ b) ∧ (h0.size ≤ b) ∧ (own_RF Z h b "java/lang/Object" 10 (fun _ => .null)) ∧ (Exa Z h o0 "java/util/ArrayList") ∧ (Fld Z h o0 "java/util/AbstractList" "modCount" "I" um) ∧ (Fld Z h o0 "java/util/ArrayList" "elementData" "[Ljava/lang/Object;" (.ref b)) ∧ (Fld Z h o0 "java/util/ArrayList" "size" "I" (.int 0))
set_option maxRecDepth 65536 in
set_option maxHeartbeats 4000000 in
theorem rm8 (l : Launch) (Z : State) (a0 : Array Value) (hw : ∀ d ∈ tables_1, d.before a0 Z = true) (ws : List Jvm.Cond) (o0 : Addr) (um : Value) (D : Addr) (h0 : Heap) (n0 : Nat) (Z0 : n0 ≤ h0.size) (fr0 : n0 ≤ o0) (hO : Old Z n0 h0) (S0 : Sta Z Z.heap "java/util/ArrayList" "DEFAULTCAPACITY_EMPTY_ELEMENTDATA" "[Ljava/lang/Object;" (.ref D)) (DA : own_D Z D) (E0 : Exa Z h0 o0 "java/util/ArrayList") (Fm : Fld Z h0 o0 "java/util/AbstractList" "modCount" "I" um) (Fe : Fld Z h0 o0 "java/util/ArrayList" "elementData" "[Ljava/lang/Object;" (.ref D)) (Fs : Fld Z h0 o0 "java/util/ArrayList" "size" "I" (.int 0)) :
    MetFree l (⟨"java/util/ArrayList", "grow", "()[Ljava/lang/Object;"⟩ : MethodName) (head1 (Jvm.Cond.code (⟨"java/util/ArrayList", "grow", "()[Ljava/lang/Object;"⟩ : MethodName) jdk_38_method_7_code 1 (some (.array (.object "java/lang/Object"))) :: ws) ({ frames := 2, cells := 1, slots := 10, locals := 31 } : Room)) (fun a U => a = #[(.ref o0)] ∧ Z.Warmed39 U.vm ∧ U.heap = h0) (fun _ _ _ _ _ => True) (fun _ U o U' => ∃ v L, o = .returned v ∧ Q8 Z o0 um D h0 n0 v U'.heap L ∧ FrameEnd U o U' L ({ frames := 2, cells := 1, slots := 10, locals := 31 } : Room).cells ({ frames := 2, cells := 1, slots := 10, locals := 31 } : Room).slots) := by
  refine MetFree.of_bodySF (plainFor_of_name pnm_2) hisR ?_
  intro p e s m args below meth c s₁ Bd hml0 hP hK
  obtain ⟨rfl, hZ, hh⟩ := hP
  have hx := Bd.exec
  have hby := Bd.bytes
  have hml : c.maxLocals = 1 := hml0
  have hown : s.vm.findClass "java/util/ArrayList" = some m.cls := findClass_of_methodNamed Bd.named
  have X0 : Stand p l e ({ frames := 2, cells := 1, slots := 10, locals := 31 } : Room) s m #[(.ref o0)] below meth c s₁ [] 0 0 := Stand.of_body Bd
  have e0 : s₁.heap = h0 := by rw [← hh, Bd.state]; rfl
  have fin := b8_0 o0 um D (Q := Q8 Z o0 um D h0 n0) hw X0 hx hZ hby hml hown Bd.returns (BodyLoose.notSynchronized Bd) e0 (Fr.nil n0) (Nat.zero_le _) (Nat.zero_le _) Z0 fr0 hO S0 DA E0 Fm Fe Fs (fun H' L' b n' k' r0 r1 r2 r3 r4 r5 r6 => ⟨b, rfl, n', k', r0, r1, r2, r3, r4, r5, r6⟩)
  exact own_step (fun t k => castTop (ef_8 m o0) k) fin
theorem d7_0 : decode jdk_38_method_24_code 0 = .ok (.iload_n 3, 1) := by decide +kernel
theorem d7_1 : decode jdk_38_method_24_code 1 = .ok (.aload_n 2, 1) := by decide +kernel
theorem d7_2 : decode jdk_38_method_24_code 2 = .ok (.arraylength, 1) := by decide +kernel
theorem d7_3 : decode jdk_38_method_24_code 3 = .ok (.if_icmp .ne 8, 3) := by decide +kernel
theorem d7_6 : decode jdk_38_method_24_code 6 = .ok (.aload_n 0, 1) := by decide +kernel
theorem d7_7 : decode jdk_38_method_24_code 7 = .ok (.invokevirtual 129, 3) := by decide +kernel
theorem d7_10 : decode jdk_38_method_24_code 10 = .ok (.astore_n 2, 1) := by decide +kernel
theorem d7_11 : decode jdk_38_method_24_code 11 = .ok (.aload_n 2, 1) := by decide +kernel
theorem d7_12 : decode jdk_38_method_24_code 12 = .ok (.iload_n 3, 1) := by decide +kernel
theorem d7_13 : decode jdk_38_method_24_code 13 = .ok (.aload_n 1, 1) := by decide +kernel
theorem d7_14 : decode jdk_38_method_24_code 14 = .ok (.aastore, 1) := by decide +kernel
theorem d7_15 : decode jdk_38_method_24_code 15 = .ok (.aload_n 0, 1) := by decide +kernel
theorem d7_16 : decode jdk_38_method_24_code 16 = .ok (.iload_n 3, 1) := by decide +kernel
theorem d7_17 : decode jdk_38_method_24_code 17 = .ok (.iconst 1, 1) := by decide +kernel
theorem d7_18 : decode jdk_38_method_24_code 18 = .ok (.iadd, 1) := by decide +kernel
theorem d7_19 : decode jdk_38_method_24_code 19 = .ok (.putfield 48, 3) := by decide +kernel
theorem d7_22 : decode jdk_38_method_24_code 22 = .ok (.return_, 1) := by decide +kernel
set_option maxRecDepth 65536 in
set_option maxHeartbeats 40000000 in
theorem b70_0 {p : Program} {l : Launch} {e : Env} {s : State} {m : MethodId} {args : Array Value} {below : List Frame} {meth : Method} {c : Code} {T : State} {locs : List Loc} {cells slots : Nat} {Z : State} {a0 : Array Value} {h : Heap} {n0 : Nat} {Q : Option Value → Heap → List Loc → Prop} (o0 : Addr) (o1 : Addr) (um : Value) (D : Addr) (hw : ∀ d ∈ tables_1, d.before a0 Z = true) (X : Stand p l e ({ frames := 3, cells := 1, slots := 10, locals := 45 } : Room) s m args below meth c T locs cells slots) (hx : p.tables.exec = Jvm.exec) (hZ : Z.Warmed39 s.vm) (hby : c.code = jdk_38_method_24_code) (hml : c.maxLocals = 4) (hown : s.vm.findClass "java/util/ArrayList" = some m.cls) (hret : meth.sig.returnType = none) (hlk : meth.locks = false) (eT : T.heap = h) (N : Fr n0 locs) (hc : cells ≤ 0) (hs : slots ≤ 0) (Z0 : n0 ≤ h.size) (fr0 : n0 ≤ o0) (hO : Old Z n0 h) (S0 : Sta Z Z.heap "java/util/ArrayList" "DEFAULTCAPACITY_EMPTY_ELEMENTDATA" "[Ljava/lang/Object;" (.ref D)) (DA : own_D Z D) (Ix : Ins Z h o1 "java/lang/Object" true) (E0 : Exa Z h o0 "java/util/ArrayList") (Fm : Fld Z h o0 "java/util/AbstractList" "modCount" "I" um) (Fe : Fld Z h o0 "java/util/ArrayList" "elementData" "[Ljava/lang/Object;" (.ref D)) (Fs : Fld Z h o0 "java/util/ArrayList" "size" "I" (.int (0 : Int32))) (hQ : ∀ (H' : Heap) (L' : List Loc) (b : Addr), Fr n0 L' → Keep h H' [o0] → (n0 ≤ b) → (h.size ≤ b) → (own_RF Z H' b "java/lang/Object" 10 (fun i => if i = 0 then (.ref o1) else (fun _ => .null) i)) → (Exa Z H' o0 "java/util/ArrayList") → (Fld Z H' o0 "java/util/AbstractList" "modCount" "I" um) → (Fld Z H' o0 "java/util/ArrayList" "elementData" "[Ljava/lang/Object;" (.ref b)) → (Fld Z H' o0 "java/util/ArrayList" "size" "I" (.int ((0 : Int32) + (1 : Int32)))) → Q none H' L') :
    own_Fin p e below s Q 1 10 (T.setTop (mkF m 0 #[.val (.ref o0), .val (.ref o1), .val (.ref D), .val (.int (0 : Int32))] [])) := by
  refine own_step (fun t k => XS.iloadN X.here hx rfl (hb hby d7_0) rfl  k) ?_
  show own_Fin p e below s Q 1 10 (T.setTop (mkF m 1 #[.val (.ref o0), .val (.ref o1), .val (.ref D), .val (.int (0 : Int32))] [(.int (0 : Int32))]))
  refine own_step (fun t k => XS.aloadN X.here hx rfl (hb hby d7_1) rfl rfl k) ?_
  show own_Fin p e below s Q 1 10 (T.setTop (mkF m 2 #[.val (.ref o0), .val (.ref o1), .val (.ref D), .val (.int (0 : Int32))] [(.ref D), (.int (0 : Int32))]))
  obtain ⟨cd2, Ad2, Sd2⟩ := own_ofD DA hO
  refine own_step (X.arraylength hx (by rw [eT]; exact Ad2.1) (State.isArrayOf_alike hZ.alike Ad2.2.1) (g := (mkF m 2 #[.val (.ref o0), .val (.ref o1), .val (.ref D), .val (.int (0 : Int32))] [(.ref D), (.int (0 : Int32))])) rfl rfl (hb hby d7_2)) ?_
  rw [Sd2]
  show own_Fin p e below s Q 1 10 (T.setTop (mkF m 3 #[.val (.ref o0), .val (.ref o1), .val (.ref D), .val (.int (0 : Int32))] [(.int (0 : Int32)), (.int (0 : Int32))]))
  refine own_step (fun t k => XS.icmpNo X.here hx rfl (hb hby d7_3) rfl (teq (by decide : (0 : Int32) = (0 : Int32))).2 k) ?_
  show own_Fin p e below s Q 1 10 (T.setTop (mkF m 6 #[.val (.ref o0), .val (.ref o1), .val (.ref D), .val (.int (0 : Int32))] []))
  refine own_step (fun t k => XS.aloadN X.here hx rfl (hb hby d7_6) rfl rfl k) ?_
  show own_Fin p e below s Q 1 10 (T.setTop (mkF m 7 #[.val (.ref o0), .val (.ref o1), .val (.ref D), .val (.int (0 : Int32))] [(.ref o0)]))
  obtain ⟨cq18, q18, q18'⟩ := E0.cell
  obtain ⟨_, _, ⟨T18, L18, k18, n18⟩, -, X18, ⟨Lc18, hQ18, l18, y18, z18⟩, st18⟩ := X.privateBack hx (y := (⟨"java/util/ArrayList", "grow", "()[Ljava/lang/Object;"⟩ : MethodName)) hown (mvT hZ (hw _ (List.mem_of_getElem? (i := 49) rfl))) (mvT hZ (hw _ (List.mem_of_getElem? (i := 50) rfl))) (mvT hZ (hw _ (List.mem_of_getElem? (i := 52) rfl))) (Cond.privateMethod_at (mvP hZ (hw _ (List.mem_of_getElem? (i := 51) rfl)) (args := #[]))) (mvT hZ (hw _ (List.mem_of_getElem? (i := 53) rfl))) (by decide) (backOf (W := 0) (rm8 l Z a0 hw [] o0 um D h n0 Z0 fr0 hO S0 DA E0 Fm Fe Fs) hZ (hw _ (List.mem_of_getElem? (i := 53) rfl)) (hw _ (List.mem_of_getElem? (i := 2) rfl)) (by decide) (by decide)) (g := (mkF m 7 #[.val (.ref o0), .val (.ref o1), .val (.ref D), .val (.int (0 : Int32))] [(.ref o0)])) rfl (by rw [hml]; rfl) (Steps.refl _) (a := o0) (by rw [eT]; exact q18) q18' (argsL := []) (rest := []) (lenOf pdm_3 rfl) rfl (by show 2 * 0 + _ ≤ _; exact Nat.le_of_eq rfl) (hb hby d7_7) (fun _ _ => ⟨rfl, eT, (show cells + 1 ≤ 1 from (Nat.le_trans (Nat.add_le_add_right hc 1) (by decide))), (show slots + 10 ≤ 10 from (Nat.le_trans (Nat.add_le_add_right hs 10) (by decide)))⟩)
  dsimp only [Pt.U, Pt.locs, Pt.cells, Pt.slots] at X18 l18 y18 z18 st18 hQ18
  have yy18 : k18 = cells + 1 := y18
  have zz18 : n18 = slots + 10 := z18
  rw [yy18, zz18, l18] at X18
  obtain ⟨b_18, rfl, N18q, K18, r0_18, r1_18, r2_18, r3_18, r4_18, r5_18, r6_18⟩ := hQ18
  have N18 := Fr.app N N18q
  have Z018 : n0 ≤ T18.heap.size := Nat.le_trans Z0 K18.1
  have I18 := own_InsK Ix K18
  have O18 := hO.keep K18 (allS fr0 all0)
  have KK18 : Keep h T18.heap [o0] := (Keep.refl h [o0]).trans K18 (allS (Or.inl (List.mem_of_getElem? (i := 0) rfl)) all0)
  have neo0_18 : o0 ≠ b_18 := Nat.ne_of_lt (Nat.lt_of_lt_of_le E0.lt r1_18)
  have sz18 : h.size ≤ b_18 := Nat.le_trans (Keep.refl h [o0]).1 r1_18
  refine own_step (fun t k => st18.trans k) ?_
  show own_Fin p e below s Q 1 10 (T18.setTop (mkF m 10 #[.val (.ref o0), .val (.ref o1), .val (.ref D), .val (.int (0 : Int32))] [(.ref b_18)]))
  refine own_step (fun t k => XS.astoreN X18.here hx rfl (hb hby d7_10) rfl rfl (l' := #[.val (.ref o0), .val (.ref o1), .val (.ref b_18), .val (.int (0 : Int32))]) rfl k) ?_
  show own_Fin p e below s Q 1 10 (T18.setTop (mkF m 11 #[.val (.ref o0), .val (.ref o1), .val (.ref b_18), .val (.int (0 : Int32))] []))
  refine own_step (fun t k => XS.aloadN X18.here hx rfl (hb hby d7_11) rfl rfl k) ?_
  show own_Fin p e below s Q 1 10 (T18.setTop (mkF m 12 #[.val (.ref o0), .val (.ref o1), .val (.ref b_18), .val (.int (0 : Int32))] [(.ref b_18)]))
  refine own_step (fun t k => XS.iloadN X18.here hx rfl (hb hby d7_12) rfl  k) ?_
  show own_Fin p e below s Q 1 10 (T18.setTop (mkF m 13 #[.val (.ref o0), .val (.ref o1), .val (.ref b_18), .val (.int (0 : Int32))] [(.int (0 : Int32)), (.ref b_18)]))
  refine own_step (fun t k => XS.aloadN X18.here hx rfl (hb hby d7_13) rfl rfl k) ?_
  show own_Fin p e below s Q 1 10 (T18.setTop (mkF m 14 #[.val (.ref o0), .val (.ref o1), .val (.ref b_18), .val (.int (0 : Int32))] [(.ref o1), (.int (0 : Int32)), (.ref b_18)]))
  obtain ⟨ca19, Ar19, Ov19, Sz19, Ht19⟩ := id r2_18
  have hin19 : ¬ ((0 : Int32) < 0 ∨ ca19.slots.size ≤ ((0 : Int32)).toNatClampNeg) := by rw [Sz19]; exact (by decide)
  obtain ⟨T19, h19, X19, e19, W19, st19⟩ := stR X18 hx hZ rfl Ar19 (j := (0 : Int32)) hin19 rfl (Sto.of Ar19 Ov19 I18) (g := (mkF m 14 #[.val (.ref o0), .val (.ref o1), .val (.ref b_18), .val (.int (0 : Int32))] [(.ref o1), (.int (0 : Int32)), (.ref b_18)])) rfl rfl (hb hby d7_14)
  have R19 : own_RF Z h19 b_18 "java/lang/Object" 10 (fun i => if i = 0 then (.ref o1) else (fun _ => .null) i) := own_RFset Ar19 Ov19 Sz19 Ht19 W19
  have N19 := Fr.snoc X19 N18 r0_18
  have Z019 : n0 ≤ h19.size := Nat.le_trans Z018 (Nat.le_of_eq W19.size.symm)
  have Ex19_o0 := r3_18.wr W19
  have F19_o0_modCount := r4_18.other W19 (Or.inl neo0_18)
  have F19_o0_elementData := r5_18.other W19 (Or.inl neo0_18)
  have F19_o0_size := r6_18.other W19 (Or.inl neo0_18)
  have I19 := I18.wr W19
  have O19 := O18.wr W19 r0_18
  have K19 : Keep h h19 [o0] := KK18.wr W19 (Or.inr sz18)
  refine own_step st19 ?_
  show own_Fin p e below s Q 1 10 (T19.setTop (mkF m 15 #[.val (.ref o0), .val (.ref o1), .val (.ref b_18), .val (.int (0 : Int32))] []))
  refine own_step (fun t k => XS.aloadN X19.here hx rfl (hb hby d7_15) rfl rfl k) ?_
  show own_Fin p e below s Q 1 10 (T19.setTop (mkF m 16 #[.val (.ref o0), .val (.ref o1), .val (.ref b_18), .val (.int (0 : Int32))] [(.ref o0)]))
  refine own_step (fun t k => XS.iloadN X19.here hx rfl (hb hby d7_16) rfl  k) ?_
  show own_Fin p e below s Q 1 10 (T19.setTop (mkF m 17 #[.val (.ref o0), .val (.ref o1), .val (.ref b_18), .val (.int (0 : Int32))] [(.int (0 : Int32)), (.ref o0)]))
  refine own_step (fun t k => XS.iconst X19.here hx rfl (hb hby d7_17) k) ?_
  show own_Fin p e below s Q 1 10 (T19.setTop (mkF m 18 #[.val (.ref o0), .val (.ref o1), .val (.ref b_18), .val (.int (0 : Int32))] [(.int (1 : Int32)), (.int (0 : Int32)), (.ref o0)]))
  refine own_step (fun t k => XS.iadd X19.here hx rfl (hb hby d7_18) rfl k) ?_
  show own_Fin p e below s Q 1 10 (T19.setTop (mkF m 19 #[.val (.ref o0), .val (.ref o1), .val (.ref b_18), .val (.int (0 : Int32))] [(.int ((0 : Int32) + (1 : Int32))), (.ref o0)]))
  obtain ⟨T20, h20, X20, e20, W20, st20⟩ := putF X19 hx hZ hown (host := "") (Or.inl (hw _ (List.mem_of_getElem? (i := 42) rfl))) Via.refl e19 F19_o0_size Ex19_o0 (Or.inl (hw _ (List.mem_of_getElem? (i := 43) rfl))) (hw _ (List.mem_of_getElem? (i := 1) rfl)) (ty := .int) (by decide) rfl rfl (g := (mkF m 19 #[.val (.ref o0), .val (.ref o1), .val (.ref b_18), .val (.int (0 : Int32))] [(.int ((0 : Int32) + (1 : Int32))), (.ref o0)])) rfl rfl (hb hby d7_19)
  have N20 := Fr.snoc X20 N19 fr0
  have Z020 : n0 ≤ h20.size := Nat.le_trans Z019 (Nat.le_of_eq W20.size.symm)
  have R20_b_18 := own_RFoth R19 W20 (Ne.symm neo0_18)
  have I20 := I19.wr W20
  have O20 := O19.wr W20 fr0
  have K20 : Keep h h20 [o0] := K19.wr W20 (Or.inl (List.mem_of_getElem? (i := 0) rfl))
  have Ex20_o0 := Ex19_o0.wr W20
  have F20_o0_modCount := F19_o0_modCount.other W20 (Or.inr (slot_ne (Or.inl (hw _ (List.mem_of_getElem? (i := 22) rfl))) (Or.inl (hw _ (List.mem_of_getElem? (i := 43) rfl))) (by decide) (t := .int) (t' := .int) (by decide) (by decide)))
  have F20_o0_elementData := F19_o0_elementData.other W20 (Or.inr (slot_ne (Or.inl (hw _ (List.mem_of_getElem? (i := 25) rfl))) (Or.inl (hw _ (List.mem_of_getElem? (i := 43) rfl))) (by decide) (t := (.array (.object "java/lang/Object"))) (t' := .int) (by decide) (by decide)))
  have F20_o0_size := F19_o0_size.same W20
  refine own_step st20 ?_
  show own_Fin p e below s Q 1 10 (T20.setTop (mkF m 22 #[.val (.ref o0), .val (.ref o1), .val (.ref b_18), .val (.int (0 : Int32))] []))
  refine own_ret0 X20 hx hlk hret (hb hby d7_22) (Nat.le_trans (Nat.add_le_add_right hc 1) (by decide)) (Nat.le_trans (Nat.add_le_add_right hs 10) (by decide)) e20 ?_
  exact hQ _ _ b_18 N20 K20 r0_18 sz18 R20_b_18 Ex20_o0 F20_o0_modCount F20_o0_elementData F20_o0_size
theorem pdm_4 : parseMethodDescriptor "(Ljava/lang/Object;[Ljava/lang/Object;I)V" = some ⟨[(.object "java/lang/Object"), (.array (.object "java/lang/Object")), .int], none⟩ := by decide +kernel
theorem ef_70 (m : MethodId) (o0 : Addr) (o1 : Addr) : entryFrame m #[(.ref o0), (.ref o1), (.ref D), (.int (0 : Int32))] 4 = (mkF m 0 #[.val (.ref o0), .val (.ref o1), .val (.ref D), .val (.int (0 : Int32))] []) := by first | (simp [entryFrame, mkF, argsToLocals, Value.category]; done) | rfl
def Q70 (Z : State) (o0 : Addr) (o1 : Addr) (um : Value) (D : Addr) (h0 : Heap) (n0 : Nat) (v : Option Value) (h : Heap) (L : List Loc) : Prop := ∃ (b : Addr), v = none ∧ Fr n0 L ∧ Keep h0 h [o0] ∧ (n0 ≤ b) ∧ (h0.size ≤ b) ∧ (own_RF Z h b "java/lang/Object" 10 (fun i => if i = 0 then (.ref o1) else (fun _ => .null) i)) ∧ (Exa Z h o0 "java/util/ArrayList") ∧ (Fld Z h o0 "java/util/AbstractList" "modCount" "I" um) ∧ (Fld Z h o0 "java/util/ArrayList" "elementData" "[Ljava/lang/Object;" (.ref b)) ∧ (Fld Z h o0 "java/util/ArrayList" "size" "I" (.int ((0 : Int32) + (1 : Int32))))
set_option maxRecDepth 65536 in
set_option maxHeartbeats 4000000 in
theorem rm70 (l : Launch) (Z : State) (a0 : Array Value) (hw : ∀ d ∈ tables_1, d.before a0 Z = true) (ws : List Jvm.Cond) (o0 : Addr) (o1 : Addr) (um : Value) (D : Addr) (h0 : Heap) (n0 : Nat) (Z0 : n0 ≤ h0.size) (fr0 : n0 ≤ o0) (hO : Old Z n0 h0) (S0 : Sta Z Z.heap "java/util/ArrayList" "DEFAULTCAPACITY_EMPTY_ELEMENTDATA" "[Ljava/lang/Object;" (.ref D)) (DA : own_D Z D) (Ix : Ins Z h0 o1 "java/lang/Object" true) (E0 : Exa Z h0 o0 "java/util/ArrayList") (Fm : Fld Z h0 o0 "java/util/AbstractList" "modCount" "I" um) (Fe : Fld Z h0 o0 "java/util/ArrayList" "elementData" "[Ljava/lang/Object;" (.ref D)) (Fs : Fld Z h0 o0 "java/util/ArrayList" "size" "I" (.int (0 : Int32))) :
    MetFree l (⟨"java/util/ArrayList", "add", "(Ljava/lang/Object;[Ljava/lang/Object;I)V"⟩ : MethodName) (head1 (Jvm.Cond.code (⟨"java/util/ArrayList", "add", "(Ljava/lang/Object;[Ljava/lang/Object;I)V"⟩ : MethodName) jdk_38_method_24_code 4 none :: ws) ({ frames := 3, cells := 1, slots := 10, locals := 45 } : Room)) (fun a U => a = #[(.ref o0), (.ref o1), (.ref D), (.int (0 : Int32))] ∧ Z.Warmed39 U.vm ∧ U.heap = h0) (fun _ _ _ _ _ => True) (fun _ U o U' => ∃ v L, o = .returned v ∧ Q70 Z o0 o1 um D h0 n0 v U'.heap L ∧ FrameEnd U o U' L ({ frames := 3, cells := 1, slots := 10, locals := 45 } : Room).cells ({ frames := 3, cells := 1, slots := 10, locals := 45 } : Room).slots) := by
  refine MetFree.of_bodySF (plainFor_of_name pnm_2) hisR ?_
  intro p e s m args below meth c s₁ Bd hml0 hP hK
  obtain ⟨rfl, hZ, hh⟩ := hP
  have hx := Bd.exec
  have hby := Bd.bytes
  have hml : c.maxLocals = 4 := hml0
  have hown : s.vm.findClass "java/util/ArrayList" = some m.cls := findClass_of_methodNamed Bd.named
  have X0 : Stand p l e ({ frames := 3, cells := 1, slots := 10, locals := 45 } : Room) s m #[(.ref o0), (.ref o1), (.ref D), (.int (0 : Int32))] below meth c s₁ [] 0 0 := Stand.of_body Bd
  have e0 : s₁.heap = h0 := by rw [← hh, Bd.state]; rfl
  have fin := b70_0 o0 o1 um D (Q := Q70 Z o0 o1 um D h0 n0) hw X0 hx hZ hby hml hown Bd.returns (BodyLoose.notSynchronized Bd) e0 (Fr.nil n0) (Nat.zero_le _) (Nat.zero_le _) Z0 fr0 hO S0 DA Ix E0 Fm Fe Fs (fun H' L' b n' k' r0 r1 r2 r3 r4 r5 r6 => ⟨b, rfl, n', k', r0, r1, r2, r3, r4, r5, r6⟩)
  exact own_step (fun t k => castTop (ef_70 m o0 o1) k) fin
theorem d6_0 : decode jdk_38_method_25_code 0 = .ok (.aload_n 0, 1) := by decide +kernel
theorem d6_1 : decode jdk_38_method_25_code 1 = .ok (.dup, 1) := by decide +kernel
theorem d6_2 : decode jdk_38_method_25_code 2 = .ok (.getfield 63, 3) := by decide +kernel
theorem d6_5 : decode jdk_38_method_25_code 5 = .ok (.iconst 1, 1) := by decide +kernel
theorem d6_6 : decode jdk_38_method_25_code 6 = .ok (.iadd, 1) := by decide +kernel
theorem d6_7 : decode jdk_38_method_25_code 7 = .ok (.putfield 63, 3) := by decide +kernel
theorem d6_10 : decode jdk_38_method_25_code 10 = .ok (.aload_n 0, 1) := by decide +kernel
theorem d6_11 : decode jdk_38_method_25_code 11 = .ok (.aload_n 1, 1) := by decide +kernel
theorem d6_12 : decode jdk_38_method_25_code 12 = .ok (.aload_n 0, 1) := by decide +kernel
theorem d6_13 : decode jdk_38_method_25_code 13 = .ok (.getfield 9, 3) := by decide +kernel
theorem d6_16 : decode jdk_38_method_25_code 16 = .ok (.aload_n 0, 1) := by decide +kernel
theorem d6_17 : decode jdk_38_method_25_code 17 = .ok (.getfield 48, 3) := by decide +kernel
theorem d6_20 : decode jdk_38_method_25_code 20 = .ok (.invokevirtual 131, 3) := by decide +kernel
theorem d6_23 : decode jdk_38_method_25_code 23 = .ok (.iconst 1, 1) := by decide +kernel
theorem d6_24 : decode jdk_38_method_25_code 24 = .ok (.ireturn, 1) := by decide +kernel
set_option maxRecDepth 65536 in
set_option maxHeartbeats 40000000 in
theorem b60_0 {p : Program} {l : Launch} {e : Env} {s : State} {m : MethodId} {args : Array Value} {below : List Frame} {meth : Method} {c : Code} {T : State} {locs : List Loc} {cells slots : Nat} {Z : State} {a0 : Array Value} {h : Heap} {n0 : Nat} {Q : Option Value → Heap → List Loc → Prop} (o0 : Addr) (o1 : Addr) (mc : Int32) (D : Addr) (hw : ∀ d ∈ tables_1, d.before a0 Z = true) (X : Stand p l e ({ frames := 4, cells := 1, slots := 10, locals := 62 } : Room) s m args below meth c T locs cells slots) (hx : p.tables.exec = Jvm.exec) (hZ : Z.Warmed39 s.vm) (hby : c.code = jdk_38_method_25_code) (hml : c.maxLocals = 2) (hown : s.vm.findClass "java/util/ArrayList" = some m.cls) (hret : meth.sig.returnType = some .boolean) (hlk : meth.locks = false) (eT : T.heap = h) (N : Fr n0 locs) (hc : cells ≤ 0) (hs : slots ≤ 0) (Z0 : n0 ≤ h.size) (fr0 : n0 ≤ o0) (hO : Old Z n0 h) (S0 : Sta Z Z.heap "java/util/ArrayList" "DEFAULTCAPACITY_EMPTY_ELEMENTDATA" "[Ljava/lang/Object;" (.ref D)) (DA : own_D Z D) (Ix : Ins Z h o1 "java/lang/Object" true) (E0 : Exa Z h o0 "java/util/ArrayList") (Fm : Fld Z h o0 "java/util/AbstractList" "modCount" "I" (.int mc)) (Fe : Fld Z h o0 "java/util/ArrayList" "elementData" "[Ljava/lang/Object;" (.ref D)) (Fs : Fld Z h o0 "java/util/ArrayList" "size" "I" (.int (0 : Int32))) (hQ : ∀ (H' : Heap) (L' : List Loc) (b : Addr), Fr n0 L' → Keep h H' [o0] → (n0 ≤ b) → (h.size ≤ b) → (own_RF Z H' b "java/lang/Object" 10 (fun i => if i = 0 then (.ref o1) else (fun _ => .null) i)) → (Exa Z H' o0 "java/util/ArrayList") → (Fld Z H' o0 "java/util/AbstractList" "modCount" "I" (.int (mc + (1 : Int32)))) → (Fld Z H' o0 "java/util/ArrayList" "elementData" "[Ljava/lang/Object;" (.ref b)) → (Fld Z H' o0 "java/util/ArrayList" "size" "I" (.int (1 : Int32))) → Q (some (.int 1)) H' L') :
    own_Fin p e below s Q 1 10 (T.setTop (mkF m 0 #[.val (.ref o0), .val (.ref o1)] [])) := by
  refine own_step (fun t k => XS.aloadN X.here hx rfl (hb hby d6_0) rfl rfl k) ?_
  show own_Fin p e below s Q 1 10 (T.setTop (mkF m 1 #[.val (.ref o0), .val (.ref o1)] [(.ref o0)]))
  refine own_step (fun t k => XS.dup X.here hx rfl (hb hby d6_1) rfl rfl k) ?_
  show own_Fin p e below s Q 1 10 (T.setTop (mkF m 2 #[.val (.ref o0), .val (.ref o1)] [(.ref o0), (.ref o0)]))
  obtain ⟨T21, X21, e21, st21⟩ := getF X hx hZ hown (host := "") (Or.inl (hw _ (List.mem_of_getElem? (i := 40) rfl))) (Via.of (hw _ (List.mem_of_getElem? (i := 41) rfl))) eT Fm (g := (mkF m 2 #[.val (.ref o0), .val (.ref o1)] [(.ref o0), (.ref o0)])) rfl rfl (hb hby d6_2)
  refine own_step st21 ?_
  show own_Fin p e below s Q 1 10 (T21.setTop (mkF m 5 #[.val (.ref o0), .val (.ref o1)] [(.int mc), (.ref o0)]))
  refine own_step (fun t k => XS.iconst X21.here hx rfl (hb hby d6_5) k) ?_
  show own_Fin p e below s Q 1 10 (T21.setTop (mkF m 6 #[.val (.ref o0), .val (.ref o1)] [(.int (1 : Int32)), (.int mc), (.ref o0)]))
  refine own_step (fun t k => XS.iadd X21.here hx rfl (hb hby d6_6) rfl k) ?_
  show own_Fin p e below s Q 1 10 (T21.setTop (mkF m 7 #[.val (.ref o0), .val (.ref o1)] [(.int (mc + (1 : Int32))), (.ref o0)]))
  obtain ⟨T22, h22, X22, e22, W22, st22⟩ := putF X21 hx hZ hown (host := "") (Or.inl (hw _ (List.mem_of_getElem? (i := 40) rfl))) (Via.of (hw _ (List.mem_of_getElem? (i := 41) rfl))) e21 Fm E0 (Or.inl (hw _ (List.mem_of_getElem? (i := 22) rfl))) (hw _ (List.mem_of_getElem? (i := 1) rfl)) (ty := .int) (by decide) rfl rfl (g := (mkF m 7 #[.val (.ref o0), .val (.ref o1)] [(.int (mc + (1 : Int32))), (.ref o0)])) rfl rfl (hb hby d6_7)
  have N22 := Fr.snoc X22 N fr0
  have Z022 : n0 ≤ h22.size := Nat.le_trans Z0 (Nat.le_of_eq W22.size.symm)
  have I22 := Ix.wr W22
  have O22 := hO.wr W22 fr0
  have K22 : Keep h h22 [o0] := (Keep.refl h [o0]).wr W22 (Or.inl (List.mem_of_getElem? (i := 0) rfl))
  have Ex22_o0 := E0.wr W22
  have F22_o0_modCount := Fm.same W22
  have F22_o0_elementData := Fe.other W22 (Or.inr (slot_ne (Or.inl (hw _ (List.mem_of_getElem? (i := 25) rfl))) (Or.inl (hw _ (List.mem_of_getElem? (i := 22) rfl))) (by decide) (t := (.array (.object "java/lang/Object"))) (t' := .int) (by decide) (by decide)))
  have F22_o0_size := Fs.other W22 (Or.inr (slot_ne (Or.inl (hw _ (List.mem_of_getElem? (i := 43) rfl))) (Or.inl (hw _ (List.mem_of_getElem? (i := 22) rfl))) (by decide) (t := .int) (t' := .int) (by decide) (by decide)))
  refine own_step st22 ?_
  show own_Fin p e below s Q 1 10 (T22.setTop (mkF m 10 #[.val (.ref o0), .val (.ref o1)] []))
  refine own_step (fun t k => XS.aloadN X22.here hx rfl (hb hby d6_10) rfl rfl k) ?_
  show own_Fin p e below s Q 1 10 (T22.setTop (mkF m 11 #[.val (.ref o0), .val (.ref o1)] [(.ref o0)]))
  refine own_step (fun t k => XS.aloadN X22.here hx rfl (hb hby d6_11) rfl rfl k) ?_
  show own_Fin p e below s Q 1 10 (T22.setTop (mkF m 12 #[.val (.ref o0), .val (.ref o1)] [(.ref o1), (.ref o0)]))
  refine own_step (fun t k => XS.aloadN X22.here hx rfl (hb hby d6_12) rfl rfl k) ?_
  show own_Fin p e below s Q 1 10 (T22.setTop (mkF m 13 #[.val (.ref o0), .val (.ref o1)] [(.ref o0), (.ref o1), (.ref o0)]))
  obtain ⟨T23, X23, e23, st23⟩ := getF X22 hx hZ hown (host := "") (Or.inl (hw _ (List.mem_of_getElem? (i := 24) rfl))) Via.refl e22 F22_o0_elementData (g := (mkF m 13 #[.val (.ref o0), .val (.ref o1)] [(.ref o0), (.ref o1), (.ref o0)])) rfl rfl (hb hby d6_13)
  refine own_step st23 ?_
  show own_Fin p e below s Q 1 10 (T23.setTop (mkF m 16 #[.val (.ref o0), .val (.ref o1)] [(.ref D), (.ref o1), (.ref o0)]))
  refine own_step (fun t k => XS.aloadN X23.here hx rfl (hb hby d6_16) rfl rfl k) ?_
  show own_Fin p e below s Q 1 10 (T23.setTop (mkF m 17 #[.val (.ref o0), .val (.ref o1)] [(.ref o0), (.ref D), (.ref o1), (.ref o0)]))
  obtain ⟨T24, X24, e24, st24⟩ := getF X23 hx hZ hown (host := "") (Or.inl (hw _ (List.mem_of_getElem? (i := 42) rfl))) Via.refl e23 F22_o0_size (g := (mkF m 17 #[.val (.ref o0), .val (.ref o1)] [(.ref o0), (.ref D), (.ref o1), (.ref o0)])) rfl rfl (hb hby d6_17)
  refine own_step st24 ?_
  show own_Fin p e below s Q 1 10 (T24.setTop (mkF m 20 #[.val (.ref o0), .val (.ref o1)] [(.int (0 : Int32)), (.ref D), (.ref o1), (.ref o0)]))
  obtain ⟨cq25, q25, q25'⟩ := Ex22_o0.cell
  obtain ⟨_, _, ⟨T25, L25, k25, n25⟩, -, X25, ⟨Lc25, hQ25, l25, y25, z25⟩, st25⟩ := X24.privateBack hx (y := (⟨"java/util/ArrayList", "add", "(Ljava/lang/Object;[Ljava/lang/Object;I)V"⟩ : MethodName)) hown (mvT hZ (hw _ (List.mem_of_getElem? (i := 44) rfl))) (mvT hZ (hw _ (List.mem_of_getElem? (i := 45) rfl))) (mvT hZ (hw _ (List.mem_of_getElem? (i := 47) rfl))) (Cond.privateMethod_at (mvP hZ (hw _ (List.mem_of_getElem? (i := 46) rfl)) (args := #[]))) (mvT hZ (hw _ (List.mem_of_getElem? (i := 48) rfl))) (by decide) (backOf (W := 0) (rm70 l Z a0 hw [] o0 o1 (.int (mc + (1 : Int32))) D h22 n0 Z022 fr0 O22 S0 DA I22 Ex22_o0 F22_o0_modCount F22_o0_elementData F22_o0_size) hZ (hw _ (List.mem_of_getElem? (i := 48) rfl)) (hw _ (List.mem_of_getElem? (i := 2) rfl)) (by decide) (by decide)) (g := (mkF m 20 #[.val (.ref o0), .val (.ref o1)] [(.int (0 : Int32)), (.ref D), (.ref o1), (.ref o0)])) rfl (by rw [hml]; rfl) (Steps.refl _) (a := o0) (by rw [e24]; exact q25) q25' (argsL := [(.ref o1), (.ref D), (.int (0 : Int32))]) (rest := []) (lenOf pdm_4 rfl) rfl (by show 2 * 0 + _ ≤ _; exact Nat.le_of_eq rfl) (hb hby d6_20) (fun _ _ => ⟨rfl, e24, (show cells + 1 ≤ 1 from (Nat.le_trans (Nat.add_le_add_right hc 1) (by decide))), (show slots + 10 ≤ 10 from (Nat.le_trans (Nat.add_le_add_right hs 10) (by decide)))⟩)
  dsimp only [Pt.U, Pt.locs, Pt.cells, Pt.slots] at X25 l25 y25 z25 st25 hQ25
  have yy25 : k25 = cells + 1 := y25
  have zz25 : n25 = slots + 10 := z25
  rw [yy25, zz25, l25] at X25
  obtain ⟨b_25, rfl, N25q, K25, r0_25, r1_25, r2_25, r3_25, r4_25, r5_25, r6_25⟩ := hQ25
  have N25 := Fr.app N22 N25q
  have Z025 : n0 ≤ T25.heap.size := Nat.le_trans Z022 K25.1
  have I25 := own_InsK I22 K25
  have O25 := O22.keep K25 (allS fr0 all0)
  have KK25 : Keep h T25.heap [o0] := K22.trans K25 (allS (Or.inl (List.mem_of_getElem? (i := 0) rfl)) all0)
  have neo0_25 : o0 ≠ b_25 := Nat.ne_of_lt (Nat.lt_of_lt_of_le Ex22_o0.lt r1_25)
  have sz25 : h.size ≤ b_25 := Nat.le_trans K22.1 r1_25
  refine own_step (fun t k => st25.trans k) ?_
  show own_Fin p e below s Q 1 10 (T25.setTop (mkF m 23 #[.val (.ref o0), .val (.ref o1)] []))
  refine own_step (fun t k => XS.iconst X25.here hx rfl (hb hby d6_23) k) ?_
  show own_Fin p e below s Q 1 10 (T25.setTop (mkF m 24 #[.val (.ref o0), .val (.ref o1)] [(.int (1 : Int32))]))
  refine own_retZ X25 hx hlk hret (by simp) (hb hby d6_24) (Nat.le_trans (Nat.add_le_add_right hc 1) (by decide)) (Nat.le_trans (Nat.add_le_add_right hs 10) (by decide)) rfl ?_
  exact hQ _ _ b_25 N25 KK25 r0_25 sz25 r2_25 r3_25 r4_25 r5_25 r6_25
theorem pdm_5 : parseMethodDescriptor "(Ljava/lang/Object;)Z" = some ⟨[(.object "java/lang/Object")], some .boolean⟩ := by decide +kernel
theorem ef_60 (m : MethodId) (o0 : Addr) (o1 : Addr) : entryFrame m #[(.ref o0), (.ref o1)] 2 = (mkF m 0 #[.val (.ref o0), .val (.ref o1)] []) := by first | (simp [entryFrame, mkF, argsToLocals, Value.category]; done) | rfl
def Q60 (Z : State) (o0 : Addr) (o1 : Addr) (mc : Int32) (D : Addr) (h0 : Heap) (n0 : Nat) (v : Option Value) (h : Heap) (L : List Loc) : Prop := ∃ (b : Addr), v = some (.int 1) ∧ Fr n0 L ∧ Keep h0 h [o0] ∧ (n0 ≤ b) ∧ (h0.size ≤ b) ∧ (own_RF Z h b "java/lang/Object" 10 (fun i => if i = 0 then (.ref o1) else (fun _ => .null) i)) ∧ (Exa Z h o0 "java/util/ArrayList") ∧ (Fld Z h o0 "java/util/AbstractList" "modCount" "I" (.int (mc + (1 : Int32)))) ∧ (Fld Z h o0 "java/util/ArrayList" "elementData" "[Ljava/lang/Object;" (.ref b)) ∧ (Fld Z h o0 "java/util/ArrayList" "size" "I" (.int (1 : Int32)))
set_option maxRecDepth 65536 in
set_option maxHeartbeats 4000000 in
theorem rm60 (l : Launch) (Z : State) (a0 : Array Value) (hw : ∀ d ∈ tables_1, d.before a0 Z = true) (ws : List Jvm.Cond) (o0 : Addr) (o1 : Addr) (mc : Int32) (D : Addr) (h0 : Heap) (n0 : Nat) (Z0 : n0 ≤ h0.size) (fr0 : n0 ≤ o0) (hO : Old Z n0 h0) (S0 : Sta Z Z.heap "java/util/ArrayList" "DEFAULTCAPACITY_EMPTY_ELEMENTDATA" "[Ljava/lang/Object;" (.ref D)) (DA : own_D Z D) (Ix : Ins Z h0 o1 "java/lang/Object" true) (E0 : Exa Z h0 o0 "java/util/ArrayList") (Fm : Fld Z h0 o0 "java/util/AbstractList" "modCount" "I" (.int mc)) (Fe : Fld Z h0 o0 "java/util/ArrayList" "elementData" "[Ljava/lang/Object;" (.ref D)) (Fs : Fld Z h0 o0 "java/util/ArrayList" "size" "I" (.int (0 : Int32))) :
    MetFree l (⟨"java/util/ArrayList", "add", "(Ljava/lang/Object;)Z"⟩ : MethodName) (head1 (Jvm.Cond.code (⟨"java/util/ArrayList", "add", "(Ljava/lang/Object;)Z"⟩ : MethodName) jdk_38_method_25_code 2 (some .boolean) :: ws) ({ frames := 4, cells := 1, slots := 10, locals := 62 } : Room)) (fun a U => a = #[(.ref o0), (.ref o1)] ∧ Z.Warmed39 U.vm ∧ U.heap = h0) (fun _ _ _ _ _ => True) (fun _ U o U' => ∃ v L, o = .returned v ∧ Q60 Z o0 o1 mc D h0 n0 v U'.heap L ∧ FrameEnd U o U' L ({ frames := 4, cells := 1, slots := 10, locals := 62 } : Room).cells ({ frames := 4, cells := 1, slots := 10, locals := 62 } : Room).slots) := by
  refine MetFree.of_bodySF (plainFor_of_name pnm_2) hisR ?_
  intro p e s m args below meth c s₁ Bd hml0 hP hK
  obtain ⟨rfl, hZ, hh⟩ := hP
  have hx := Bd.exec
  have hby := Bd.bytes
  have hml : c.maxLocals = 2 := hml0
  have hown : s.vm.findClass "java/util/ArrayList" = some m.cls := findClass_of_methodNamed Bd.named
  have X0 : Stand p l e ({ frames := 4, cells := 1, slots := 10, locals := 62 } : Room) s m #[(.ref o0), (.ref o1)] below meth c s₁ [] 0 0 := Stand.of_body Bd
  have e0 : s₁.heap = h0 := by rw [← hh, Bd.state]; rfl
  have fin := b60_0 o0 o1 mc D (Q := Q60 Z o0 o1 mc D h0 n0) hw X0 hx hZ hby hml hown Bd.returns (BodyLoose.notSynchronized Bd) e0 (Fr.nil n0) (Nat.zero_le _) (Nat.zero_le _) Z0 fr0 hO S0 DA Ix E0 Fm Fe Fs (fun H' L' b n' k' r0 r1 r2 r3 r4 r5 r6 => ⟨b, rfl, n', k', r0, r1, r2, r3, r4, r5, r6⟩)
  exact own_step (fun t k => castTop (ef_60 m o0 o1) k) fin
set_option maxRecDepth 65536 in
set_option maxHeartbeats 40000000 in
theorem b71_0 {p : Program} {l : Launch} {e : Env} {s : State} {m : MethodId} {args : Array Value} {below : List Frame} {meth : Method} {c : Code} {T : State} {locs : List Loc} {cells slots : Nat} {Z : State} {a0 : Array Value} {h : Heap} {n0 : Nat} {Q : Option Value → Heap → List Loc → Prop} (o0 : Addr) (o1 : Addr) (um : Value) (ea : Addr) (gE : Nat → Value) (hw : ∀ d ∈ tables_1, d.before a0 Z = true) (X : Stand p l e ({ frames := 0, cells := 0, slots := 0, locals := 0 } : Room) s m args below meth c T locs cells slots) (hx : p.tables.exec = Jvm.exec) (hZ : Z.Warmed39 s.vm) (hby : c.code = jdk_38_method_24_code) (hml : c.maxLocals = 4) (hown : s.vm.findClass "java/util/ArrayList" = some m.cls) (hret : meth.sig.returnType = none) (hlk : meth.locks = false) (eT : T.heap = h) (N : Fr n0 locs) (hc : cells ≤ 0) (hs : slots ≤ 0) (Z0 : n0 ≤ h.size) (fr0 : n0 ≤ o0) (fre : n0 ≤ ea) (nee : o0 ≠ ea) (Ix : Ins Z h o1 "java/lang/Object" true) (Re : own_RF Z h ea "java/lang/Object" 10 gE) (E0 : Exa Z h o0 "java/util/ArrayList") (Fm : Fld Z h o0 "java/util/AbstractList" "modCount" "I" um) (Fe : Fld Z h o0 "java/util/ArrayList" "elementData" "[Ljava/lang/Object;" (.ref ea)) (Fs : Fld Z h o0 "java/util/ArrayList" "size" "I" (.int (1 : Int32))) (hQ : ∀ (H' : Heap) (L' : List Loc), Fr n0 L' → Keep h H' [o0, ea] → (own_RF Z H' ea "java/lang/Object" 10 (fun i => if i = 1 then (.ref o1) else gE i)) → (Exa Z H' o0 "java/util/ArrayList") → (Fld Z H' o0 "java/util/AbstractList" "modCount" "I" um) → (Fld Z H' o0 "java/util/ArrayList" "elementData" "[Ljava/lang/Object;" (.ref ea)) → (Fld Z H' o0 "java/util/ArrayList" "size" "I" (.int ((1 : Int32) + (1 : Int32)))) → Q none H' L') :
    own_Fin p e below s Q 0 0 (T.setTop (mkF m 0 #[.val (.ref o0), .val (.ref o1), .val (.ref ea), .val (.int (1 : Int32))] [])) := by
  refine own_step (fun t k => XS.iloadN X.here hx rfl (hb hby d7_0) rfl  k) ?_
  show own_Fin p e below s Q 0 0 (T.setTop (mkF m 1 #[.val (.ref o0), .val (.ref o1), .val (.ref ea), .val (.int (1 : Int32))] [(.int (1 : Int32))]))
  refine own_step (fun t k => XS.aloadN X.here hx rfl (hb hby d7_1) rfl rfl k) ?_
  show own_Fin p e below s Q 0 0 (T.setTop (mkF m 2 #[.val (.ref o0), .val (.ref o1), .val (.ref ea), .val (.int (1 : Int32))] [(.ref ea), (.int (1 : Int32))]))
  obtain ⟨ca2, Ar2, Ov2, Sz2, Ht2⟩ := id Re
  refine own_step (X.arraylength hx (by rw [eT]; exact Ar2.1) (State.isArrayOf_alike hZ.alike Ar2.2.1) (g := (mkF m 2 #[.val (.ref o0), .val (.ref o1), .val (.ref ea), .val (.int (1 : Int32))] [(.ref ea), (.int (1 : Int32))])) rfl rfl (hb hby d7_2)) ?_
  rw [Sz2]
  show own_Fin p e below s Q 0 0 (T.setTop (mkF m 3 #[.val (.ref o0), .val (.ref o1), .val (.ref ea), .val (.int (1 : Int32))] [(.int (10 : Int32)), (.int (1 : Int32))]))
  refine own_step (fun t k => XS.icmpYes X.here hx rfl (pc0 := 3) (pc' := 11) rfl (hb hby d7_3) rfl (feq (by decide : ¬ ((1 : Int32) = (10 : Int32)))).2 (by decide) (by decide) k) ?_
  show own_Fin p e below s Q 0 0 (T.setTop (mkF m 11 #[.val (.ref o0), .val (.ref o1), .val (.ref ea), .val (.int (1 : Int32))] []))
  refine own_step (fun t k => XS.aloadN X.here hx rfl (hb hby d7_11) rfl rfl k) ?_
  show own_Fin p e below s Q 0 0 (T.setTop (mkF m 12 #[.val (.ref o0), .val (.ref o1), .val (.ref ea), .val (.int (1 : Int32))] [(.ref ea)]))
  refine own_step (fun t k => XS.iloadN X.here hx rfl (hb hby d7_12) rfl  k) ?_
  show own_Fin p e below s Q 0 0 (T.setTop (mkF m 13 #[.val (.ref o0), .val (.ref o1), .val (.ref ea), .val (.int (1 : Int32))] [(.int (1 : Int32)), (.ref ea)]))
  refine own_step (fun t k => XS.aloadN X.here hx rfl (hb hby d7_13) rfl rfl k) ?_
  show own_Fin p e below s Q 0 0 (T.setTop (mkF m 14 #[.val (.ref o0), .val (.ref o1), .val (.ref ea), .val (.int (1 : Int32))] [(.ref o1), (.int (1 : Int32)), (.ref ea)]))
  obtain ⟨ca26, Ar26, Ov26, Sz26, Ht26⟩ := id Re
  have hin26 : ¬ ((1 : Int32) < 0 ∨ ca26.slots.size ≤ ((1 : Int32)).toNatClampNeg) := by rw [Sz26]; exact (by decide)
  obtain ⟨T26, h26, X26, e26, W26, st26⟩ := stR X hx hZ eT Ar26 (j := (1 : Int32)) hin26 rfl (Sto.of Ar26 Ov26 Ix) (g := (mkF m 14 #[.val (.ref o0), .val (.ref o1), .val (.ref ea), .val (.int (1 : Int32))] [(.ref o1), (.int (1 : Int32)), (.ref ea)])) rfl rfl (hb hby d7_14)
  have R26 : own_RF Z h26 ea "java/lang/Object" 10 (fun i => if i = 1 then (.ref o1) else gE i) := own_RFset Ar26 Ov26 Sz26 Ht26 W26
  have N26 := Fr.snoc X26 N fre
  have Z026 : n0 ≤ h26.size := Nat.le_trans Z0 (Nat.le_of_eq W26.size.symm)
  have Ex26_o0 := E0.wr W26
  have F26_o0_modCount := Fm.other W26 (Or.inl nee)
  have F26_o0_elementData := Fe.other W26 (Or.inl nee)
  have F26_o0_size := Fs.other W26 (Or.inl nee)
  have I26 := Ix.wr W26
  have K26 : Keep h h26 [o0, ea] := (Keep.refl h [o0, ea]).wr W26 (Or.inl (List.mem_of_getElem? (i := 1) rfl))
  refine own_step st26 ?_
  show own_Fin p e below s Q 0 0 (T26.setTop (mkF m 15 #[.val (.ref o0), .val (.ref o1), .val (.ref ea), .val (.int (1 : Int32))] []))
  refine own_step (fun t k => XS.aloadN X26.here hx rfl (hb hby d7_15) rfl rfl k) ?_
  show own_Fin p e below s Q 0 0 (T26.setTop (mkF m 16 #[.val (.ref o0), .val (.ref o1), .val (.ref ea), .val (.int (1 : Int32))] [(.ref o0)]))
  refine own_step (fun t k => XS.iloadN X26.here hx rfl (hb hby d7_16) rfl  k) ?_
  show own_Fin p e below s Q 0 0 (T26.setTop (mkF m 17 #[.val (.ref o0), .val (.ref o1), .val (.ref ea), .val (.int (1 : Int32))] [(.int (1 : Int32)), (.ref o0)]))
  refine own_step (fun t k => XS.iconst X26.here hx rfl (hb hby d7_17) k) ?_
  show own_Fin p e below s Q 0 0 (T26.setTop (mkF m 18 #[.val (.ref o0), .val (.ref o1), .val (.ref ea), .val (.int (1 : Int32))] [(.int (1 : Int32)), (.int (1 : Int32)), (.ref o0)]))
  refine own_step (fun t k => XS.iadd X26.here hx rfl (hb hby d7_18) rfl k) ?_
  show own_Fin p e below s Q 0 0 (T26.setTop (mkF m 19 #[.val (.ref o0), .val (.ref o1), .val (.ref ea), .val (.int (1 : Int32))] [(.int ((1 : Int32) + (1 : Int32))), (.ref o0)]))
  obtain ⟨T27, h27, X27, e27, W27, st27⟩ := putF X26 hx hZ hown (host := "") (Or.inl (hw _ (List.mem_of_getElem? (i := 42) rfl))) Via.refl e26 F26_o0_size Ex26_o0 (Or.inl (hw _ (List.mem_of_getElem? (i := 43) rfl))) (hw _ (List.mem_of_getElem? (i := 1) rfl)) (ty := .int) (by decide) rfl rfl (g := (mkF m 19 #[.val (.ref o0), .val (.ref o1), .val (.ref ea), .val (.int (1 : Int32))] [(.int ((1 : Int32) + (1 : Int32))), (.ref o0)])) rfl rfl (hb hby d7_19)
  have N27 := Fr.snoc X27 N26 fr0
  have Z027 : n0 ≤ h27.size := Nat.le_trans Z026 (Nat.le_of_eq W27.size.symm)
  have R27_ea := own_RFoth R26 W27 (Ne.symm nee)
  have I27 := I26.wr W27
  have K27 : Keep h h27 [o0, ea] := K26.wr W27 (Or.inl (List.mem_of_getElem? (i := 0) rfl))
  have Ex27_o0 := Ex26_o0.wr W27
  have F27_o0_modCount := F26_o0_modCount.other W27 (Or.inr (slot_ne (Or.inl (hw _ (List.mem_of_getElem? (i := 22) rfl))) (Or.inl (hw _ (List.mem_of_getElem? (i := 43) rfl))) (by decide) (t := .int) (t' := .int) (by decide) (by decide)))
  have F27_o0_elementData := F26_o0_elementData.other W27 (Or.inr (slot_ne (Or.inl (hw _ (List.mem_of_getElem? (i := 25) rfl))) (Or.inl (hw _ (List.mem_of_getElem? (i := 43) rfl))) (by decide) (t := (.array (.object "java/lang/Object"))) (t' := .int) (by decide) (by decide)))
  have F27_o0_size := F26_o0_size.same W27
  refine own_step st27 ?_
  show own_Fin p e below s Q 0 0 (T27.setTop (mkF m 22 #[.val (.ref o0), .val (.ref o1), .val (.ref ea), .val (.int (1 : Int32))] []))
  refine own_ret0 X27 hx hlk hret (hb hby d7_22) (Nat.le_trans (Nat.add_le_add_right hc 0) (by decide)) (Nat.le_trans (Nat.add_le_add_right hs 0) (by decide)) e27 ?_
  exact hQ _ _ N27 K27 R27_ea Ex27_o0 F27_o0_modCount F27_o0_elementData F27_o0_size
theorem ef_71 (m : MethodId) (o0 : Addr) (o1 : Addr) : entryFrame m #[(.ref o0), (.ref o1), (.ref ea), (.int (1 : Int32))] 4 = (mkF m 0 #[.val (.ref o0), .val (.ref o1), .val (.ref ea), .val (.int (1 : Int32))] []) := by first | (simp [entryFrame, mkF, argsToLocals, Value.category]; done) | rfl
def Q71 (Z : State) (o0 : Addr) (o1 : Addr) (um : Value) (ea : Addr) (gE : Nat → Value) (h0 : Heap) (n0 : Nat) (v : Option Value) (h : Heap) (L : List Loc) : Prop := v = none ∧ Fr n0 L ∧ Keep h0 h [o0, ea] ∧ (own_RF Z h ea "java/lang/Object" 10 (fun i => if i = 1 then (.ref o1) else gE i)) ∧ (Exa Z h o0 "java/util/ArrayList") ∧ (Fld Z h o0 "java/util/AbstractList" "modCount" "I" um) ∧ (Fld Z h o0 "java/util/ArrayList" "elementData" "[Ljava/lang/Object;" (.ref ea)) ∧ (Fld Z h o0 "java/util/ArrayList" "size" "I" (.int ((1 : Int32) + (1 : Int32))))
set_option maxRecDepth 65536 in
set_option maxHeartbeats 4000000 in
theorem rm71 (l : Launch) (Z : State) (a0 : Array Value) (hw : ∀ d ∈ tables_1, d.before a0 Z = true) (ws : List Jvm.Cond) (o0 : Addr) (o1 : Addr) (um : Value) (ea : Addr) (gE : Nat → Value) (h0 : Heap) (n0 : Nat) (Z0 : n0 ≤ h0.size) (fr0 : n0 ≤ o0) (fre : n0 ≤ ea) (nee : o0 ≠ ea) (Ix : Ins Z h0 o1 "java/lang/Object" true) (Re : own_RF Z h0 ea "java/lang/Object" 10 gE) (E0 : Exa Z h0 o0 "java/util/ArrayList") (Fm : Fld Z h0 o0 "java/util/AbstractList" "modCount" "I" um) (Fe : Fld Z h0 o0 "java/util/ArrayList" "elementData" "[Ljava/lang/Object;" (.ref ea)) (Fs : Fld Z h0 o0 "java/util/ArrayList" "size" "I" (.int (1 : Int32))) :
    MetFree l (⟨"java/util/ArrayList", "add", "(Ljava/lang/Object;[Ljava/lang/Object;I)V"⟩ : MethodName) (head1 (Jvm.Cond.code (⟨"java/util/ArrayList", "add", "(Ljava/lang/Object;[Ljava/lang/Object;I)V"⟩ : MethodName) jdk_38_method_24_code 4 none :: ws) ({ frames := 0, cells := 0, slots := 0, locals := 0 } : Room)) (fun a U => a = #[(.ref o0), (.ref o1), (.ref ea), (.int (1 : Int32))] ∧ Z.Warmed39 U.vm ∧ U.heap = h0) (fun _ _ _ _ _ => True) (fun _ U o U' => ∃ v L, o = .returned v ∧ Q71 Z o0 o1 um ea gE h0 n0 v U'.heap L ∧ FrameEnd U o U' L ({ frames := 0, cells := 0, slots := 0, locals := 0 } : Room).cells ({ frames := 0, cells := 0, slots := 0, locals := 0 } : Room).slots) := by
  refine MetFree.of_bodySF (plainFor_of_name pnm_2) hisR ?_
  intro p e s m args below meth c s₁ Bd hml0 hP hK
  obtain ⟨rfl, hZ, hh⟩ := hP
  have hx := Bd.exec
  have hby := Bd.bytes
  have hml : c.maxLocals = 4 := hml0
  have hown : s.vm.findClass "java/util/ArrayList" = some m.cls := findClass_of_methodNamed Bd.named
  have X0 : Stand p l e ({ frames := 0, cells := 0, slots := 0, locals := 0 } : Room) s m #[(.ref o0), (.ref o1), (.ref ea), (.int (1 : Int32))] below meth c s₁ [] 0 0 := Stand.of_body Bd
  have e0 : s₁.heap = h0 := by rw [← hh, Bd.state]; rfl
  have fin := b71_0 o0 o1 um ea gE (Q := Q71 Z o0 o1 um ea gE h0 n0) hw X0 hx hZ hby hml hown Bd.returns (BodyLoose.notSynchronized Bd) e0 (Fr.nil n0) (Nat.zero_le _) (Nat.zero_le _) Z0 fr0 fre nee Ix Re E0 Fm Fe Fs (fun H' L' n' k' r0 r1 r2 r3 r4 => ⟨rfl, n', k', r0, r1, r2, r3, r4⟩)
  exact own_step (fun t k => castTop (ef_71 m o0 o1) k) fin
set_option maxRecDepth 65536 in
set_option maxHeartbeats 40000000 in
theorem b61_0 {p : Program} {l : Launch} {e : Env} {s : State} {m : MethodId} {args : Array Value} {below : List Frame} {meth : Method} {c : Code} {T : State} {locs : List Loc} {cells slots : Nat} {Z : State} {a0 : Array Value} {h : Heap} {n0 : Nat} {Q : Option Value → Heap → List Loc → Prop} (o0 : Addr) (o1 : Addr) (mc : Int32) (ea : Addr) (gE : Nat → Value) (hw : ∀ d ∈ tables_1, d.before a0 Z = true) (X : Stand p l e ({ frames := 1, cells := 0, slots := 0, locals := 16 } : Room) s m args below meth c T locs cells slots) (hx : p.tables.exec = Jvm.exec) (hZ : Z.Warmed39 s.vm) (hby : c.code = jdk_38_method_25_code) (hml : c.maxLocals = 2) (hown : s.vm.findClass "java/util/ArrayList" = some m.cls) (hret : meth.sig.returnType = some .boolean) (hlk : meth.locks = false) (eT : T.heap = h) (N : Fr n0 locs) (hc : cells ≤ 0) (hs : slots ≤ 0) (Z0 : n0 ≤ h.size) (fr0 : n0 ≤ o0) (fre : n0 ≤ ea) (nee : o0 ≠ ea) (Ix : Ins Z h o1 "java/lang/Object" true) (Re : own_RF Z h ea "java/lang/Object" 10 gE) (E0 : Exa Z h o0 "java/util/ArrayList") (Fm : Fld Z h o0 "java/util/AbstractList" "modCount" "I" (.int mc)) (Fe : Fld Z h o0 "java/util/ArrayList" "elementData" "[Ljava/lang/Object;" (.ref ea)) (Fs : Fld Z h o0 "java/util/ArrayList" "size" "I" (.int (1 : Int32))) (hQ : ∀ (H' : Heap) (L' : List Loc), Fr n0 L' → Keep h H' [o0, ea] → (own_RF Z H' ea "java/lang/Object" 10 (fun i => if i = 1 then (.ref o1) else gE i)) → (Exa Z H' o0 "java/util/ArrayList") → (Fld Z H' o0 "java/util/AbstractList" "modCount" "I" (.int (mc + (1 : Int32)))) → (Fld Z H' o0 "java/util/ArrayList" "elementData" "[Ljava/lang/Object;" (.ref ea)) → (Fld Z H' o0 "java/util/ArrayList" "size" "I" (.int (2 : Int32))) → Q (some (.int 1)) H' L') :
    own_Fin p e below s Q 0 0 (T.setTop (mkF m 0 #[.val (.ref o0), .val (.ref o1)] [])) := by
  refine own_step (fun t k => XS.aloadN X.here hx rfl (hb hby d6_0) rfl rfl k) ?_
  show own_Fin p e below s Q 0 0 (T.setTop (mkF m 1 #[.val (.ref o0), .val (.ref o1)] [(.ref o0)]))
  refine own_step (fun t k => XS.dup X.here hx rfl (hb hby d6_1) rfl rfl k) ?_
  show own_Fin p e below s Q 0 0 (T.setTop (mkF m 2 #[.val (.ref o0), .val (.ref o1)] [(.ref o0), (.ref o0)]))
  obtain ⟨T28, X28, e28, st28⟩ := getF X hx hZ hown (host := "") (Or.inl (hw _ (List.mem_of_getElem? (i := 40) rfl))) (Via.of (hw _ (List.mem_of_getElem? (i := 41) rfl))) eT Fm (g := (mkF m 2 #[.val (.ref o0), .val (.ref o1)] [(.ref o0), (.ref o0)])) rfl rfl (hb hby d6_2)
  refine own_step st28 ?_
  show own_Fin p e below s Q 0 0 (T28.setTop (mkF m 5 #[.val (.ref o0), .val (.ref o1)] [(.int mc), (.ref o0)]))
  refine own_step (fun t k => XS.iconst X28.here hx rfl (hb hby d6_5) k) ?_
  show own_Fin p e below s Q 0 0 (T28.setTop (mkF m 6 #[.val (.ref o0), .val (.ref o1)] [(.int (1 : Int32)), (.int mc), (.ref o0)]))
  refine own_step (fun t k => XS.iadd X28.here hx rfl (hb hby d6_6) rfl k) ?_
  show own_Fin p e below s Q 0 0 (T28.setTop (mkF m 7 #[.val (.ref o0), .val (.ref o1)] [(.int (mc + (1 : Int32))), (.ref o0)]))
  obtain ⟨T29, h29, X29, e29, W29, st29⟩ := putF X28 hx hZ hown (host := "") (Or.inl (hw _ (List.mem_of_getElem? (i := 40) rfl))) (Via.of (hw _ (List.mem_of_getElem? (i := 41) rfl))) e28 Fm E0 (Or.inl (hw _ (List.mem_of_getElem? (i := 22) rfl))) (hw _ (List.mem_of_getElem? (i := 1) rfl)) (ty := .int) (by decide) rfl rfl (g := (mkF m 7 #[.val (.ref o0), .val (.ref o1)] [(.int (mc + (1 : Int32))), (.ref o0)])) rfl rfl (hb hby d6_7)
  have N29 := Fr.snoc X29 N fr0
  have Z029 : n0 ≤ h29.size := Nat.le_trans Z0 (Nat.le_of_eq W29.size.symm)
  have R29_ea := own_RFoth Re W29 (Ne.symm nee)
  have I29 := Ix.wr W29
  have K29 : Keep h h29 [o0, ea] := (Keep.refl h [o0, ea]).wr W29 (Or.inl (List.mem_of_getElem? (i := 0) rfl))
  have Ex29_o0 := E0.wr W29
  have F29_o0_modCount := Fm.same W29
  have F29_o0_elementData := Fe.other W29 (Or.inr (slot_ne (Or.inl (hw _ (List.mem_of_getElem? (i := 25) rfl))) (Or.inl (hw _ (List.mem_of_getElem? (i := 22) rfl))) (by decide) (t := (.array (.object "java/lang/Object"))) (t' := .int) (by decide) (by decide)))
  have F29_o0_size := Fs.other W29 (Or.inr (slot_ne (Or.inl (hw _ (List.mem_of_getElem? (i := 43) rfl))) (Or.inl (hw _ (List.mem_of_getElem? (i := 22) rfl))) (by decide) (t := .int) (t' := .int) (by decide) (by decide)))
  refine own_step st29 ?_
  show own_Fin p e below s Q 0 0 (T29.setTop (mkF m 10 #[.val (.ref o0), .val (.ref o1)] []))
  refine own_step (fun t k => XS.aloadN X29.here hx rfl (hb hby d6_10) rfl rfl k) ?_
  show own_Fin p e below s Q 0 0 (T29.setTop (mkF m 11 #[.val (.ref o0), .val (.ref o1)] [(.ref o0)]))
  refine own_step (fun t k => XS.aloadN X29.here hx rfl (hb hby d6_11) rfl rfl k) ?_
  show own_Fin p e below s Q 0 0 (T29.setTop (mkF m 12 #[.val (.ref o0), .val (.ref o1)] [(.ref o1), (.ref o0)]))
  refine own_step (fun t k => XS.aloadN X29.here hx rfl (hb hby d6_12) rfl rfl k) ?_
  show own_Fin p e below s Q 0 0 (T29.setTop (mkF m 13 #[.val (.ref o0), .val (.ref o1)] [(.ref o0), (.ref o1), (.ref o0)]))
  obtain ⟨T30, X30, e30, st30⟩ := getF X29 hx hZ hown (host := "") (Or.inl (hw _ (List.mem_of_getElem? (i := 24) rfl))) Via.refl e29 F29_o0_elementData (g := (mkF m 13 #[.val (.ref o0), .val (.ref o1)] [(.ref o0), (.ref o1), (.ref o0)])) rfl rfl (hb hby d6_13)
  refine own_step st30 ?_
  show own_Fin p e below s Q 0 0 (T30.setTop (mkF m 16 #[.val (.ref o0), .val (.ref o1)] [(.ref ea), (.ref o1), (.ref o0)]))
  refine own_step (fun t k => XS.aloadN X30.here hx rfl (hb hby d6_16) rfl rfl k) ?_
  show own_Fin p e below s Q 0 0 (T30.setTop (mkF m 17 #[.val (.ref o0), .val (.ref o1)] [(.ref o0), (.ref ea), (.ref o1), (.ref o0)]))
  obtain ⟨T31, X31, e31, st31⟩ := getF X30 hx hZ hown (host := "") (Or.inl (hw _ (List.mem_of_getElem? (i := 42) rfl))) Via.refl e30 F29_o0_size (g := (mkF m 17 #[.val (.ref o0), .val (.ref o1)] [(.ref o0), (.ref ea), (.ref o1), (.ref o0)])) rfl rfl (hb hby d6_17)
  refine own_step st31 ?_
  show own_Fin p e below s Q 0 0 (T31.setTop (mkF m 20 #[.val (.ref o0), .val (.ref o1)] [(.int (1 : Int32)), (.ref ea), (.ref o1), (.ref o0)]))
  obtain ⟨cq32, q32, q32'⟩ := Ex29_o0.cell
  obtain ⟨_, _, ⟨T32, L32, k32, n32⟩, -, X32, ⟨Lc32, hQ32, l32, y32, z32⟩, st32⟩ := X31.privateBack hx (y := (⟨"java/util/ArrayList", "add", "(Ljava/lang/Object;[Ljava/lang/Object;I)V"⟩ : MethodName)) hown (mvT hZ (hw _ (List.mem_of_getElem? (i := 44) rfl))) (mvT hZ (hw _ (List.mem_of_getElem? (i := 45) rfl))) (mvT hZ (hw _ (List.mem_of_getElem? (i := 47) rfl))) (Cond.privateMethod_at (mvP hZ (hw _ (List.mem_of_getElem? (i := 46) rfl)) (args := #[]))) (mvT hZ (hw _ (List.mem_of_getElem? (i := 48) rfl))) (by decide) (backOf (W := 0) (rm71 l Z a0 hw [] o0 o1 (.int (mc + (1 : Int32))) ea gE h29 n0 Z029 fr0 fre nee I29 R29_ea Ex29_o0 F29_o0_modCount F29_o0_elementData F29_o0_size) hZ (hw _ (List.mem_of_getElem? (i := 48) rfl)) (hw _ (List.mem_of_getElem? (i := 2) rfl)) (by decide) (by decide)) (g := (mkF m 20 #[.val (.ref o0), .val (.ref o1)] [(.int (1 : Int32)), (.ref ea), (.ref o1), (.ref o0)])) rfl (by rw [hml]; rfl) (Steps.refl _) (a := o0) (by rw [e31]; exact q32) q32' (argsL := [(.ref o1), (.ref ea), (.int (1 : Int32))]) (rest := []) (lenOf pdm_4 rfl) rfl (by show 2 * 0 + _ ≤ _; exact Nat.le_of_eq rfl) (hb hby d6_20) (fun _ _ => ⟨rfl, e31, (show cells + 0 ≤ 0 from (Nat.le_trans (Nat.add_le_add_right hc 0) (by decide))), (show slots + 0 ≤ 0 from (Nat.le_trans (Nat.add_le_add_right hs 0) (by decide)))⟩)
  dsimp only [Pt.U, Pt.locs, Pt.cells, Pt.slots] at X32 l32 y32 z32 st32 hQ32
  have yy32 : k32 = cells + 0 := y32
  have zz32 : n32 = slots + 0 := z32
  rw [yy32, zz32, l32] at X32
  obtain ⟨rfl, N32q, K32, r0_32, r1_32, r2_32, r3_32, r4_32⟩ := hQ32
  have N32 := Fr.app N29 N32q
  have Z032 : n0 ≤ T32.heap.size := Nat.le_trans Z029 K32.1
  have I32 := own_InsK I29 K32
  have KK32 : Keep h T32.heap [o0, ea] := K29.trans K32 (allS (Or.inl (List.mem_of_getElem? (i := 0) rfl)) (allS (Or.inl (List.mem_of_getElem? (i := 1) rfl)) all0))
  refine own_step (fun t k => st32.trans k) ?_
  show own_Fin p e below s Q 0 0 (T32.setTop (mkF m 23 #[.val (.ref o0), .val (.ref o1)] []))
  refine own_step (fun t k => XS.iconst X32.here hx rfl (hb hby d6_23) k) ?_
  show own_Fin p e below s Q 0 0 (T32.setTop (mkF m 24 #[.val (.ref o0), .val (.ref o1)] [(.int (1 : Int32))]))
  refine own_retZ X32 hx hlk hret (by simp) (hb hby d6_24) (Nat.le_trans (Nat.add_le_add_right hc 0) (by decide)) (Nat.le_trans (Nat.add_le_add_right hs 0) (by decide)) rfl ?_
  exact hQ _ _ N32 KK32 r0_32 r1_32 r2_32 r3_32 r4_32
theorem ef_61 (m : MethodId) (o0 : Addr) (o1 : Addr) : entryFrame m #[(.ref o0), (.ref o1)] 2 = (mkF m 0 #[.val (.ref o0), .val (.ref o1)] []) := by first | (simp [entryFrame, mkF, argsToLocals, Value.category]; done) | rfl
def Q61 (Z : State) (o0 : Addr) (o1 : Addr) (mc : Int32) (ea : Addr) (gE : Nat → Value) (h0 : Heap) (n0 : Nat) (v : Option Value) (h : Heap) (L : List Loc) : Prop := v = some (.int 1) ∧ Fr n0 L ∧ Keep h0 h [o0, ea] ∧ (own_RF Z h ea "java/lang/Object" 10 (fun i => if i = 1 then (.ref o1) else gE i)) ∧ (Exa Z h o0 "java/util/ArrayList") ∧ (Fld Z h o0 "java/util/AbstractList" "modCount" "I" (.int (mc + (1 : Int32)))) ∧ (Fld Z h o0 "java/util/ArrayList" "elementData" "[Ljava/lang/Object;" (.ref ea)) ∧ (Fld Z h o0 "java/util/ArrayList" "size" "I" (.int (2 : Int32)))
set_option maxRecDepth 65536 in
set_option maxHeartbeats 4000000 in
theorem rm61 (l : Launch) (Z : State) (a0 : Array Value) (hw : ∀ d ∈ tables_1, d.before a0 Z = true) (ws : List Jvm.Cond) (o0 : Addr) (o1 : Addr) (mc : Int32) (ea : Addr) (gE : Nat → Value) (h0 : Heap) (n0 : Nat) (Z0 : n0 ≤ h0.size) (fr0 : n0 ≤ o0) (fre : n0 ≤ ea) (nee : o0 ≠ ea) (Ix : Ins Z h0 o1 "java/lang/Object" true) (Re : own_RF Z h0 ea "java/lang/Object" 10 gE) (E0 : Exa Z h0 o0 "java/util/ArrayList") (Fm : Fld Z h0 o0 "java/util/AbstractList" "modCount" "I" (.int mc)) (Fe : Fld Z h0 o0 "java/util/ArrayList" "elementData" "[Ljava/lang/Object;" (.ref ea)) (Fs : Fld Z h0 o0 "java/util/ArrayList" "size" "I" (.int (1 : Int32))) :
    MetFree l (⟨"java/util/ArrayList", "add", "(Ljava/lang/Object;)Z"⟩ : MethodName) (head1 (Jvm.Cond.code (⟨"java/util/ArrayList", "add", "(Ljava/lang/Object;)Z"⟩ : MethodName) jdk_38_method_25_code 2 (some .boolean) :: ws) ({ frames := 1, cells := 0, slots := 0, locals := 16 } : Room)) (fun a U => a = #[(.ref o0), (.ref o1)] ∧ Z.Warmed39 U.vm ∧ U.heap = h0) (fun _ _ _ _ _ => True) (fun _ U o U' => ∃ v L, o = .returned v ∧ Q61 Z o0 o1 mc ea gE h0 n0 v U'.heap L ∧ FrameEnd U o U' L ({ frames := 1, cells := 0, slots := 0, locals := 16 } : Room).cells ({ frames := 1, cells := 0, slots := 0, locals := 16 } : Room).slots) := by
  refine MetFree.of_bodySF (plainFor_of_name pnm_2) hisR ?_
  intro p e s m args below meth c s₁ Bd hml0 hP hK
  obtain ⟨rfl, hZ, hh⟩ := hP
  have hx := Bd.exec
  have hby := Bd.bytes
  have hml : c.maxLocals = 2 := hml0
  have hown : s.vm.findClass "java/util/ArrayList" = some m.cls := findClass_of_methodNamed Bd.named
  have X0 : Stand p l e ({ frames := 1, cells := 0, slots := 0, locals := 16 } : Room) s m #[(.ref o0), (.ref o1)] below meth c s₁ [] 0 0 := Stand.of_body Bd
  have e0 : s₁.heap = h0 := by rw [← hh, Bd.state]; rfl
  have fin := b61_0 o0 o1 mc ea gE (Q := Q61 Z o0 o1 mc ea gE h0 n0) hw X0 hx hZ hby hml hown Bd.returns (BodyLoose.notSynchronized Bd) e0 (Fr.nil n0) (Nat.zero_le _) (Nat.zero_le _) Z0 fr0 fre nee Ix Re E0 Fm Fe Fs (fun H' L' n' k' r0 r1 r2 r3 r4 => ⟨rfl, n', k', r0, r1, r2, r3, r4⟩)
  exact own_step (fun t k => castTop (ef_61 m o0 o1) k) fin
set_option maxRecDepth 65536 in
set_option maxHeartbeats 40000000 in
theorem b72_0 {p : Program} {l : Launch} {e : Env} {s : State} {m : MethodId} {args : Array Value} {below : List Frame} {meth : Method} {c : Code} {T : State} {locs : List Loc} {cells slots : Nat} {Z : State} {a0 : Array Value} {h : Heap} {n0 : Nat} {Q : Option Value → Heap → List Loc → Prop} (o0 : Addr) (o1 : Addr) (um : Value) (ea : Addr) (gE : Nat → Value) (hw : ∀ d ∈ tables_1, d.before a0 Z = true) (X : Stand p l e ({ frames := 0, cells := 0, slots := 0, locals := 0 } : Room) s m args below meth c T locs cells slots) (hx : p.tables.exec = Jvm.exec) (hZ : Z.Warmed39 s.vm) (hby : c.code = jdk_38_method_24_code) (hml : c.maxLocals = 4) (hown : s.vm.findClass "java/util/ArrayList" = some m.cls) (hret : meth.sig.returnType = none) (hlk : meth.locks = false) (eT : T.heap = h) (N : Fr n0 locs) (hc : cells ≤ 0) (hs : slots ≤ 0) (Z0 : n0 ≤ h.size) (fr0 : n0 ≤ o0) (fre : n0 ≤ ea) (nee : o0 ≠ ea) (Ix : Ins Z h o1 "java/lang/Object" true) (Re : own_RF Z h ea "java/lang/Object" 10 gE) (E0 : Exa Z h o0 "java/util/ArrayList") (Fm : Fld Z h o0 "java/util/AbstractList" "modCount" "I" um) (Fe : Fld Z h o0 "java/util/ArrayList" "elementData" "[Ljava/lang/Object;" (.ref ea)) (Fs : Fld Z h o0 "java/util/ArrayList" "size" "I" (.int (2 : Int32))) (hQ : ∀ (H' : Heap) (L' : List Loc), Fr n0 L' → Keep h H' [o0, ea] → (own_RF Z H' ea "java/lang/Object" 10 (fun i => if i = 2 then (.ref o1) else gE i)) → (Exa Z H' o0 "java/util/ArrayList") → (Fld Z H' o0 "java/util/AbstractList" "modCount" "I" um) → (Fld Z H' o0 "java/util/ArrayList" "elementData" "[Ljava/lang/Object;" (.ref ea)) → (Fld Z H' o0 "java/util/ArrayList" "size" "I" (.int ((2 : Int32) + (1 : Int32)))) → Q none H' L') :
    own_Fin p e below s Q 0 0 (T.setTop (mkF m 0 #[.val (.ref o0), .val (.ref o1), .val (.ref ea), .val (.int (2 : Int32))] [])) := by
  refine own_step (fun t k => XS.iloadN X.here hx rfl (hb hby d7_0) rfl  k) ?_
  show own_Fin p e below s Q 0 0 (T.setTop (mkF m 1 #[.val (.ref o0), .val (.ref o1), .val (.ref ea), .val (.int (2 : Int32))] [(.int (2 : Int32))]))
  refine own_step (fun t k => XS.aloadN X.here hx rfl (hb hby d7_1) rfl rfl k) ?_
  show own_Fin p e below s Q 0 0 (T.setTop (mkF m 2 #[.val (.ref o0), .val (.ref o1), .val (.ref ea), .val (.int (2 : Int32))] [(.ref ea), (.int (2 : Int32))]))
  obtain ⟨ca2, Ar2, Ov2, Sz2, Ht2⟩ := id Re
  refine own_step (X.arraylength hx (by rw [eT]; exact Ar2.1) (State.isArrayOf_alike hZ.alike Ar2.2.1) (g := (mkF m 2 #[.val (.ref o0), .val (.ref o1), .val (.ref ea), .val (.int (2 : Int32))] [(.ref ea), (.int (2 : Int32))])) rfl rfl (hb hby d7_2)) ?_
  rw [Sz2]
  show own_Fin p e below s Q 0 0 (T.setTop (mkF m 3 #[.val (.ref o0), .val (.ref o1), .val (.ref ea), .val (.int (2 : Int32))] [(.int (10 : Int32)), (.int (2 : Int32))]))
  refine own_step (fun t k => XS.icmpYes X.here hx rfl (pc0 := 3) (pc' := 11) rfl (hb hby d7_3) rfl (feq (by decide : ¬ ((2 : Int32) = (10 : Int32)))).2 (by decide) (by decide) k) ?_
  show own_Fin p e below s Q 0 0 (T.setTop (mkF m 11 #[.val (.ref o0), .val (.ref o1), .val (.ref ea), .val (.int (2 : Int32))] []))
  refine own_step (fun t k => XS.aloadN X.here hx rfl (hb hby d7_11) rfl rfl k) ?_
  show own_Fin p e below s Q 0 0 (T.setTop (mkF m 12 #[.val (.ref o0), .val (.ref o1), .val (.ref ea), .val (.int (2 : Int32))] [(.ref ea)]))
  refine own_step (fun t k => XS.iloadN X.here hx rfl (hb hby d7_12) rfl  k) ?_
  show own_Fin p e below s Q 0 0 (T.setTop (mkF m 13 #[.val (.ref o0), .val (.ref o1), .val (.ref ea), .val (.int (2 : Int32))] [(.int (2 : Int32)), (.ref ea)]))
  refine own_step (fun t k => XS.aloadN X.here hx rfl (hb hby d7_13) rfl rfl k) ?_
  show own_Fin p e below s Q 0 0 (T.setTop (mkF m 14 #[.val (.ref o0), .val (.ref o1), .val (.ref ea), .val (.int (2 : Int32))] [(.ref o1), (.int (2 : Int32)), (.ref ea)]))
  obtain ⟨ca33, Ar33, Ov33, Sz33, Ht33⟩ := id Re
  have hin33 : ¬ ((2 : Int32) < 0 ∨ ca33.slots.size ≤ ((2 : Int32)).toNatClampNeg) := by rw [Sz33]; exact (by decide)
  obtain ⟨T33, h33, X33, e33, W33, st33⟩ := stR X hx hZ eT Ar33 (j := (2 : Int32)) hin33 rfl (Sto.of Ar33 Ov33 Ix) (g := (mkF m 14 #[.val (.ref o0), .val (.ref o1), .val (.ref ea), .val (.int (2 : Int32))] [(.ref o1), (.int (2 : Int32)), (.ref ea)])) rfl rfl (hb hby d7_14)
  have R33 : own_RF Z h33 ea "java/lang/Object" 10 (fun i => if i = 2 then (.ref o1) else gE i) := own_RFset Ar33 Ov33 Sz33 Ht33 W33
  have N33 := Fr.snoc X33 N fre
  have Z033 : n0 ≤ h33.size := Nat.le_trans Z0 (Nat.le_of_eq W33.size.symm)
  have Ex33_o0 := E0.wr W33
  have F33_o0_modCount := Fm.other W33 (Or.inl nee)
  have F33_o0_elementData := Fe.other W33 (Or.inl nee)
  have F33_o0_size := Fs.other W33 (Or.inl nee)
  have I33 := Ix.wr W33
  have K33 : Keep h h33 [o0, ea] := (Keep.refl h [o0, ea]).wr W33 (Or.inl (List.mem_of_getElem? (i := 1) rfl))
  refine own_step st33 ?_
  show own_Fin p e below s Q 0 0 (T33.setTop (mkF m 15 #[.val (.ref o0), .val (.ref o1), .val (.ref ea), .val (.int (2 : Int32))] []))
  refine own_step (fun t k => XS.aloadN X33.here hx rfl (hb hby d7_15) rfl rfl k) ?_
  show own_Fin p e below s Q 0 0 (T33.setTop (mkF m 16 #[.val (.ref o0), .val (.ref o1), .val (.ref ea), .val (.int (2 : Int32))] [(.ref o0)]))
  refine own_step (fun t k => XS.iloadN X33.here hx rfl (hb hby d7_16) rfl  k) ?_
  show own_Fin p e below s Q 0 0 (T33.setTop (mkF m 17 #[.val (.ref o0), .val (.ref o1), .val (.ref ea), .val (.int (2 : Int32))] [(.int (2 : Int32)), (.ref o0)]))
  refine own_step (fun t k => XS.iconst X33.here hx rfl (hb hby d7_17) k) ?_
  show own_Fin p e below s Q 0 0 (T33.setTop (mkF m 18 #[.val (.ref o0), .val (.ref o1), .val (.ref ea), .val (.int (2 : Int32))] [(.int (1 : Int32)), (.int (2 : Int32)), (.ref o0)]))
  refine own_step (fun t k => XS.iadd X33.here hx rfl (hb hby d7_18) rfl k) ?_
  show own_Fin p e below s Q 0 0 (T33.setTop (mkF m 19 #[.val (.ref o0), .val (.ref o1), .val (.ref ea), .val (.int (2 : Int32))] [(.int ((2 : Int32) + (1 : Int32))), (.ref o0)]))
  obtain ⟨T34, h34, X34, e34, W34, st34⟩ := putF X33 hx hZ hown (host := "") (Or.inl (hw _ (List.mem_of_getElem? (i := 42) rfl))) Via.refl e33 F33_o0_size Ex33_o0 (Or.inl (hw _ (List.mem_of_getElem? (i := 43) rfl))) (hw _ (List.mem_of_getElem? (i := 1) rfl)) (ty := .int) (by decide) rfl rfl (g := (mkF m 19 #[.val (.ref o0), .val (.ref o1), .val (.ref ea), .val (.int (2 : Int32))] [(.int ((2 : Int32) + (1 : Int32))), (.ref o0)])) rfl rfl (hb hby d7_19)
  have N34 := Fr.snoc X34 N33 fr0
  have Z034 : n0 ≤ h34.size := Nat.le_trans Z033 (Nat.le_of_eq W34.size.symm)
  have R34_ea := own_RFoth R33 W34 (Ne.symm nee)
  have I34 := I33.wr W34
  have K34 : Keep h h34 [o0, ea] := K33.wr W34 (Or.inl (List.mem_of_getElem? (i := 0) rfl))
  have Ex34_o0 := Ex33_o0.wr W34
  have F34_o0_modCount := F33_o0_modCount.other W34 (Or.inr (slot_ne (Or.inl (hw _ (List.mem_of_getElem? (i := 22) rfl))) (Or.inl (hw _ (List.mem_of_getElem? (i := 43) rfl))) (by decide) (t := .int) (t' := .int) (by decide) (by decide)))
  have F34_o0_elementData := F33_o0_elementData.other W34 (Or.inr (slot_ne (Or.inl (hw _ (List.mem_of_getElem? (i := 25) rfl))) (Or.inl (hw _ (List.mem_of_getElem? (i := 43) rfl))) (by decide) (t := (.array (.object "java/lang/Object"))) (t' := .int) (by decide) (by decide)))
  have F34_o0_size := F33_o0_size.same W34
  refine own_step st34 ?_
  show own_Fin p e below s Q 0 0 (T34.setTop (mkF m 22 #[.val (.ref o0), .val (.ref o1), .val (.ref ea), .val (.int (2 : Int32))] []))
  refine own_ret0 X34 hx hlk hret (hb hby d7_22) (Nat.le_trans (Nat.add_le_add_right hc 0) (by decide)) (Nat.le_trans (Nat.add_le_add_right hs 0) (by decide)) e34 ?_
  exact hQ _ _ N34 K34 R34_ea Ex34_o0 F34_o0_modCount F34_o0_elementData F34_o0_size
theorem ef_72 (m : MethodId) (o0 : Addr) (o1 : Addr) : entryFrame m #[(.ref o0), (.ref o1), (.ref ea), (.int (2 : Int32))] 4 = (mkF m 0 #[.val (.ref o0), .val (.ref o1), .val (.ref ea), .val (.int (2 : Int32))] []) := by first | (simp [entryFrame, mkF, argsToLocals, Value.category]; done) | rfl
def Q72 (Z : State) (o0 : Addr) (o1 : Addr) (um : Value) (ea : Addr) (gE : Nat → Value) (h0 : Heap) (n0 : Nat) (v : Option Value) (h : Heap) (L : List Loc) : Prop := v = none ∧ Fr n0 L ∧ Keep h0 h [o0, ea] ∧ (own_RF Z h ea "java/lang/Object" 10 (fun i => if i = 2 then (.ref o1) else gE i)) ∧ (Exa Z h o0 "java/util/ArrayList") ∧ (Fld Z h o0 "java/util/AbstractList" "modCount" "I" um) ∧ (Fld Z h o0 "java/util/ArrayList" "elementData" "[Ljava/lang/Object;" (.ref ea)) ∧ (Fld Z h o0 "java/util/ArrayList" "size" "I" (.int ((2 : Int32) + (1 : Int32))))
set_option maxRecDepth 65536 in
set_option maxHeartbeats 4000000 in
theorem rm72 (l : Launch) (Z : State) (a0 : Array Value) (hw : ∀ d ∈ tables_1, d.before a0 Z = true) (ws : List Jvm.Cond) (o0 : Addr) (o1 : Addr) (um : Value) (ea : Addr) (gE : Nat → Value) (h0 : Heap) (n0 : Nat) (Z0 : n0 ≤ h0.size) (fr0 : n0 ≤ o0) (fre : n0 ≤ ea) (nee : o0 ≠ ea) (Ix : Ins Z h0 o1 "java/lang/Object" true) (Re : own_RF Z h0 ea "java/lang/Object" 10 gE) (E0 : Exa Z h0 o0 "java/util/ArrayList") (Fm : Fld Z h0 o0 "java/util/AbstractList" "modCount" "I" um) (Fe : Fld Z h0 o0 "java/util/ArrayList" "elementData" "[Ljava/lang/Object;" (.ref ea)) (Fs : Fld Z h0 o0 "java/util/ArrayList" "size" "I" (.int (2 : Int32))) :
    MetFree l (⟨"java/util/ArrayList", "add", "(Ljava/lang/Object;[Ljava/lang/Object;I)V"⟩ : MethodName) (head1 (Jvm.Cond.code (⟨"java/util/ArrayList", "add", "(Ljava/lang/Object;[Ljava/lang/Object;I)V"⟩ : MethodName) jdk_38_method_24_code 4 none :: ws) ({ frames := 0, cells := 0, slots := 0, locals := 0 } : Room)) (fun a U => a = #[(.ref o0), (.ref o1), (.ref ea), (.int (2 : Int32))] ∧ Z.Warmed39 U.vm ∧ U.heap = h0) (fun _ _ _ _ _ => True) (fun _ U o U' => ∃ v L, o = .returned v ∧ Q72 Z o0 o1 um ea gE h0 n0 v U'.heap L ∧ FrameEnd U o U' L ({ frames := 0, cells := 0, slots := 0, locals := 0 } : Room).cells ({ frames := 0, cells := 0, slots := 0, locals := 0 } : Room).slots) := by
  refine MetFree.of_bodySF (plainFor_of_name pnm_2) hisR ?_
  intro p e s m args below meth c s₁ Bd hml0 hP hK
  obtain ⟨rfl, hZ, hh⟩ := hP
  have hx := Bd.exec
  have hby := Bd.bytes
  have hml : c.maxLocals = 4 := hml0
  have hown : s.vm.findClass "java/util/ArrayList" = some m.cls := findClass_of_methodNamed Bd.named
  have X0 : Stand p l e ({ frames := 0, cells := 0, slots := 0, locals := 0 } : Room) s m #[(.ref o0), (.ref o1), (.ref ea), (.int (2 : Int32))] below meth c s₁ [] 0 0 := Stand.of_body Bd
  have e0 : s₁.heap = h0 := by rw [← hh, Bd.state]; rfl
  have fin := b72_0 o0 o1 um ea gE (Q := Q72 Z o0 o1 um ea gE h0 n0) hw X0 hx hZ hby hml hown Bd.returns (BodyLoose.notSynchronized Bd) e0 (Fr.nil n0) (Nat.zero_le _) (Nat.zero_le _) Z0 fr0 fre nee Ix Re E0 Fm Fe Fs (fun H' L' n' k' r0 r1 r2 r3 r4 => ⟨rfl, n', k', r0, r1, r2, r3, r4⟩)
  exact own_step (fun t k => castTop (ef_72 m o0 o1) k) fin
set_option maxRecDepth 65536 in
set_option maxHeartbeats 40000000 in
theorem b62_0 {p : Program} {l : Launch} {e : Env} {s : State} {m : MethodId} {args : Array Value} {below : List Frame} {meth : Method} {c : Code} {T : State} {locs : List Loc} {cells slots : Nat} {Z : State} {a0 : Array Value} {h : Heap} {n0 : Nat} {Q : Option Value → Heap → List Loc → Prop} (o0 : Addr) (o1 : Addr) (mc : Int32) (ea : Addr) (gE : Nat → Value) (hw : ∀ d ∈ tables_1, d.before a0 Z = true) (X : Stand p l e ({ frames := 1, cells := 0, slots := 0, locals := 16 } : Room) s m args below meth c T locs cells slots) (hx : p.tables.exec = Jvm.exec) (hZ : Z.Warmed39 s.vm) (hby : c.code = jdk_38_method_25_code) (hml : c.maxLocals = 2) (hown : s.vm.findClass "java/util/ArrayList" = some m.cls) (hret : meth.sig.returnType = some .boolean) (hlk : meth.locks = false) (eT : T.heap = h) (N : Fr n0 locs) (hc : cells ≤ 0) (hs : slots ≤ 0) (Z0 : n0 ≤ h.size) (fr0 : n0 ≤ o0) (fre : n0 ≤ ea) (nee : o0 ≠ ea) (Ix : Ins Z h o1 "java/lang/Object" true) (Re : own_RF Z h ea "java/lang/Object" 10 gE) (E0 : Exa Z h o0 "java/util/ArrayList") (Fm : Fld Z h o0 "java/util/AbstractList" "modCount" "I" (.int mc)) (Fe : Fld Z h o0 "java/util/ArrayList" "elementData" "[Ljava/lang/Object;" (.ref ea)) (Fs : Fld Z h o0 "java/util/ArrayList" "size" "I" (.int (2 : Int32))) (hQ : ∀ (H' : Heap) (L' : List Loc), Fr n0 L' → Keep h H' [o0, ea] → (own_RF Z H' ea "java/lang/Object" 10 (fun i => if i = 2 then (.ref o1) else gE i)) → (Exa Z H' o0 "java/util/ArrayList") → (Fld Z H' o0 "java/util/AbstractList" "modCount" "I" (.int (mc + (1 : Int32)))) → (Fld Z H' o0 "java/util/ArrayList" "elementData" "[Ljava/lang/Object;" (.ref ea)) → (Fld Z H' o0 "java/util/ArrayList" "size" "I" (.int (3 : Int32))) → Q (some (.int 1)) H' L') :
    own_Fin p e below s Q 0 0 (T.setTop (mkF m 0 #[.val (.ref o0), .val (.ref o1)] [])) := by
  refine own_step (fun t k => XS.aloadN X.here hx rfl (hb hby d6_0) rfl rfl k) ?_
  show own_Fin p e below s Q 0 0 (T.setTop (mkF m 1 #[.val (.ref o0), .val (.ref o1)] [(.ref o0)]))
  refine own_step (fun t k => XS.dup X.here hx rfl (hb hby d6_1) rfl rfl k) ?_
  show own_Fin p e below s Q 0 0 (T.setTop (mkF m 2 #[.val (.ref o0), .val (.ref o1)] [(.ref o0), (.ref o0)]))
  obtain ⟨T35, X35, e35, st35⟩ := getF X hx hZ hown (host := "") (Or.inl (hw _ (List.mem_of_getElem? (i := 40) rfl))) (Via.of (hw _ (List.mem_of_getElem? (i := 41) rfl))) eT Fm (g := (mkF m 2 #[.val (.ref o0), .val (.ref o1)] [(.ref o0), (.ref o0)])) rfl rfl (hb hby d6_2)
  refine own_step st35 ?_
  show own_Fin p e below s Q 0 0 (T35.setTop (mkF m 5 #[.val (.ref o0), .val (.ref o1)] [(.int mc), (.ref o0)]))
  refine own_step (fun t k => XS.iconst X35.here hx rfl (hb hby d6_5) k) ?_
  show own_Fin p e below s Q 0 0 (T35.setTop (mkF m 6 #[.val (.ref o0), .val (.ref o1)] [(.int (1 : Int32)), (.int mc), (.ref o0)]))
  refine own_step (fun t k => XS.iadd X35.here hx rfl (hb hby d6_6) rfl k) ?_
  show own_Fin p e below s Q 0 0 (T35.setTop (mkF m 7 #[.val (.ref o0), .val (.ref o1)] [(.int (mc + (1 : Int32))), (.ref o0)]))
  obtain ⟨T36, h36, X36, e36, W36, st36⟩ := putF X35 hx hZ hown (host := "") (Or.inl (hw _ (List.mem_of_getElem? (i := 40) rfl))) (Via.of (hw _ (List.mem_of_getElem? (i := 41) rfl))) e35 Fm E0 (Or.inl (hw _ (List.mem_of_getElem? (i := 22) rfl))) (hw _ (List.mem_of_getElem? (i := 1) rfl)) (ty := .int) (by decide) rfl rfl (g := (mkF m 7 #[.val (.ref o0), .val (.ref o1)] [(.int (mc + (1 : Int32))), (.ref o0)])) rfl rfl (hb hby d6_7)
  have N36 := Fr.snoc X36 N fr0
  have Z036 : n0 ≤ h36.size := Nat.le_trans Z0 (Nat.le_of_eq W36.size.symm)
  have R36_ea := own_RFoth Re W36 (Ne.symm nee)
  have I36 := Ix.wr W36
  have K36 : Keep h h36 [o0, ea] := (Keep.refl h [o0, ea]).wr W36 (Or.inl (List.mem_of_getElem? (i := 0) rfl))
  have Ex36_o0 := E0.wr W36
  have F36_o0_modCount := Fm.same W36
  have F36_o0_elementData := Fe.other W36 (Or.inr (slot_ne (Or.inl (hw _ (List.mem_of_getElem? (i := 25) rfl))) (Or.inl (hw _ (List.mem_of_getElem? (i := 22) rfl))) (by decide) (t := (.array (.object "java/lang/Object"))) (t' := .int) (by decide) (by decide)))
  have F36_o0_size := Fs.other W36 (Or.inr (slot_ne (Or.inl (hw _ (List.mem_of_getElem? (i := 43) rfl))) (Or.inl (hw _ (List.mem_of_getElem? (i := 22) rfl))) (by decide) (t := .int) (t' := .int) (by decide) (by decide)))
  refine own_step st36 ?_
  show own_Fin p e below s Q 0 0 (T36.setTop (mkF m 10 #[.val (.ref o0), .val (.ref o1)] []))
  refine own_step (fun t k => XS.aloadN X36.here hx rfl (hb hby d6_10) rfl rfl k) ?_
  show own_Fin p e below s Q 0 0 (T36.setTop (mkF m 11 #[.val (.ref o0), .val (.ref o1)] [(.ref o0)]))
  refine own_step (fun t k => XS.aloadN X36.here hx rfl (hb hby d6_11) rfl rfl k) ?_
  show own_Fin p e below s Q 0 0 (T36.setTop (mkF m 12 #[.val (.ref o0), .val (.ref o1)] [(.ref o1), (.ref o0)]))
  refine own_step (fun t k => XS.aloadN X36.here hx rfl (hb hby d6_12) rfl rfl k) ?_
  show own_Fin p e below s Q 0 0 (T36.setTop (mkF m 13 #[.val (.ref o0), .val (.ref o1)] [(.ref o0), (.ref o1), (.ref o0)]))
  obtain ⟨T37, X37, e37, st37⟩ := getF X36 hx hZ hown (host := "") (Or.inl (hw _ (List.mem_of_getElem? (i := 24) rfl))) Via.refl e36 F36_o0_elementData (g := (mkF m 13 #[.val (.ref o0), .val (.ref o1)] [(.ref o0), (.ref o1), (.ref o0)])) rfl rfl (hb hby d6_13)
  refine own_step st37 ?_
  show own_Fin p e below s Q 0 0 (T37.setTop (mkF m 16 #[.val (.ref o0), .val (.ref o1)] [(.ref ea), (.ref o1), (.ref o0)]))
  refine own_step (fun t k => XS.aloadN X37.here hx rfl (hb hby d6_16) rfl rfl k) ?_
  show own_Fin p e below s Q 0 0 (T37.setTop (mkF m 17 #[.val (.ref o0), .val (.ref o1)] [(.ref o0), (.ref ea), (.ref o1), (.ref o0)]))
  obtain ⟨T38, X38, e38, st38⟩ := getF X37 hx hZ hown (host := "") (Or.inl (hw _ (List.mem_of_getElem? (i := 42) rfl))) Via.refl e37 F36_o0_size (g := (mkF m 17 #[.val (.ref o0), .val (.ref o1)] [(.ref o0), (.ref ea), (.ref o1), (.ref o0)])) rfl rfl (hb hby d6_17)
  refine own_step st38 ?_
  show own_Fin p e below s Q 0 0 (T38.setTop (mkF m 20 #[.val (.ref o0), .val (.ref o1)] [(.int (2 : Int32)), (.ref ea), (.ref o1), (.ref o0)]))
  obtain ⟨cq39, q39, q39'⟩ := Ex36_o0.cell
  obtain ⟨_, _, ⟨T39, L39, k39, n39⟩, -, X39, ⟨Lc39, hQ39, l39, y39, z39⟩, st39⟩ := X38.privateBack hx (y := (⟨"java/util/ArrayList", "add", "(Ljava/lang/Object;[Ljava/lang/Object;I)V"⟩ : MethodName)) hown (mvT hZ (hw _ (List.mem_of_getElem? (i := 44) rfl))) (mvT hZ (hw _ (List.mem_of_getElem? (i := 45) rfl))) (mvT hZ (hw _ (List.mem_of_getElem? (i := 47) rfl))) (Cond.privateMethod_at (mvP hZ (hw _ (List.mem_of_getElem? (i := 46) rfl)) (args := #[]))) (mvT hZ (hw _ (List.mem_of_getElem? (i := 48) rfl))) (by decide) (backOf (W := 0) (rm72 l Z a0 hw [] o0 o1 (.int (mc + (1 : Int32))) ea gE h36 n0 Z036 fr0 fre nee I36 R36_ea Ex36_o0 F36_o0_modCount F36_o0_elementData F36_o0_size) hZ (hw _ (List.mem_of_getElem? (i := 48) rfl)) (hw _ (List.mem_of_getElem? (i := 2) rfl)) (by decide) (by decide)) (g := (mkF m 20 #[.val (.ref o0), .val (.ref o1)] [(.int (2 : Int32)), (.ref ea), (.ref o1), (.ref o0)])) rfl (by rw [hml]; rfl) (Steps.refl _) (a := o0) (by rw [e38]; exact q39) q39' (argsL := [(.ref o1), (.ref ea), (.int (2 : Int32))]) (rest := []) (lenOf pdm_4 rfl) rfl (by show 2 * 0 + _ ≤ _; exact Nat.le_of_eq rfl) (hb hby d6_20) (fun _ _ => ⟨rfl, e38, (show cells + 0 ≤ 0 from (Nat.le_trans (Nat.add_le_add_right hc 0) (by decide))), (show slots + 0 ≤ 0 from (Nat.le_trans (Nat.add_le_add_right hs 0) (by decide)))⟩)
  dsimp only [Pt.U, Pt.locs, Pt.cells, Pt.slots] at X39 l39 y39 z39 st39 hQ39
  have yy39 : k39 = cells + 0 := y39
  have zz39 : n39 = slots + 0 := z39
  rw [yy39, zz39, l39] at X39
  obtain ⟨rfl, N39q, K39, r0_39, r1_39, r2_39, r3_39, r4_39⟩ := hQ39
  have N39 := Fr.app N36 N39q
  have Z039 : n0 ≤ T39.heap.size := Nat.le_trans Z036 K39.1
  have I39 := own_InsK I36 K39
  have KK39 : Keep h T39.heap [o0, ea] := K36.trans K39 (allS (Or.inl (List.mem_of_getElem? (i := 0) rfl)) (allS (Or.inl (List.mem_of_getElem? (i := 1) rfl)) all0))
  refine own_step (fun t k => st39.trans k) ?_
  show own_Fin p e below s Q 0 0 (T39.setTop (mkF m 23 #[.val (.ref o0), .val (.ref o1)] []))
  refine own_step (fun t k => XS.iconst X39.here hx rfl (hb hby d6_23) k) ?_
  show own_Fin p e below s Q 0 0 (T39.setTop (mkF m 24 #[.val (.ref o0), .val (.ref o1)] [(.int (1 : Int32))]))
  refine own_retZ X39 hx hlk hret (by simp) (hb hby d6_24) (Nat.le_trans (Nat.add_le_add_right hc 0) (by decide)) (Nat.le_trans (Nat.add_le_add_right hs 0) (by decide)) rfl ?_
  exact hQ _ _ N39 KK39 r0_39 r1_39 r2_39 r3_39 r4_39
theorem ef_62 (m : MethodId) (o0 : Addr) (o1 : Addr) : entryFrame m #[(.ref o0), (.ref o1)] 2 = (mkF m 0 #[.val (.ref o0), .val (.ref o1)] []) := by first | (simp [entryFrame, mkF, argsToLocals, Value.category]; done) | rfl
def Q62 (Z : State) (o0 : Addr) (o1 : Addr) (mc : Int32) (ea : Addr) (gE : Nat → Value) (h0 : Heap) (n0 : Nat) (v : Option Value) (h : Heap) (L : List Loc) : Prop := v = some (.int 1) ∧ Fr n0 L ∧ Keep h0 h [o0, ea] ∧ (own_RF Z h ea "java/lang/Object" 10 (fun i => if i = 2 then (.ref o1) else gE i)) ∧ (Exa Z h o0 "java/util/ArrayList") ∧ (Fld Z h o0 "java/util/AbstractList" "modCount" "I" (.int (mc + (1 : Int32)))) ∧ (Fld Z h o0 "java/util/ArrayList" "elementData" "[Ljava/lang/Object;" (.ref ea)) ∧ (Fld Z h o0 "java/util/ArrayList" "size" "I" (.int (3 : Int32)))
set_option maxRecDepth 65536 in
set_option maxHeartbeats 4000000 in
theorem rm62 (l : Launch) (Z : State) (a0 : Array Value) (hw : ∀ d ∈ tables_1, d.before a0 Z = true) (ws : List Jvm.Cond) (o0 : Addr) (o1 : Addr) (mc : Int32) (ea : Addr) (gE : Nat → Value) (h0 : Heap) (n0 : Nat) (Z0 : n0 ≤ h0.size) (fr0 : n0 ≤ o0) (fre : n0 ≤ ea) (nee : o0 ≠ ea) (Ix : Ins Z h0 o1 "java/lang/Object" true) (Re : own_RF Z h0 ea "java/lang/Object" 10 gE) (E0 : Exa Z h0 o0 "java/util/ArrayList") (Fm : Fld Z h0 o0 "java/util/AbstractList" "modCount" "I" (.int mc)) (Fe : Fld Z h0 o0 "java/util/ArrayList" "elementData" "[Ljava/lang/Object;" (.ref ea)) (Fs : Fld Z h0 o0 "java/util/ArrayList" "size" "I" (.int (2 : Int32))) :
    MetFree l (⟨"java/util/ArrayList", "add", "(Ljava/lang/Object;)Z"⟩ : MethodName) (head1 (Jvm.Cond.code (⟨"java/util/ArrayList", "add", "(Ljava/lang/Object;)Z"⟩ : MethodName) jdk_38_method_25_code 2 (some .boolean) :: ws) ({ frames := 1, cells := 0, slots := 0, locals := 16 } : Room)) (fun a U => a = #[(.ref o0), (.ref o1)] ∧ Z.Warmed39 U.vm ∧ U.heap = h0) (fun _ _ _ _ _ => True) (fun _ U o U' => ∃ v L, o = .returned v ∧ Q62 Z o0 o1 mc ea gE h0 n0 v U'.heap L ∧ FrameEnd U o U' L ({ frames := 1, cells := 0, slots := 0, locals := 16 } : Room).cells ({ frames := 1, cells := 0, slots := 0, locals := 16 } : Room).slots) := by
  refine MetFree.of_bodySF (plainFor_of_name pnm_2) hisR ?_
  intro p e s m args below meth c s₁ Bd hml0 hP hK
  obtain ⟨rfl, hZ, hh⟩ := hP
  have hx := Bd.exec
  have hby := Bd.bytes
  have hml : c.maxLocals = 2 := hml0
  have hown : s.vm.findClass "java/util/ArrayList" = some m.cls := findClass_of_methodNamed Bd.named
  have X0 : Stand p l e ({ frames := 1, cells := 0, slots := 0, locals := 16 } : Room) s m #[(.ref o0), (.ref o1)] below meth c s₁ [] 0 0 := Stand.of_body Bd
  have e0 : s₁.heap = h0 := by rw [← hh, Bd.state]; rfl
  have fin := b62_0 o0 o1 mc ea gE (Q := Q62 Z o0 o1 mc ea gE h0 n0) hw X0 hx hZ hby hml hown Bd.returns (BodyLoose.notSynchronized Bd) e0 (Fr.nil n0) (Nat.zero_le _) (Nat.zero_le _) Z0 fr0 fre nee Ix Re E0 Fm Fe Fs (fun H' L' n' k' r0 r1 r2 r3 r4 => ⟨rfl, n', k', r0, r1, r2, r3, r4⟩)
  exact own_step (fun t k => castTop (ef_62 m o0 o1) k) fin
set_option maxRecDepth 65536 in
set_option maxHeartbeats 40000000 in
theorem b73_0 {p : Program} {l : Launch} {e : Env} {s : State} {m : MethodId} {args : Array Value} {below : List Frame} {meth : Method} {c : Code} {T : State} {locs : List Loc} {cells slots : Nat} {Z : State} {a0 : Array Value} {h : Heap} {n0 : Nat} {Q : Option Value → Heap → List Loc → Prop} (o0 : Addr) (o1 : Addr) (um : Value) (ea : Addr) (gE : Nat → Value) (hw : ∀ d ∈ tables_1, d.before a0 Z = true) (X : Stand p l e ({ frames := 0, cells := 0, slots := 0, locals := 0 } : Room) s m args below meth c T locs cells slots) (hx : p.tables.exec = Jvm.exec) (hZ : Z.Warmed39 s.vm) (hby : c.code = jdk_38_method_24_code) (hml : c.maxLocals = 4) (hown : s.vm.findClass "java/util/ArrayList" = some m.cls) (hret : meth.sig.returnType = none) (hlk : meth.locks = false) (eT : T.heap = h) (N : Fr n0 locs) (hc : cells ≤ 0) (hs : slots ≤ 0) (Z0 : n0 ≤ h.size) (fr0 : n0 ≤ o0) (fre : n0 ≤ ea) (nee : o0 ≠ ea) (Ix : Ins Z h o1 "java/lang/Object" true) (Re : own_RF Z h ea "java/lang/Object" 10 gE) (E0 : Exa Z h o0 "java/util/ArrayList") (Fm : Fld Z h o0 "java/util/AbstractList" "modCount" "I" um) (Fe : Fld Z h o0 "java/util/ArrayList" "elementData" "[Ljava/lang/Object;" (.ref ea)) (Fs : Fld Z h o0 "java/util/ArrayList" "size" "I" (.int (3 : Int32))) (hQ : ∀ (H' : Heap) (L' : List Loc), Fr n0 L' → Keep h H' [o0, ea] → (own_RF Z H' ea "java/lang/Object" 10 (fun i => if i = 3 then (.ref o1) else gE i)) → (Exa Z H' o0 "java/util/ArrayList") → (Fld Z H' o0 "java/util/AbstractList" "modCount" "I" um) → (Fld Z H' o0 "java/util/ArrayList" "elementData" "[Ljava/lang/Object;" (.ref ea)) → (Fld Z H' o0 "java/util/ArrayList" "size" "I" (.int ((3 : Int32) + (1 : Int32)))) → Q none H' L') :
    own_Fin p e below s Q 0 0 (T.setTop (mkF m 0 #[.val (.ref o0), .val (.ref o1), .val (.ref ea), .val (.int (3 : Int32))] [])) := by
  refine own_step (fun t k => XS.iloadN X.here hx rfl (hb hby d7_0) rfl  k) ?_
  show own_Fin p e below s Q 0 0 (T.setTop (mkF m 1 #[.val (.ref o0), .val (.ref o1), .val (.ref ea), .val (.int (3 : Int32))] [(.int (3 : Int32))]))
  refine own_step (fun t k => XS.aloadN X.here hx rfl (hb hby d7_1) rfl rfl k) ?_
  show own_Fin p e below s Q 0 0 (T.setTop (mkF m 2 #[.val (.ref o0), .val (.ref o1), .val (.ref ea), .val (.int (3 : Int32))] [(.ref ea), (.int (3 : Int32))]))
  obtain ⟨ca2, Ar2, Ov2, Sz2, Ht2⟩ := id Re
  refine own_step (X.arraylength hx (by rw [eT]; exact Ar2.1) (State.isArrayOf_alike hZ.alike Ar2.2.1) (g := (mkF m 2 #[.val (.ref o0), .val (.ref o1), .val (.ref ea), .val (.int (3 : Int32))] [(.ref ea), (.int (3 : Int32))])) rfl rfl (hb hby d7_2)) ?_
  rw [Sz2]
  show own_Fin p e below s Q 0 0 (T.setTop (mkF m 3 #[.val (.ref o0), .val (.ref o1), .val (.ref ea), .val (.int (3 : Int32))] [(.int (10 : Int32)), (.int (3 : Int32))]))
  refine own_step (fun t k => XS.icmpYes X.here hx rfl (pc0 := 3) (pc' := 11) rfl (hb hby d7_3) rfl (feq (by decide : ¬ ((3 : Int32) = (10 : Int32)))).2 (by decide) (by decide) k) ?_
  show own_Fin p e below s Q 0 0 (T.setTop (mkF m 11 #[.val (.ref o0), .val (.ref o1), .val (.ref ea), .val (.int (3 : Int32))] []))
  refine own_step (fun t k => XS.aloadN X.here hx rfl (hb hby d7_11) rfl rfl k) ?_
  show own_Fin p e below s Q 0 0 (T.setTop (mkF m 12 #[.val (.ref o0), .val (.ref o1), .val (.ref ea), .val (.int (3 : Int32))] [(.ref ea)]))
  refine own_step (fun t k => XS.iloadN X.here hx rfl (hb hby d7_12) rfl  k) ?_
  show own_Fin p e below s Q 0 0 (T.setTop (mkF m 13 #[.val (.ref o0), .val (.ref o1), .val (.ref ea), .val (.int (3 : Int32))] [(.int (3 : Int32)), (.ref ea)]))
  refine own_step (fun t k => XS.aloadN X.here hx rfl (hb hby d7_13) rfl rfl k) ?_
  show own_Fin p e below s Q 0 0 (T.setTop (mkF m 14 #[.val (.ref o0), .val (.ref o1), .val (.ref ea), .val (.int (3 : Int32))] [(.ref o1), (.int (3 : Int32)), (.ref ea)]))
  obtain ⟨ca40, Ar40, Ov40, Sz40, Ht40⟩ := id Re
  have hin40 : ¬ ((3 : Int32) < 0 ∨ ca40.slots.size ≤ ((3 : Int32)).toNatClampNeg) := by rw [Sz40]; exact (by decide)
  obtain ⟨T40, h40, X40, e40, W40, st40⟩ := stR X hx hZ eT Ar40 (j := (3 : Int32)) hin40 rfl (Sto.of Ar40 Ov40 Ix) (g := (mkF m 14 #[.val (.ref o0), .val (.ref o1), .val (.ref ea), .val (.int (3 : Int32))] [(.ref o1), (.int (3 : Int32)), (.ref ea)])) rfl rfl (hb hby d7_14)
  have R40 : own_RF Z h40 ea "java/lang/Object" 10 (fun i => if i = 3 then (.ref o1) else gE i) := own_RFset Ar40 Ov40 Sz40 Ht40 W40
  have N40 := Fr.snoc X40 N fre
  have Z040 : n0 ≤ h40.size := Nat.le_trans Z0 (Nat.le_of_eq W40.size.symm)
  have Ex40_o0 := E0.wr W40
  have F40_o0_modCount := Fm.other W40 (Or.inl nee)
  have F40_o0_elementData := Fe.other W40 (Or.inl nee)
  have F40_o0_size := Fs.other W40 (Or.inl nee)
  have I40 := Ix.wr W40
  have K40 : Keep h h40 [o0, ea] := (Keep.refl h [o0, ea]).wr W40 (Or.inl (List.mem_of_getElem? (i := 1) rfl))
  refine own_step st40 ?_
  show own_Fin p e below s Q 0 0 (T40.setTop (mkF m 15 #[.val (.ref o0), .val (.ref o1), .val (.ref ea), .val (.int (3 : Int32))] []))
  refine own_step (fun t k => XS.aloadN X40.here hx rfl (hb hby d7_15) rfl rfl k) ?_
  show own_Fin p e below s Q 0 0 (T40.setTop (mkF m 16 #[.val (.ref o0), .val (.ref o1), .val (.ref ea), .val (.int (3 : Int32))] [(.ref o0)]))
  refine own_step (fun t k => XS.iloadN X40.here hx rfl (hb hby d7_16) rfl  k) ?_
  show own_Fin p e below s Q 0 0 (T40.setTop (mkF m 17 #[.val (.ref o0), .val (.ref o1), .val (.ref ea), .val (.int (3 : Int32))] [(.int (3 : Int32)), (.ref o0)]))
  refine own_step (fun t k => XS.iconst X40.here hx rfl (hb hby d7_17) k) ?_
  show own_Fin p e below s Q 0 0 (T40.setTop (mkF m 18 #[.val (.ref o0), .val (.ref o1), .val (.ref ea), .val (.int (3 : Int32))] [(.int (1 : Int32)), (.int (3 : Int32)), (.ref o0)]))
  refine own_step (fun t k => XS.iadd X40.here hx rfl (hb hby d7_18) rfl k) ?_
  show own_Fin p e below s Q 0 0 (T40.setTop (mkF m 19 #[.val (.ref o0), .val (.ref o1), .val (.ref ea), .val (.int (3 : Int32))] [(.int ((3 : Int32) + (1 : Int32))), (.ref o0)]))
  obtain ⟨T41, h41, X41, e41, W41, st41⟩ := putF X40 hx hZ hown (host := "") (Or.inl (hw _ (List.mem_of_getElem? (i := 42) rfl))) Via.refl e40 F40_o0_size Ex40_o0 (Or.inl (hw _ (List.mem_of_getElem? (i := 43) rfl))) (hw _ (List.mem_of_getElem? (i := 1) rfl)) (ty := .int) (by decide) rfl rfl (g := (mkF m 19 #[.val (.ref o0), .val (.ref o1), .val (.ref ea), .val (.int (3 : Int32))] [(.int ((3 : Int32) + (1 : Int32))), (.ref o0)])) rfl rfl (hb hby d7_19)
  have N41 := Fr.snoc X41 N40 fr0
  have Z041 : n0 ≤ h41.size := Nat.le_trans Z040 (Nat.le_of_eq W41.size.symm)
  have R41_ea := own_RFoth R40 W41 (Ne.symm nee)
  have I41 := I40.wr W41
  have K41 : Keep h h41 [o0, ea] := K40.wr W41 (Or.inl (List.mem_of_getElem? (i := 0) rfl))
  have Ex41_o0 := Ex40_o0.wr W41
  have F41_o0_modCount := F40_o0_modCount.other W41 (Or.inr (slot_ne (Or.inl (hw _ (List.mem_of_getElem? (i := 22) rfl))) (Or.inl (hw _ (List.mem_of_getElem? (i := 43) rfl))) (by decide) (t := .int) (t' := .int) (by decide) (by decide)))
  have F41_o0_elementData := F40_o0_elementData.other W41 (Or.inr (slot_ne (Or.inl (hw _ (List.mem_of_getElem? (i := 25) rfl))) (Or.inl (hw _ (List.mem_of_getElem? (i := 43) rfl))) (by decide) (t := (.array (.object "java/lang/Object"))) (t' := .int) (by decide) (by decide)))
  have F41_o0_size := F40_o0_size.same W41
  refine own_step st41 ?_
  show own_Fin p e below s Q 0 0 (T41.setTop (mkF m 22 #[.val (.ref o0), .val (.ref o1), .val (.ref ea), .val (.int (3 : Int32))] []))
  refine own_ret0 X41 hx hlk hret (hb hby d7_22) (Nat.le_trans (Nat.add_le_add_right hc 0) (by decide)) (Nat.le_trans (Nat.add_le_add_right hs 0) (by decide)) e41 ?_
  exact hQ _ _ N41 K41 R41_ea Ex41_o0 F41_o0_modCount F41_o0_elementData F41_o0_size
theorem ef_73 (m : MethodId) (o0 : Addr) (o1 : Addr) : entryFrame m #[(.ref o0), (.ref o1), (.ref ea), (.int (3 : Int32))] 4 = (mkF m 0 #[.val (.ref o0), .val (.ref o1), .val (.ref ea), .val (.int (3 : Int32))] []) := by first | (simp [entryFrame, mkF, argsToLocals, Value.category]; done) | rfl
def Q73 (Z : State) (o0 : Addr) (o1 : Addr) (um : Value) (ea : Addr) (gE : Nat → Value) (h0 : Heap) (n0 : Nat) (v : Option Value) (h : Heap) (L : List Loc) : Prop := v = none ∧ Fr n0 L ∧ Keep h0 h [o0, ea] ∧ (own_RF Z h ea "java/lang/Object" 10 (fun i => if i = 3 then (.ref o1) else gE i)) ∧ (Exa Z h o0 "java/util/ArrayList") ∧ (Fld Z h o0 "java/util/AbstractList" "modCount" "I" um) ∧ (Fld Z h o0 "java/util/ArrayList" "elementData" "[Ljava/lang/Object;" (.ref ea)) ∧ (Fld Z h o0 "java/util/ArrayList" "size" "I" (.int ((3 : Int32) + (1 : Int32))))
set_option maxRecDepth 65536 in
set_option maxHeartbeats 4000000 in
theorem rm73 (l : Launch) (Z : State) (a0 : Array Value) (hw : ∀ d ∈ tables_1, d.before a0 Z = true) (ws : List Jvm.Cond) (o0 : Addr) (o1 : Addr) (um : Value) (ea : Addr) (gE : Nat → Value) (h0 : Heap) (n0 : Nat) (Z0 : n0 ≤ h0.size) (fr0 : n0 ≤ o0) (fre : n0 ≤ ea) (nee : o0 ≠ ea) (Ix : Ins Z h0 o1 "java/lang/Object" true) (Re : own_RF Z h0 ea "java/lang/Object" 10 gE) (E0 : Exa Z h0 o0 "java/util/ArrayList") (Fm : Fld Z h0 o0 "java/util/AbstractList" "modCount" "I" um) (Fe : Fld Z h0 o0 "java/util/ArrayList" "elementData" "[Ljava/lang/Object;" (.ref ea)) (Fs : Fld Z h0 o0 "java/util/ArrayList" "size" "I" (.int (3 : Int32))) :
    MetFree l (⟨"java/util/ArrayList", "add", "(Ljava/lang/Object;[Ljava/lang/Object;I)V"⟩ : MethodName) (head1 (Jvm.Cond.code (⟨"java/util/ArrayList", "add", "(Ljava/lang/Object;[Ljava/lang/Object;I)V"⟩ : MethodName) jdk_38_method_24_code 4 none :: ws) ({ frames := 0, cells := 0, slots := 0, locals := 0 } : Room)) (fun a U => a = #[(.ref o0), (.ref o1), (.ref ea), (.int (3 : Int32))] ∧ Z.Warmed39 U.vm ∧ U.heap = h0) (fun _ _ _ _ _ => True) (fun _ U o U' => ∃ v L, o = .returned v ∧ Q73 Z o0 o1 um ea gE h0 n0 v U'.heap L ∧ FrameEnd U o U' L ({ frames := 0, cells := 0, slots := 0, locals := 0 } : Room).cells ({ frames := 0, cells := 0, slots := 0, locals := 0 } : Room).slots) := by
  refine MetFree.of_bodySF (plainFor_of_name pnm_2) hisR ?_
  intro p e s m args below meth c s₁ Bd hml0 hP hK
  obtain ⟨rfl, hZ, hh⟩ := hP
  have hx := Bd.exec
  have hby := Bd.bytes
  have hml : c.maxLocals = 4 := hml0
  have hown : s.vm.findClass "java/util/ArrayList" = some m.cls := findClass_of_methodNamed Bd.named
  have X0 : Stand p l e ({ frames := 0, cells := 0, slots := 0, locals := 0 } : Room) s m #[(.ref o0), (.ref o1), (.ref ea), (.int (3 : Int32))] below meth c s₁ [] 0 0 := Stand.of_body Bd
  have e0 : s₁.heap = h0 := by rw [← hh, Bd.state]; rfl
  have fin := b73_0 o0 o1 um ea gE (Q := Q73 Z o0 o1 um ea gE h0 n0) hw X0 hx hZ hby hml hown Bd.returns (BodyLoose.notSynchronized Bd) e0 (Fr.nil n0) (Nat.zero_le _) (Nat.zero_le _) Z0 fr0 fre nee Ix Re E0 Fm Fe Fs (fun H' L' n' k' r0 r1 r2 r3 r4 => ⟨rfl, n', k', r0, r1, r2, r3, r4⟩)
  exact own_step (fun t k => castTop (ef_73 m o0 o1) k) fin
set_option maxRecDepth 65536 in
set_option maxHeartbeats 40000000 in
theorem b63_0 {p : Program} {l : Launch} {e : Env} {s : State} {m : MethodId} {args : Array Value} {below : List Frame} {meth : Method} {c : Code} {T : State} {locs : List Loc} {cells slots : Nat} {Z : State} {a0 : Array Value} {h : Heap} {n0 : Nat} {Q : Option Value → Heap → List Loc → Prop} (o0 : Addr) (o1 : Addr) (mc : Int32) (ea : Addr) (gE : Nat → Value) (hw : ∀ d ∈ tables_1, d.before a0 Z = true) (X : Stand p l e ({ frames := 1, cells := 0, slots := 0, locals := 16 } : Room) s m args below meth c T locs cells slots) (hx : p.tables.exec = Jvm.exec) (hZ : Z.Warmed39 s.vm) (hby : c.code = jdk_38_method_25_code) (hml : c.maxLocals = 2) (hown : s.vm.findClass "java/util/ArrayList" = some m.cls) (hret : meth.sig.returnType = some .boolean) (hlk : meth.locks = false) (eT : T.heap = h) (N : Fr n0 locs) (hc : cells ≤ 0) (hs : slots ≤ 0) (Z0 : n0 ≤ h.size) (fr0 : n0 ≤ o0) (fre : n0 ≤ ea) (nee : o0 ≠ ea) (Ix : Ins Z h o1 "java/lang/Object" true) (Re : own_RF Z h ea "java/lang/Object" 10 gE) (E0 : Exa Z h o0 "java/util/ArrayList") (Fm : Fld Z h o0 "java/util/AbstractList" "modCount" "I" (.int mc)) (Fe : Fld Z h o0 "java/util/ArrayList" "elementData" "[Ljava/lang/Object;" (.ref ea)) (Fs : Fld Z h o0 "java/util/ArrayList" "size" "I" (.int (3 : Int32))) (hQ : ∀ (H' : Heap) (L' : List Loc), Fr n0 L' → Keep h H' [o0, ea] → (own_RF Z H' ea "java/lang/Object" 10 (fun i => if i = 3 then (.ref o1) else gE i)) → (Exa Z H' o0 "java/util/ArrayList") → (Fld Z H' o0 "java/util/AbstractList" "modCount" "I" (.int (mc + (1 : Int32)))) → (Fld Z H' o0 "java/util/ArrayList" "elementData" "[Ljava/lang/Object;" (.ref ea)) → (Fld Z H' o0 "java/util/ArrayList" "size" "I" (.int (4 : Int32))) → Q (some (.int 1)) H' L') :
    own_Fin p e below s Q 0 0 (T.setTop (mkF m 0 #[.val (.ref o0), .val (.ref o1)] [])) := by
  refine own_step (fun t k => XS.aloadN X.here hx rfl (hb hby d6_0) rfl rfl k) ?_
  show own_Fin p e below s Q 0 0 (T.setTop (mkF m 1 #[.val (.ref o0), .val (.ref o1)] [(.ref o0)]))
  refine own_step (fun t k => XS.dup X.here hx rfl (hb hby d6_1) rfl rfl k) ?_
  show own_Fin p e below s Q 0 0 (T.setTop (mkF m 2 #[.val (.ref o0), .val (.ref o1)] [(.ref o0), (.ref o0)]))
  obtain ⟨T42, X42, e42, st42⟩ := getF X hx hZ hown (host := "") (Or.inl (hw _ (List.mem_of_getElem? (i := 40) rfl))) (Via.of (hw _ (List.mem_of_getElem? (i := 41) rfl))) eT Fm (g := (mkF m 2 #[.val (.ref o0), .val (.ref o1)] [(.ref o0), (.ref o0)])) rfl rfl (hb hby d6_2)
  refine own_step st42 ?_
  show own_Fin p e below s Q 0 0 (T42.setTop (mkF m 5 #[.val (.ref o0), .val (.ref o1)] [(.int mc), (.ref o0)]))
  refine own_step (fun t k => XS.iconst X42.here hx rfl (hb hby d6_5) k) ?_
  show own_Fin p e below s Q 0 0 (T42.setTop (mkF m 6 #[.val (.ref o0), .val (.ref o1)] [(.int (1 : Int32)), (.int mc), (.ref o0)]))
  refine own_step (fun t k => XS.iadd X42.here hx rfl (hb hby d6_6) rfl k) ?_
  show own_Fin p e below s Q 0 0 (T42.setTop (mkF m 7 #[.val (.ref o0), .val (.ref o1)] [(.int (mc + (1 : Int32))), (.ref o0)]))
  obtain ⟨T43, h43, X43, e43, W43, st43⟩ := putF X42 hx hZ hown (host := "") (Or.inl (hw _ (List.mem_of_getElem? (i := 40) rfl))) (Via.of (hw _ (List.mem_of_getElem? (i := 41) rfl))) e42 Fm E0 (Or.inl (hw _ (List.mem_of_getElem? (i := 22) rfl))) (hw _ (List.mem_of_getElem? (i := 1) rfl)) (ty := .int) (by decide) rfl rfl (g := (mkF m 7 #[.val (.ref o0), .val (.ref o1)] [(.int (mc + (1 : Int32))), (.ref o0)])) rfl rfl (hb hby d6_7)
  have N43 := Fr.snoc X43 N fr0
  have Z043 : n0 ≤ h43.size := Nat.le_trans Z0 (Nat.le_of_eq W43.size.symm)
  have R43_ea := own_RFoth Re W43 (Ne.symm nee)
  have I43 := Ix.wr W43
  have K43 : Keep h h43 [o0, ea] := (Keep.refl h [o0, ea]).wr W43 (Or.inl (List.mem_of_getElem? (i := 0) rfl))
  have Ex43_o0 := E0.wr W43
  have F43_o0_modCount := Fm.same W43
  have F43_o0_elementData := Fe.other W43 (Or.inr (slot_ne (Or.inl (hw _ (List.mem_of_getElem? (i := 25) rfl))) (Or.inl (hw _ (List.mem_of_getElem? (i := 22) rfl))) (by decide) (t := (.array (.object "java/lang/Object"))) (t' := .int) (by decide) (by decide)))
  have F43_o0_size := Fs.other W43 (Or.inr (slot_ne (Or.inl (hw _ (List.mem_of_getElem? (i := 43) rfl))) (Or.inl (hw _ (List.mem_of_getElem? (i := 22) rfl))) (by decide) (t := .int) (t' := .int) (by decide) (by decide)))
  refine own_step st43 ?_
  show own_Fin p e below s Q 0 0 (T43.setTop (mkF m 10 #[.val (.ref o0), .val (.ref o1)] []))
  refine own_step (fun t k => XS.aloadN X43.here hx rfl (hb hby d6_10) rfl rfl k) ?_
  show own_Fin p e below s Q 0 0 (T43.setTop (mkF m 11 #[.val (.ref o0), .val (.ref o1)] [(.ref o0)]))
  refine own_step (fun t k => XS.aloadN X43.here hx rfl (hb hby d6_11) rfl rfl k) ?_
  show own_Fin p e below s Q 0 0 (T43.setTop (mkF m 12 #[.val (.ref o0), .val (.ref o1)] [(.ref o1), (.ref o0)]))
  refine own_step (fun t k => XS.aloadN X43.here hx rfl (hb hby d6_12) rfl rfl k) ?_
  show own_Fin p e below s Q 0 0 (T43.setTop (mkF m 13 #[.val (.ref o0), .val (.ref o1)] [(.ref o0), (.ref o1), (.ref o0)]))
  obtain ⟨T44, X44, e44, st44⟩ := getF X43 hx hZ hown (host := "") (Or.inl (hw _ (List.mem_of_getElem? (i := 24) rfl))) Via.refl e43 F43_o0_elementData (g := (mkF m 13 #[.val (.ref o0), .val (.ref o1)] [(.ref o0), (.ref o1), (.ref o0)])) rfl rfl (hb hby d6_13)
  refine own_step st44 ?_
  show own_Fin p e below s Q 0 0 (T44.setTop (mkF m 16 #[.val (.ref o0), .val (.ref o1)] [(.ref ea), (.ref o1), (.ref o0)]))
  refine own_step (fun t k => XS.aloadN X44.here hx rfl (hb hby d6_16) rfl rfl k) ?_
  show own_Fin p e below s Q 0 0 (T44.setTop (mkF m 17 #[.val (.ref o0), .val (.ref o1)] [(.ref o0), (.ref ea), (.ref o1), (.ref o0)]))
  obtain ⟨T45, X45, e45, st45⟩ := getF X44 hx hZ hown (host := "") (Or.inl (hw _ (List.mem_of_getElem? (i := 42) rfl))) Via.refl e44 F43_o0_size (g := (mkF m 17 #[.val (.ref o0), .val (.ref o1)] [(.ref o0), (.ref ea), (.ref o1), (.ref o0)])) rfl rfl (hb hby d6_17)
  refine own_step st45 ?_
  show own_Fin p e below s Q 0 0 (T45.setTop (mkF m 20 #[.val (.ref o0), .val (.ref o1)] [(.int (3 : Int32)), (.ref ea), (.ref o1), (.ref o0)]))
  obtain ⟨cq46, q46, q46'⟩ := Ex43_o0.cell
  obtain ⟨_, _, ⟨T46, L46, k46, n46⟩, -, X46, ⟨Lc46, hQ46, l46, y46, z46⟩, st46⟩ := X45.privateBack hx (y := (⟨"java/util/ArrayList", "add", "(Ljava/lang/Object;[Ljava/lang/Object;I)V"⟩ : MethodName)) hown (mvT hZ (hw _ (List.mem_of_getElem? (i := 44) rfl))) (mvT hZ (hw _ (List.mem_of_getElem? (i := 45) rfl))) (mvT hZ (hw _ (List.mem_of_getElem? (i := 47) rfl))) (Cond.privateMethod_at (mvP hZ (hw _ (List.mem_of_getElem? (i := 46) rfl)) (args := #[]))) (mvT hZ (hw _ (List.mem_of_getElem? (i := 48) rfl))) (by decide) (backOf (W := 0) (rm73 l Z a0 hw [] o0 o1 (.int (mc + (1 : Int32))) ea gE h43 n0 Z043 fr0 fre nee I43 R43_ea Ex43_o0 F43_o0_modCount F43_o0_elementData F43_o0_size) hZ (hw _ (List.mem_of_getElem? (i := 48) rfl)) (hw _ (List.mem_of_getElem? (i := 2) rfl)) (by decide) (by decide)) (g := (mkF m 20 #[.val (.ref o0), .val (.ref o1)] [(.int (3 : Int32)), (.ref ea), (.ref o1), (.ref o0)])) rfl (by rw [hml]; rfl) (Steps.refl _) (a := o0) (by rw [e45]; exact q46) q46' (argsL := [(.ref o1), (.ref ea), (.int (3 : Int32))]) (rest := []) (lenOf pdm_4 rfl) rfl (by show 2 * 0 + _ ≤ _; exact Nat.le_of_eq rfl) (hb hby d6_20) (fun _ _ => ⟨rfl, e45, (show cells + 0 ≤ 0 from (Nat.le_trans (Nat.add_le_add_right hc 0) (by decide))), (show slots + 0 ≤ 0 from (Nat.le_trans (Nat.add_le_add_right hs 0) (by decide)))⟩)
  dsimp only [Pt.U, Pt.locs, Pt.cells, Pt.slots] at X46 l46 y46 z46 st46 hQ46
  have yy46 : k46 = cells + 0 := y46
  have zz46 : n46 = slots + 0 := z46
  rw [yy46, zz46, l46] at X46
  obtain ⟨rfl, N46q, K46, r0_46, r1_46, r2_46, r3_46, r4_46⟩ := hQ46
  have N46 := Fr.app N43 N46q
  have Z046 : n0 ≤ T46.heap.size := Nat.le_trans Z043 K46.1
  have I46 := own_InsK I43 K46
  have KK46 : Keep h T46.heap [o0, ea] := K43.trans K46 (allS (Or.inl (List.mem_of_getElem? (i := 0) rfl)) (allS (Or.inl (List.mem_of_getElem? (i := 1) rfl)) all0))
  refine own_step (fun t k => st46.trans k) ?_
  show own_Fin p e below s Q 0 0 (T46.setTop (mkF m 23 #[.val (.ref o0), .val (.ref o1)] []))
  refine own_step (fun t k => XS.iconst X46.here hx rfl (hb hby d6_23) k) ?_
  show own_Fin p e below s Q 0 0 (T46.setTop (mkF m 24 #[.val (.ref o0), .val (.ref o1)] [(.int (1 : Int32))]))
  refine own_retZ X46 hx hlk hret (by simp) (hb hby d6_24) (Nat.le_trans (Nat.add_le_add_right hc 0) (by decide)) (Nat.le_trans (Nat.add_le_add_right hs 0) (by decide)) rfl ?_
  exact hQ _ _ N46 KK46 r0_46 r1_46 r2_46 r3_46 r4_46
theorem ef_63 (m : MethodId) (o0 : Addr) (o1 : Addr) : entryFrame m #[(.ref o0), (.ref o1)] 2 = (mkF m 0 #[.val (.ref o0), .val (.ref o1)] []) := by first | (simp [entryFrame, mkF, argsToLocals, Value.category]; done) | rfl
def Q63 (Z : State) (o0 : Addr) (o1 : Addr) (mc : Int32) (ea : Addr) (gE : Nat → Value) (h0 : Heap) (n0 : Nat) (v : Option Value) (h : Heap) (L : List Loc) : Prop := v = some (.int 1) ∧ Fr n0 L ∧ Keep h0 h [o0, ea] ∧ (own_RF Z h ea "java/lang/Object" 10 (fun i => if i = 3 then (.ref o1) else gE i)) ∧ (Exa Z h o0 "java/util/ArrayList") ∧ (Fld Z h o0 "java/util/AbstractList" "modCount" "I" (.int (mc + (1 : Int32)))) ∧ (Fld Z h o0 "java/util/ArrayList" "elementData" "[Ljava/lang/Object;" (.ref ea)) ∧ (Fld Z h o0 "java/util/ArrayList" "size" "I" (.int (4 : Int32)))
set_option maxRecDepth 65536 in
set_option maxHeartbeats 4000000 in
theorem rm63 (l : Launch) (Z : State) (a0 : Array Value) (hw : ∀ d ∈ tables_1, d.before a0 Z = true) (ws : List Jvm.Cond) (o0 : Addr) (o1 : Addr) (mc : Int32) (ea : Addr) (gE : Nat → Value) (h0 : Heap) (n0 : Nat) (Z0 : n0 ≤ h0.size) (fr0 : n0 ≤ o0) (fre : n0 ≤ ea) (nee : o0 ≠ ea) (Ix : Ins Z h0 o1 "java/lang/Object" true) (Re : own_RF Z h0 ea "java/lang/Object" 10 gE) (E0 : Exa Z h0 o0 "java/util/ArrayList") (Fm : Fld Z h0 o0 "java/util/AbstractList" "modCount" "I" (.int mc)) (Fe : Fld Z h0 o0 "java/util/ArrayList" "elementData" "[Ljava/lang/Object;" (.ref ea)) (Fs : Fld Z h0 o0 "java/util/ArrayList" "size" "I" (.int (3 : Int32))) :
    MetFree l (⟨"java/util/ArrayList", "add", "(Ljava/lang/Object;)Z"⟩ : MethodName) (head1 (Jvm.Cond.code (⟨"java/util/ArrayList", "add", "(Ljava/lang/Object;)Z"⟩ : MethodName) jdk_38_method_25_code 2 (some .boolean) :: ws) ({ frames := 1, cells := 0, slots := 0, locals := 16 } : Room)) (fun a U => a = #[(.ref o0), (.ref o1)] ∧ Z.Warmed39 U.vm ∧ U.heap = h0) (fun _ _ _ _ _ => True) (fun _ U o U' => ∃ v L, o = .returned v ∧ Q63 Z o0 o1 mc ea gE h0 n0 v U'.heap L ∧ FrameEnd U o U' L ({ frames := 1, cells := 0, slots := 0, locals := 16 } : Room).cells ({ frames := 1, cells := 0, slots := 0, locals := 16 } : Room).slots) := by
  refine MetFree.of_bodySF (plainFor_of_name pnm_2) hisR ?_
  intro p e s m args below meth c s₁ Bd hml0 hP hK
  obtain ⟨rfl, hZ, hh⟩ := hP
  have hx := Bd.exec
  have hby := Bd.bytes
  have hml : c.maxLocals = 2 := hml0
  have hown : s.vm.findClass "java/util/ArrayList" = some m.cls := findClass_of_methodNamed Bd.named
  have X0 : Stand p l e ({ frames := 1, cells := 0, slots := 0, locals := 16 } : Room) s m #[(.ref o0), (.ref o1)] below meth c s₁ [] 0 0 := Stand.of_body Bd
  have e0 : s₁.heap = h0 := by rw [← hh, Bd.state]; rfl
  have fin := b63_0 o0 o1 mc ea gE (Q := Q63 Z o0 o1 mc ea gE h0 n0) hw X0 hx hZ hby hml hown Bd.returns (BodyLoose.notSynchronized Bd) e0 (Fr.nil n0) (Nat.zero_le _) (Nat.zero_le _) Z0 fr0 fre nee Ix Re E0 Fm Fe Fs (fun H' L' n' k' r0 r1 r2 r3 r4 => ⟨rfl, n', k', r0, r1, r2, r3, r4⟩)
  exact own_step (fun t k => castTop (ef_63 m o0 o1) k) fin
theorem d13_0 : decode jdk_38_method_8_code 0 = .ok (.aload_n 0, 1) := by decide +kernel
theorem d13_1 : decode jdk_38_method_8_code 1 = .ok (.getfield 48, 3) := by decide +kernel
theorem d13_4 : decode jdk_38_method_8_code 4 = .ok (.ireturn, 1) := by decide +kernel
set_option maxRecDepth 65536 in
set_option maxHeartbeats 40000000 in
theorem b13_0 {p : Program} {l : Launch} {e : Env} {s : State} {m : MethodId} {args : Array Value} {below : List Frame} {meth : Method} {c : Code} {T : State} {locs : List Loc} {cells slots : Nat} {Z : State} {a0 : Array Value} {h : Heap} {n0 : Nat} {Q : Option Value → Heap → List Loc → Prop} (o0 : Addr) (n : Int32) (hw : ∀ d ∈ tables_1, d.before a0 Z = true) (X : Stand p l e ({ frames := 0, cells := 0, slots := 0, locals := 0 } : Room) s m args below meth c T locs cells slots) (hx : p.tables.exec = Jvm.exec) (hZ : Z.Warmed39 s.vm) (hby : c.code = jdk_38_method_8_code) (hml : c.maxLocals = 1) (hown : s.vm.findClass "java/util/ArrayList" = some m.cls) (hret : meth.sig.returnType = some .int) (hlk : meth.locks = false) (eT : T.heap = h) (N : Fr n0 locs) (hc : cells ≤ 0) (hs : slots ≤ 0) (Fs : Fld Z h o0 "java/util/ArrayList" "size" "I" (.int n)) (hQ : ∀ (H' : Heap) (L' : List Loc), Fr n0 L' → H' = h → Q (some (.int n)) H' L') :
    own_Fin p e below s Q 0 0 (T.setTop (mkF m 0 #[.val (.ref o0)] [])) := by
  refine own_step (fun t k => XS.aloadN X.here hx rfl (hb hby d13_0) rfl rfl k) ?_
  show own_Fin p e below s Q 0 0 (T.setTop (mkF m 1 #[.val (.ref o0)] [(.ref o0)]))
  obtain ⟨T47, X47, e47, st47⟩ := getF X hx hZ hown (host := "") (Or.inl (hw _ (List.mem_of_getElem? (i := 42) rfl))) Via.refl eT Fs (g := (mkF m 1 #[.val (.ref o0)] [(.ref o0)])) rfl rfl (hb hby d13_1)
  refine own_step st47 ?_
  show own_Fin p e below s Q 0 0 (T47.setTop (mkF m 4 #[.val (.ref o0)] [(.int n)]))
  refine own_retJ X47 hx hlk hret (hb hby d13_4) (Nat.le_trans (Nat.add_le_add_right hc 0) (by decide)) (Nat.le_trans (Nat.add_le_add_right hs 0) (by decide)) e47 ?_
  exact hQ _ _ N rfl
theorem pdm_6 : parseMethodDescriptor "()I" = some ⟨[], some .int⟩ := by decide +kernel
theorem ef_13 (m : MethodId) (o0 : Addr) : entryFrame m #[(.ref o0)] 1 = (mkF m 0 #[.val (.ref o0)] []) := by first | (simp [entryFrame, mkF, argsToLocals, Value.category]; done) | rfl
def Q13 (Z : State) (o0 : Addr) (n : Int32) (h0 : Heap) (n0 : Nat) (v : Option Value) (h : Heap) (L : List Loc) : Prop := v = some (.int n) ∧ Fr n0 L ∧ h = h0
set_option maxRecDepth 65536 in
set_option maxHeartbeats 4000000 in
theorem rm13 (l : Launch) (Z : State) (a0 : Array Value) (hw : ∀ d ∈ tables_1, d.before a0 Z = true) (ws : List Jvm.Cond) (o0 : Addr) (n : Int32) (h0 : Heap) (n0 : Nat) (Fs : Fld Z h0 o0 "java/util/ArrayList" "size" "I" (.int n)) :
    MetFree l (⟨"java/util/ArrayList", "size", "()I"⟩ : MethodName) (head1 (Jvm.Cond.code (⟨"java/util/ArrayList", "size", "()I"⟩ : MethodName) jdk_38_method_8_code 1 (some .int) :: ws) ({ frames := 0, cells := 0, slots := 0, locals := 0 } : Room)) (fun a U => a = #[(.ref o0)] ∧ Z.Warmed39 U.vm ∧ U.heap = h0) (fun _ _ _ _ _ => True) (fun _ U o U' => ∃ v L, o = .returned v ∧ Q13 Z o0 n h0 n0 v U'.heap L ∧ FrameEnd U o U' L ({ frames := 0, cells := 0, slots := 0, locals := 0 } : Room).cells ({ frames := 0, cells := 0, slots := 0, locals := 0 } : Room).slots) := by
  refine MetFree.of_bodySF (plainFor_of_name pnm_2) hisR ?_
  intro p e s m args below meth c s₁ Bd hml0 hP hK
  obtain ⟨rfl, hZ, hh⟩ := hP
  have hx := Bd.exec
  have hby := Bd.bytes
  have hml : c.maxLocals = 1 := hml0
  have hown : s.vm.findClass "java/util/ArrayList" = some m.cls := findClass_of_methodNamed Bd.named
  have X0 : Stand p l e ({ frames := 0, cells := 0, slots := 0, locals := 0 } : Room) s m #[(.ref o0)] below meth c s₁ [] 0 0 := Stand.of_body Bd
  have e0 : s₁.heap = h0 := by rw [← hh, Bd.state]; rfl
  have fin := b13_0 o0 n (Q := Q13 Z o0 n h0 n0) hw X0 hx hZ hby hml hown Bd.returns (BodyLoose.notSynchronized Bd) e0 (Fr.nil n0) (Nat.zero_le _) (Nat.zero_le _) Fs (fun H' L' n' k' => ⟨rfl, n', k'⟩)
  exact own_step (fun t k => castTop (ef_13 m o0) k) fin
theorem d16_0 : decode jdk_41_method_11_code 0 = .ok (.iload_n 0, 1) := by decide +kernel
theorem d16_1 : decode jdk_41_method_11_code 1 = .ok (.ifCond .lt 8, 3) := by decide +kernel
theorem d16_4 : decode jdk_41_method_11_code 4 = .ok (.iload_n 0, 1) := by decide +kernel
theorem d16_5 : decode jdk_41_method_11_code 5 = .ok (.iload_n 1, 1) := by decide +kernel
theorem d16_6 : decode jdk_41_method_11_code 6 = .ok (.if_icmp .lt 10, 3) := by decide +kernel
theorem d16_9 : decode jdk_41_method_11_code 9 = .ok (.aload_n 2, 1) := by decide +kernel
theorem d16_10 : decode jdk_41_method_11_code 10 = .ok (.iload_n 0, 1) := by decide +kernel
theorem d16_11 : decode jdk_41_method_11_code 11 = .ok (.iload_n 1, 1) := by decide +kernel
theorem d16_12 : decode jdk_41_method_11_code 12 = .ok (.invokestatic 95, 3) := by decide +kernel
theorem d16_15 : decode jdk_41_method_11_code 15 = .ok (.athrow, 1) := by decide +kernel
theorem d16_16 : decode jdk_41_method_11_code 16 = .ok (.iload_n 0, 1) := by decide +kernel
theorem d16_17 : decode jdk_41_method_11_code 17 = .ok (.ireturn, 1) := by decide +kernel
set_option maxRecDepth 65536 in
set_option maxHeartbeats 40000000 in
theorem b16_0 {p : Program} {l : Launch} {e : Env} {s : State} {m : MethodId} {args : Array Value} {below : List Frame} {meth : Method} {c : Code} {T : State} {locs : List Loc} {cells slots : Nat} {Z : State} {a0 : Array Value} {h : Heap} {n0 : Nat} {Q : Option Value → Heap → List Loc → Prop} (i0 : Int32) (i1 : Int32) (hw : ∀ d ∈ tables_1, d.before a0 Z = true) (X : Stand p l e ({ frames := 0, cells := 0, slots := 0, locals := 0 } : Room) s m args below meth c T locs cells slots) (hx : p.tables.exec = Jvm.exec) (hZ : Z.Warmed39 s.vm) (hby : c.code = jdk_41_method_11_code) (hml : c.maxLocals = 3) (hown : s.vm.findClass "jdk/internal/util/Preconditions" = some m.cls) (hret : meth.sig.returnType = some .int) (hlk : meth.locks = false) (eT : T.heap = h) (N : Fr n0 locs) (hc : cells ≤ 0) (hs : slots ≤ 0) (hi0 : ¬ (i0 < (0 : Int32))) (hi1 : i0 < i1) (hQ : ∀ (H' : Heap) (L' : List Loc), Fr n0 L' → H' = h → Q (some (.int i0)) H' L') :
    own_Fin p e below s Q 0 0 (T.setTop (mkF m 0 #[.val (.int i0), .val (.int i1), .val .null] [])) := by
  refine own_step (fun t k => XS.iloadN X.here hx rfl (hb hby d16_0) rfl  k) ?_
  show own_Fin p e below s Q 0 0 (T.setTop (mkF m 1 #[.val (.int i0), .val (.int i1), .val .null] [(.int i0)]))
  refine own_step (fun t k => XS.ifNo X.here hx rfl (hb hby d16_1) rfl ((if0 _ _).trans (flt hi0).1) k) ?_
  show own_Fin p e below s Q 0 0 (T.setTop (mkF m 4 #[.val (.int i0), .val (.int i1), .val .null] []))
  refine own_step (fun t k => XS.iloadN X.here hx rfl (hb hby d16_4) rfl  k) ?_
  show own_Fin p e below s Q 0 0 (T.setTop (mkF m 5 #[.val (.int i0), .val (.int i1), .val .null] [(.int i0)]))
  refine own_step (fun t k => XS.iloadN X.here hx rfl (hb hby d16_5) rfl  k) ?_
  show own_Fin p e below s Q 0 0 (T.setTop (mkF m 6 #[.val (.int i0), .val (.int i1), .val .null] [(.int i1), (.int i0)]))
  refine own_step (fun t k => XS.icmpYes X.here hx rfl (pc0 := 6) (pc' := 16) rfl (hb hby d16_6) rfl (tlt hi1).1 (by decide) (by decide) k) ?_
  show own_Fin p e below s Q 0 0 (T.setTop (mkF m 16 #[.val (.int i0), .val (.int i1), .val .null] []))
  refine own_step (fun t k => XS.iloadN X.here hx rfl (hb hby d16_16) rfl  k) ?_
  show own_Fin p e below s Q 0 0 (T.setTop (mkF m 17 #[.val (.int i0), .val (.int i1), .val .null] [(.int i0)]))
  refine own_retJ X hx hlk hret (hb hby d16_17) (Nat.le_trans (Nat.add_le_add_right hc 0) (by decide)) (Nat.le_trans (Nat.add_le_add_right hs 0) (by decide)) eT ?_
  exact hQ _ _ N rfl
theorem pnm_3 : plainName "jdk/internal/util/Preconditions" = true := by first | (simp [plainName, overriddenIn]; done) | decide +kernel
theorem pdm_7 : parseMethodDescriptor "(IILjava/util/function/BiFunction;)I" = some ⟨[.int, .int, (.object "java/util/function/BiFunction")], some .int⟩ := by decide +kernel
theorem ef_16 (m : MethodId) (i0 : Int32) (i1 : Int32) : entryFrame m #[(.int i0), (.int i1), .null] 3 = (mkF m 0 #[.val (.int i0), .val (.int i1), .val .null] []) := by first | (simp [entryFrame, mkF, argsToLocals, Value.category]; done) | rfl
def Q16 (Z : State) (i0 : Int32) (i1 : Int32) (h0 : Heap) (n0 : Nat) (v : Option Value) (h : Heap) (L : List Loc) : Prop := v = some (.int i0) ∧ Fr n0 L ∧ h = h0
set_option maxRecDepth 65536 in
set_option maxHeartbeats 4000000 in
theorem rm16 (l : Launch) (Z : State) (a0 : Array Value) (hw : ∀ d ∈ tables_1, d.before a0 Z = true) (ws : List Jvm.Cond) (i0 : Int32) (i1 : Int32) (h0 : Heap) (n0 : Nat) (hi0 : ¬ (i0 < (0 : Int32))) (hi1 : i0 < i1) :
    MetFree l (⟨"jdk/internal/util/Preconditions", "checkIndex", "(IILjava/util/function/BiFunction;)I"⟩ : MethodName) (head1 (Jvm.Cond.code (⟨"jdk/internal/util/Preconditions", "checkIndex", "(IILjava/util/function/BiFunction;)I"⟩ : MethodName) jdk_41_method_11_code 3 (some .int) :: ws) ({ frames := 0, cells := 0, slots := 0, locals := 0 } : Room)) (fun a U => a = #[(.int i0), (.int i1), .null] ∧ Z.Warmed39 U.vm ∧ U.heap = h0) (fun _ _ _ _ _ => True) (fun _ U o U' => ∃ v L, o = .returned v ∧ Q16 Z i0 i1 h0 n0 v U'.heap L ∧ FrameEnd U o U' L ({ frames := 0, cells := 0, slots := 0, locals := 0 } : Room).cells ({ frames := 0, cells := 0, slots := 0, locals := 0 } : Room).slots) := by
  refine MetFree.of_bodySF (plainFor_of_name pnm_3) hisR ?_
  intro p e s m args below meth c s₁ Bd hml0 hP hK
  obtain ⟨rfl, hZ, hh⟩ := hP
  have hx := Bd.exec
  have hby := Bd.bytes
  have hml : c.maxLocals = 3 := hml0
  have hown : s.vm.findClass "jdk/internal/util/Preconditions" = some m.cls := findClass_of_methodNamed Bd.named
  have X0 : Stand p l e ({ frames := 0, cells := 0, slots := 0, locals := 0 } : Room) s m #[(.int i0), (.int i1), .null] below meth c s₁ [] 0 0 := Stand.of_body Bd
  have e0 : s₁.heap = h0 := by rw [← hh, Bd.state]; rfl
  have fin := b16_0 i0 i1 (Q := Q16 Z i0 i1 h0 n0) hw X0 hx hZ hby hml hown Bd.returns (BodyLoose.notSynchronized Bd) e0 (Fr.nil n0) (Nat.zero_le _) (Nat.zero_le _) hi0 hi1 (fun H' L' n' k' => ⟨rfl, n', k'⟩)
  exact own_step (fun t k => castTop (ef_16 m i0 i1) k) fin
theorem d15_0 : decode jdk_31_method_17_code 0 = .ok (.iload_n 0, 1) := by decide +kernel
theorem d15_1 : decode jdk_31_method_17_code 1 = .ok (.iload_n 1, 1) := by decide +kernel
theorem d15_2 : decode jdk_31_method_17_code 2 = .ok (.aconst_null, 1) := by decide +kernel
theorem d15_3 : decode jdk_31_method_17_code 3 = .ok (.invokestatic 105, 3) := by decide +kernel
theorem d15_6 : decode jdk_31_method_17_code 6 = .ok (.ireturn, 1) := by decide +kernel
set_option maxRecDepth 65536 in
set_option maxHeartbeats 40000000 in
theorem b15_0 {p : Program} {l : Launch} {e : Env} {s : State} {m : MethodId} {args : Array Value} {below : List Frame} {meth : Method} {c : Code} {T : State} {locs : List Loc} {cells slots : Nat} {Z : State} {a0 : Array Value} {h : Heap} {n0 : Nat} {Q : Option Value → Heap → List Loc → Prop} (i0 : Int32) (i1 : Int32) (hw : ∀ d ∈ tables_1, d.before a0 Z = true) (X : Stand p l e ({ frames := 1, cells := 0, slots := 0, locals := 14 } : Room) s m args below meth c T locs cells slots) (hx : p.tables.exec = Jvm.exec) (hZ : Z.Warmed39 s.vm) (hby : c.code = jdk_31_method_17_code) (hml : c.maxLocals = 2) (hown : s.vm.findClass "java/util/Objects" = some m.cls) (hret : meth.sig.returnType = some .int) (hlk : meth.locks = false) (eT : T.heap = h) (N : Fr n0 locs) (hc : cells ≤ 0) (hs : slots ≤ 0) (hi0 : ¬ (i0 < (0 : Int32))) (hi1 : i0 < i1) (hQ : ∀ (H' : Heap) (L' : List Loc), Fr n0 L' → H' = h → Q (some (.int i0)) H' L') :
    own_Fin p e below s Q 0 0 (T.setTop (mkF m 0 #[.val (.int i0), .val (.int i1)] [])) := by
  refine own_step (fun t k => XS.iloadN X.here hx rfl (hb hby d15_0) rfl  k) ?_
  show own_Fin p e below s Q 0 0 (T.setTop (mkF m 1 #[.val (.int i0), .val (.int i1)] [(.int i0)]))
  refine own_step (fun t k => XS.iloadN X.here hx rfl (hb hby d15_1) rfl  k) ?_
  show own_Fin p e below s Q 0 0 (T.setTop (mkF m 2 #[.val (.int i0), .val (.int i1)] [(.int i1), (.int i0)]))
  refine own_step (fun t k => XS.aconstNull X.here hx rfl (hb hby d15_2) k) ?_
  show own_Fin p e below s Q 0 0 (T.setTop (mkF m 3 #[.val (.int i0), .val (.int i1)] [.null, (.int i1), (.int i0)]))
  obtain ⟨_, _, ⟨T48, L48, k48, n48⟩, -, X48, ⟨Lc48, hQ48, l48, y48, z48⟩, st48⟩ := Jvm.LawKit.callS X hx (y := (⟨"jdk/internal/util/Preconditions", "checkIndex", "(IILjava/util/function/BiFunction;)I"⟩ : MethodName)) hown (mvT hZ (hw _ (List.mem_of_getElem? (i := 102) rfl))) (mvT hZ (hw _ (List.mem_of_getElem? (i := 103) rfl))) (mvT hZ (hw _ (List.mem_of_getElem? (i := 104) rfl))) (mvT hZ (hw _ (List.mem_of_getElem? (i := 105) rfl))) (by decide) (backOf (W := 0) (rm16 l Z a0 hw [] i0 i1 h n0 hi0 hi1) hZ (hw _ (List.mem_of_getElem? (i := 105) rfl)) (hw _ (List.mem_of_getElem? (i := 104) rfl)) (by decide) (by decide)) (g := (mkF m 3 #[.val (.int i0), .val (.int i1)] [.null, (.int i1), (.int i0)])) rfl (by rw [hml]; rfl) (argsL := [(.int i0), (.int i1), .null]) (rest := []) (lenOf pdm_7 rfl) rfl (by show 2 * 0 + _ ≤ _; exact Nat.le_of_eq rfl) (hb hby d15_3) (fun _ _ => ⟨rfl, eT, (show cells + 0 ≤ 0 from (Nat.le_trans (Nat.add_le_add_right hc 0) (by decide))), (show slots + 0 ≤ 0 from (Nat.le_trans (Nat.add_le_add_right hs 0) (by decide)))⟩)
  dsimp only [Pt.U, Pt.locs, Pt.cells, Pt.slots] at X48 l48 y48 z48 st48 hQ48
  have yy48 : k48 = cells + 0 := y48
  have zz48 : n48 = slots + 0 := z48
  rw [yy48, zz48, l48] at X48
  obtain ⟨rfl, N48q, e48⟩ := hQ48
  have N48 := Fr.app N N48q
  refine own_step st48 ?_
  show own_Fin p e below s Q 0 0 (T48.setTop (mkF m 6 #[.val (.int i0), .val (.int i1)] [(.int i0)]))
  refine own_retJ X48 hx hlk hret (hb hby d15_6) (Nat.le_trans (Nat.add_le_add_right hc 0) (by decide)) (Nat.le_trans (Nat.add_le_add_right hs 0) (by decide)) e48 ?_
  exact hQ _ _ N48 rfl
theorem pnm_4 : plainName "java/util/Objects" = true := by first | (simp [plainName, overriddenIn]; done) | decide +kernel
theorem ef_15 (m : MethodId) (i0 : Int32) (i1 : Int32) : entryFrame m #[(.int i0), (.int i1)] 2 = (mkF m 0 #[.val (.int i0), .val (.int i1)] []) := by first | (simp [entryFrame, mkF, argsToLocals, Value.category]; done) | rfl
def Q15 (Z : State) (i0 : Int32) (i1 : Int32) (h0 : Heap) (n0 : Nat) (v : Option Value) (h : Heap) (L : List Loc) : Prop := v = some (.int i0) ∧ Fr n0 L ∧ h = h0
set_option maxRecDepth 65536 in
set_option maxHeartbeats 4000000 in
theorem rm15 (l : Launch) (Z : State) (a0 : Array Value) (hw : ∀ d ∈ tables_1, d.before a0 Z = true) (ws : List Jvm.Cond) (i0 : Int32) (i1 : Int32) (h0 : Heap) (n0 : Nat) (hi0 : ¬ (i0 < (0 : Int32))) (hi1 : i0 < i1) :
    MetFree l (⟨"java/util/Objects", "checkIndex", "(II)I"⟩ : MethodName) (head1 (Jvm.Cond.code (⟨"java/util/Objects", "checkIndex", "(II)I"⟩ : MethodName) jdk_31_method_17_code 2 (some .int) :: ws) ({ frames := 1, cells := 0, slots := 0, locals := 14 } : Room)) (fun a U => a = #[(.int i0), (.int i1)] ∧ Z.Warmed39 U.vm ∧ U.heap = h0) (fun _ _ _ _ _ => True) (fun _ U o U' => ∃ v L, o = .returned v ∧ Q15 Z i0 i1 h0 n0 v U'.heap L ∧ FrameEnd U o U' L ({ frames := 1, cells := 0, slots := 0, locals := 14 } : Room).cells ({ frames := 1, cells := 0, slots := 0, locals := 14 } : Room).slots) := by
  refine MetFree.of_bodySF (plainFor_of_name pnm_4) hisR ?_
  intro p e s m args below meth c s₁ Bd hml0 hP hK
  obtain ⟨rfl, hZ, hh⟩ := hP
  have hx := Bd.exec
  have hby := Bd.bytes
  have hml : c.maxLocals = 2 := hml0
  have hown : s.vm.findClass "java/util/Objects" = some m.cls := findClass_of_methodNamed Bd.named
  have X0 : Stand p l e ({ frames := 1, cells := 0, slots := 0, locals := 14 } : Room) s m #[(.int i0), (.int i1)] below meth c s₁ [] 0 0 := Stand.of_body Bd
  have e0 : s₁.heap = h0 := by rw [← hh, Bd.state]; rfl
  have fin := b15_0 i0 i1 (Q := Q15 Z i0 i1 h0 n0) hw X0 hx hZ hby hml hown Bd.returns (BodyLoose.notSynchronized Bd) e0 (Fr.nil n0) (Nat.zero_le _) (Nat.zero_le _) hi0 hi1 (fun H' L' n' k' => ⟨rfl, n', k'⟩)
  exact own_step (fun t k => castTop (ef_15 m i0 i1) k) fin
theorem d17_0 : decode jdk_38_method_18_code 0 = .ok (.aload_n 0, 1) := by decide +kernel
theorem d17_1 : decode jdk_38_method_18_code 1 = .ok (.getfield 9, 3) := by decide +kernel
theorem d17_4 : decode jdk_38_method_18_code 4 = .ok (.iload_n 1, 1) := by decide +kernel
theorem d17_5 : decode jdk_38_method_18_code 5 = .ok (.aaload, 1) := by decide +kernel
theorem d17_6 : decode jdk_38_method_18_code 6 = .ok (.areturn, 1) := by decide +kernel
set_option maxRecDepth 65536 in
set_option maxHeartbeats 40000000 in
theorem b17_0 {p : Program} {l : Launch} {e : Env} {s : State} {m : MethodId} {args : Array Value} {below : List Frame} {meth : Method} {c : Code} {T : State} {locs : List Loc} {cells slots : Nat} {Z : State} {a0 : Array Value} {h : Heap} {n0 : Nat} {Q : Option Value → Heap → List Loc → Prop} (o0 : Addr) (i1 : Int32) (ea : Addr) (gE : Nat → Value) (r : Addr) (hw : ∀ d ∈ tables_1, d.before a0 Z = true) (X : Stand p l e ({ frames := 0, cells := 0, slots := 0, locals := 0 } : Room) s m args below meth c T locs cells slots) (hx : p.tables.exec = Jvm.exec) (hZ : Z.Warmed39 s.vm) (hby : c.code = jdk_38_method_18_code) (hml : c.maxLocals = 2) (hown : s.vm.findClass "java/util/ArrayList" = some m.cls) (hret : meth.sig.returnType = some (.object "java/lang/Object")) (hlk : meth.locks = false) (eT : T.heap = h) (N : Fr n0 locs) (hc : cells ≤ 0) (hs : slots ≤ 0) (Fe : Fld Z h o0 "java/util/ArrayList" "elementData" "[Ljava/lang/Object;" (.ref ea)) (Re : own_RF Z h ea "java/lang/Object" 10 gE) (hin : own_In 10 i1) (hg : gE (i1).toNatClampNeg = .ref r) (hQ : ∀ (H' : Heap) (L' : List Loc), Fr n0 L' → H' = h → Q (some (.ref r)) H' L') :
    own_Fin p e below s Q 0 0 (T.setTop (mkF m 0 #[.val (.ref o0), .val (.int i1)] [])) := by
  refine own_step (fun t k => XS.aloadN X.here hx rfl (hb hby d17_0) rfl rfl k) ?_
  show own_Fin p e below s Q 0 0 (T.setTop (mkF m 1 #[.val (.ref o0), .val (.int i1)] [(.ref o0)]))
  obtain ⟨T49, X49, e49, st49⟩ := getF X hx hZ hown (host := "") (Or.inl (hw _ (List.mem_of_getElem? (i := 24) rfl))) Via.refl eT Fe (g := (mkF m 1 #[.val (.ref o0), .val (.int i1)] [(.ref o0)])) rfl rfl (hb hby d17_1)
  refine own_step st49 ?_
  show own_Fin p e below s Q 0 0 (T49.setTop (mkF m 4 #[.val (.ref o0), .val (.int i1)] [(.ref ea)]))
  refine own_step (fun t k => XS.iloadN X49.here hx rfl (hb hby d17_4) rfl  k) ?_
  show own_Fin p e below s Q 0 0 (T49.setTop (mkF m 5 #[.val (.ref o0), .val (.int i1)] [(.int i1), (.ref ea)]))
  obtain ⟨ca5, Ar5, Ov5, Sz5, Ht5⟩ := id Re
  have hin5 : ¬ (i1 < 0 ∨ ca5.slots.size ≤ (i1).toNatClampNeg) := by rw [Sz5]; exact hin
  have hat5 : ca5.slots[(i1).toNatClampNeg]? = some (.ref r) := (Ht5 _ (by have hq := Nat.lt_of_not_le (fun y => hin5 (Or.inr y)); rw [Sz5] at hq; exact hq)).trans (congrArg some hg)
  refine own_step (X49.aaload hx (j := i1) (v := (.ref r)) (by rw [e49]; exact Ar5.1) (State.isArrayOf_alike hZ.alike Ar5.2.1) rfl Ar5.2.2 hin5 hat5 (g := (mkF m 5 #[.val (.ref o0), .val (.int i1)] [(.int i1), (.ref ea)])) rfl rfl (hb hby d17_5)) ?_
  show own_Fin p e below s Q 0 0 (T49.setTop (mkF m 6 #[.val (.ref o0), .val (.int i1)] [(.ref r)]))
  refine own_retA X49 hx hlk hret rfl (hb hby d17_6) (Nat.le_trans (Nat.add_le_add_right hc 0) (by decide)) (Nat.le_trans (Nat.add_le_add_right hs 0) (by decide)) e49 ?_
  exact hQ _ _ N rfl
theorem pdm_8 : parseMethodDescriptor "(I)Ljava/lang/Object;" = some ⟨[.int], some (.object "java/lang/Object")⟩ := by decide +kernel
theorem ef_17 (m : MethodId) (o0 : Addr) (i1 : Int32) : entryFrame m #[(.ref o0), (.int i1)] 2 = (mkF m 0 #[.val (.ref o0), .val (.int i1)] []) := by first | (simp [entryFrame, mkF, argsToLocals, Value.category]; done) | rfl
def Q17 (Z : State) (o0 : Addr) (i1 : Int32) (ea : Addr) (gE : Nat → Value) (r : Addr) (h0 : Heap) (n0 : Nat) (v : Option Value) (h : Heap) (L : List Loc) : Prop := v = some (.ref r) ∧ Fr n0 L ∧ h = h0
set_option maxRecDepth 65536 in
set_option maxHeartbeats 4000000 in
theorem rm17 (l : Launch) (Z : State) (a0 : Array Value) (hw : ∀ d ∈ tables_1, d.before a0 Z = true) (ws : List Jvm.Cond) (o0 : Addr) (i1 : Int32) (ea : Addr) (gE : Nat → Value) (r : Addr) (h0 : Heap) (n0 : Nat) (Fe : Fld Z h0 o0 "java/util/ArrayList" "elementData" "[Ljava/lang/Object;" (.ref ea)) (Re : own_RF Z h0 ea "java/lang/Object" 10 gE) (hin : own_In 10 i1) (hg : gE (i1).toNatClampNeg = .ref r) :
    MetFree l (⟨"java/util/ArrayList", "elementData", "(I)Ljava/lang/Object;"⟩ : MethodName) (head1 (Jvm.Cond.code (⟨"java/util/ArrayList", "elementData", "(I)Ljava/lang/Object;"⟩ : MethodName) jdk_38_method_18_code 2 (some (.object "java/lang/Object")) :: ws) ({ frames := 0, cells := 0, slots := 0, locals := 0 } : Room)) (fun a U => a = #[(.ref o0), (.int i1)] ∧ Z.Warmed39 U.vm ∧ U.heap = h0) (fun _ _ _ _ _ => True) (fun _ U o U' => ∃ v L, o = .returned v ∧ Q17 Z o0 i1 ea gE r h0 n0 v U'.heap L ∧ FrameEnd U o U' L ({ frames := 0, cells := 0, slots := 0, locals := 0 } : Room).cells ({ frames := 0, cells := 0, slots := 0, locals := 0 } : Room).slots) := by
  refine MetFree.of_bodySF (plainFor_of_name pnm_2) hisR ?_
  intro p e s m args below meth c s₁ Bd hml0 hP hK
  obtain ⟨rfl, hZ, hh⟩ := hP
  have hx := Bd.exec
  have hby := Bd.bytes
  have hml : c.maxLocals = 2 := hml0
  have hown : s.vm.findClass "java/util/ArrayList" = some m.cls := findClass_of_methodNamed Bd.named
  have X0 : Stand p l e ({ frames := 0, cells := 0, slots := 0, locals := 0 } : Room) s m #[(.ref o0), (.int i1)] below meth c s₁ [] 0 0 := Stand.of_body Bd
  have e0 : s₁.heap = h0 := by rw [← hh, Bd.state]; rfl
  have fin := b17_0 o0 i1 ea gE r (Q := Q17 Z o0 i1 ea gE r h0 n0) hw X0 hx hZ hby hml hown Bd.returns (BodyLoose.notSynchronized Bd) e0 (Fr.nil n0) (Nat.zero_le _) (Nat.zero_le _) Fe Re hin hg (fun H' L' n' k' => ⟨rfl, n', k'⟩)
  exact own_step (fun t k => castTop (ef_17 m o0 i1) k) fin
theorem d14_0 : decode jdk_38_method_20_code 0 = .ok (.iload_n 1, 1) := by decide +kernel
theorem d14_1 : decode jdk_38_method_20_code 1 = .ok (.aload_n 0, 1) := by decide +kernel
theorem d14_2 : decode jdk_38_method_20_code 2 = .ok (.getfield 48, 3) := by decide +kernel
theorem d14_5 : decode jdk_38_method_20_code 5 = .ok (.invokestatic 118, 3) := by decide +kernel
theorem d14_8 : decode jdk_38_method_20_code 8 = .ok (.pop, 1) := by decide +kernel
theorem d14_9 : decode jdk_38_method_20_code 9 = .ok (.aload_n 0, 1) := by decide +kernel
theorem d14_10 : decode jdk_38_method_20_code 10 = .ok (.iload_n 1, 1) := by decide +kernel
theorem d14_11 : decode jdk_38_method_20_code 11 = .ok (.invokevirtual 123, 3) := by decide +kernel
theorem d14_14 : decode jdk_38_method_20_code 14 = .ok (.areturn, 1) := by decide +kernel
set_option maxRecDepth 65536 in
set_option maxHeartbeats 40000000 in
theorem b14_0 {p : Program} {l : Launch} {e : Env} {s : State} {m : MethodId} {args : Array Value} {below : List Frame} {meth : Method} {c : Code} {T : State} {locs : List Loc} {cells slots : Nat} {Z : State} {a0 : Array Value} {h : Heap} {n0 : Nat} {Q : Option Value → Heap → List Loc → Prop} (o0 : Addr) (i1 : Int32) (ea : Addr) (gE : Nat → Value) (r : Addr) (n : Int32) (hw : ∀ d ∈ tables_1, d.before a0 Z = true) (X : Stand p l e ({ frames := 2, cells := 0, slots := 0, locals := 30 } : Room) s m args below meth c T locs cells slots) (hx : p.tables.exec = Jvm.exec) (hZ : Z.Warmed39 s.vm) (hby : c.code = jdk_38_method_20_code) (hml : c.maxLocals = 2) (hown : s.vm.findClass "java/util/ArrayList" = some m.cls) (hret : meth.sig.returnType = some (.object "java/lang/Object")) (hlk : meth.locks = false) (eT : T.heap = h) (N : Fr n0 locs) (hc : cells ≤ 0) (hs : slots ≤ 0) (E0 : Exa Z h o0 "java/util/ArrayList") (Fs : Fld Z h o0 "java/util/ArrayList" "size" "I" (.int n)) (Fe : Fld Z h o0 "java/util/ArrayList" "elementData" "[Ljava/lang/Object;" (.ref ea)) (Re : own_RF Z h ea "java/lang/Object" 10 gE) (hin : own_In 10 i1) (hg : gE (i1).toNatClampNeg = .ref r) (hi0 : ¬ (i1 < (0 : Int32))) (hi1 : i1 < n) (hQ : ∀ (H' : Heap) (L' : List Loc), Fr n0 L' → H' = h → Q (some (.ref r)) H' L') :
    own_Fin p e below s Q 0 0 (T.setTop (mkF m 0 #[.val (.ref o0), .val (.int i1)] [])) := by
  refine own_step (fun t k => XS.iloadN X.here hx rfl (hb hby d14_0) rfl  k) ?_
  show own_Fin p e below s Q 0 0 (T.setTop (mkF m 1 #[.val (.ref o0), .val (.int i1)] [(.int i1)]))
  refine own_step (fun t k => XS.aloadN X.here hx rfl (hb hby d14_1) rfl rfl k) ?_
  show own_Fin p e below s Q 0 0 (T.setTop (mkF m 2 #[.val (.ref o0), .val (.int i1)] [(.ref o0), (.int i1)]))
  obtain ⟨T50, X50, e50, st50⟩ := getF X hx hZ hown (host := "") (Or.inl (hw _ (List.mem_of_getElem? (i := 42) rfl))) Via.refl eT Fs (g := (mkF m 2 #[.val (.ref o0), .val (.int i1)] [(.ref o0), (.int i1)])) rfl rfl (hb hby d14_2)
  refine own_step st50 ?_
  show own_Fin p e below s Q 0 0 (T50.setTop (mkF m 5 #[.val (.ref o0), .val (.int i1)] [(.int n), (.int i1)]))
  obtain ⟨_, _, ⟨T51, L51, k51, n51⟩, -, X51, ⟨Lc51, hQ51, l51, y51, z51⟩, st51⟩ := Jvm.LawKit.callS X50 hx (y := (⟨"java/util/Objects", "checkIndex", "(II)I"⟩ : MethodName)) hown (mvT hZ (hw _ (List.mem_of_getElem? (i := 98) rfl))) (mvT hZ (hw _ (List.mem_of_getElem? (i := 99) rfl))) (mvT hZ (hw _ (List.mem_of_getElem? (i := 100) rfl))) (mvT hZ (hw _ (List.mem_of_getElem? (i := 101) rfl))) (by decide) (backOf (W := 0) (rm15 l Z a0 hw [] i1 n h n0 hi0 hi1) hZ (hw _ (List.mem_of_getElem? (i := 101) rfl)) (hw _ (List.mem_of_getElem? (i := 100) rfl)) (by decide) (by decide)) (g := (mkF m 5 #[.val (.ref o0), .val (.int i1)] [(.int n), (.int i1)])) rfl (by rw [hml]; rfl) (argsL := [(.int i1), (.int n)]) (rest := []) (lenOf pdm_0 rfl) rfl (by show 2 * 0 + _ ≤ _; exact Nat.le_of_eq rfl) (hb hby d14_5) (fun _ _ => ⟨rfl, e50, (show cells + 0 ≤ 0 from (Nat.le_trans (Nat.add_le_add_right hc 0) (by decide))), (show slots + 0 ≤ 0 from (Nat.le_trans (Nat.add_le_add_right hs 0) (by decide)))⟩)
  dsimp only [Pt.U, Pt.locs, Pt.cells, Pt.slots] at X51 l51 y51 z51 st51 hQ51
  have yy51 : k51 = cells + 0 := y51
  have zz51 : n51 = slots + 0 := z51
  rw [yy51, zz51, l51] at X51
  obtain ⟨rfl, N51q, e51⟩ := hQ51
  have N51 := Fr.app N N51q
  refine own_step st51 ?_
  show own_Fin p e below s Q 0 0 (T51.setTop (mkF m 8 #[.val (.ref o0), .val (.int i1)] [(.int i1)]))
  refine own_step (fun t k => XS.pop X51.here hx rfl (hb hby d14_8) rfl rfl k) ?_
  show own_Fin p e below s Q 0 0 (T51.setTop (mkF m 9 #[.val (.ref o0), .val (.int i1)] []))
  refine own_step (fun t k => XS.aloadN X51.here hx rfl (hb hby d14_9) rfl rfl k) ?_
  show own_Fin p e below s Q 0 0 (T51.setTop (mkF m 10 #[.val (.ref o0), .val (.int i1)] [(.ref o0)]))
  refine own_step (fun t k => XS.iloadN X51.here hx rfl (hb hby d14_10) rfl  k) ?_
  show own_Fin p e below s Q 0 0 (T51.setTop (mkF m 11 #[.val (.ref o0), .val (.int i1)] [(.int i1), (.ref o0)]))
  obtain ⟨cq52, kq52, q52a, q52b, q52c⟩ := isOf hZ e51 E0
  obtain ⟨_, _, ⟨T52, L52, k52, n52⟩, -, X52, ⟨Lc52, hQ52, l52, y52, z52⟩, st52⟩ := X51.virtualBack hx (y := (⟨"java/util/ArrayList", "elementData", "(I)Ljava/lang/Object;"⟩ : MethodName)) (z := (⟨"java/util/ArrayList", "elementData", "(I)Ljava/lang/Object;"⟩ : MethodName)) hown (mvT hZ (hw _ (List.mem_of_getElem? (i := 106) rfl))) (mvT hZ (hw _ (List.mem_of_getElem? (i := 107) rfl))) (notFace_of_selects (args := #[]) (mvT hZ (hw _ (List.mem_of_getElem? (i := 109) rfl)))) (mvT hZ (hw _ (List.mem_of_getElem? (i := 109) rfl))) (mvT hZ (hw _ (List.mem_of_getElem? (i := 108) rfl))) (by decide) (backOf (W := 0) (rm17 l Z a0 hw [] o0 i1 ea gE r h n0 Fe Re hin hg) hZ (hw _ (List.mem_of_getElem? (i := 110) rfl)) (hw _ (List.mem_of_getElem? (i := 2) rfl)) (by decide) (by decide)) q52a q52c (g := (mkF m 11 #[.val (.ref o0), .val (.int i1)] [(.int i1), (.ref o0)])) rfl (by rw [hml]; rfl) (Steps.refl _) (argsL := [(.int i1)]) (rest := []) (lenOf pdm_8 rfl) rfl (by show 2 * 0 + _ ≤ _; exact Nat.le_of_eq rfl) (hb hby d14_11) (fun _ _ => ⟨rfl, e51, (show cells + 0 + 0 ≤ 0 from (Nat.le_trans (Nat.add_le_add_right hc 0) (by decide))), (show slots + 0 + 0 ≤ 0 from (Nat.le_trans (Nat.add_le_add_right hs 0) (by decide)))⟩)
  dsimp only [Pt.U, Pt.locs, Pt.cells, Pt.slots] at X52 l52 y52 z52 st52 hQ52
  have yy52 : k52 = cells + 0 + 0 := y52
  have zz52 : n52 = slots + 0 + 0 := z52
  rw [yy52, zz52, l52] at X52
  obtain ⟨rfl, N52q, e52⟩ := hQ52
  have N52 := Fr.app N51 N52q
  refine own_step (fun t k => st52.trans k) ?_
  show own_Fin p e below s Q 0 0 (T52.setTop (mkF m 14 #[.val (.ref o0), .val (.int i1)] [(.ref r)]))
  refine own_retA X52 hx hlk hret rfl (hb hby d14_14) (Nat.le_trans (Nat.add_le_add_right hc 0) (by decide)) (Nat.le_trans (Nat.add_le_add_right hs 0) (by decide)) e52 ?_
  exact hQ _ _ N52 rfl
theorem ef_14 (m : MethodId) (o0 : Addr) (i1 : Int32) : entryFrame m #[(.ref o0), (.int i1)] 2 = (mkF m 0 #[.val (.ref o0), .val (.int i1)] []) := by first | (simp [entryFrame, mkF, argsToLocals, Value.category]; done) | rfl
def Q14 (Z : State) (o0 : Addr) (i1 : Int32) (ea : Addr) (gE : Nat → Value) (r : Addr) (n : Int32) (h0 : Heap) (n0 : Nat) (v : Option Value) (h : Heap) (L : List Loc) : Prop := v = some (.ref r) ∧ Fr n0 L ∧ h = h0
set_option maxRecDepth 65536 in
set_option maxHeartbeats 4000000 in
theorem rm14 (l : Launch) (Z : State) (a0 : Array Value) (hw : ∀ d ∈ tables_1, d.before a0 Z = true) (ws : List Jvm.Cond) (o0 : Addr) (i1 : Int32) (ea : Addr) (gE : Nat → Value) (r : Addr) (n : Int32) (h0 : Heap) (n0 : Nat) (E0 : Exa Z h0 o0 "java/util/ArrayList") (Fs : Fld Z h0 o0 "java/util/ArrayList" "size" "I" (.int n)) (Fe : Fld Z h0 o0 "java/util/ArrayList" "elementData" "[Ljava/lang/Object;" (.ref ea)) (Re : own_RF Z h0 ea "java/lang/Object" 10 gE) (hin : own_In 10 i1) (hg : gE (i1).toNatClampNeg = .ref r) (hi0 : ¬ (i1 < (0 : Int32))) (hi1 : i1 < n) :
    MetFree l (⟨"java/util/ArrayList", "get", "(I)Ljava/lang/Object;"⟩ : MethodName) (head1 (Jvm.Cond.code (⟨"java/util/ArrayList", "get", "(I)Ljava/lang/Object;"⟩ : MethodName) jdk_38_method_20_code 2 (some (.object "java/lang/Object")) :: ws) ({ frames := 2, cells := 0, slots := 0, locals := 30 } : Room)) (fun a U => a = #[(.ref o0), (.int i1)] ∧ Z.Warmed39 U.vm ∧ U.heap = h0) (fun _ _ _ _ _ => True) (fun _ U o U' => ∃ v L, o = .returned v ∧ Q14 Z o0 i1 ea gE r n h0 n0 v U'.heap L ∧ FrameEnd U o U' L ({ frames := 2, cells := 0, slots := 0, locals := 30 } : Room).cells ({ frames := 2, cells := 0, slots := 0, locals := 30 } : Room).slots) := by
  refine MetFree.of_bodySF (plainFor_of_name pnm_2) hisR ?_
  intro p e s m args below meth c s₁ Bd hml0 hP hK
  obtain ⟨rfl, hZ, hh⟩ := hP
  have hx := Bd.exec
  have hby := Bd.bytes
  have hml : c.maxLocals = 2 := hml0
  have hown : s.vm.findClass "java/util/ArrayList" = some m.cls := findClass_of_methodNamed Bd.named
  have X0 : Stand p l e ({ frames := 2, cells := 0, slots := 0, locals := 30 } : Room) s m #[(.ref o0), (.int i1)] below meth c s₁ [] 0 0 := Stand.of_body Bd
  have e0 : s₁.heap = h0 := by rw [← hh, Bd.state]; rfl
  have fin := b14_0 o0 i1 ea gE r n (Q := Q14 Z o0 i1 ea gE r n h0 n0) hw X0 hx hZ hby hml hown Bd.returns (BodyLoose.notSynchronized Bd) e0 (Fr.nil n0) (Nat.zero_le _) (Nat.zero_le _) E0 Fs Fe Re hin hg hi0 hi1 (fun H' L' n' k' => ⟨rfl, n', k'⟩)
  exact own_step (fun t k => castTop (ef_14 m o0 i1) k) fin
/-- a node's number -/
def own_val (x : Int32) : Prop := 0 ≤ x.toInt ∧ x.toInt ≤ 3
theorem own_val0 : ∀ i : Nat, own_val ((fun _ => 0 : Nat → Int32) i) := fun _ => by show 0 ≤ (0 : Int32).toInt ∧ (0 : Int32).toInt ≤ 3; decide
theorem own_vstep {g' ga gb : Nat → Int32} {d n : Nat} (h : g' = (fun i => if d ≤ i ∧ i < d + n then ga (i - d) else gb i)) (ha : ∀ i, i < n → own_val (ga i)) (hb : ∀ i, own_val (gb i)) : ∀ i, own_val (g' i) := fun i => by
  rw [h]
  show own_val (if d ≤ i ∧ i < d + n then ga (i - d) else gb i)
  by_cases q : d ≤ i ∧ i < d + n
  · rw [if_pos q]; exact ha _ (by omega)
  · rw [if_neg q]; exact hb i
/-- how many of the first n are v -/
def own_cnt (g : Nat → Int32) (v : Int) (n : Nat) : Nat := match n with
  | 0 => 0
  | n + 1 => own_cnt g v n + (if (g n).toInt = v then 1 else 0)
theorem own_cnts (g : Nat → Int32) (v : Int) (n : Nat) : own_cnt g v (n + 1) = own_cnt g v n + (if (g n).toInt = v then 1 else 0) := rfl
theorem own_cntm (g : Nat → Int32) (v : Int) (m : Nat) : ∀ n, n ≤ m → own_cnt g v n ≤ own_cnt g v m := by
  induction m with
  | zero => intro n h; have : n = 0 := by omega
            rw [this]; exact Nat.le_refl _
  | succ m ih =>
    intro n h
    by_cases q : n = m + 1
    · rw [q]; exact Nat.le_refl _
    · have := ih n (by omega)
      rw [own_cnts]
      omega
theorem own_cntl (g : Nat → Int32) (v : Int) (n m : Nat) (h : n < m) (hv : (g n).toInt = v) : own_cnt g v n + 1 ≤ own_cnt g v m := by
  have := own_cntm g v m (n + 1) (by omega)
  rw [own_cnts, if_pos hv] at this
  exact this
theorem own_cnt4 (g : Nat → Int32) (n : Nat) (h : ∀ i, i < n → own_val (g i)) : own_cnt g 0 n + own_cnt g 1 n + own_cnt g 2 n + own_cnt g 3 n = n := by
  induction n with
  | zero => rfl
  | succ n ih =>
    have e := ih (fun i hi => h i (by omega))
    obtain ⟨h1, h2⟩ := h n (by omega)
    rw [own_cnts, own_cnts, own_cnts, own_cnts]
    obtain q | q | q | q : (g n).toInt = 0 ∨ (g n).toInt = 1 ∨ (g n).toInt = 2 ∨ (g n).toInt = 3 := by omega
    all_goals
      rw [q]
      simp only [if_true]
      simp +decide only [if_false]
      omega
theorem own_lz' : (0 : Int32).toInt = 0 := by decide
theorem own_ltz {x : Int32} (h : 0 ≤ x.toInt) : ¬ x < (0 : Int32) := fun y => by have := Int32.lt_iff_toInt_lt.mp y; rw [own_lz'] at this; omega
theorem own_vn {x : Int32} (h : own_val x) : (x).toNatClampNeg = x.toInt.toNat ∧ ((x + (1 : Int32))).toNatClampNeg = x.toInt.toNat + 1 ∧ (x + (1 : Int32)).toInt = x.toInt + 1 := by
  obtain ⟨h1, h2⟩ := h
  have e := c_iadd x 1
  have z1 : (1 : Int32).toInt = 1 := by decide
  have r := rng32 (x + 1)
  have e2 : (x + (1 : Int32)).toInt = x.toInt + 1 := by omega
  have n1 := nat_of (own_ltz h1)
  have n2 := nat_of (own_ltz (x := x + 1) (by omega))
  refine ⟨by omega, by omega, e2⟩
theorem own_inc {x : Int32} {n : Nat} (h : x.toInt = n) (hn : n ≤ 1000) : (x + (1 : Int32)).toInt = (n : Int) + 1 := by
  have e := c_iadd x 1
  have z1 : (1 : Int32).toInt = 1 := by decide
  have r := rng32 (x + 1)
  omega
theorem own_add2 {x y : Int32} {a b : Nat} (hx : x.toInt = a) (hy : y.toInt = b) (ha : a ≤ 1000) (hb : b ≤ 1000) : (x + y).toInt = ((a + b : Nat) : Int) := by
  have e := c_iadd x y
  have r := rng32 (x + y)
  omega
/-- the counts behind the first n values -/
def own_J1 (g A : Nat → Int32) (n : Nat) : Prop := (A 0).toInt = 0 ∧ (A 1).toInt = own_cnt g 0 n ∧ (A 2).toInt = own_cnt g 1 n ∧ (A 3).toInt = own_cnt g 2 n ∧ (A 4).toInt = own_cnt g 3 n
theorem own_cn (g : Nat → Int32) (v : Int) (n : Nat) : own_cnt g v n ≤ n := by
  induction n with
  | zero => exact Nat.le_refl _
  | succ n ih =>
    rw [own_cnts]
    by_cases q : (g n).toInt = v
    · rw [if_pos q]; omega
    · rw [if_neg q]; omega
theorem own_J1s {g A A' : Nat → Int32} {n : Nat} {x : Int32} (hn : n ≤ 100) (J : own_J1 g A n) (hx : x = g n) (hv : own_val x) (hA : A' = (fun j => if j = ((x + (1 : Int32))).toNatClampNeg then ((A ((x + (1 : Int32))).toNatClampNeg) + (1 : Int32)) else A j)) : own_J1 g A' (n + 1) := by
  obtain ⟨j0, j1, j2, j3, j4⟩ := J
  obtain ⟨-, n2, -⟩ := own_vn hv
  have c0 := own_cn g 0 n
  have c1 := own_cn g 1 n
  have c2 := own_cn g 2 n
  have c3 := own_cn g 3 n
  have k : ∀ v : Nat, v ≤ 4 → (A v).toInt ≤ 100 ∧ 0 ≤ (A v).toInt := fun v hv => by
    obtain rfl | rfl | rfl | rfl | rfl : v = 0 ∨ v = 1 ∨ v = 2 ∨ v = 3 ∨ v = 4 := by omega
    all_goals omega
  have i1 : ∀ v : Nat, v ≤ 4 → (A v + (1 : Int32)).toInt = (A v).toInt + 1 := fun v hv => by
    have q := k v hv
    have := own_inc (x := A v) (n := (A v).toInt.toNat) (by omega) (by omega)
    omega
  rw [n2] at hA
  subst hx
  have w : ∀ v : Nat, v ≤ 4 → (A' v).toInt = (A v).toInt + (if v = (g n).toInt.toNat + 1 then 1 else 0) := fun v hv => by
    rw [hA]
    show (if v = (g n).toInt.toNat + 1 then (A ((g n).toInt.toNat + 1) + (1 : Int32)) else A v).toInt = _
    by_cases q : v = (g n).toInt.toNat + 1
    · rw [if_pos q, if_pos q, q]
      exact i1 _ (by omega)
    · rw [if_neg q, if_neg q]; omega
  obtain ⟨h1, h2⟩ := hv
  refine ⟨?_, ?_, ?_, ?_, ?_⟩
  · rw [w 0 (by omega), if_neg (by omega)]; omega
  · rw [w 1 (by omega), own_cnts]; by_cases q : (g n).toInt = 0
    · rw [if_pos (by omega), if_pos q]; omega
    · rw [if_neg (by omega), if_neg q]; omega
  · rw [w 2 (by omega), own_cnts]; by_cases q : (g n).toInt = 1
    · rw [if_pos (by omega), if_pos q]; omega
    · rw [if_neg (by omega), if_neg q]; omega
  · rw [w 3 (by omega), own_cnts]; by_cases q : (g n).toInt = 2
    · rw [if_pos (by omega), if_pos q]; omega
    · rw [if_neg (by omega), if_neg q]; omega
  · rw [w 4 (by omega), own_cnts]; by_cases q : (g n).toInt = 3
    · rw [if_pos (by omega), if_pos q]; omega
    · rw [if_neg (by omega), if_neg q]; omega
/-- where the next of each value goes, behind the first n of z -/
def own_J3 (g F : Nat → Int32) (z n : Nat) : Prop := (F 0).toInt = own_cnt g 0 n ∧ (F 1).toInt = own_cnt g 0 z + own_cnt g 1 n ∧ (F 2).toInt = own_cnt g 0 z + own_cnt g 1 z + own_cnt g 2 n ∧ (F 3).toInt = own_cnt g 0 z + own_cnt g 1 z + own_cnt g 2 z + own_cnt g 3 n
theorem own_J3in {g F : Nat → Int32} {z n : Nat} {x : Int32} (hz : ∀ i, i < z → own_val (g i)) (J : own_J3 g F z n) (hn : n < z) (hx : x = g n) : 0 ≤ (F (x).toNatClampNeg).toInt ∧ (F (x).toNatClampNeg).toInt < z := by
  subst hx
  have hv := hz n hn
  obtain ⟨n1, -, -⟩ := own_vn hv
  obtain ⟨j0, j1, j2, j3⟩ := J
  have s := own_cnt4 g z hz
  rw [n1]
  have l := own_cntl g (g n).toInt n z hn rfl
  obtain ⟨h1, h2⟩ := hv
  obtain q | q | q | q : (g n).toInt = 0 ∨ (g n).toInt = 1 ∨ (g n).toInt = 2 ∨ (g n).toInt = 3 := by omega
  · rw [q] at l; have t : (g n).toInt.toNat = 0 := by omega
    rw [t]; omega
  · rw [q] at l; have t : (g n).toInt.toNat = 1 := by omega
    rw [t]; omega
  · rw [q] at l; have t : (g n).toInt.toNat = 2 := by omega
    rw [t]; omega
  · rw [q] at l; have t : (g n).toInt.toNat = 3 := by omega
    rw [t]; omega
theorem own_J3s {g F F' : Nat → Int32} {z n : Nat} {x : Int32} (hz100 : z ≤ 100) (hz : ∀ i, i < z → own_val (g i)) (J : own_J3 g F z n) (hn : n < z) (hx : x = g n) (hF : F' = (fun j => if j = (x).toNatClampNeg then ((F (x).toNatClampNeg) + (1 : Int32)) else F j)) : own_J3 g F' z (n + 1) := by
  have hb := own_J3in hz J hn hx
  subst hx
  have hv := hz n hn
  obtain ⟨n1, -, -⟩ := own_vn hv
  obtain ⟨j0, j1, j2, j3⟩ := J
  rw [n1] at hF hb
  have i1 : (F ((g n).toInt.toNat) + (1 : Int32)).toInt = (F ((g n).toInt.toNat)).toInt + 1 := by
    have := own_inc (x := F ((g n).toInt.toNat)) (n := (F ((g n).toInt.toNat)).toInt.toNat) (by omega) (by omega)
    omega
  have w : ∀ v : Nat, (F' v).toInt = (F v).toInt + (if v = (g n).toInt.toNat then 1 else 0) := fun v => by
    rw [hF]
    show (if v = (g n).toInt.toNat then (F ((g n).toInt.toNat) + (1 : Int32)) else F v).toInt = _
    by_cases q : v = (g n).toInt.toNat
    · rw [if_pos q, if_pos q, q]; exact i1
    · rw [if_neg q, if_neg q]; omega
  obtain ⟨h1, h2⟩ := hv
  refine ⟨?_, ?_, ?_, ?_⟩
  · rw [w 0, own_cnts]; by_cases q : (g n).toInt = 0
    · rw [if_pos (by omega), if_pos q]; omega
    · rw [if_neg (by omega), if_neg q]; omega
  · rw [w 1, own_cnts]; by_cases q : (g n).toInt = 1
    · rw [if_pos (by omega), if_pos q]; omega
    · rw [if_neg (by omega), if_neg q]; omega
  · rw [w 2, own_cnts]; by_cases q : (g n).toInt = 2
    · rw [if_pos (by omega), if_pos q]; omega
    · rw [if_neg (by omega), if_neg q]; omega
  · rw [w 3, own_cnts]; by_cases q : (g n).toInt = 3
    · rw [if_pos (by omega), if_pos q]; omega
    · rw [if_neg (by omega), if_neg q]; omega
/-- a count i going up to n with k turns left, over an array of z -/
def own_lp (i n : Int32) (k z : Nat) : Prop := i.toInt + (k : Int) = n.toInt ∧ 0 ≤ i.toInt ∧ n.toInt ≤ (z : Int)
theorem own_lp0 {i n : Int32} {z : Nat} (h : own_lp i n 0 z) : ¬ i < n := fun q => by
  have := Int32.lt_iff_toInt_lt.mp q
  have := h.1
  omega
theorem own_lp1 {i n : Int32} {k z : Nat} (h : own_lp i n (k + 1) z) : i < n := Int32.lt_iff_toInt_lt.mpr (by have := h.1; omega)
theorem own_lpin {i n : Int32} {k z : Nat} (h : own_lp i n (k + 1) z) : own_In z i := fun q => by
  obtain ⟨h1, h2, h3⟩ := h
  have e : ¬ i < (0 : Int32) := fun y => by have := Int32.lt_iff_toInt_lt.mp y; rw [own_lz] at this; omega
  have e2 := nat_of e
  rcases q with q | q
  · exact e q
  · omega
theorem own_lps {i n : Int32} {k z : Nat} (h : own_lp i n (k + 1) z) : own_lp (i + (1 : Int32)) n k z := by
  obtain ⟨h1, h2, h3⟩ := h
  have e := c_iadd i 1
  have e1 : (1 : Int32).toInt = 1 := by decide
  have r := rng32 (i + 1)
  have r2 := rng32 n
  refine ⟨?_, ?_, h3⟩ <;> omega
theorem own_t32 (z : Nat) (h : z ≤ 1000) : (z.toInt32).toInt = z := by
  have : z.toInt32 = Int32.ofNat z := rfl
  rw [this]
  exact Int32.toInt_ofNat_of_lt (by omega)
theorem own_acc {x : Int32} {X : Int} (z : Nat) (hx : x.toInt = X) (h0 : 0 ≤ X) (hX : X ≤ 1000) (hz : z ≤ 1000) : (x + z.toInt32).toInt = X + z := by
  have a := own_t32 z hz
  have e := c_iadd x z.toInt32
  have r := rng32 (x + z.toInt32)
  omega
theorem own_z0i : (0 : Int32).toInt = 0 := by decide
def own_S (z0 z1 z2 z3 : Nat) : List Int32 := [(0 : Int32), ((0 : Int32) + (z0.toInt32)), (((0 : Int32) + (z0.toInt32)) + (z1.toInt32)), ((((0 : Int32) + (z0.toInt32)) + (z1.toInt32)) + (z2.toInt32)), (((((0 : Int32) + (z0.toInt32)) + (z1.toInt32)) + (z2.toInt32)) + (z3.toInt32))]
theorem own_s0 (z0 z1 z2 z3 : Nat) (hz0 : z0 ≤ 3) (hz1 : z1 ≤ 3) (hz2 : z2 ≤ 3) (hz3 : z3 ≤ 3) : ((0 : Int32)).toInt = 0 := own_z0i
theorem own_sn0 (z0 z1 z2 z3 : Nat) (hz0 : z0 ≤ 3) (hz1 : z1 ≤ 3) (hz2 : z2 ≤ 3) (hz3 : z3 ≤ 3) : ¬ ((0 : Int32)) < (0 : Int32) ∧ ((0 : Int32)).toNatClampNeg = 0 := by
  have e := own_s0 z0 z1 z2 z3 hz0 hz1 hz2 hz3
  have q : ¬ ((0 : Int32)) < (0 : Int32) := fun y => by
    have := Int32.lt_iff_toInt_lt.mp y
    rw [own_z0i] at this
    omega
  have := nat_of q
  exact ⟨q, by omega⟩
theorem own_s1 (z0 z1 z2 z3 : Nat) (hz0 : z0 ≤ 3) (hz1 : z1 ≤ 3) (hz2 : z2 ≤ 3) (hz3 : z3 ≤ 3) : (((0 : Int32) + (z0.toInt32))).toInt = 0 + (z0 : Int) := own_acc z0 (own_z0i) (by omega) (by omega) (by omega)
theorem own_sn1 (z0 z1 z2 z3 : Nat) (hz0 : z0 ≤ 3) (hz1 : z1 ≤ 3) (hz2 : z2 ≤ 3) (hz3 : z3 ≤ 3) : ¬ (((0 : Int32) + (z0.toInt32))) < (0 : Int32) ∧ (((0 : Int32) + (z0.toInt32))).toNatClampNeg = 0 + z0 := by
  have e := own_s1 z0 z1 z2 z3 hz0 hz1 hz2 hz3
  have q : ¬ (((0 : Int32) + (z0.toInt32))) < (0 : Int32) := fun y => by
    have := Int32.lt_iff_toInt_lt.mp y
    rw [own_z0i] at this
    omega
  have := nat_of q
  exact ⟨q, by omega⟩
theorem own_s2 (z0 z1 z2 z3 : Nat) (hz0 : z0 ≤ 3) (hz1 : z1 ≤ 3) (hz2 : z2 ≤ 3) (hz3 : z3 ≤ 3) : ((((0 : Int32) + (z0.toInt32)) + (z1.toInt32))).toInt = 0 + (z0 : Int) + (z1 : Int) := own_acc z1 (own_acc z0 (own_z0i) (by omega) (by omega) (by omega)) (by omega) (by omega) (by omega)
theorem own_sn2 (z0 z1 z2 z3 : Nat) (hz0 : z0 ≤ 3) (hz1 : z1 ≤ 3) (hz2 : z2 ≤ 3) (hz3 : z3 ≤ 3) : ¬ ((((0 : Int32) + (z0.toInt32)) + (z1.toInt32))) < (0 : Int32) ∧ ((((0 : Int32) + (z0.toInt32)) + (z1.toInt32))).toNatClampNeg = 0 + z0 + z1 := by
  have e := own_s2 z0 z1 z2 z3 hz0 hz1 hz2 hz3
  have q : ¬ ((((0 : Int32) + (z0.toInt32)) + (z1.toInt32))) < (0 : Int32) := fun y => by
    have := Int32.lt_iff_toInt_lt.mp y
    rw [own_z0i] at this
    omega
  have := nat_of q
  exact ⟨q, by omega⟩
theorem own_s3 (z0 z1 z2 z3 : Nat) (hz0 : z0 ≤ 3) (hz1 : z1 ≤ 3) (hz2 : z2 ≤ 3) (hz3 : z3 ≤ 3) : (((((0 : Int32) + (z0.toInt32)) + (z1.toInt32)) + (z2.toInt32))).toInt = 0 + (z0 : Int) + (z1 : Int) + (z2 : Int) := own_acc z2 (own_acc z1 (own_acc z0 (own_z0i) (by omega) (by omega) (by omega)) (by omega) (by omega) (by omega)) (by omega) (by omega) (by omega)
theorem own_sn3 (z0 z1 z2 z3 : Nat) (hz0 : z0 ≤ 3) (hz1 : z1 ≤ 3) (hz2 : z2 ≤ 3) (hz3 : z3 ≤ 3) : ¬ (((((0 : Int32) + (z0.toInt32)) + (z1.toInt32)) + (z2.toInt32))) < (0 : Int32) ∧ (((((0 : Int32) + (z0.toInt32)) + (z1.toInt32)) + (z2.toInt32))).toNatClampNeg = 0 + z0 + z1 + z2 := by
  have e := own_s3 z0 z1 z2 z3 hz0 hz1 hz2 hz3
  have q : ¬ (((((0 : Int32) + (z0.toInt32)) + (z1.toInt32)) + (z2.toInt32))) < (0 : Int32) := fun y => by
    have := Int32.lt_iff_toInt_lt.mp y
    rw [own_z0i] at this
    omega
  have := nat_of q
  exact ⟨q, by omega⟩
theorem own_s4 (z0 z1 z2 z3 : Nat) (hz0 : z0 ≤ 3) (hz1 : z1 ≤ 3) (hz2 : z2 ≤ 3) (hz3 : z3 ≤ 3) : ((((((0 : Int32) + (z0.toInt32)) + (z1.toInt32)) + (z2.toInt32)) + (z3.toInt32))).toInt = 0 + (z0 : Int) + (z1 : Int) + (z2 : Int) + (z3 : Int) := own_acc z3 (own_acc z2 (own_acc z1 (own_acc z0 (own_z0i) (by omega) (by omega) (by omega)) (by omega) (by omega) (by omega)) (by omega) (by omega) (by omega)) (by omega) (by omega) (by omega)
theorem own_sn4 (z0 z1 z2 z3 : Nat) (hz0 : z0 ≤ 3) (hz1 : z1 ≤ 3) (hz2 : z2 ≤ 3) (hz3 : z3 ≤ 3) : ¬ ((((((0 : Int32) + (z0.toInt32)) + (z1.toInt32)) + (z2.toInt32)) + (z3.toInt32))) < (0 : Int32) ∧ ((((((0 : Int32) + (z0.toInt32)) + (z1.toInt32)) + (z2.toInt32)) + (z3.toInt32))).toNatClampNeg = 0 + z0 + z1 + z2 + z3 := by
  have e := own_s4 z0 z1 z2 z3 hz0 hz1 hz2 hz3
  have q : ¬ ((((((0 : Int32) + (z0.toInt32)) + (z1.toInt32)) + (z2.toInt32)) + (z3.toInt32))) < (0 : Int32) := fun y => by
    have := Int32.lt_iff_toInt_lt.mp y
    rw [own_z0i] at this
    omega
  have := nat_of q
  exact ⟨q, by omega⟩
theorem own_zl (z : Nat) (h : z ≤ 1000) : (z.toInt32).toNatClampNeg = z ∧ ¬ z.toInt32 < (0 : Int32) := by
  have e := own_t32 z h
  have q : ¬ z.toInt32 < (0 : Int32) := fun y => by
    have := Int32.lt_iff_toInt_lt.mp y
    rw [own_z0i] at this
    omega
  have := nat_of q
  exact ⟨by omega, q⟩
theorem d12_0 : decode prog_61_method_1_code 0 = .ok (.aload_n 0, 1) := by decide +kernel
theorem d12_1 : decode prog_61_method_1_code 1 = .ok (.invokespecial 1, 3) := by decide +kernel
theorem d12_4 : decode prog_61_method_1_code 4 = .ok (.aload_n 0, 1) := by decide +kernel
theorem d12_5 : decode prog_61_method_1_code 5 = .ok (.aload_n 1, 1) := by decide +kernel
theorem d12_6 : decode prog_61_method_1_code 6 = .ok (.invokeinterface 7 1, 5) := by decide +kernel
theorem d12_11 : decode prog_61_method_1_code 11 = .ok (.iconst 1, 1) := by decide +kernel
theorem d12_12 : decode prog_61_method_1_code 12 = .ok (.iadd, 1) := by decide +kernel
theorem d12_13 : decode prog_61_method_1_code 13 = .ok (.newarray .int, 2) := by decide +kernel
theorem d12_15 : decode prog_61_method_1_code 15 = .ok (.putfield 13, 3) := by decide +kernel
theorem d12_18 : decode prog_61_method_1_code 18 = .ok (.iconst 0, 1) := by decide +kernel
theorem d12_19 : decode prog_61_method_1_code 19 = .ok (.istore_n 2, 1) := by decide +kernel
theorem d12_20 : decode prog_61_method_1_code 20 = .ok (.iload_n 2, 1) := by decide +kernel
theorem d12_21 : decode prog_61_method_1_code 21 = .ok (.aload_n 1, 1) := by decide +kernel
theorem d12_22 : decode prog_61_method_1_code 22 = .ok (.invokeinterface 7 1, 5) := by decide +kernel
theorem d12_27 : decode prog_61_method_1_code 27 = .ok (.if_icmp .ge 35, 3) := by decide +kernel
theorem d12_30 : decode prog_61_method_1_code 30 = .ok (.aload_n 0, 1) := by decide +kernel
theorem d12_31 : decode prog_61_method_1_code 31 = .ok (.getfield 13, 3) := by decide +kernel
theorem d12_34 : decode prog_61_method_1_code 34 = .ok (.iload_n 2, 1) := by decide +kernel
theorem d12_35 : decode prog_61_method_1_code 35 = .ok (.iconst 1, 1) := by decide +kernel
theorem d12_36 : decode prog_61_method_1_code 36 = .ok (.iadd, 1) := by decide +kernel
theorem d12_37 : decode prog_61_method_1_code 37 = .ok (.aload_n 0, 1) := by decide +kernel
theorem d12_38 : decode prog_61_method_1_code 38 = .ok (.getfield 13, 3) := by decide +kernel
theorem d12_41 : decode prog_61_method_1_code 41 = .ok (.iload_n 2, 1) := by decide +kernel
theorem d12_42 : decode prog_61_method_1_code 42 = .ok (.iaload, 1) := by decide +kernel
theorem d12_43 : decode prog_61_method_1_code 43 = .ok (.aload_n 1, 1) := by decide +kernel
theorem d12_44 : decode prog_61_method_1_code 44 = .ok (.iload_n 2, 1) := by decide +kernel
theorem d12_45 : decode prog_61_method_1_code 45 = .ok (.invokeinterface 19 2, 5) := by decide +kernel
theorem d12_50 : decode prog_61_method_1_code 50 = .ok (.checkcast 23, 3) := by decide +kernel
theorem d12_53 : decode prog_61_method_1_code 53 = .ok (.arraylength, 1) := by decide +kernel
theorem d12_54 : decode prog_61_method_1_code 54 = .ok (.iadd, 1) := by decide +kernel
theorem d12_55 : decode prog_61_method_1_code 55 = .ok (.iastore, 1) := by decide +kernel
theorem d12_56 : decode prog_61_method_1_code 56 = .ok (.iinc 2 1, 3) := by decide +kernel
theorem d12_59 : decode prog_61_method_1_code 59 = .ok (.goto (-39), 3) := by decide +kernel
theorem d12_62 : decode prog_61_method_1_code 62 = .ok (.aload_n 0, 1) := by decide +kernel
theorem d12_63 : decode prog_61_method_1_code 63 = .ok (.aload_n 0, 1) := by decide +kernel
theorem d12_64 : decode prog_61_method_1_code 64 = .ok (.getfield 13, 3) := by decide +kernel
theorem d12_67 : decode prog_61_method_1_code 67 = .ok (.aload_n 1, 1) := by decide +kernel
theorem d12_68 : decode prog_61_method_1_code 68 = .ok (.invokeinterface 7 1, 5) := by decide +kernel
theorem d12_73 : decode prog_61_method_1_code 73 = .ok (.iaload, 1) := by decide +kernel
theorem d12_74 : decode prog_61_method_1_code 74 = .ok (.newarray .int, 2) := by decide +kernel
theorem d12_76 : decode prog_61_method_1_code 76 = .ok (.putfield 24, 3) := by decide +kernel
theorem d12_79 : decode prog_61_method_1_code 79 = .ok (.iconst 0, 1) := by decide +kernel
theorem d12_80 : decode prog_61_method_1_code 80 = .ok (.istore_n 2, 1) := by decide +kernel
theorem d12_81 : decode prog_61_method_1_code 81 = .ok (.iload_n 2, 1) := by decide +kernel
theorem d12_82 : decode prog_61_method_1_code 82 = .ok (.aload_n 1, 1) := by decide +kernel
theorem d12_83 : decode prog_61_method_1_code 83 = .ok (.invokeinterface 7 1, 5) := by decide +kernel
theorem d12_88 : decode prog_61_method_1_code 88 = .ok (.if_icmp .ge 41, 3) := by decide +kernel
theorem d12_91 : decode prog_61_method_1_code 91 = .ok (.aload_n 1, 1) := by decide +kernel
theorem d12_92 : decode prog_61_method_1_code 92 = .ok (.iload_n 2, 1) := by decide +kernel
theorem d12_93 : decode prog_61_method_1_code 93 = .ok (.invokeinterface 19 2, 5) := by decide +kernel
theorem d12_98 : decode prog_61_method_1_code 98 = .ok (.iconst 0, 1) := by decide +kernel
theorem d12_99 : decode prog_61_method_1_code 99 = .ok (.aload_n 0, 1) := by decide +kernel
theorem d12_100 : decode prog_61_method_1_code 100 = .ok (.getfield 24, 3) := by decide +kernel
theorem d12_103 : decode prog_61_method_1_code 103 = .ok (.aload_n 0, 1) := by decide +kernel
theorem d12_104 : decode prog_61_method_1_code 104 = .ok (.getfield 13, 3) := by decide +kernel
theorem d12_107 : decode prog_61_method_1_code 107 = .ok (.iload_n 2, 1) := by decide +kernel
theorem d12_108 : decode prog_61_method_1_code 108 = .ok (.iaload, 1) := by decide +kernel
theorem d12_109 : decode prog_61_method_1_code 109 = .ok (.aload_n 1, 1) := by decide +kernel
theorem d12_110 : decode prog_61_method_1_code 110 = .ok (.iload_n 2, 1) := by decide +kernel
theorem d12_111 : decode prog_61_method_1_code 111 = .ok (.invokeinterface 19 2, 5) := by decide +kernel
theorem d12_116 : decode prog_61_method_1_code 116 = .ok (.checkcast 23, 3) := by decide +kernel
theorem d12_119 : decode prog_61_method_1_code 119 = .ok (.arraylength, 1) := by decide +kernel
theorem d12_120 : decode prog_61_method_1_code 120 = .ok (.invokestatic 27, 3) := by decide +kernel
theorem d12_123 : decode prog_61_method_1_code 123 = .ok (.iinc 2 1, 3) := by decide +kernel
theorem d12_126 : decode prog_61_method_1_code 126 = .ok (.goto (-45), 3) := by decide +kernel
theorem d12_129 : decode prog_61_method_1_code 129 = .ok (.return_, 1) := by decide +kernel
set_option maxRecDepth 65536 in
set_option maxHeartbeats 40000000 in
theorem b12_0 {p : Program} {l : Launch} {e : Env} {s : State} {m : MethodId} {args : Array Value} {below : List Frame} {meth : Method} {c : Code} {T : State} {locs : List Loc} {cells slots : Nat} {Z : State} {a0 : Array Value} {h : Heap} {n0 : Nat} {Q : Option Value → Heap → List Loc → Prop} (o0 : Addr) (o1 : Addr) (ust : Value) (uva : Value) (um : Value) (ea : Addr) (gE : Nat → Value) (r0 : Addr) (z0 : Nat) (g0 : Nat → Int32) (r1 : Addr) (z1 : Nat) (g1 : Nat → Int32) (r2 : Addr) (z2 : Nat) (g2 : Nat → Int32) (r3 : Addr) (z3 : Nat) (g3 : Nat → Int32) (hw : ∀ d ∈ tables_1, d.before a0 Z = true) (X : Stand p l e ({ frames := 3, cells := 2, slots := 17, locals := 90 } : Room) s m args below meth c T locs cells slots) (hx : p.tables.exec = Jvm.exec) (hZ : Z.Warmed39 s.vm) (hby : c.code = prog_61_method_1_code) (hml : c.maxLocals = 3) (hown : s.vm.findClass "com/example/libentitle/libentitle/role/Rows" = some m.cls) (hret : meth.sig.returnType = none) (hlk : meth.locks = false) (hnm : meth.name = "<init>") (eT : T.heap = h) (N : Fr n0 locs) (hc : cells ≤ 0) (hs : slots ≤ 0) (Z0 : n0 ≤ h.size) (fr0 : n0 ≤ o0) (Er : Exa Z h o0 "com/example/libentitle/libentitle/role/Rows") (Fst : Fld Z h o0 "com/example/libentitle/libentitle/role/Rows" "starts" "[I" ust) (Fva : Fld Z h o0 "com/example/libentitle/libentitle/role/Rows" "values" "[I" uva) (E0 : Exa Z h o1 "java/util/ArrayList") (Fm : Fld Z h o1 "java/util/AbstractList" "modCount" "I" um) (Fe : Fld Z h o1 "java/util/ArrayList" "elementData" "[Ljava/lang/Object;" (.ref ea)) (Fs : Fld Z h o1 "java/util/ArrayList" "size" "I" (.int (4 : Int32))) (Re : own_RF Z h ea "java/lang/Object" 10 gE) (A0 : own_AF Z h r0 .int z0 g0) (Xr0 : Exa Z h r0 "[I") (hg0 : gE 0 = .ref r0) (hz0 : z0 ≤ 3) (A1 : own_AF Z h r1 .int z1 g1) (Xr1 : Exa Z h r1 "[I") (hg1 : gE 1 = .ref r1) (hz1 : z1 ≤ 3) (A2 : own_AF Z h r2 .int z2 g2) (Xr2 : Exa Z h r2 "[I") (hg2 : gE 2 = .ref r2) (hz2 : z2 ≤ 3) (A3 : own_AF Z h r3 .int z3 g3) (Xr3 : Exa Z h r3 "[I") (hg3 : gE 3 = .ref r3) (hz3 : z3 ≤ 3) (nel : o1 ≠ o0) (nee : ea ≠ o0) (ne0 : r0 ≠ o0) (ne1 : r1 ≠ o0) (ne2 : r2 ≠ o0) (ne3 : r3 ≠ o0) (hv0 : ∀ i, i < z0 → own_val (g0 i)) (hv1 : ∀ i, i < z1 → own_val (g1 i)) (hv2 : ∀ i, i < z2 → own_val (g2 i)) (hv3 : ∀ i, i < z3 → own_val (g3 i)) (hQ : ∀ (H' : Heap) (L' : List Loc) (bs : Addr) (bv : Addr) (gs : Nat → Int32) (gv : Nat → Int32), Fr n0 L' → Keep h H' [o0] → (n0 ≤ bs) → (h.size ≤ bs) → (n0 ≤ bv) → (h.size ≤ bv) → (bs ≠ bv) → (own_AF Z H' bs .int 5 gs) → (own_AF Z H' bv .int (0 + z0 + z1 + z2 + z3) gv) → (gs 0 = (0 : Int32)) → (gs 1 = ((0 : Int32) + (z0.toInt32))) → (gs 2 = (((0 : Int32) + (z0.toInt32)) + (z1.toInt32))) → (gs 3 = ((((0 : Int32) + (z0.toInt32)) + (z1.toInt32)) + (z2.toInt32))) → (gs 4 = (((((0 : Int32) + (z0.toInt32)) + (z1.toInt32)) + (z2.toInt32)) + (z3.toInt32))) → (∀ i, i < 0 + z0 + z1 + z2 + z3 → own_val (gv i)) → (Exa Z H' o0 "com/example/libentitle/libentitle/role/Rows") → (Fld Z H' o0 "com/example/libentitle/libentitle/role/Rows" "starts" "[I" (.ref bs)) → (Fld Z H' o0 "com/example/libentitle/libentitle/role/Rows" "values" "[I" (.ref bv)) → Q none H' L') :
    own_Fin p e below s Q 2 17 (T.setTop (mkF m 0 #[.val (.ref o0), .val (.ref o1), .unset] [])) := by
  refine own_step (fun t k => XS.aloadN X.here hx rfl (hb hby d12_0) rfl rfl k) ?_
  show own_Fin p e below s Q 2 17 (T.setTop (mkF m 1 #[.val (.ref o0), .val (.ref o1), .unset] [(.ref o0)]))
  obtain ⟨T53, X53, e53, st53⟩ := initO X hx hZ hown (hw _ (List.mem_of_getElem? (i := 79) rfl)) (hw _ (List.mem_of_getElem? (i := 19) rfl)) (hw _ (List.mem_of_getElem? (i := 20) rfl)) eT (g := (mkF m 1 #[.val (.ref o0), .val (.ref o1), .unset] [(.ref o0)])) rfl (by rw [hml]; rfl) rfl (hb hby d12_1) (by decide) (W := 0) (by show 2 * 0 + _ ≤ _; exact Nat.le_of_eq rfl) (by decide)
  refine own_step st53 ?_
  show own_Fin p e below s Q 2 17 (T53.setTop (mkF m 4 #[.val (.ref o0), .val (.ref o1), .unset] []))
  refine own_step (fun t k => XS.aloadN X53.here hx rfl (hb hby d12_4) rfl rfl k) ?_
  show own_Fin p e below s Q 2 17 (T53.setTop (mkF m 5 #[.val (.ref o0), .val (.ref o1), .unset] [(.ref o0)]))
  refine own_step (fun t k => XS.aloadN X53.here hx rfl (hb hby d12_5) rfl rfl k) ?_
  show own_Fin p e below s Q 2 17 (T53.setTop (mkF m 6 #[.val (.ref o0), .val (.ref o1), .unset] [(.ref o1), (.ref o0)]))
  obtain ⟨cq54, kq54, q54a, q54b, q54c⟩ := isOf hZ e53 E0
  obtain ⟨_, _, ⟨T54, L54, k54, n54⟩, -, X54, ⟨Lc54, hQ54, l54, y54, z54⟩, st54⟩ := X53.interfaceBack hx (xi := (⟨"java/util/List", "size", "()I"⟩ : MethodName)) (y := (⟨"java/util/ArrayList", "size", "()I"⟩ : MethodName)) hown (mvT hZ (hw _ (List.mem_of_getElem? (i := 80) rfl))) (mvT hZ (hw _ (List.mem_of_getElem? (i := 81) rfl))) (mvT hZ (hw _ (List.mem_of_getElem? (i := 82) rfl))) (mvT hZ (hw _ (List.mem_of_getElem? (i := 83) rfl))) (mvT hZ (hw _ (List.mem_of_getElem? (i := 84) rfl))) (mvT hZ (hw _ (List.mem_of_getElem? (i := 85) rfl))) (mvT hZ (hw _ (List.mem_of_getElem? (i := 86) rfl))) (mvT hZ (hw _ (List.mem_of_getElem? (i := 38) rfl))) (by decide) (backOf (W := 1) (rm13 l Z a0 hw [] o1 (4 : Int32) h n0 Fs) hZ (hw _ (List.mem_of_getElem? (i := 87) rfl)) (hw _ (List.mem_of_getElem? (i := 2) rfl)) (by decide) (by decide)) q54a q54b q54c (g := (mkF m 6 #[.val (.ref o0), .val (.ref o1), .unset] [(.ref o1), (.ref o0)])) rfl (by rw [hml]; rfl) (Steps.refl _) (argsL := []) (rest := [(.ref o0)]) (lenOf pdm_6 rfl) rfl (by show 2 * 0 + _ ≤ _; exact Nat.le_of_eq rfl) (hb hby d12_6) (fun _ _ => ⟨rfl, e53, (show cells + 0 ≤ 2 from (Nat.le_trans (Nat.add_le_add_right hc 0) (by decide))), (show slots + 0 ≤ 17 from (Nat.le_trans (Nat.add_le_add_right hs 0) (by decide)))⟩)
  dsimp only [Pt.U, Pt.locs, Pt.cells, Pt.slots] at X54 l54 y54 z54 st54 hQ54
  have yy54 : k54 = cells + 0 := y54
  have zz54 : n54 = slots + 0 := z54
  rw [yy54, zz54, l54] at X54
  obtain ⟨rfl, N54q, e54⟩ := hQ54
  have N54 := Fr.app N N54q
  refine own_step (fun t k => st54.trans k) ?_
  show own_Fin p e below s Q 2 17 (T54.setTop (mkF m 11 #[.val (.ref o0), .val (.ref o1), .unset] [(.int (4 : Int32)), (.ref o0)]))
  refine own_step (fun t k => XS.iconst X54.here hx rfl (hb hby d12_11) k) ?_
  show own_Fin p e below s Q 2 17 (T54.setTop (mkF m 12 #[.val (.ref o0), .val (.ref o1), .unset] [(.int (1 : Int32)), (.int (4 : Int32)), (.ref o0)]))
  refine own_step (fun t k => XS.iadd X54.here hx rfl (hb hby d12_12) rfl k) ?_
  show own_Fin p e below s Q 2 17 (T54.setTop (mkF m 13 #[.val (.ref o0), .val (.ref o1), .unset] [(.int (5 : Int32)), (.ref o0)]))
  obtain ⟨T55, h55, k55, X55, e55, E55, AA55, XX55, st55⟩ := newPE X54 hx hZ (hw _ (List.mem_of_getElem? (i := 30) rfl)) e54 (g := (mkF m 13 #[.val (.ref o0), .val (.ref o1), .unset] [(.int (5 : Int32)), (.ref o0)])) rfl (hb hby d12_13) rfl (by decide) (cap := 5) (by decide) (by decide) (show cells + 0 + 1 ≤ 2 from (Nat.le_trans (Nat.add_le_add_right hc 1) (by decide))) (show slots + 0 + 5 ≤ 17 from (Nat.le_trans (Nat.add_le_add_right hs 5) (by decide))) (ad := "[I") (by decide)
  obtain ⟨b55, gg55⟩ : ∃ z, z = h.size := ⟨_, rfl⟩
  rw [← gg55] at AA55 XX55 st55
  have V55 : own_AF Z h55 b55 .int 5 (fun _ => 0) := own_AFnew AA55 (by decide)
  have fr55 : n0 ≤ b55 := Nat.le_trans Z0 (Nat.le_of_eq gg55.symm)
  have Z055 : n0 ≤ h55.size := Nat.le_trans Z0 E55.1
  have ner0_55 : r0 ≠ b55 := Nat.ne_of_lt (Nat.lt_of_lt_of_le A0.lt (Nat.le_of_eq gg55.symm))
  have ner1_55 : r1 ≠ b55 := Nat.ne_of_lt (Nat.lt_of_lt_of_le A1.lt (Nat.le_of_eq gg55.symm))
  have ner2_55 : r2 ≠ b55 := Nat.ne_of_lt (Nat.lt_of_lt_of_le A2.lt (Nat.le_of_eq gg55.symm))
  have ner3_55 : r3 ≠ b55 := Nat.ne_of_lt (Nat.lt_of_lt_of_le A3.lt (Nat.le_of_eq gg55.symm))
  have neo0_55 : o0 ≠ b55 := Nat.ne_of_lt (Nat.lt_of_lt_of_le Er.lt (Nat.le_of_eq gg55.symm))
  have neo1_55 : o1 ≠ b55 := Nat.ne_of_lt (Nat.lt_of_lt_of_le E0.lt (Nat.le_of_eq gg55.symm))
  have sz55 : h.size ≤ b55 := Nat.le_trans (Keep.refl h [o0]).1 (Nat.le_of_eq gg55.symm)
  have neea_55 : ea ≠ b55 := Nat.ne_of_lt (Nat.lt_of_lt_of_le Re.lt (Nat.le_of_eq gg55.symm))
  have V55_r0 := own_AFext A0 E55
  have V55_r1 := own_AFext A1 E55
  have V55_r2 := own_AFext A2 E55
  have V55_r3 := own_AFext A3 E55
  have Ex55_o0 := Er.ext E55
  have F55_o0_starts := Fst.ext E55
  have F55_o0_values := Fva.ext E55
  have Ex55_o1 := E0.ext E55
  have F55_o1_modCount := Fm.ext E55
  have F55_o1_elementData := Fe.ext E55
  have F55_o1_size := Fs.ext E55
  have Xa55_r0 := Xr0.ext E55
  have Xa55_r1 := Xr1.ext E55
  have Xa55_r2 := Xr2.ext E55
  have Xa55_r3 := Xr3.ext E55
  have R55_ea := own_RFext Re E55
  have K55 : Keep h h55 [o0] := (Keep.refl h [o0]).ext E55
  refine own_step st55 ?_
  show own_Fin p e below s Q 2 17 (T55.setTop (mkF m 15 #[.val (.ref o0), .val (.ref o1), .unset] [(.ref b55), (.ref o0)]))
  obtain ⟨T56, h56, X56, e56, W56, st56⟩ := putF X55 hx hZ hown (host := "") (Or.inl (hw _ (List.mem_of_getElem? (i := 88) rfl))) Via.refl e55 F55_o0_starts Ex55_o0 (Or.inr ⟨(hw _ (List.mem_of_getElem? (i := 89) rfl)), rfl, hnm⟩) (hw _ (List.mem_of_getElem? (i := 74) rfl)) (ty := (.array .int)) (by decide) rfl rfl (g := (mkF m 15 #[.val (.ref o0), .val (.ref o1), .unset] [(.ref b55), (.ref o0)])) rfl rfl (hb hby d12_15)
  have N56 := Fr.snoc X56 N54 fr0
  have Z056 : n0 ≤ h56.size := Nat.le_trans Z055 (Nat.le_of_eq W56.size.symm)
  have V56_r0 := own_AFoth V55_r0 W56 ne0
  have V56_r1 := own_AFoth V55_r1 W56 ne1
  have V56_r2 := own_AFoth V55_r2 W56 ne2
  have V56_r3 := own_AFoth V55_r3 W56 ne3
  have V56_b55 := own_AFoth V55 W56 (Ne.symm neo0_55)
  have Ex56_o1 := Ex55_o1.wr W56
  have F56_o1_modCount := F55_o1_modCount.other W56 (Or.inl nel)
  have F56_o1_elementData := F55_o1_elementData.other W56 (Or.inl nel)
  have F56_o1_size := F55_o1_size.other W56 (Or.inl nel)
  have Xa56_r0 := Xa55_r0.wr W56
  have Xa56_r1 := Xa55_r1.wr W56
  have Xa56_r2 := Xa55_r2.wr W56
  have Xa56_r3 := Xa55_r3.wr W56
  have Xa56_b55 := XX55.wr W56
  have R56_ea := own_RFoth R55_ea W56 nee
  have K56 : Keep h h56 [o0] := K55.wr W56 (Or.inl (List.mem_of_getElem? (i := 0) rfl))
  have Ex56_o0 := Ex55_o0.wr W56
  have F56_o0_starts := F55_o0_starts.same W56
  have F56_o0_values := F55_o0_values.other W56 (Or.inr (slot_ne (Or.inr (hw _ (List.mem_of_getElem? (i := 114) rfl))) (Or.inr (hw _ (List.mem_of_getElem? (i := 89) rfl))) (by decide) (t := (.array .int)) (t' := (.array .int)) (by decide) (by decide)))
  refine own_step st56 ?_
  show own_Fin p e below s Q 2 17 (T56.setTop (mkF m 18 #[.val (.ref o0), .val (.ref o1), .unset] []))
  refine own_step (fun t k => XS.iconst X56.here hx rfl (hb hby d12_18) k) ?_
  show own_Fin p e below s Q 2 17 (T56.setTop (mkF m 19 #[.val (.ref o0), .val (.ref o1), .unset] [(.int (0 : Int32))]))
  refine own_step (fun t k => XS.istoreN X56.here hx rfl (hb hby d12_19) rfl (l' := #[.val (.ref o0), .val (.ref o1), .val (.int (0 : Int32))]) rfl k) ?_
  show own_Fin p e below s Q 2 17 (T56.setTop (mkF m 20 #[.val (.ref o0), .val (.ref o1), .val (.int (0 : Int32))] []))
  refine own_step (fun t k => XS.iloadN X56.here hx rfl (hb hby d12_20) rfl  k) ?_
  show own_Fin p e below s Q 2 17 (T56.setTop (mkF m 21 #[.val (.ref o0), .val (.ref o1), .val (.int (0 : Int32))] [(.int (0 : Int32))]))
  refine own_step (fun t k => XS.aloadN X56.here hx rfl (hb hby d12_21) rfl rfl k) ?_
  show own_Fin p e below s Q 2 17 (T56.setTop (mkF m 22 #[.val (.ref o0), .val (.ref o1), .val (.int (0 : Int32))] [(.ref o1), (.int (0 : Int32))]))
  obtain ⟨cq57, kq57, q57a, q57b, q57c⟩ := isOf hZ e56 Ex56_o1
  obtain ⟨_, _, ⟨T57, L57, k57, n57⟩, -, X57, ⟨Lc57, hQ57, l57, y57, z57⟩, st57⟩ := X56.interfaceBack hx (xi := (⟨"java/util/List", "size", "()I"⟩ : MethodName)) (y := (⟨"java/util/ArrayList", "size", "()I"⟩ : MethodName)) hown (mvT hZ (hw _ (List.mem_of_getElem? (i := 80) rfl))) (mvT hZ (hw _ (List.mem_of_getElem? (i := 81) rfl))) (mvT hZ (hw _ (List.mem_of_getElem? (i := 82) rfl))) (mvT hZ (hw _ (List.mem_of_getElem? (i := 83) rfl))) (mvT hZ (hw _ (List.mem_of_getElem? (i := 84) rfl))) (mvT hZ (hw _ (List.mem_of_getElem? (i := 85) rfl))) (mvT hZ (hw _ (List.mem_of_getElem? (i := 86) rfl))) (mvT hZ (hw _ (List.mem_of_getElem? (i := 38) rfl))) (by decide) (backOf (W := 1) (rm13 l Z a0 hw [] o1 (4 : Int32) h56 n0 F56_o1_size) hZ (hw _ (List.mem_of_getElem? (i := 87) rfl)) (hw _ (List.mem_of_getElem? (i := 2) rfl)) (by decide) (by decide)) q57a q57b q57c (g := (mkF m 22 #[.val (.ref o0), .val (.ref o1), .val (.int (0 : Int32))] [(.ref o1), (.int (0 : Int32))])) rfl (by rw [hml]; rfl) (Steps.refl _) (argsL := []) (rest := [(.int (0 : Int32))]) (lenOf pdm_6 rfl) rfl (by show 2 * 0 + _ ≤ _; exact Nat.le_of_eq rfl) (hb hby d12_22) (fun _ _ => ⟨rfl, e56, (show cells + 0 + 1 + 0 ≤ 2 from (Nat.le_trans (Nat.add_le_add_right hc 1) (by decide))), (show slots + 0 + 5 + 0 ≤ 17 from (Nat.le_trans (Nat.add_le_add_right hs 5) (by decide)))⟩)
  dsimp only [Pt.U, Pt.locs, Pt.cells, Pt.slots] at X57 l57 y57 z57 st57 hQ57
  have yy57 : k57 = cells + 0 + 1 + 0 := y57
  have zz57 : n57 = slots + 0 + 5 + 0 := z57
  rw [yy57, zz57, l57] at X57
  obtain ⟨rfl, N57q, e57⟩ := hQ57
  have N57 := Fr.app N56 N57q
  refine own_step (fun t k => st57.trans k) ?_
  show own_Fin p e below s Q 2 17 (T57.setTop (mkF m 27 #[.val (.ref o0), .val (.ref o1), .val (.int (0 : Int32))] [(.int (4 : Int32)), (.int (0 : Int32))]))
  refine own_step (fun t k => XS.icmpNo X57.here hx rfl (hb hby d12_27) rfl (tlt (by decide : (0 : Int32) < (4 : Int32))).2.1 k) ?_
  show own_Fin p e below s Q 2 17 (T57.setTop (mkF m 30 #[.val (.ref o0), .val (.ref o1), .val (.int (0 : Int32))] []))
  refine own_step (fun t k => XS.aloadN X57.here hx rfl (hb hby d12_30) rfl rfl k) ?_
  show own_Fin p e below s Q 2 17 (T57.setTop (mkF m 31 #[.val (.ref o0), .val (.ref o1), .val (.int (0 : Int32))] [(.ref o0)]))
  obtain ⟨T58, X58, e58, st58⟩ := getF X57 hx hZ hown (host := "") (Or.inl (hw _ (List.mem_of_getElem? (i := 88) rfl))) Via.refl e57 F56_o0_starts (g := (mkF m 31 #[.val (.ref o0), .val (.ref o1), .val (.int (0 : Int32))] [(.ref o0)])) rfl rfl (hb hby d12_31)
  refine own_step st58 ?_
  show own_Fin p e below s Q 2 17 (T58.setTop (mkF m 34 #[.val (.ref o0), .val (.ref o1), .val (.int (0 : Int32))] [(.ref b55)]))
  refine own_step (fun t k => XS.iloadN X58.here hx rfl (hb hby d12_34) rfl  k) ?_
  show own_Fin p e below s Q 2 17 (T58.setTop (mkF m 35 #[.val (.ref o0), .val (.ref o1), .val (.int (0 : Int32))] [(.int (0 : Int32)), (.ref b55)]))
  refine own_step (fun t k => XS.iconst X58.here hx rfl (hb hby d12_35) k) ?_
  show own_Fin p e below s Q 2 17 (T58.setTop (mkF m 36 #[.val (.ref o0), .val (.ref o1), .val (.int (0 : Int32))] [(.int (1 : Int32)), (.int (0 : Int32)), (.ref b55)]))
  refine own_step (fun t k => XS.iadd X58.here hx rfl (hb hby d12_36) rfl k) ?_
  show own_Fin p e below s Q 2 17 (T58.setTop (mkF m 37 #[.val (.ref o0), .val (.ref o1), .val (.int (0 : Int32))] [(.int (1 : Int32)), (.ref b55)]))
  refine own_step (fun t k => XS.aloadN X58.here hx rfl (hb hby d12_37) rfl rfl k) ?_
  show own_Fin p e below s Q 2 17 (T58.setTop (mkF m 38 #[.val (.ref o0), .val (.ref o1), .val (.int (0 : Int32))] [(.ref o0), (.int (1 : Int32)), (.ref b55)]))
  obtain ⟨T59, X59, e59, st59⟩ := getF X58 hx hZ hown (host := "") (Or.inl (hw _ (List.mem_of_getElem? (i := 88) rfl))) Via.refl e58 F56_o0_starts (g := (mkF m 38 #[.val (.ref o0), .val (.ref o1), .val (.int (0 : Int32))] [(.ref o0), (.int (1 : Int32)), (.ref b55)])) rfl rfl (hb hby d12_38)
  refine own_step st59 ?_
  show own_Fin p e below s Q 2 17 (T59.setTop (mkF m 41 #[.val (.ref o0), .val (.ref o1), .val (.int (0 : Int32))] [(.ref b55), (.int (1 : Int32)), (.ref b55)]))
  refine own_step (fun t k => XS.iloadN X59.here hx rfl (hb hby d12_41) rfl  k) ?_
  show own_Fin p e below s Q 2 17 (T59.setTop (mkF m 42 #[.val (.ref o0), .val (.ref o1), .val (.int (0 : Int32))] [(.int (0 : Int32)), (.ref b55), (.int (1 : Int32)), (.ref b55)]))
  obtain ⟨ca42, Ar42, Sz42, Ht42⟩ := id V56_b55
  have hin42 : ¬ ((0 : Int32) < 0 ∨ ca42.slots.size ≤ ((0 : Int32)).toNatClampNeg) := by rw [Sz42]; exact (by decide)
  refine own_step (X59.iaload hx (j := (0 : Int32)) (v := (.int ((fun _ => 0) ((0 : Int32)).toNatClampNeg))) (by rw [e59]; exact Ar42.1) (State.isArrayOf_alike hZ.alike Ar42.2.1) Ar42.2.2 hin42 (Ht42 _ (by have hq := Nat.lt_of_not_le (fun y => hin42 (Or.inr y)); rw [Sz42] at hq; exact hq)) (g := (mkF m 42 #[.val (.ref o0), .val (.ref o1), .val (.int (0 : Int32))] [(.int (0 : Int32)), (.ref b55), (.int (1 : Int32)), (.ref b55)])) rfl rfl (hb hby d12_42)) ?_
  show own_Fin p e below s Q 2 17 (T59.setTop (mkF m 43 #[.val (.ref o0), .val (.ref o1), .val (.int (0 : Int32))] [(.int ((fun _ => 0) ((0 : Int32)).toNatClampNeg)), (.int (1 : Int32)), (.ref b55)]))
  refine own_step (fun t k => XS.aloadN X59.here hx rfl (hb hby d12_43) rfl rfl k) ?_
  show own_Fin p e below s Q 2 17 (T59.setTop (mkF m 44 #[.val (.ref o0), .val (.ref o1), .val (.int (0 : Int32))] [(.ref o1), (.int ((fun _ => 0) ((0 : Int32)).toNatClampNeg)), (.int (1 : Int32)), (.ref b55)]))
  refine own_step (fun t k => XS.iloadN X59.here hx rfl (hb hby d12_44) rfl  k) ?_
  show own_Fin p e below s Q 2 17 (T59.setTop (mkF m 45 #[.val (.ref o0), .val (.ref o1), .val (.int (0 : Int32))] [(.int (0 : Int32)), (.ref o1), (.int ((fun _ => 0) ((0 : Int32)).toNatClampNeg)), (.int (1 : Int32)), (.ref b55)]))
  obtain ⟨cq60, kq60, q60a, q60b, q60c⟩ := isOf hZ e59 Ex56_o1
  obtain ⟨_, _, ⟨T60, L60, k60, n60⟩, -, X60, ⟨Lc60, hQ60, l60, y60, z60⟩, st60⟩ := X59.interfaceBack hx (xi := (⟨"java/util/List", "get", "(I)Ljava/lang/Object;"⟩ : MethodName)) (y := (⟨"java/util/ArrayList", "get", "(I)Ljava/lang/Object;"⟩ : MethodName)) hown (mvT hZ (hw _ (List.mem_of_getElem? (i := 90) rfl))) (mvT hZ (hw _ (List.mem_of_getElem? (i := 91) rfl))) (mvT hZ (hw _ (List.mem_of_getElem? (i := 92) rfl))) (mvT hZ (hw _ (List.mem_of_getElem? (i := 93) rfl))) (mvT hZ (hw _ (List.mem_of_getElem? (i := 94) rfl))) (mvT hZ (hw _ (List.mem_of_getElem? (i := 95) rfl))) (mvT hZ (hw _ (List.mem_of_getElem? (i := 96) rfl))) (mvT hZ (hw _ (List.mem_of_getElem? (i := 38) rfl))) (by decide) (backOf (W := 3) (rm14 l Z a0 hw [] o1 (0 : Int32) ea gE r0 (4 : Int32) h56 n0 Ex56_o1 F56_o1_size F56_o1_elementData R56_ea (by unfold own_In; decide) hg0 (by decide) (by decide)) hZ (hw _ (List.mem_of_getElem? (i := 97) rfl)) (hw _ (List.mem_of_getElem? (i := 2) rfl)) (by decide) (by decide)) q60a q60b q60c (g := (mkF m 45 #[.val (.ref o0), .val (.ref o1), .val (.int (0 : Int32))] [(.int (0 : Int32)), (.ref o1), (.int ((fun _ => 0) ((0 : Int32)).toNatClampNeg)), (.int (1 : Int32)), (.ref b55)])) rfl (by rw [hml]; rfl) (Steps.refl _) (argsL := [(.int (0 : Int32))]) (rest := [(.int ((fun _ => 0) ((0 : Int32)).toNatClampNeg)), (.int (1 : Int32)), (.ref b55)]) (lenOf pdm_8 rfl) rfl (by show 2 * 0 + _ ≤ _; exact Nat.le_of_eq rfl) (hb hby d12_45) (fun _ _ => ⟨rfl, e59, (show cells + 0 + 1 + 0 + 0 ≤ 2 from (Nat.le_trans (Nat.add_le_add_right hc 1) (by decide))), (show slots + 0 + 5 + 0 + 0 ≤ 17 from (Nat.le_trans (Nat.add_le_add_right hs 5) (by decide)))⟩)
  dsimp only [Pt.U, Pt.locs, Pt.cells, Pt.slots] at X60 l60 y60 z60 st60 hQ60
  have yy60 : k60 = cells + 0 + 1 + 0 + 0 := y60
  have zz60 : n60 = slots + 0 + 5 + 0 + 0 := z60
  rw [yy60, zz60, l60] at X60
  obtain ⟨rfl, N60q, e60⟩ := hQ60
  have N60 := Fr.app N57 N60q
  refine own_step (fun t k => st60.trans k) ?_
  show own_Fin p e below s Q 2 17 (T60.setTop (mkF m 50 #[.val (.ref o0), .val (.ref o1), .val (.int (0 : Int32))] [(.ref r0), (.int ((fun _ => 0) ((0 : Int32)).toNatClampNeg)), (.int (1 : Int32)), (.ref b55)]))
  obtain ⟨T61, X61, e61, st61⟩ := castY X60 hx hZ hown (hw _ (List.mem_of_getElem? (i := 111) rfl)) e60 (Ins.of_exa Xa56_r0 (hw _ (List.mem_of_getElem? (i := 112) rfl))) (g := (mkF m 50 #[.val (.ref o0), .val (.ref o1), .val (.int (0 : Int32))] [(.ref r0), (.int ((fun _ => 0) ((0 : Int32)).toNatClampNeg)), (.int (1 : Int32)), (.ref b55)])) rfl rfl (hb hby d12_50)
  refine own_step st61 ?_
  show own_Fin p e below s Q 2 17 (T61.setTop (mkF m 53 #[.val (.ref o0), .val (.ref o1), .val (.int (0 : Int32))] [(.ref r0), (.int ((fun _ => 0) ((0 : Int32)).toNatClampNeg)), (.int (1 : Int32)), (.ref b55)]))
  obtain ⟨ca53, Ar53, Sz53, Ht53⟩ := id V56_r0
  refine own_step (X61.arraylength hx (by rw [e61]; exact Ar53.1) (State.isArrayOf_alike hZ.alike Ar53.2.1) (g := (mkF m 53 #[.val (.ref o0), .val (.ref o1), .val (.int (0 : Int32))] [(.ref r0), (.int ((fun _ => 0) ((0 : Int32)).toNatClampNeg)), (.int (1 : Int32)), (.ref b55)])) rfl rfl (hb hby d12_53)) ?_
  rw [Sz53]
  show own_Fin p e below s Q 2 17 (T61.setTop (mkF m 54 #[.val (.ref o0), .val (.ref o1), .val (.int (0 : Int32))] [(.int (z0.toInt32)), (.int ((fun _ => 0) ((0 : Int32)).toNatClampNeg)), (.int (1 : Int32)), (.ref b55)]))
  refine own_step (fun t k => XS.iadd X61.here hx rfl (hb hby d12_54) rfl k) ?_
  show own_Fin p e below s Q 2 17 (T61.setTop (mkF m 55 #[.val (.ref o0), .val (.ref o1), .val (.int (0 : Int32))] [(.int (((fun _ => 0) ((0 : Int32)).toNatClampNeg) + (z0.toInt32))), (.int (1 : Int32)), (.ref b55)]))
  obtain ⟨ca62, Ar62, Sz62, Ht62⟩ := id V56_b55
  have hin62 : ¬ ((1 : Int32) < 0 ∨ ca62.slots.size ≤ ((1 : Int32)).toNatClampNeg) := by rw [Sz62]; exact (by decide)
  obtain ⟨T62, h62, X62, e62, W62, st62⟩ := stI X61 hx hZ e61 Ar62 (j := (1 : Int32)) hin62 (g := (mkF m 55 #[.val (.ref o0), .val (.ref o1), .val (.int (0 : Int32))] [(.int (((fun _ => 0) ((0 : Int32)).toNatClampNeg) + (z0.toInt32))), (.int (1 : Int32)), (.ref b55)])) rfl rfl (hb hby d12_55)
  have V62 : own_AF Z h62 b55 .int 5 (fun i => if i = 1 then (((fun _ => 0) ((0 : Int32)).toNatClampNeg) + (z0.toInt32)) else (fun _ => 0) i) := own_AFset Ar62 Sz62 Ht62 W62
  obtain ⟨gf62, hgf62⟩ : ∃ g' : Nat → Int32, g' = (fun i => if i = 1 then (((fun _ => 0) ((0 : Int32)).toNatClampNeg) + (z0.toInt32)) else (fun _ => 0) i) := ⟨_, rfl⟩
  rw [← hgf62] at V62
  have N62 := Fr.snoc X62 N60 fr55
  have Z062 : n0 ≤ h62.size := Nat.le_trans Z056 (Nat.le_of_eq W62.size.symm)
  have V62_r0 := own_AFoth V56_r0 W62 ner0_55
  have V62_r1 := own_AFoth V56_r1 W62 ner1_55
  have V62_r2 := own_AFoth V56_r2 W62 ner2_55
  have V62_r3 := own_AFoth V56_r3 W62 ner3_55
  have Ex62_o1 := Ex56_o1.wr W62
  have F62_o1_modCount := F56_o1_modCount.other W62 (Or.inl neo1_55)
  have F62_o1_elementData := F56_o1_elementData.other W62 (Or.inl neo1_55)
  have F62_o1_size := F56_o1_size.other W62 (Or.inl neo1_55)
  have Ex62_o0 := Ex56_o0.wr W62
  have F62_o0_starts := F56_o0_starts.other W62 (Or.inl neo0_55)
  have F62_o0_values := F56_o0_values.other W62 (Or.inl neo0_55)
  have Xa62_r0 := Xa56_r0.wr W62
  have Xa62_r1 := Xa56_r1.wr W62
  have Xa62_r2 := Xa56_r2.wr W62
  have Xa62_r3 := Xa56_r3.wr W62
  have Xa62_b55 := Xa56_b55.wr W62
  have R62_ea := own_RFoth R56_ea W62 neea_55
  have K62 : Keep h h62 [o0] := K56.wr W62 (Or.inr sz55)
  refine own_step st62 ?_
  show own_Fin p e below s Q 2 17 (T62.setTop (mkF m 56 #[.val (.ref o0), .val (.ref o1), .val (.int (0 : Int32))] []))
  refine own_step (fun t k => XS.iinc X62.here hx rfl (hb hby d12_56) rfl (l' := #[.val (.ref o0), .val (.ref o1), .val (.int (1 : Int32))]) rfl k) ?_
  show own_Fin p e below s Q 2 17 (T62.setTop (mkF m 59 #[.val (.ref o0), .val (.ref o1), .val (.int (1 : Int32))] []))
  refine own_step (fun t k => XS.goto X62.here hx rfl (pc0 := 59) (pc' := 20) rfl (hb hby d12_59) (by decide) (by decide) k) ?_
  show own_Fin p e below s Q 2 17 (T62.setTop (mkF m 20 #[.val (.ref o0), .val (.ref o1), .val (.int (1 : Int32))] []))
  refine own_step (fun t k => XS.iloadN X62.here hx rfl (hb hby d12_20) rfl  k) ?_
  show own_Fin p e below s Q 2 17 (T62.setTop (mkF m 21 #[.val (.ref o0), .val (.ref o1), .val (.int (1 : Int32))] [(.int (1 : Int32))]))
  refine own_step (fun t k => XS.aloadN X62.here hx rfl (hb hby d12_21) rfl rfl k) ?_
  show own_Fin p e below s Q 2 17 (T62.setTop (mkF m 22 #[.val (.ref o0), .val (.ref o1), .val (.int (1 : Int32))] [(.ref o1), (.int (1 : Int32))]))
  obtain ⟨cq63, kq63, q63a, q63b, q63c⟩ := isOf hZ e62 Ex62_o1
  obtain ⟨_, _, ⟨T63, L63, k63, n63⟩, -, X63, ⟨Lc63, hQ63, l63, y63, z63⟩, st63⟩ := X62.interfaceBack hx (xi := (⟨"java/util/List", "size", "()I"⟩ : MethodName)) (y := (⟨"java/util/ArrayList", "size", "()I"⟩ : MethodName)) hown (mvT hZ (hw _ (List.mem_of_getElem? (i := 80) rfl))) (mvT hZ (hw _ (List.mem_of_getElem? (i := 81) rfl))) (mvT hZ (hw _ (List.mem_of_getElem? (i := 82) rfl))) (mvT hZ (hw _ (List.mem_of_getElem? (i := 83) rfl))) (mvT hZ (hw _ (List.mem_of_getElem? (i := 84) rfl))) (mvT hZ (hw _ (List.mem_of_getElem? (i := 85) rfl))) (mvT hZ (hw _ (List.mem_of_getElem? (i := 86) rfl))) (mvT hZ (hw _ (List.mem_of_getElem? (i := 38) rfl))) (by decide) (backOf (W := 1) (rm13 l Z a0 hw [] o1 (4 : Int32) h62 n0 F62_o1_size) hZ (hw _ (List.mem_of_getElem? (i := 87) rfl)) (hw _ (List.mem_of_getElem? (i := 2) rfl)) (by decide) (by decide)) q63a q63b q63c (g := (mkF m 22 #[.val (.ref o0), .val (.ref o1), .val (.int (1 : Int32))] [(.ref o1), (.int (1 : Int32))])) rfl (by rw [hml]; rfl) (Steps.refl _) (argsL := []) (rest := [(.int (1 : Int32))]) (lenOf pdm_6 rfl) rfl (by show 2 * 0 + _ ≤ _; exact Nat.le_of_eq rfl) (hb hby d12_22) (fun _ _ => ⟨rfl, e62, (show cells + 0 + 1 + 0 + 0 + 0 ≤ 2 from (Nat.le_trans (Nat.add_le_add_right hc 1) (by decide))), (show slots + 0 + 5 + 0 + 0 + 0 ≤ 17 from (Nat.le_trans (Nat.add_le_add_right hs 5) (by decide)))⟩)
  dsimp only [Pt.U, Pt.locs, Pt.cells, Pt.slots] at X63 l63 y63 z63 st63 hQ63
  have yy63 : k63 = cells + 0 + 1 + 0 + 0 + 0 := y63
  have zz63 : n63 = slots + 0 + 5 + 0 + 0 + 0 := z63
  rw [yy63, zz63, l63] at X63
  obtain ⟨rfl, N63q, e63⟩ := hQ63
  have N63 := Fr.app N62 N63q
  refine own_step (fun t k => st63.trans k) ?_
  show own_Fin p e below s Q 2 17 (T63.setTop (mkF m 27 #[.val (.ref o0), .val (.ref o1), .val (.int (1 : Int32))] [(.int (4 : Int32)), (.int (1 : Int32))]))
  refine own_step (fun t k => XS.icmpNo X63.here hx rfl (hb hby d12_27) rfl (tlt (by decide : (1 : Int32) < (4 : Int32))).2.1 k) ?_
  show own_Fin p e below s Q 2 17 (T63.setTop (mkF m 30 #[.val (.ref o0), .val (.ref o1), .val (.int (1 : Int32))] []))
  refine own_step (fun t k => XS.aloadN X63.here hx rfl (hb hby d12_30) rfl rfl k) ?_
  show own_Fin p e below s Q 2 17 (T63.setTop (mkF m 31 #[.val (.ref o0), .val (.ref o1), .val (.int (1 : Int32))] [(.ref o0)]))
  obtain ⟨T64, X64, e64, st64⟩ := getF X63 hx hZ hown (host := "") (Or.inl (hw _ (List.mem_of_getElem? (i := 88) rfl))) Via.refl e63 F62_o0_starts (g := (mkF m 31 #[.val (.ref o0), .val (.ref o1), .val (.int (1 : Int32))] [(.ref o0)])) rfl rfl (hb hby d12_31)
  refine own_step st64 ?_
  show own_Fin p e below s Q 2 17 (T64.setTop (mkF m 34 #[.val (.ref o0), .val (.ref o1), .val (.int (1 : Int32))] [(.ref b55)]))
  refine own_step (fun t k => XS.iloadN X64.here hx rfl (hb hby d12_34) rfl  k) ?_
  show own_Fin p e below s Q 2 17 (T64.setTop (mkF m 35 #[.val (.ref o0), .val (.ref o1), .val (.int (1 : Int32))] [(.int (1 : Int32)), (.ref b55)]))
  refine own_step (fun t k => XS.iconst X64.here hx rfl (hb hby d12_35) k) ?_
  show own_Fin p e below s Q 2 17 (T64.setTop (mkF m 36 #[.val (.ref o0), .val (.ref o1), .val (.int (1 : Int32))] [(.int (1 : Int32)), (.int (1 : Int32)), (.ref b55)]))
  refine own_step (fun t k => XS.iadd X64.here hx rfl (hb hby d12_36) rfl k) ?_
  show own_Fin p e below s Q 2 17 (T64.setTop (mkF m 37 #[.val (.ref o0), .val (.ref o1), .val (.int (1 : Int32))] [(.int (2 : Int32)), (.ref b55)]))
  refine own_step (fun t k => XS.aloadN X64.here hx rfl (hb hby d12_37) rfl rfl k) ?_
  show own_Fin p e below s Q 2 17 (T64.setTop (mkF m 38 #[.val (.ref o0), .val (.ref o1), .val (.int (1 : Int32))] [(.ref o0), (.int (2 : Int32)), (.ref b55)]))
  obtain ⟨T65, X65, e65, st65⟩ := getF X64 hx hZ hown (host := "") (Or.inl (hw _ (List.mem_of_getElem? (i := 88) rfl))) Via.refl e64 F62_o0_starts (g := (mkF m 38 #[.val (.ref o0), .val (.ref o1), .val (.int (1 : Int32))] [(.ref o0), (.int (2 : Int32)), (.ref b55)])) rfl rfl (hb hby d12_38)
  refine own_step st65 ?_
  show own_Fin p e below s Q 2 17 (T65.setTop (mkF m 41 #[.val (.ref o0), .val (.ref o1), .val (.int (1 : Int32))] [(.ref b55), (.int (2 : Int32)), (.ref b55)]))
  refine own_step (fun t k => XS.iloadN X65.here hx rfl (hb hby d12_41) rfl  k) ?_
  show own_Fin p e below s Q 2 17 (T65.setTop (mkF m 42 #[.val (.ref o0), .val (.ref o1), .val (.int (1 : Int32))] [(.int (1 : Int32)), (.ref b55), (.int (2 : Int32)), (.ref b55)]))
  obtain ⟨ca42, Ar42, Sz42, Ht42⟩ := id V62
  have hin42 : ¬ ((1 : Int32) < 0 ∨ ca42.slots.size ≤ ((1 : Int32)).toNatClampNeg) := by rw [Sz42]; exact (by decide)
  refine own_step (X65.iaload hx (j := (1 : Int32)) (v := (.int (gf62 ((1 : Int32)).toNatClampNeg))) (by rw [e65]; exact Ar42.1) (State.isArrayOf_alike hZ.alike Ar42.2.1) Ar42.2.2 hin42 (Ht42 _ (by have hq := Nat.lt_of_not_le (fun y => hin42 (Or.inr y)); rw [Sz42] at hq; exact hq)) (g := (mkF m 42 #[.val (.ref o0), .val (.ref o1), .val (.int (1 : Int32))] [(.int (1 : Int32)), (.ref b55), (.int (2 : Int32)), (.ref b55)])) rfl rfl (hb hby d12_42)) ?_
  show own_Fin p e below s Q 2 17 (T65.setTop (mkF m 43 #[.val (.ref o0), .val (.ref o1), .val (.int (1 : Int32))] [(.int (gf62 ((1 : Int32)).toNatClampNeg)), (.int (2 : Int32)), (.ref b55)]))
  refine own_step (fun t k => XS.aloadN X65.here hx rfl (hb hby d12_43) rfl rfl k) ?_
  show own_Fin p e below s Q 2 17 (T65.setTop (mkF m 44 #[.val (.ref o0), .val (.ref o1), .val (.int (1 : Int32))] [(.ref o1), (.int (gf62 ((1 : Int32)).toNatClampNeg)), (.int (2 : Int32)), (.ref b55)]))
  refine own_step (fun t k => XS.iloadN X65.here hx rfl (hb hby d12_44) rfl  k) ?_
  show own_Fin p e below s Q 2 17 (T65.setTop (mkF m 45 #[.val (.ref o0), .val (.ref o1), .val (.int (1 : Int32))] [(.int (1 : Int32)), (.ref o1), (.int (gf62 ((1 : Int32)).toNatClampNeg)), (.int (2 : Int32)), (.ref b55)]))
  obtain ⟨cq66, kq66, q66a, q66b, q66c⟩ := isOf hZ e65 Ex62_o1
  obtain ⟨_, _, ⟨T66, L66, k66, n66⟩, -, X66, ⟨Lc66, hQ66, l66, y66, z66⟩, st66⟩ := X65.interfaceBack hx (xi := (⟨"java/util/List", "get", "(I)Ljava/lang/Object;"⟩ : MethodName)) (y := (⟨"java/util/ArrayList", "get", "(I)Ljava/lang/Object;"⟩ : MethodName)) hown (mvT hZ (hw _ (List.mem_of_getElem? (i := 90) rfl))) (mvT hZ (hw _ (List.mem_of_getElem? (i := 91) rfl))) (mvT hZ (hw _ (List.mem_of_getElem? (i := 92) rfl))) (mvT hZ (hw _ (List.mem_of_getElem? (i := 93) rfl))) (mvT hZ (hw _ (List.mem_of_getElem? (i := 94) rfl))) (mvT hZ (hw _ (List.mem_of_getElem? (i := 95) rfl))) (mvT hZ (hw _ (List.mem_of_getElem? (i := 96) rfl))) (mvT hZ (hw _ (List.mem_of_getElem? (i := 38) rfl))) (by decide) (backOf (W := 3) (rm14 l Z a0 hw [] o1 (1 : Int32) ea gE r1 (4 : Int32) h62 n0 Ex62_o1 F62_o1_size F62_o1_elementData R62_ea (by unfold own_In; decide) hg1 (by decide) (by decide)) hZ (hw _ (List.mem_of_getElem? (i := 97) rfl)) (hw _ (List.mem_of_getElem? (i := 2) rfl)) (by decide) (by decide)) q66a q66b q66c (g := (mkF m 45 #[.val (.ref o0), .val (.ref o1), .val (.int (1 : Int32))] [(.int (1 : Int32)), (.ref o1), (.int (gf62 ((1 : Int32)).toNatClampNeg)), (.int (2 : Int32)), (.ref b55)])) rfl (by rw [hml]; rfl) (Steps.refl _) (argsL := [(.int (1 : Int32))]) (rest := [(.int (gf62 ((1 : Int32)).toNatClampNeg)), (.int (2 : Int32)), (.ref b55)]) (lenOf pdm_8 rfl) rfl (by show 2 * 0 + _ ≤ _; exact Nat.le_of_eq rfl) (hb hby d12_45) (fun _ _ => ⟨rfl, e65, (show cells + 0 + 1 + 0 + 0 + 0 + 0 ≤ 2 from (Nat.le_trans (Nat.add_le_add_right hc 1) (by decide))), (show slots + 0 + 5 + 0 + 0 + 0 + 0 ≤ 17 from (Nat.le_trans (Nat.add_le_add_right hs 5) (by decide)))⟩)
  dsimp only [Pt.U, Pt.locs, Pt.cells, Pt.slots] at X66 l66 y66 z66 st66 hQ66
  have yy66 : k66 = cells + 0 + 1 + 0 + 0 + 0 + 0 := y66
  have zz66 : n66 = slots + 0 + 5 + 0 + 0 + 0 + 0 := z66
  rw [yy66, zz66, l66] at X66
  obtain ⟨rfl, N66q, e66⟩ := hQ66
  have N66 := Fr.app N63 N66q
  refine own_step (fun t k => st66.trans k) ?_
  show own_Fin p e below s Q 2 17 (T66.setTop (mkF m 50 #[.val (.ref o0), .val (.ref o1), .val (.int (1 : Int32))] [(.ref r1), (.int (gf62 ((1 : Int32)).toNatClampNeg)), (.int (2 : Int32)), (.ref b55)]))
  obtain ⟨T67, X67, e67, st67⟩ := castY X66 hx hZ hown (hw _ (List.mem_of_getElem? (i := 111) rfl)) e66 (Ins.of_exa Xa62_r1 (hw _ (List.mem_of_getElem? (i := 112) rfl))) (g := (mkF m 50 #[.val (.ref o0), .val (.ref o1), .val (.int (1 : Int32))] [(.ref r1), (.int (gf62 ((1 : Int32)).toNatClampNeg)), (.int (2 : Int32)), (.ref b55)])) rfl rfl (hb hby d12_50)
  refine own_step st67 ?_
  show own_Fin p e below s Q 2 17 (T67.setTop (mkF m 53 #[.val (.ref o0), .val (.ref o1), .val (.int (1 : Int32))] [(.ref r1), (.int (gf62 ((1 : Int32)).toNatClampNeg)), (.int (2 : Int32)), (.ref b55)]))
  obtain ⟨ca53, Ar53, Sz53, Ht53⟩ := id V62_r1
  refine own_step (X67.arraylength hx (by rw [e67]; exact Ar53.1) (State.isArrayOf_alike hZ.alike Ar53.2.1) (g := (mkF m 53 #[.val (.ref o0), .val (.ref o1), .val (.int (1 : Int32))] [(.ref r1), (.int (gf62 ((1 : Int32)).toNatClampNeg)), (.int (2 : Int32)), (.ref b55)])) rfl rfl (hb hby d12_53)) ?_
  rw [Sz53]
  show own_Fin p e below s Q 2 17 (T67.setTop (mkF m 54 #[.val (.ref o0), .val (.ref o1), .val (.int (1 : Int32))] [(.int (z1.toInt32)), (.int (gf62 ((1 : Int32)).toNatClampNeg)), (.int (2 : Int32)), (.ref b55)]))
  refine own_step (fun t k => XS.iadd X67.here hx rfl (hb hby d12_54) rfl k) ?_
  show own_Fin p e below s Q 2 17 (T67.setTop (mkF m 55 #[.val (.ref o0), .val (.ref o1), .val (.int (1 : Int32))] [(.int ((gf62 ((1 : Int32)).toNatClampNeg) + (z1.toInt32))), (.int (2 : Int32)), (.ref b55)]))
  obtain ⟨ca68, Ar68, Sz68, Ht68⟩ := id V62
  have hin68 : ¬ ((2 : Int32) < 0 ∨ ca68.slots.size ≤ ((2 : Int32)).toNatClampNeg) := by rw [Sz68]; exact (by decide)
  obtain ⟨T68, h68, X68, e68, W68, st68⟩ := stI X67 hx hZ e67 Ar68 (j := (2 : Int32)) hin68 (g := (mkF m 55 #[.val (.ref o0), .val (.ref o1), .val (.int (1 : Int32))] [(.int ((gf62 ((1 : Int32)).toNatClampNeg) + (z1.toInt32))), (.int (2 : Int32)), (.ref b55)])) rfl rfl (hb hby d12_55)
  have V68 : own_AF Z h68 b55 .int 5 (fun i => if i = 2 then ((gf62 ((1 : Int32)).toNatClampNeg) + (z1.toInt32)) else gf62 i) := own_AFset Ar68 Sz68 Ht68 W68
  obtain ⟨gf68, hgf68⟩ : ∃ g' : Nat → Int32, g' = (fun i => if i = 2 then ((gf62 ((1 : Int32)).toNatClampNeg) + (z1.toInt32)) else gf62 i) := ⟨_, rfl⟩
  rw [← hgf68] at V68
  have N68 := Fr.snoc X68 N66 fr55
  have Z068 : n0 ≤ h68.size := Nat.le_trans Z062 (Nat.le_of_eq W68.size.symm)
  have V68_r0 := own_AFoth V62_r0 W68 ner0_55
  have V68_r1 := own_AFoth V62_r1 W68 ner1_55
  have V68_r2 := own_AFoth V62_r2 W68 ner2_55
  have V68_r3 := own_AFoth V62_r3 W68 ner3_55
  have Ex68_o1 := Ex62_o1.wr W68
  have F68_o1_modCount := F62_o1_modCount.other W68 (Or.inl neo1_55)
  have F68_o1_elementData := F62_o1_elementData.other W68 (Or.inl neo1_55)
  have F68_o1_size := F62_o1_size.other W68 (Or.inl neo1_55)
  have Ex68_o0 := Ex62_o0.wr W68
  have F68_o0_starts := F62_o0_starts.other W68 (Or.inl neo0_55)
  have F68_o0_values := F62_o0_values.other W68 (Or.inl neo0_55)
  have Xa68_r0 := Xa62_r0.wr W68
  have Xa68_r1 := Xa62_r1.wr W68
  have Xa68_r2 := Xa62_r2.wr W68
  have Xa68_r3 := Xa62_r3.wr W68
  have Xa68_b55 := Xa62_b55.wr W68
  have R68_ea := own_RFoth R62_ea W68 neea_55
  have K68 : Keep h h68 [o0] := K62.wr W68 (Or.inr sz55)
  refine own_step st68 ?_
  show own_Fin p e below s Q 2 17 (T68.setTop (mkF m 56 #[.val (.ref o0), .val (.ref o1), .val (.int (1 : Int32))] []))
  refine own_step (fun t k => XS.iinc X68.here hx rfl (hb hby d12_56) rfl (l' := #[.val (.ref o0), .val (.ref o1), .val (.int (2 : Int32))]) rfl k) ?_
  show own_Fin p e below s Q 2 17 (T68.setTop (mkF m 59 #[.val (.ref o0), .val (.ref o1), .val (.int (2 : Int32))] []))
  refine own_step (fun t k => XS.goto X68.here hx rfl (pc0 := 59) (pc' := 20) rfl (hb hby d12_59) (by decide) (by decide) k) ?_
  show own_Fin p e below s Q 2 17 (T68.setTop (mkF m 20 #[.val (.ref o0), .val (.ref o1), .val (.int (2 : Int32))] []))
  refine own_step (fun t k => XS.iloadN X68.here hx rfl (hb hby d12_20) rfl  k) ?_
  show own_Fin p e below s Q 2 17 (T68.setTop (mkF m 21 #[.val (.ref o0), .val (.ref o1), .val (.int (2 : Int32))] [(.int (2 : Int32))]))
  refine own_step (fun t k => XS.aloadN X68.here hx rfl (hb hby d12_21) rfl rfl k) ?_
  show own_Fin p e below s Q 2 17 (T68.setTop (mkF m 22 #[.val (.ref o0), .val (.ref o1), .val (.int (2 : Int32))] [(.ref o1), (.int (2 : Int32))]))
  obtain ⟨cq69, kq69, q69a, q69b, q69c⟩ := isOf hZ e68 Ex68_o1
  obtain ⟨_, _, ⟨T69, L69, k69, n69⟩, -, X69, ⟨Lc69, hQ69, l69, y69, z69⟩, st69⟩ := X68.interfaceBack hx (xi := (⟨"java/util/List", "size", "()I"⟩ : MethodName)) (y := (⟨"java/util/ArrayList", "size", "()I"⟩ : MethodName)) hown (mvT hZ (hw _ (List.mem_of_getElem? (i := 80) rfl))) (mvT hZ (hw _ (List.mem_of_getElem? (i := 81) rfl))) (mvT hZ (hw _ (List.mem_of_getElem? (i := 82) rfl))) (mvT hZ (hw _ (List.mem_of_getElem? (i := 83) rfl))) (mvT hZ (hw _ (List.mem_of_getElem? (i := 84) rfl))) (mvT hZ (hw _ (List.mem_of_getElem? (i := 85) rfl))) (mvT hZ (hw _ (List.mem_of_getElem? (i := 86) rfl))) (mvT hZ (hw _ (List.mem_of_getElem? (i := 38) rfl))) (by decide) (backOf (W := 1) (rm13 l Z a0 hw [] o1 (4 : Int32) h68 n0 F68_o1_size) hZ (hw _ (List.mem_of_getElem? (i := 87) rfl)) (hw _ (List.mem_of_getElem? (i := 2) rfl)) (by decide) (by decide)) q69a q69b q69c (g := (mkF m 22 #[.val (.ref o0), .val (.ref o1), .val (.int (2 : Int32))] [(.ref o1), (.int (2 : Int32))])) rfl (by rw [hml]; rfl) (Steps.refl _) (argsL := []) (rest := [(.int (2 : Int32))]) (lenOf pdm_6 rfl) rfl (by show 2 * 0 + _ ≤ _; exact Nat.le_of_eq rfl) (hb hby d12_22) (fun _ _ => ⟨rfl, e68, (show cells + 0 + 1 + 0 + 0 + 0 + 0 + 0 ≤ 2 from (Nat.le_trans (Nat.add_le_add_right hc 1) (by decide))), (show slots + 0 + 5 + 0 + 0 + 0 + 0 + 0 ≤ 17 from (Nat.le_trans (Nat.add_le_add_right hs 5) (by decide)))⟩)
  dsimp only [Pt.U, Pt.locs, Pt.cells, Pt.slots] at X69 l69 y69 z69 st69 hQ69
  have yy69 : k69 = cells + 0 + 1 + 0 + 0 + 0 + 0 + 0 := y69
  have zz69 : n69 = slots + 0 + 5 + 0 + 0 + 0 + 0 + 0 := z69
  rw [yy69, zz69, l69] at X69
  obtain ⟨rfl, N69q, e69⟩ := hQ69
  have N69 := Fr.app N68 N69q
  refine own_step (fun t k => st69.trans k) ?_
  show own_Fin p e below s Q 2 17 (T69.setTop (mkF m 27 #[.val (.ref o0), .val (.ref o1), .val (.int (2 : Int32))] [(.int (4 : Int32)), (.int (2 : Int32))]))
  refine own_step (fun t k => XS.icmpNo X69.here hx rfl (hb hby d12_27) rfl (tlt (by decide : (2 : Int32) < (4 : Int32))).2.1 k) ?_
  show own_Fin p e below s Q 2 17 (T69.setTop (mkF m 30 #[.val (.ref o0), .val (.ref o1), .val (.int (2 : Int32))] []))
  refine own_step (fun t k => XS.aloadN X69.here hx rfl (hb hby d12_30) rfl rfl k) ?_
  show own_Fin p e below s Q 2 17 (T69.setTop (mkF m 31 #[.val (.ref o0), .val (.ref o1), .val (.int (2 : Int32))] [(.ref o0)]))
  obtain ⟨T70, X70, e70, st70⟩ := getF X69 hx hZ hown (host := "") (Or.inl (hw _ (List.mem_of_getElem? (i := 88) rfl))) Via.refl e69 F68_o0_starts (g := (mkF m 31 #[.val (.ref o0), .val (.ref o1), .val (.int (2 : Int32))] [(.ref o0)])) rfl rfl (hb hby d12_31)
  refine own_step st70 ?_
  show own_Fin p e below s Q 2 17 (T70.setTop (mkF m 34 #[.val (.ref o0), .val (.ref o1), .val (.int (2 : Int32))] [(.ref b55)]))
  refine own_step (fun t k => XS.iloadN X70.here hx rfl (hb hby d12_34) rfl  k) ?_
  show own_Fin p e below s Q 2 17 (T70.setTop (mkF m 35 #[.val (.ref o0), .val (.ref o1), .val (.int (2 : Int32))] [(.int (2 : Int32)), (.ref b55)]))
  refine own_step (fun t k => XS.iconst X70.here hx rfl (hb hby d12_35) k) ?_
  show own_Fin p e below s Q 2 17 (T70.setTop (mkF m 36 #[.val (.ref o0), .val (.ref o1), .val (.int (2 : Int32))] [(.int (1 : Int32)), (.int (2 : Int32)), (.ref b55)]))
  refine own_step (fun t k => XS.iadd X70.here hx rfl (hb hby d12_36) rfl k) ?_
  show own_Fin p e below s Q 2 17 (T70.setTop (mkF m 37 #[.val (.ref o0), .val (.ref o1), .val (.int (2 : Int32))] [(.int (3 : Int32)), (.ref b55)]))
  refine own_step (fun t k => XS.aloadN X70.here hx rfl (hb hby d12_37) rfl rfl k) ?_
  show own_Fin p e below s Q 2 17 (T70.setTop (mkF m 38 #[.val (.ref o0), .val (.ref o1), .val (.int (2 : Int32))] [(.ref o0), (.int (3 : Int32)), (.ref b55)]))
  obtain ⟨T71, X71, e71, st71⟩ := getF X70 hx hZ hown (host := "") (Or.inl (hw _ (List.mem_of_getElem? (i := 88) rfl))) Via.refl e70 F68_o0_starts (g := (mkF m 38 #[.val (.ref o0), .val (.ref o1), .val (.int (2 : Int32))] [(.ref o0), (.int (3 : Int32)), (.ref b55)])) rfl rfl (hb hby d12_38)
  refine own_step st71 ?_
  show own_Fin p e below s Q 2 17 (T71.setTop (mkF m 41 #[.val (.ref o0), .val (.ref o1), .val (.int (2 : Int32))] [(.ref b55), (.int (3 : Int32)), (.ref b55)]))
  refine own_step (fun t k => XS.iloadN X71.here hx rfl (hb hby d12_41) rfl  k) ?_
  show own_Fin p e below s Q 2 17 (T71.setTop (mkF m 42 #[.val (.ref o0), .val (.ref o1), .val (.int (2 : Int32))] [(.int (2 : Int32)), (.ref b55), (.int (3 : Int32)), (.ref b55)]))
  obtain ⟨ca42, Ar42, Sz42, Ht42⟩ := id V68
  have hin42 : ¬ ((2 : Int32) < 0 ∨ ca42.slots.size ≤ ((2 : Int32)).toNatClampNeg) := by rw [Sz42]; exact (by decide)
  refine own_step (X71.iaload hx (j := (2 : Int32)) (v := (.int (gf68 ((2 : Int32)).toNatClampNeg))) (by rw [e71]; exact Ar42.1) (State.isArrayOf_alike hZ.alike Ar42.2.1) Ar42.2.2 hin42 (Ht42 _ (by have hq := Nat.lt_of_not_le (fun y => hin42 (Or.inr y)); rw [Sz42] at hq; exact hq)) (g := (mkF m 42 #[.val (.ref o0), .val (.ref o1), .val (.int (2 : Int32))] [(.int (2 : Int32)), (.ref b55), (.int (3 : Int32)), (.ref b55)])) rfl rfl (hb hby d12_42)) ?_
  show own_Fin p e below s Q 2 17 (T71.setTop (mkF m 43 #[.val (.ref o0), .val (.ref o1), .val (.int (2 : Int32))] [(.int (gf68 ((2 : Int32)).toNatClampNeg)), (.int (3 : Int32)), (.ref b55)]))
  refine own_step (fun t k => XS.aloadN X71.here hx rfl (hb hby d12_43) rfl rfl k) ?_
  show own_Fin p e below s Q 2 17 (T71.setTop (mkF m 44 #[.val (.ref o0), .val (.ref o1), .val (.int (2 : Int32))] [(.ref o1), (.int (gf68 ((2 : Int32)).toNatClampNeg)), (.int (3 : Int32)), (.ref b55)]))
  refine own_step (fun t k => XS.iloadN X71.here hx rfl (hb hby d12_44) rfl  k) ?_
  show own_Fin p e below s Q 2 17 (T71.setTop (mkF m 45 #[.val (.ref o0), .val (.ref o1), .val (.int (2 : Int32))] [(.int (2 : Int32)), (.ref o1), (.int (gf68 ((2 : Int32)).toNatClampNeg)), (.int (3 : Int32)), (.ref b55)]))
  obtain ⟨cq72, kq72, q72a, q72b, q72c⟩ := isOf hZ e71 Ex68_o1
  obtain ⟨_, _, ⟨T72, L72, k72, n72⟩, -, X72, ⟨Lc72, hQ72, l72, y72, z72⟩, st72⟩ := X71.interfaceBack hx (xi := (⟨"java/util/List", "get", "(I)Ljava/lang/Object;"⟩ : MethodName)) (y := (⟨"java/util/ArrayList", "get", "(I)Ljava/lang/Object;"⟩ : MethodName)) hown (mvT hZ (hw _ (List.mem_of_getElem? (i := 90) rfl))) (mvT hZ (hw _ (List.mem_of_getElem? (i := 91) rfl))) (mvT hZ (hw _ (List.mem_of_getElem? (i := 92) rfl))) (mvT hZ (hw _ (List.mem_of_getElem? (i := 93) rfl))) (mvT hZ (hw _ (List.mem_of_getElem? (i := 94) rfl))) (mvT hZ (hw _ (List.mem_of_getElem? (i := 95) rfl))) (mvT hZ (hw _ (List.mem_of_getElem? (i := 96) rfl))) (mvT hZ (hw _ (List.mem_of_getElem? (i := 38) rfl))) (by decide) (backOf (W := 3) (rm14 l Z a0 hw [] o1 (2 : Int32) ea gE r2 (4 : Int32) h68 n0 Ex68_o1 F68_o1_size F68_o1_elementData R68_ea (by unfold own_In; decide) hg2 (by decide) (by decide)) hZ (hw _ (List.mem_of_getElem? (i := 97) rfl)) (hw _ (List.mem_of_getElem? (i := 2) rfl)) (by decide) (by decide)) q72a q72b q72c (g := (mkF m 45 #[.val (.ref o0), .val (.ref o1), .val (.int (2 : Int32))] [(.int (2 : Int32)), (.ref o1), (.int (gf68 ((2 : Int32)).toNatClampNeg)), (.int (3 : Int32)), (.ref b55)])) rfl (by rw [hml]; rfl) (Steps.refl _) (argsL := [(.int (2 : Int32))]) (rest := [(.int (gf68 ((2 : Int32)).toNatClampNeg)), (.int (3 : Int32)), (.ref b55)]) (lenOf pdm_8 rfl) rfl (by show 2 * 0 + _ ≤ _; exact Nat.le_of_eq rfl) (hb hby d12_45) (fun _ _ => ⟨rfl, e71, (show cells + 0 + 1 + 0 + 0 + 0 + 0 + 0 + 0 ≤ 2 from (Nat.le_trans (Nat.add_le_add_right hc 1) (by decide))), (show slots + 0 + 5 + 0 + 0 + 0 + 0 + 0 + 0 ≤ 17 from (Nat.le_trans (Nat.add_le_add_right hs 5) (by decide)))⟩)
  dsimp only [Pt.U, Pt.locs, Pt.cells, Pt.slots] at X72 l72 y72 z72 st72 hQ72
  have yy72 : k72 = cells + 0 + 1 + 0 + 0 + 0 + 0 + 0 + 0 := y72
  have zz72 : n72 = slots + 0 + 5 + 0 + 0 + 0 + 0 + 0 + 0 := z72
  rw [yy72, zz72, l72] at X72
  obtain ⟨rfl, N72q, e72⟩ := hQ72
  have N72 := Fr.app N69 N72q
  refine own_step (fun t k => st72.trans k) ?_
  show own_Fin p e below s Q 2 17 (T72.setTop (mkF m 50 #[.val (.ref o0), .val (.ref o1), .val (.int (2 : Int32))] [(.ref r2), (.int (gf68 ((2 : Int32)).toNatClampNeg)), (.int (3 : Int32)), (.ref b55)]))
  obtain ⟨T73, X73, e73, st73⟩ := castY X72 hx hZ hown (hw _ (List.mem_of_getElem? (i := 111) rfl)) e72 (Ins.of_exa Xa68_r2 (hw _ (List.mem_of_getElem? (i := 112) rfl))) (g := (mkF m 50 #[.val (.ref o0), .val (.ref o1), .val (.int (2 : Int32))] [(.ref r2), (.int (gf68 ((2 : Int32)).toNatClampNeg)), (.int (3 : Int32)), (.ref b55)])) rfl rfl (hb hby d12_50)
  refine own_step st73 ?_
  show own_Fin p e below s Q 2 17 (T73.setTop (mkF m 53 #[.val (.ref o0), .val (.ref o1), .val (.int (2 : Int32))] [(.ref r2), (.int (gf68 ((2 : Int32)).toNatClampNeg)), (.int (3 : Int32)), (.ref b55)]))
  obtain ⟨ca53, Ar53, Sz53, Ht53⟩ := id V68_r2
  refine own_step (X73.arraylength hx (by rw [e73]; exact Ar53.1) (State.isArrayOf_alike hZ.alike Ar53.2.1) (g := (mkF m 53 #[.val (.ref o0), .val (.ref o1), .val (.int (2 : Int32))] [(.ref r2), (.int (gf68 ((2 : Int32)).toNatClampNeg)), (.int (3 : Int32)), (.ref b55)])) rfl rfl (hb hby d12_53)) ?_
  rw [Sz53]
  show own_Fin p e below s Q 2 17 (T73.setTop (mkF m 54 #[.val (.ref o0), .val (.ref o1), .val (.int (2 : Int32))] [(.int (z2.toInt32)), (.int (gf68 ((2 : Int32)).toNatClampNeg)), (.int (3 : Int32)), (.ref b55)]))
  refine own_step (fun t k => XS.iadd X73.here hx rfl (hb hby d12_54) rfl k) ?_
  show own_Fin p e below s Q 2 17 (T73.setTop (mkF m 55 #[.val (.ref o0), .val (.ref o1), .val (.int (2 : Int32))] [(.int ((gf68 ((2 : Int32)).toNatClampNeg) + (z2.toInt32))), (.int (3 : Int32)), (.ref b55)]))
  obtain ⟨ca74, Ar74, Sz74, Ht74⟩ := id V68
  have hin74 : ¬ ((3 : Int32) < 0 ∨ ca74.slots.size ≤ ((3 : Int32)).toNatClampNeg) := by rw [Sz74]; exact (by decide)
  obtain ⟨T74, h74, X74, e74, W74, st74⟩ := stI X73 hx hZ e73 Ar74 (j := (3 : Int32)) hin74 (g := (mkF m 55 #[.val (.ref o0), .val (.ref o1), .val (.int (2 : Int32))] [(.int ((gf68 ((2 : Int32)).toNatClampNeg) + (z2.toInt32))), (.int (3 : Int32)), (.ref b55)])) rfl rfl (hb hby d12_55)
  have V74 : own_AF Z h74 b55 .int 5 (fun i => if i = 3 then ((gf68 ((2 : Int32)).toNatClampNeg) + (z2.toInt32)) else gf68 i) := own_AFset Ar74 Sz74 Ht74 W74
  obtain ⟨gf74, hgf74⟩ : ∃ g' : Nat → Int32, g' = (fun i => if i = 3 then ((gf68 ((2 : Int32)).toNatClampNeg) + (z2.toInt32)) else gf68 i) := ⟨_, rfl⟩
  rw [← hgf74] at V74
  have N74 := Fr.snoc X74 N72 fr55
  have Z074 : n0 ≤ h74.size := Nat.le_trans Z068 (Nat.le_of_eq W74.size.symm)
  have V74_r0 := own_AFoth V68_r0 W74 ner0_55
  have V74_r1 := own_AFoth V68_r1 W74 ner1_55
  have V74_r2 := own_AFoth V68_r2 W74 ner2_55
  have V74_r3 := own_AFoth V68_r3 W74 ner3_55
  have Ex74_o1 := Ex68_o1.wr W74
  have F74_o1_modCount := F68_o1_modCount.other W74 (Or.inl neo1_55)
  have F74_o1_elementData := F68_o1_elementData.other W74 (Or.inl neo1_55)
  have F74_o1_size := F68_o1_size.other W74 (Or.inl neo1_55)
  have Ex74_o0 := Ex68_o0.wr W74
  have F74_o0_starts := F68_o0_starts.other W74 (Or.inl neo0_55)
  have F74_o0_values := F68_o0_values.other W74 (Or.inl neo0_55)
  have Xa74_r0 := Xa68_r0.wr W74
  have Xa74_r1 := Xa68_r1.wr W74
  have Xa74_r2 := Xa68_r2.wr W74
  have Xa74_r3 := Xa68_r3.wr W74
  have Xa74_b55 := Xa68_b55.wr W74
  have R74_ea := own_RFoth R68_ea W74 neea_55
  have K74 : Keep h h74 [o0] := K68.wr W74 (Or.inr sz55)
  refine own_step st74 ?_
  show own_Fin p e below s Q 2 17 (T74.setTop (mkF m 56 #[.val (.ref o0), .val (.ref o1), .val (.int (2 : Int32))] []))
  refine own_step (fun t k => XS.iinc X74.here hx rfl (hb hby d12_56) rfl (l' := #[.val (.ref o0), .val (.ref o1), .val (.int (3 : Int32))]) rfl k) ?_
  show own_Fin p e below s Q 2 17 (T74.setTop (mkF m 59 #[.val (.ref o0), .val (.ref o1), .val (.int (3 : Int32))] []))
  refine own_step (fun t k => XS.goto X74.here hx rfl (pc0 := 59) (pc' := 20) rfl (hb hby d12_59) (by decide) (by decide) k) ?_
  show own_Fin p e below s Q 2 17 (T74.setTop (mkF m 20 #[.val (.ref o0), .val (.ref o1), .val (.int (3 : Int32))] []))
  refine own_step (fun t k => XS.iloadN X74.here hx rfl (hb hby d12_20) rfl  k) ?_
  show own_Fin p e below s Q 2 17 (T74.setTop (mkF m 21 #[.val (.ref o0), .val (.ref o1), .val (.int (3 : Int32))] [(.int (3 : Int32))]))
  refine own_step (fun t k => XS.aloadN X74.here hx rfl (hb hby d12_21) rfl rfl k) ?_
  show own_Fin p e below s Q 2 17 (T74.setTop (mkF m 22 #[.val (.ref o0), .val (.ref o1), .val (.int (3 : Int32))] [(.ref o1), (.int (3 : Int32))]))
  obtain ⟨cq75, kq75, q75a, q75b, q75c⟩ := isOf hZ e74 Ex74_o1
  obtain ⟨_, _, ⟨T75, L75, k75, n75⟩, -, X75, ⟨Lc75, hQ75, l75, y75, z75⟩, st75⟩ := X74.interfaceBack hx (xi := (⟨"java/util/List", "size", "()I"⟩ : MethodName)) (y := (⟨"java/util/ArrayList", "size", "()I"⟩ : MethodName)) hown (mvT hZ (hw _ (List.mem_of_getElem? (i := 80) rfl))) (mvT hZ (hw _ (List.mem_of_getElem? (i := 81) rfl))) (mvT hZ (hw _ (List.mem_of_getElem? (i := 82) rfl))) (mvT hZ (hw _ (List.mem_of_getElem? (i := 83) rfl))) (mvT hZ (hw _ (List.mem_of_getElem? (i := 84) rfl))) (mvT hZ (hw _ (List.mem_of_getElem? (i := 85) rfl))) (mvT hZ (hw _ (List.mem_of_getElem? (i := 86) rfl))) (mvT hZ (hw _ (List.mem_of_getElem? (i := 38) rfl))) (by decide) (backOf (W := 1) (rm13 l Z a0 hw [] o1 (4 : Int32) h74 n0 F74_o1_size) hZ (hw _ (List.mem_of_getElem? (i := 87) rfl)) (hw _ (List.mem_of_getElem? (i := 2) rfl)) (by decide) (by decide)) q75a q75b q75c (g := (mkF m 22 #[.val (.ref o0), .val (.ref o1), .val (.int (3 : Int32))] [(.ref o1), (.int (3 : Int32))])) rfl (by rw [hml]; rfl) (Steps.refl _) (argsL := []) (rest := [(.int (3 : Int32))]) (lenOf pdm_6 rfl) rfl (by show 2 * 0 + _ ≤ _; exact Nat.le_of_eq rfl) (hb hby d12_22) (fun _ _ => ⟨rfl, e74, (show cells + 0 + 1 + 0 + 0 + 0 + 0 + 0 + 0 + 0 ≤ 2 from (Nat.le_trans (Nat.add_le_add_right hc 1) (by decide))), (show slots + 0 + 5 + 0 + 0 + 0 + 0 + 0 + 0 + 0 ≤ 17 from (Nat.le_trans (Nat.add_le_add_right hs 5) (by decide)))⟩)
  dsimp only [Pt.U, Pt.locs, Pt.cells, Pt.slots] at X75 l75 y75 z75 st75 hQ75
  have yy75 : k75 = cells + 0 + 1 + 0 + 0 + 0 + 0 + 0 + 0 + 0 := y75
  have zz75 : n75 = slots + 0 + 5 + 0 + 0 + 0 + 0 + 0 + 0 + 0 := z75
  rw [yy75, zz75, l75] at X75
  obtain ⟨rfl, N75q, e75⟩ := hQ75
  have N75 := Fr.app N74 N75q
  refine own_step (fun t k => st75.trans k) ?_
  show own_Fin p e below s Q 2 17 (T75.setTop (mkF m 27 #[.val (.ref o0), .val (.ref o1), .val (.int (3 : Int32))] [(.int (4 : Int32)), (.int (3 : Int32))]))
  refine own_step (fun t k => XS.icmpNo X75.here hx rfl (hb hby d12_27) rfl (tlt (by decide : (3 : Int32) < (4 : Int32))).2.1 k) ?_
  show own_Fin p e below s Q 2 17 (T75.setTop (mkF m 30 #[.val (.ref o0), .val (.ref o1), .val (.int (3 : Int32))] []))
  refine own_step (fun t k => XS.aloadN X75.here hx rfl (hb hby d12_30) rfl rfl k) ?_
  show own_Fin p e below s Q 2 17 (T75.setTop (mkF m 31 #[.val (.ref o0), .val (.ref o1), .val (.int (3 : Int32))] [(.ref o0)]))
  obtain ⟨T76, X76, e76, st76⟩ := getF X75 hx hZ hown (host := "") (Or.inl (hw _ (List.mem_of_getElem? (i := 88) rfl))) Via.refl e75 F74_o0_starts (g := (mkF m 31 #[.val (.ref o0), .val (.ref o1), .val (.int (3 : Int32))] [(.ref o0)])) rfl rfl (hb hby d12_31)
  refine own_step st76 ?_
  show own_Fin p e below s Q 2 17 (T76.setTop (mkF m 34 #[.val (.ref o0), .val (.ref o1), .val (.int (3 : Int32))] [(.ref b55)]))
  refine own_step (fun t k => XS.iloadN X76.here hx rfl (hb hby d12_34) rfl  k) ?_
  show own_Fin p e below s Q 2 17 (T76.setTop (mkF m 35 #[.val (.ref o0), .val (.ref o1), .val (.int (3 : Int32))] [(.int (3 : Int32)), (.ref b55)]))
  refine own_step (fun t k => XS.iconst X76.here hx rfl (hb hby d12_35) k) ?_
  show own_Fin p e below s Q 2 17 (T76.setTop (mkF m 36 #[.val (.ref o0), .val (.ref o1), .val (.int (3 : Int32))] [(.int (1 : Int32)), (.int (3 : Int32)), (.ref b55)]))
  refine own_step (fun t k => XS.iadd X76.here hx rfl (hb hby d12_36) rfl k) ?_
  show own_Fin p e below s Q 2 17 (T76.setTop (mkF m 37 #[.val (.ref o0), .val (.ref o1), .val (.int (3 : Int32))] [(.int (4 : Int32)), (.ref b55)]))
  refine own_step (fun t k => XS.aloadN X76.here hx rfl (hb hby d12_37) rfl rfl k) ?_
  show own_Fin p e below s Q 2 17 (T76.setTop (mkF m 38 #[.val (.ref o0), .val (.ref o1), .val (.int (3 : Int32))] [(.ref o0), (.int (4 : Int32)), (.ref b55)]))
  obtain ⟨T77, X77, e77, st77⟩ := getF X76 hx hZ hown (host := "") (Or.inl (hw _ (List.mem_of_getElem? (i := 88) rfl))) Via.refl e76 F74_o0_starts (g := (mkF m 38 #[.val (.ref o0), .val (.ref o1), .val (.int (3 : Int32))] [(.ref o0), (.int (4 : Int32)), (.ref b55)])) rfl rfl (hb hby d12_38)
  refine own_step st77 ?_
  show own_Fin p e below s Q 2 17 (T77.setTop (mkF m 41 #[.val (.ref o0), .val (.ref o1), .val (.int (3 : Int32))] [(.ref b55), (.int (4 : Int32)), (.ref b55)]))
  refine own_step (fun t k => XS.iloadN X77.here hx rfl (hb hby d12_41) rfl  k) ?_
  show own_Fin p e below s Q 2 17 (T77.setTop (mkF m 42 #[.val (.ref o0), .val (.ref o1), .val (.int (3 : Int32))] [(.int (3 : Int32)), (.ref b55), (.int (4 : Int32)), (.ref b55)]))
  obtain ⟨ca42, Ar42, Sz42, Ht42⟩ := id V74
  have hin42 : ¬ ((3 : Int32) < 0 ∨ ca42.slots.size ≤ ((3 : Int32)).toNatClampNeg) := by rw [Sz42]; exact (by decide)
  refine own_step (X77.iaload hx (j := (3 : Int32)) (v := (.int (gf74 ((3 : Int32)).toNatClampNeg))) (by rw [e77]; exact Ar42.1) (State.isArrayOf_alike hZ.alike Ar42.2.1) Ar42.2.2 hin42 (Ht42 _ (by have hq := Nat.lt_of_not_le (fun y => hin42 (Or.inr y)); rw [Sz42] at hq; exact hq)) (g := (mkF m 42 #[.val (.ref o0), .val (.ref o1), .val (.int (3 : Int32))] [(.int (3 : Int32)), (.ref b55), (.int (4 : Int32)), (.ref b55)])) rfl rfl (hb hby d12_42)) ?_
  show own_Fin p e below s Q 2 17 (T77.setTop (mkF m 43 #[.val (.ref o0), .val (.ref o1), .val (.int (3 : Int32))] [(.int (gf74 ((3 : Int32)).toNatClampNeg)), (.int (4 : Int32)), (.ref b55)]))
  refine own_step (fun t k => XS.aloadN X77.here hx rfl (hb hby d12_43) rfl rfl k) ?_
  show own_Fin p e below s Q 2 17 (T77.setTop (mkF m 44 #[.val (.ref o0), .val (.ref o1), .val (.int (3 : Int32))] [(.ref o1), (.int (gf74 ((3 : Int32)).toNatClampNeg)), (.int (4 : Int32)), (.ref b55)]))
  refine own_step (fun t k => XS.iloadN X77.here hx rfl (hb hby d12_44) rfl  k) ?_
  show own_Fin p e below s Q 2 17 (T77.setTop (mkF m 45 #[.val (.ref o0), .val (.ref o1), .val (.int (3 : Int32))] [(.int (3 : Int32)), (.ref o1), (.int (gf74 ((3 : Int32)).toNatClampNeg)), (.int (4 : Int32)), (.ref b55)]))
  obtain ⟨cq78, kq78, q78a, q78b, q78c⟩ := isOf hZ e77 Ex74_o1
  obtain ⟨_, _, ⟨T78, L78, k78, n78⟩, -, X78, ⟨Lc78, hQ78, l78, y78, z78⟩, st78⟩ := X77.interfaceBack hx (xi := (⟨"java/util/List", "get", "(I)Ljava/lang/Object;"⟩ : MethodName)) (y := (⟨"java/util/ArrayList", "get", "(I)Ljava/lang/Object;"⟩ : MethodName)) hown (mvT hZ (hw _ (List.mem_of_getElem? (i := 90) rfl))) (mvT hZ (hw _ (List.mem_of_getElem? (i := 91) rfl))) (mvT hZ (hw _ (List.mem_of_getElem? (i := 92) rfl))) (mvT hZ (hw _ (List.mem_of_getElem? (i := 93) rfl))) (mvT hZ (hw _ (List.mem_of_getElem? (i := 94) rfl))) (mvT hZ (hw _ (List.mem_of_getElem? (i := 95) rfl))) (mvT hZ (hw _ (List.mem_of_getElem? (i := 96) rfl))) (mvT hZ (hw _ (List.mem_of_getElem? (i := 38) rfl))) (by decide) (backOf (W := 3) (rm14 l Z a0 hw [] o1 (3 : Int32) ea gE r3 (4 : Int32) h74 n0 Ex74_o1 F74_o1_size F74_o1_elementData R74_ea (by unfold own_In; decide) hg3 (by decide) (by decide)) hZ (hw _ (List.mem_of_getElem? (i := 97) rfl)) (hw _ (List.mem_of_getElem? (i := 2) rfl)) (by decide) (by decide)) q78a q78b q78c (g := (mkF m 45 #[.val (.ref o0), .val (.ref o1), .val (.int (3 : Int32))] [(.int (3 : Int32)), (.ref o1), (.int (gf74 ((3 : Int32)).toNatClampNeg)), (.int (4 : Int32)), (.ref b55)])) rfl (by rw [hml]; rfl) (Steps.refl _) (argsL := [(.int (3 : Int32))]) (rest := [(.int (gf74 ((3 : Int32)).toNatClampNeg)), (.int (4 : Int32)), (.ref b55)]) (lenOf pdm_8 rfl) rfl (by show 2 * 0 + _ ≤ _; exact Nat.le_of_eq rfl) (hb hby d12_45) (fun _ _ => ⟨rfl, e77, (show cells + 0 + 1 + 0 + 0 + 0 + 0 + 0 + 0 + 0 + 0 ≤ 2 from (Nat.le_trans (Nat.add_le_add_right hc 1) (by decide))), (show slots + 0 + 5 + 0 + 0 + 0 + 0 + 0 + 0 + 0 + 0 ≤ 17 from (Nat.le_trans (Nat.add_le_add_right hs 5) (by decide)))⟩)
  dsimp only [Pt.U, Pt.locs, Pt.cells, Pt.slots] at X78 l78 y78 z78 st78 hQ78
  have yy78 : k78 = cells + 0 + 1 + 0 + 0 + 0 + 0 + 0 + 0 + 0 + 0 := y78
  have zz78 : n78 = slots + 0 + 5 + 0 + 0 + 0 + 0 + 0 + 0 + 0 + 0 := z78
  rw [yy78, zz78, l78] at X78
  obtain ⟨rfl, N78q, e78⟩ := hQ78
  have N78 := Fr.app N75 N78q
  refine own_step (fun t k => st78.trans k) ?_
  show own_Fin p e below s Q 2 17 (T78.setTop (mkF m 50 #[.val (.ref o0), .val (.ref o1), .val (.int (3 : Int32))] [(.ref r3), (.int (gf74 ((3 : Int32)).toNatClampNeg)), (.int (4 : Int32)), (.ref b55)]))
  obtain ⟨T79, X79, e79, st79⟩ := castY X78 hx hZ hown (hw _ (List.mem_of_getElem? (i := 111) rfl)) e78 (Ins.of_exa Xa74_r3 (hw _ (List.mem_of_getElem? (i := 112) rfl))) (g := (mkF m 50 #[.val (.ref o0), .val (.ref o1), .val (.int (3 : Int32))] [(.ref r3), (.int (gf74 ((3 : Int32)).toNatClampNeg)), (.int (4 : Int32)), (.ref b55)])) rfl rfl (hb hby d12_50)
  refine own_step st79 ?_
  show own_Fin p e below s Q 2 17 (T79.setTop (mkF m 53 #[.val (.ref o0), .val (.ref o1), .val (.int (3 : Int32))] [(.ref r3), (.int (gf74 ((3 : Int32)).toNatClampNeg)), (.int (4 : Int32)), (.ref b55)]))
  obtain ⟨ca53, Ar53, Sz53, Ht53⟩ := id V74_r3
  refine own_step (X79.arraylength hx (by rw [e79]; exact Ar53.1) (State.isArrayOf_alike hZ.alike Ar53.2.1) (g := (mkF m 53 #[.val (.ref o0), .val (.ref o1), .val (.int (3 : Int32))] [(.ref r3), (.int (gf74 ((3 : Int32)).toNatClampNeg)), (.int (4 : Int32)), (.ref b55)])) rfl rfl (hb hby d12_53)) ?_
  rw [Sz53]
  show own_Fin p e below s Q 2 17 (T79.setTop (mkF m 54 #[.val (.ref o0), .val (.ref o1), .val (.int (3 : Int32))] [(.int (z3.toInt32)), (.int (gf74 ((3 : Int32)).toNatClampNeg)), (.int (4 : Int32)), (.ref b55)]))
  refine own_step (fun t k => XS.iadd X79.here hx rfl (hb hby d12_54) rfl k) ?_
  show own_Fin p e below s Q 2 17 (T79.setTop (mkF m 55 #[.val (.ref o0), .val (.ref o1), .val (.int (3 : Int32))] [(.int ((gf74 ((3 : Int32)).toNatClampNeg) + (z3.toInt32))), (.int (4 : Int32)), (.ref b55)]))
  obtain ⟨ca80, Ar80, Sz80, Ht80⟩ := id V74
  have hin80 : ¬ ((4 : Int32) < 0 ∨ ca80.slots.size ≤ ((4 : Int32)).toNatClampNeg) := by rw [Sz80]; exact (by decide)
  obtain ⟨T80, h80, X80, e80, W80, st80⟩ := stI X79 hx hZ e79 Ar80 (j := (4 : Int32)) hin80 (g := (mkF m 55 #[.val (.ref o0), .val (.ref o1), .val (.int (3 : Int32))] [(.int ((gf74 ((3 : Int32)).toNatClampNeg) + (z3.toInt32))), (.int (4 : Int32)), (.ref b55)])) rfl rfl (hb hby d12_55)
  have V80 : own_AF Z h80 b55 .int 5 (fun i => if i = 4 then ((gf74 ((3 : Int32)).toNatClampNeg) + (z3.toInt32)) else gf74 i) := own_AFset Ar80 Sz80 Ht80 W80
  obtain ⟨gf80, hgf80⟩ : ∃ g' : Nat → Int32, g' = (fun i => if i = 4 then ((gf74 ((3 : Int32)).toNatClampNeg) + (z3.toInt32)) else gf74 i) := ⟨_, rfl⟩
  rw [← hgf80] at V80
  have N80 := Fr.snoc X80 N78 fr55
  have Z080 : n0 ≤ h80.size := Nat.le_trans Z074 (Nat.le_of_eq W80.size.symm)
  have V80_r0 := own_AFoth V74_r0 W80 ner0_55
  have V80_r1 := own_AFoth V74_r1 W80 ner1_55
  have V80_r2 := own_AFoth V74_r2 W80 ner2_55
  have V80_r3 := own_AFoth V74_r3 W80 ner3_55
  have Ex80_o1 := Ex74_o1.wr W80
  have F80_o1_modCount := F74_o1_modCount.other W80 (Or.inl neo1_55)
  have F80_o1_elementData := F74_o1_elementData.other W80 (Or.inl neo1_55)
  have F80_o1_size := F74_o1_size.other W80 (Or.inl neo1_55)
  have Ex80_o0 := Ex74_o0.wr W80
  have F80_o0_starts := F74_o0_starts.other W80 (Or.inl neo0_55)
  have F80_o0_values := F74_o0_values.other W80 (Or.inl neo0_55)
  have Xa80_r0 := Xa74_r0.wr W80
  have Xa80_r1 := Xa74_r1.wr W80
  have Xa80_r2 := Xa74_r2.wr W80
  have Xa80_r3 := Xa74_r3.wr W80
  have Xa80_b55 := Xa74_b55.wr W80
  have R80_ea := own_RFoth R74_ea W80 neea_55
  have K80 : Keep h h80 [o0] := K74.wr W80 (Or.inr sz55)
  refine own_step st80 ?_
  show own_Fin p e below s Q 2 17 (T80.setTop (mkF m 56 #[.val (.ref o0), .val (.ref o1), .val (.int (3 : Int32))] []))
  refine own_step (fun t k => XS.iinc X80.here hx rfl (hb hby d12_56) rfl (l' := #[.val (.ref o0), .val (.ref o1), .val (.int (4 : Int32))]) rfl k) ?_
  show own_Fin p e below s Q 2 17 (T80.setTop (mkF m 59 #[.val (.ref o0), .val (.ref o1), .val (.int (4 : Int32))] []))
  refine own_step (fun t k => XS.goto X80.here hx rfl (pc0 := 59) (pc' := 20) rfl (hb hby d12_59) (by decide) (by decide) k) ?_
  show own_Fin p e below s Q 2 17 (T80.setTop (mkF m 20 #[.val (.ref o0), .val (.ref o1), .val (.int (4 : Int32))] []))
  refine own_step (fun t k => XS.iloadN X80.here hx rfl (hb hby d12_20) rfl  k) ?_
  show own_Fin p e below s Q 2 17 (T80.setTop (mkF m 21 #[.val (.ref o0), .val (.ref o1), .val (.int (4 : Int32))] [(.int (4 : Int32))]))
  refine own_step (fun t k => XS.aloadN X80.here hx rfl (hb hby d12_21) rfl rfl k) ?_
  show own_Fin p e below s Q 2 17 (T80.setTop (mkF m 22 #[.val (.ref o0), .val (.ref o1), .val (.int (4 : Int32))] [(.ref o1), (.int (4 : Int32))]))
  obtain ⟨cq81, kq81, q81a, q81b, q81c⟩ := isOf hZ e80 Ex80_o1
  obtain ⟨_, _, ⟨T81, L81, k81, n81⟩, -, X81, ⟨Lc81, hQ81, l81, y81, z81⟩, st81⟩ := X80.interfaceBack hx (xi := (⟨"java/util/List", "size", "()I"⟩ : MethodName)) (y := (⟨"java/util/ArrayList", "size", "()I"⟩ : MethodName)) hown (mvT hZ (hw _ (List.mem_of_getElem? (i := 80) rfl))) (mvT hZ (hw _ (List.mem_of_getElem? (i := 81) rfl))) (mvT hZ (hw _ (List.mem_of_getElem? (i := 82) rfl))) (mvT hZ (hw _ (List.mem_of_getElem? (i := 83) rfl))) (mvT hZ (hw _ (List.mem_of_getElem? (i := 84) rfl))) (mvT hZ (hw _ (List.mem_of_getElem? (i := 85) rfl))) (mvT hZ (hw _ (List.mem_of_getElem? (i := 86) rfl))) (mvT hZ (hw _ (List.mem_of_getElem? (i := 38) rfl))) (by decide) (backOf (W := 1) (rm13 l Z a0 hw [] o1 (4 : Int32) h80 n0 F80_o1_size) hZ (hw _ (List.mem_of_getElem? (i := 87) rfl)) (hw _ (List.mem_of_getElem? (i := 2) rfl)) (by decide) (by decide)) q81a q81b q81c (g := (mkF m 22 #[.val (.ref o0), .val (.ref o1), .val (.int (4 : Int32))] [(.ref o1), (.int (4 : Int32))])) rfl (by rw [hml]; rfl) (Steps.refl _) (argsL := []) (rest := [(.int (4 : Int32))]) (lenOf pdm_6 rfl) rfl (by show 2 * 0 + _ ≤ _; exact Nat.le_of_eq rfl) (hb hby d12_22) (fun _ _ => ⟨rfl, e80, (show cells + 0 + 1 + 0 + 0 + 0 + 0 + 0 + 0 + 0 + 0 + 0 ≤ 2 from (Nat.le_trans (Nat.add_le_add_right hc 1) (by decide))), (show slots + 0 + 5 + 0 + 0 + 0 + 0 + 0 + 0 + 0 + 0 + 0 ≤ 17 from (Nat.le_trans (Nat.add_le_add_right hs 5) (by decide)))⟩)
  dsimp only [Pt.U, Pt.locs, Pt.cells, Pt.slots] at X81 l81 y81 z81 st81 hQ81
  have yy81 : k81 = cells + 0 + 1 + 0 + 0 + 0 + 0 + 0 + 0 + 0 + 0 + 0 := y81
  have zz81 : n81 = slots + 0 + 5 + 0 + 0 + 0 + 0 + 0 + 0 + 0 + 0 + 0 := z81
  rw [yy81, zz81, l81] at X81
  obtain ⟨rfl, N81q, e81⟩ := hQ81
  have N81 := Fr.app N80 N81q
  refine own_step (fun t k => st81.trans k) ?_
  show own_Fin p e below s Q 2 17 (T81.setTop (mkF m 27 #[.val (.ref o0), .val (.ref o1), .val (.int (4 : Int32))] [(.int (4 : Int32)), (.int (4 : Int32))]))
  refine own_step (fun t k => XS.icmpYes X81.here hx rfl (pc0 := 27) (pc' := 62) rfl (hb hby d12_27) rfl (flt (by decide : ¬ ((4 : Int32) < (4 : Int32)))).2.1 (by decide) (by decide) k) ?_
  show own_Fin p e below s Q 2 17 (T81.setTop (mkF m 62 #[.val (.ref o0), .val (.ref o1), .val (.int (4 : Int32))] []))
  refine own_step (fun t k => XS.aloadN X81.here hx rfl (hb hby d12_62) rfl rfl k) ?_
  show own_Fin p e below s Q 2 17 (T81.setTop (mkF m 63 #[.val (.ref o0), .val (.ref o1), .val (.int (4 : Int32))] [(.ref o0)]))
  refine own_step (fun t k => XS.aloadN X81.here hx rfl (hb hby d12_63) rfl rfl k) ?_
  show own_Fin p e below s Q 2 17 (T81.setTop (mkF m 64 #[.val (.ref o0), .val (.ref o1), .val (.int (4 : Int32))] [(.ref o0), (.ref o0)]))
  obtain ⟨T82, X82, e82, st82⟩ := getF X81 hx hZ hown (host := "") (Or.inl (hw _ (List.mem_of_getElem? (i := 88) rfl))) Via.refl e81 F80_o0_starts (g := (mkF m 64 #[.val (.ref o0), .val (.ref o1), .val (.int (4 : Int32))] [(.ref o0), (.ref o0)])) rfl rfl (hb hby d12_64)
  refine own_step st82 ?_
  show own_Fin p e below s Q 2 17 (T82.setTop (mkF m 67 #[.val (.ref o0), .val (.ref o1), .val (.int (4 : Int32))] [(.ref b55), (.ref o0)]))
  refine own_step (fun t k => XS.aloadN X82.here hx rfl (hb hby d12_67) rfl rfl k) ?_
  show own_Fin p e below s Q 2 17 (T82.setTop (mkF m 68 #[.val (.ref o0), .val (.ref o1), .val (.int (4 : Int32))] [(.ref o1), (.ref b55), (.ref o0)]))
  obtain ⟨cq83, kq83, q83a, q83b, q83c⟩ := isOf hZ e82 Ex80_o1
  obtain ⟨_, _, ⟨T83, L83, k83, n83⟩, -, X83, ⟨Lc83, hQ83, l83, y83, z83⟩, st83⟩ := X82.interfaceBack hx (xi := (⟨"java/util/List", "size", "()I"⟩ : MethodName)) (y := (⟨"java/util/ArrayList", "size", "()I"⟩ : MethodName)) hown (mvT hZ (hw _ (List.mem_of_getElem? (i := 80) rfl))) (mvT hZ (hw _ (List.mem_of_getElem? (i := 81) rfl))) (mvT hZ (hw _ (List.mem_of_getElem? (i := 82) rfl))) (mvT hZ (hw _ (List.mem_of_getElem? (i := 83) rfl))) (mvT hZ (hw _ (List.mem_of_getElem? (i := 84) rfl))) (mvT hZ (hw _ (List.mem_of_getElem? (i := 85) rfl))) (mvT hZ (hw _ (List.mem_of_getElem? (i := 86) rfl))) (mvT hZ (hw _ (List.mem_of_getElem? (i := 38) rfl))) (by decide) (backOf (W := 2) (rm13 l Z a0 hw [] o1 (4 : Int32) h80 n0 F80_o1_size) hZ (hw _ (List.mem_of_getElem? (i := 87) rfl)) (hw _ (List.mem_of_getElem? (i := 2) rfl)) (by decide) (by decide)) q83a q83b q83c (g := (mkF m 68 #[.val (.ref o0), .val (.ref o1), .val (.int (4 : Int32))] [(.ref o1), (.ref b55), (.ref o0)])) rfl (by rw [hml]; rfl) (Steps.refl _) (argsL := []) (rest := [(.ref b55), (.ref o0)]) (lenOf pdm_6 rfl) rfl (by show 2 * 0 + _ ≤ _; exact Nat.le_of_eq rfl) (hb hby d12_68) (fun _ _ => ⟨rfl, e82, (show cells + 0 + 1 + 0 + 0 + 0 + 0 + 0 + 0 + 0 + 0 + 0 + 0 ≤ 2 from (Nat.le_trans (Nat.add_le_add_right hc 1) (by decide))), (show slots + 0 + 5 + 0 + 0 + 0 + 0 + 0 + 0 + 0 + 0 + 0 + 0 ≤ 17 from (Nat.le_trans (Nat.add_le_add_right hs 5) (by decide)))⟩)
  dsimp only [Pt.U, Pt.locs, Pt.cells, Pt.slots] at X83 l83 y83 z83 st83 hQ83
  have yy83 : k83 = cells + 0 + 1 + 0 + 0 + 0 + 0 + 0 + 0 + 0 + 0 + 0 + 0 := y83
  have zz83 : n83 = slots + 0 + 5 + 0 + 0 + 0 + 0 + 0 + 0 + 0 + 0 + 0 + 0 := z83
  rw [yy83, zz83, l83] at X83
  obtain ⟨rfl, N83q, e83⟩ := hQ83
  have N83 := Fr.app N81 N83q
  refine own_step (fun t k => st83.trans k) ?_
  show own_Fin p e below s Q 2 17 (T83.setTop (mkF m 73 #[.val (.ref o0), .val (.ref o1), .val (.int (4 : Int32))] [(.int (4 : Int32)), (.ref b55), (.ref o0)]))
  obtain ⟨ca73, Ar73, Sz73, Ht73⟩ := id V80
  have hin73 : ¬ ((4 : Int32) < 0 ∨ ca73.slots.size ≤ ((4 : Int32)).toNatClampNeg) := by rw [Sz73]; exact (by decide)
  refine own_step (X83.iaload hx (j := (4 : Int32)) (v := (.int (gf80 ((4 : Int32)).toNatClampNeg))) (by rw [e83]; exact Ar73.1) (State.isArrayOf_alike hZ.alike Ar73.2.1) Ar73.2.2 hin73 (Ht73 _ (by have hq := Nat.lt_of_not_le (fun y => hin73 (Or.inr y)); rw [Sz73] at hq; exact hq)) (g := (mkF m 73 #[.val (.ref o0), .val (.ref o1), .val (.int (4 : Int32))] [(.int (4 : Int32)), (.ref b55), (.ref o0)])) rfl rfl (hb hby d12_73)) ?_
  show own_Fin p e below s Q 2 17 (T83.setTop (mkF m 74 #[.val (.ref o0), .val (.ref o1), .val (.int (4 : Int32))] [(.int (gf80 ((4 : Int32)).toNatClampNeg)), (.ref o0)]))
  obtain ⟨T84, h84, k84, X84, e84, E84, AA84, XX84, st84⟩ := newPE X83 hx hZ (hw _ (List.mem_of_getElem? (i := 30) rfl)) e83 (g := (mkF m 74 #[.val (.ref o0), .val (.ref o1), .val (.int (4 : Int32))] [(.int (gf80 ((4 : Int32)).toNatClampNeg)), (.ref o0)])) rfl (hb hby d12_74) rfl (by rw [(show (gf80 ((4 : Int32)).toNatClampNeg) = (((((0 : Int32) + (z0.toInt32)) + (z1.toInt32)) + (z2.toInt32)) + (z3.toInt32)) from (by rw [hgf80, hgf74, hgf68, hgf62]; rfl : gf80 4 = (((((0 : Int32) + (z0.toInt32)) + (z1.toInt32)) + (z2.toInt32)) + (z3.toInt32))))]; exact (own_sn4 z0 z1 z2 z3 hz0 hz1 hz2 hz3).1) (cap := 12) (by rw [(show (gf80 ((4 : Int32)).toNatClampNeg) = (((((0 : Int32) + (z0.toInt32)) + (z1.toInt32)) + (z2.toInt32)) + (z3.toInt32)) from (by rw [hgf80, hgf74, hgf68, hgf62]; rfl : gf80 4 = (((((0 : Int32) + (z0.toInt32)) + (z1.toInt32)) + (z2.toInt32)) + (z3.toInt32)))), (own_sn4 z0 z1 z2 z3 hz0 hz1 hz2 hz3).2]; omega) (by decide) (show cells + 0 + 1 + 0 + 0 + 0 + 0 + 0 + 0 + 0 + 0 + 0 + 0 + 1 ≤ 2 from (Nat.le_trans (Nat.add_le_add_right hc 2) (by decide))) (show slots + 0 + 5 + 0 + 0 + 0 + 0 + 0 + 0 + 0 + 0 + 0 + 0 + 12 ≤ 17 from (Nat.le_trans (Nat.add_le_add_right hs 17) (by decide))) (ad := "[I") (by decide)
  obtain ⟨b84, gg84⟩ : ∃ z, z = h80.size := ⟨_, rfl⟩
  rw [← gg84] at AA84 XX84 st84
  have V84 : own_AF Z h84 b84 .int ((gf80 ((4 : Int32)).toNatClampNeg)).toNatClampNeg (fun _ => 0) := own_AFnew AA84 rfl
  have fr84 : n0 ≤ b84 := Nat.le_trans Z080 (Nat.le_of_eq gg84.symm)
  have Z084 : n0 ≤ h84.size := Nat.le_trans Z080 E84.1
  have ner0_84 : r0 ≠ b84 := Nat.ne_of_lt (Nat.lt_of_lt_of_le V80_r0.lt (Nat.le_of_eq gg84.symm))
  have ner1_84 : r1 ≠ b84 := Nat.ne_of_lt (Nat.lt_of_lt_of_le V80_r1.lt (Nat.le_of_eq gg84.symm))
  have ner2_84 : r2 ≠ b84 := Nat.ne_of_lt (Nat.lt_of_lt_of_le V80_r2.lt (Nat.le_of_eq gg84.symm))
  have ner3_84 : r3 ≠ b84 := Nat.ne_of_lt (Nat.lt_of_lt_of_le V80_r3.lt (Nat.le_of_eq gg84.symm))
  have neb55_84 : b55 ≠ b84 := Nat.ne_of_lt (Nat.lt_of_lt_of_le V80.lt (Nat.le_of_eq gg84.symm))
  have neo1_84 : o1 ≠ b84 := Nat.ne_of_lt (Nat.lt_of_lt_of_le Ex80_o1.lt (Nat.le_of_eq gg84.symm))
  have neo0_84 : o0 ≠ b84 := Nat.ne_of_lt (Nat.lt_of_lt_of_le Ex80_o0.lt (Nat.le_of_eq gg84.symm))
  have sz84 : h.size ≤ b84 := Nat.le_trans K80.1 (Nat.le_of_eq gg84.symm)
  have neea_84 : ea ≠ b84 := Nat.ne_of_lt (Nat.lt_of_lt_of_le R80_ea.lt (Nat.le_of_eq gg84.symm))
  have V84_r0 := own_AFext V80_r0 E84
  have V84_r1 := own_AFext V80_r1 E84
  have V84_r2 := own_AFext V80_r2 E84
  have V84_r3 := own_AFext V80_r3 E84
  have V84_b55 := own_AFext V80 E84
  have Ex84_o1 := Ex80_o1.ext E84
  have F84_o1_modCount := F80_o1_modCount.ext E84
  have F84_o1_elementData := F80_o1_elementData.ext E84
  have F84_o1_size := F80_o1_size.ext E84
  have Ex84_o0 := Ex80_o0.ext E84
  have F84_o0_starts := F80_o0_starts.ext E84
  have F84_o0_values := F80_o0_values.ext E84
  have Xa84_r0 := Xa80_r0.ext E84
  have Xa84_r1 := Xa80_r1.ext E84
  have Xa84_r2 := Xa80_r2.ext E84
  have Xa84_r3 := Xa80_r3.ext E84
  have Xa84_b55 := Xa80_b55.ext E84
  have R84_ea := own_RFext R80_ea E84
  have K84 : Keep h h84 [o0] := K80.ext E84
  refine own_step st84 ?_
  show own_Fin p e below s Q 2 17 (T84.setTop (mkF m 76 #[.val (.ref o0), .val (.ref o1), .val (.int (4 : Int32))] [(.ref b84), (.ref o0)]))
  obtain ⟨T85, h85, X85, e85, W85, st85⟩ := putF X84 hx hZ hown (host := "") (Or.inl (hw _ (List.mem_of_getElem? (i := 113) rfl))) Via.refl e84 F84_o0_values Ex84_o0 (Or.inr ⟨(hw _ (List.mem_of_getElem? (i := 114) rfl)), rfl, hnm⟩) (hw _ (List.mem_of_getElem? (i := 74) rfl)) (ty := (.array .int)) (by decide) rfl rfl (g := (mkF m 76 #[.val (.ref o0), .val (.ref o1), .val (.int (4 : Int32))] [(.ref b84), (.ref o0)])) rfl rfl (hb hby d12_76)
  have N85 := Fr.snoc X85 N83 fr0
  have Z085 : n0 ≤ h85.size := Nat.le_trans Z084 (Nat.le_of_eq W85.size.symm)
  have V85_r0 := own_AFoth V84_r0 W85 ne0
  have V85_r1 := own_AFoth V84_r1 W85 ne1
  have V85_r2 := own_AFoth V84_r2 W85 ne2
  have V85_r3 := own_AFoth V84_r3 W85 ne3
  have V85_b55 := own_AFoth V84_b55 W85 (Ne.symm neo0_55)
  have V85_b84 := own_AFoth V84 W85 (Ne.symm neo0_84)
  have Ex85_o1 := Ex84_o1.wr W85
  have F85_o1_modCount := F84_o1_modCount.other W85 (Or.inl nel)
  have F85_o1_elementData := F84_o1_elementData.other W85 (Or.inl nel)
  have F85_o1_size := F84_o1_size.other W85 (Or.inl nel)
  have Xa85_r0 := Xa84_r0.wr W85
  have Xa85_r1 := Xa84_r1.wr W85
  have Xa85_r2 := Xa84_r2.wr W85
  have Xa85_r3 := Xa84_r3.wr W85
  have Xa85_b55 := Xa84_b55.wr W85
  have Xa85_b84 := XX84.wr W85
  have R85_ea := own_RFoth R84_ea W85 nee
  have K85 : Keep h h85 [o0] := K84.wr W85 (Or.inl (List.mem_of_getElem? (i := 0) rfl))
  have Ex85_o0 := Ex84_o0.wr W85
  have F85_o0_starts := F84_o0_starts.other W85 (Or.inr (slot_ne (Or.inr (hw _ (List.mem_of_getElem? (i := 89) rfl))) (Or.inr (hw _ (List.mem_of_getElem? (i := 114) rfl))) (by decide) (t := (.array .int)) (t' := (.array .int)) (by decide) (by decide)))
  have F85_o0_values := F84_o0_values.same W85
  refine own_step st85 ?_
  show own_Fin p e below s Q 2 17 (T85.setTop (mkF m 79 #[.val (.ref o0), .val (.ref o1), .val (.int (4 : Int32))] []))
  have es0 : gf80 0 = (0 : Int32) := by rw [hgf80, hgf74, hgf68, hgf62]; rfl
  have es1 : gf80 1 = ((0 : Int32) + (z0.toInt32)) := by rw [hgf80, hgf74, hgf68, hgf62]; rfl
  have es2 : gf80 2 = (((0 : Int32) + (z0.toInt32)) + (z1.toInt32)) := by rw [hgf80, hgf74, hgf68, hgf62]; rfl
  have es3 : gf80 3 = ((((0 : Int32) + (z0.toInt32)) + (z1.toInt32)) + (z2.toInt32)) := by rw [hgf80, hgf74, hgf68, hgf62]; rfl
  have es4 : gf80 4 = (((((0 : Int32) + (z0.toInt32)) + (z1.toInt32)) + (z2.toInt32)) + (z3.toInt32)) := by rw [hgf80, hgf74, hgf68, hgf62]; rfl
  have el : ((gf80 ((4 : Int32)).toNatClampNeg)).toNatClampNeg = 0 + z0 + z1 + z2 + z3 := (congrArg Int32.toNatClampNeg es4).trans (own_sn4 z0 z1 z2 z3 hz0 hz1 hz2 hz3).2
  rw [el] at V85_b84
  refine own_step (fun t k => XS.iconst X85.here hx rfl (hb hby d12_79) k) ?_
  show own_Fin p e below s Q 2 17 (T85.setTop (mkF m 80 #[.val (.ref o0), .val (.ref o1), .val (.int (4 : Int32))] [(.int (0 : Int32))]))
  refine own_step (fun t k => XS.istoreN X85.here hx rfl (hb hby d12_80) rfl (l' := #[.val (.ref o0), .val (.ref o1), .val (.int (0 : Int32))]) rfl k) ?_
  show own_Fin p e below s Q 2 17 (T85.setTop (mkF m 81 #[.val (.ref o0), .val (.ref o1), .val (.int (0 : Int32))] []))
  refine own_step (fun t k => XS.iloadN X85.here hx rfl (hb hby d12_81) rfl  k) ?_
  show own_Fin p e below s Q 2 17 (T85.setTop (mkF m 82 #[.val (.ref o0), .val (.ref o1), .val (.int (0 : Int32))] [(.int (0 : Int32))]))
  refine own_step (fun t k => XS.aloadN X85.here hx rfl (hb hby d12_82) rfl rfl k) ?_
  show own_Fin p e below s Q 2 17 (T85.setTop (mkF m 83 #[.val (.ref o0), .val (.ref o1), .val (.int (0 : Int32))] [(.ref o1), (.int (0 : Int32))]))
  obtain ⟨cq86, kq86, q86a, q86b, q86c⟩ := isOf hZ e85 Ex85_o1
  obtain ⟨_, _, ⟨T86, L86, k86, n86⟩, -, X86, ⟨Lc86, hQ86, l86, y86, z86⟩, st86⟩ := X85.interfaceBack hx (xi := (⟨"java/util/List", "size", "()I"⟩ : MethodName)) (y := (⟨"java/util/ArrayList", "size", "()I"⟩ : MethodName)) hown (mvT hZ (hw _ (List.mem_of_getElem? (i := 80) rfl))) (mvT hZ (hw _ (List.mem_of_getElem? (i := 81) rfl))) (mvT hZ (hw _ (List.mem_of_getElem? (i := 82) rfl))) (mvT hZ (hw _ (List.mem_of_getElem? (i := 83) rfl))) (mvT hZ (hw _ (List.mem_of_getElem? (i := 84) rfl))) (mvT hZ (hw _ (List.mem_of_getElem? (i := 85) rfl))) (mvT hZ (hw _ (List.mem_of_getElem? (i := 86) rfl))) (mvT hZ (hw _ (List.mem_of_getElem? (i := 38) rfl))) (by decide) (backOf (W := 1) (rm13 l Z a0 hw [] o1 (4 : Int32) h85 n0 F85_o1_size) hZ (hw _ (List.mem_of_getElem? (i := 87) rfl)) (hw _ (List.mem_of_getElem? (i := 2) rfl)) (by decide) (by decide)) q86a q86b q86c (g := (mkF m 83 #[.val (.ref o0), .val (.ref o1), .val (.int (0 : Int32))] [(.ref o1), (.int (0 : Int32))])) rfl (by rw [hml]; rfl) (Steps.refl _) (argsL := []) (rest := [(.int (0 : Int32))]) (lenOf pdm_6 rfl) rfl (by show 2 * 0 + _ ≤ _; exact Nat.le_of_eq rfl) (hb hby d12_83) (fun _ _ => ⟨rfl, e85, (show cells + 0 + 1 + 0 + 0 + 0 + 0 + 0 + 0 + 0 + 0 + 0 + 0 + 1 + 0 ≤ 2 from (Nat.le_trans (Nat.add_le_add_right hc 2) (by decide))), (show slots + 0 + 5 + 0 + 0 + 0 + 0 + 0 + 0 + 0 + 0 + 0 + 0 + 12 + 0 ≤ 17 from (Nat.le_trans (Nat.add_le_add_right hs 17) (by decide)))⟩)
  dsimp only [Pt.U, Pt.locs, Pt.cells, Pt.slots] at X86 l86 y86 z86 st86 hQ86
  have yy86 : k86 = cells + 0 + 1 + 0 + 0 + 0 + 0 + 0 + 0 + 0 + 0 + 0 + 0 + 1 + 0 := y86
  have zz86 : n86 = slots + 0 + 5 + 0 + 0 + 0 + 0 + 0 + 0 + 0 + 0 + 0 + 0 + 12 + 0 := z86
  rw [yy86, zz86, l86] at X86
  obtain ⟨rfl, N86q, e86⟩ := hQ86
  have N86 := Fr.app N85 N86q
  refine own_step (fun t k => st86.trans k) ?_
  show own_Fin p e below s Q 2 17 (T86.setTop (mkF m 88 #[.val (.ref o0), .val (.ref o1), .val (.int (0 : Int32))] [(.int (4 : Int32)), (.int (0 : Int32))]))
  refine own_step (fun t k => XS.icmpNo X86.here hx rfl (hb hby d12_88) rfl (tlt (by decide : (0 : Int32) < (4 : Int32))).2.1 k) ?_
  show own_Fin p e below s Q 2 17 (T86.setTop (mkF m 91 #[.val (.ref o0), .val (.ref o1), .val (.int (0 : Int32))] []))
  refine own_step (fun t k => XS.aloadN X86.here hx rfl (hb hby d12_91) rfl rfl k) ?_
  show own_Fin p e below s Q 2 17 (T86.setTop (mkF m 92 #[.val (.ref o0), .val (.ref o1), .val (.int (0 : Int32))] [(.ref o1)]))
  refine own_step (fun t k => XS.iloadN X86.here hx rfl (hb hby d12_92) rfl  k) ?_
  show own_Fin p e below s Q 2 17 (T86.setTop (mkF m 93 #[.val (.ref o0), .val (.ref o1), .val (.int (0 : Int32))] [(.int (0 : Int32)), (.ref o1)]))
  obtain ⟨cq87, kq87, q87a, q87b, q87c⟩ := isOf hZ e86 Ex85_o1
  obtain ⟨_, _, ⟨T87, L87, k87, n87⟩, -, X87, ⟨Lc87, hQ87, l87, y87, z87⟩, st87⟩ := X86.interfaceBack hx (xi := (⟨"java/util/List", "get", "(I)Ljava/lang/Object;"⟩ : MethodName)) (y := (⟨"java/util/ArrayList", "get", "(I)Ljava/lang/Object;"⟩ : MethodName)) hown (mvT hZ (hw _ (List.mem_of_getElem? (i := 90) rfl))) (mvT hZ (hw _ (List.mem_of_getElem? (i := 91) rfl))) (mvT hZ (hw _ (List.mem_of_getElem? (i := 92) rfl))) (mvT hZ (hw _ (List.mem_of_getElem? (i := 93) rfl))) (mvT hZ (hw _ (List.mem_of_getElem? (i := 94) rfl))) (mvT hZ (hw _ (List.mem_of_getElem? (i := 95) rfl))) (mvT hZ (hw _ (List.mem_of_getElem? (i := 96) rfl))) (mvT hZ (hw _ (List.mem_of_getElem? (i := 38) rfl))) (by decide) (backOf (W := 0) (rm14 l Z a0 hw [] o1 (0 : Int32) ea gE r0 (4 : Int32) h85 n0 Ex85_o1 F85_o1_size F85_o1_elementData R85_ea (by unfold own_In; decide) hg0 (by decide) (by decide)) hZ (hw _ (List.mem_of_getElem? (i := 97) rfl)) (hw _ (List.mem_of_getElem? (i := 2) rfl)) (by decide) (by decide)) q87a q87b q87c (g := (mkF m 93 #[.val (.ref o0), .val (.ref o1), .val (.int (0 : Int32))] [(.int (0 : Int32)), (.ref o1)])) rfl (by rw [hml]; rfl) (Steps.refl _) (argsL := [(.int (0 : Int32))]) (rest := []) (lenOf pdm_8 rfl) rfl (by show 2 * 0 + _ ≤ _; exact Nat.le_of_eq rfl) (hb hby d12_93) (fun _ _ => ⟨rfl, e86, (show cells + 0 + 1 + 0 + 0 + 0 + 0 + 0 + 0 + 0 + 0 + 0 + 0 + 1 + 0 + 0 ≤ 2 from (Nat.le_trans (Nat.add_le_add_right hc 2) (by decide))), (show slots + 0 + 5 + 0 + 0 + 0 + 0 + 0 + 0 + 0 + 0 + 0 + 0 + 12 + 0 + 0 ≤ 17 from (Nat.le_trans (Nat.add_le_add_right hs 17) (by decide)))⟩)
  dsimp only [Pt.U, Pt.locs, Pt.cells, Pt.slots] at X87 l87 y87 z87 st87 hQ87
  have yy87 : k87 = cells + 0 + 1 + 0 + 0 + 0 + 0 + 0 + 0 + 0 + 0 + 0 + 0 + 1 + 0 + 0 := y87
  have zz87 : n87 = slots + 0 + 5 + 0 + 0 + 0 + 0 + 0 + 0 + 0 + 0 + 0 + 0 + 12 + 0 + 0 := z87
  rw [yy87, zz87, l87] at X87
  obtain ⟨rfl, N87q, e87⟩ := hQ87
  have N87 := Fr.app N86 N87q
  refine own_step (fun t k => st87.trans k) ?_
  show own_Fin p e below s Q 2 17 (T87.setTop (mkF m 98 #[.val (.ref o0), .val (.ref o1), .val (.int (0 : Int32))] [(.ref r0)]))
  refine own_step (fun t k => XS.iconst X87.here hx rfl (hb hby d12_98) k) ?_
  show own_Fin p e below s Q 2 17 (T87.setTop (mkF m 99 #[.val (.ref o0), .val (.ref o1), .val (.int (0 : Int32))] [(.int (0 : Int32)), (.ref r0)]))
  refine own_step (fun t k => XS.aloadN X87.here hx rfl (hb hby d12_99) rfl rfl k) ?_
  show own_Fin p e below s Q 2 17 (T87.setTop (mkF m 100 #[.val (.ref o0), .val (.ref o1), .val (.int (0 : Int32))] [(.ref o0), (.int (0 : Int32)), (.ref r0)]))
  obtain ⟨T88, X88, e88, st88⟩ := getF X87 hx hZ hown (host := "") (Or.inl (hw _ (List.mem_of_getElem? (i := 113) rfl))) Via.refl e87 F85_o0_values (g := (mkF m 100 #[.val (.ref o0), .val (.ref o1), .val (.int (0 : Int32))] [(.ref o0), (.int (0 : Int32)), (.ref r0)])) rfl rfl (hb hby d12_100)
  refine own_step st88 ?_
  show own_Fin p e below s Q 2 17 (T88.setTop (mkF m 103 #[.val (.ref o0), .val (.ref o1), .val (.int (0 : Int32))] [(.ref b84), (.int (0 : Int32)), (.ref r0)]))
  refine own_step (fun t k => XS.aloadN X88.here hx rfl (hb hby d12_103) rfl rfl k) ?_
  show own_Fin p e below s Q 2 17 (T88.setTop (mkF m 104 #[.val (.ref o0), .val (.ref o1), .val (.int (0 : Int32))] [(.ref o0), (.ref b84), (.int (0 : Int32)), (.ref r0)]))
  obtain ⟨T89, X89, e89, st89⟩ := getF X88 hx hZ hown (host := "") (Or.inl (hw _ (List.mem_of_getElem? (i := 88) rfl))) Via.refl e88 F85_o0_starts (g := (mkF m 104 #[.val (.ref o0), .val (.ref o1), .val (.int (0 : Int32))] [(.ref o0), (.ref b84), (.int (0 : Int32)), (.ref r0)])) rfl rfl (hb hby d12_104)
  refine own_step st89 ?_
  show own_Fin p e below s Q 2 17 (T89.setTop (mkF m 107 #[.val (.ref o0), .val (.ref o1), .val (.int (0 : Int32))] [(.ref b55), (.ref b84), (.int (0 : Int32)), (.ref r0)]))
  refine own_step (fun t k => XS.iloadN X89.here hx rfl (hb hby d12_107) rfl  k) ?_
  show own_Fin p e below s Q 2 17 (T89.setTop (mkF m 108 #[.val (.ref o0), .val (.ref o1), .val (.int (0 : Int32))] [(.int (0 : Int32)), (.ref b55), (.ref b84), (.int (0 : Int32)), (.ref r0)]))
  obtain ⟨ca108, Ar108, Sz108, Ht108⟩ := id V85_b55
  have hin108 : ¬ ((0 : Int32) < 0 ∨ ca108.slots.size ≤ ((0 : Int32)).toNatClampNeg) := by rw [Sz108]; exact (by decide)
  refine own_step (X89.iaload hx (j := (0 : Int32)) (v := (.int (gf80 ((0 : Int32)).toNatClampNeg))) (by rw [e89]; exact Ar108.1) (State.isArrayOf_alike hZ.alike Ar108.2.1) Ar108.2.2 hin108 (Ht108 _ (by have hq := Nat.lt_of_not_le (fun y => hin108 (Or.inr y)); rw [Sz108] at hq; exact hq)) (g := (mkF m 108 #[.val (.ref o0), .val (.ref o1), .val (.int (0 : Int32))] [(.int (0 : Int32)), (.ref b55), (.ref b84), (.int (0 : Int32)), (.ref r0)])) rfl rfl (hb hby d12_108)) ?_
  show own_Fin p e below s Q 2 17 (T89.setTop (mkF m 109 #[.val (.ref o0), .val (.ref o1), .val (.int (0 : Int32))] [(.int (gf80 ((0 : Int32)).toNatClampNeg)), (.ref b84), (.int (0 : Int32)), (.ref r0)]))
  refine own_step (fun t k => XS.aloadN X89.here hx rfl (hb hby d12_109) rfl rfl k) ?_
  show own_Fin p e below s Q 2 17 (T89.setTop (mkF m 110 #[.val (.ref o0), .val (.ref o1), .val (.int (0 : Int32))] [(.ref o1), (.int (gf80 ((0 : Int32)).toNatClampNeg)), (.ref b84), (.int (0 : Int32)), (.ref r0)]))
  refine own_step (fun t k => XS.iloadN X89.here hx rfl (hb hby d12_110) rfl  k) ?_
  show own_Fin p e below s Q 2 17 (T89.setTop (mkF m 111 #[.val (.ref o0), .val (.ref o1), .val (.int (0 : Int32))] [(.int (0 : Int32)), (.ref o1), (.int (gf80 ((0 : Int32)).toNatClampNeg)), (.ref b84), (.int (0 : Int32)), (.ref r0)]))
  obtain ⟨cq90, kq90, q90a, q90b, q90c⟩ := isOf hZ e89 Ex85_o1
  obtain ⟨_, _, ⟨T90, L90, k90, n90⟩, -, X90, ⟨Lc90, hQ90, l90, y90, z90⟩, st90⟩ := X89.interfaceBack hx (xi := (⟨"java/util/List", "get", "(I)Ljava/lang/Object;"⟩ : MethodName)) (y := (⟨"java/util/ArrayList", "get", "(I)Ljava/lang/Object;"⟩ : MethodName)) hown (mvT hZ (hw _ (List.mem_of_getElem? (i := 90) rfl))) (mvT hZ (hw _ (List.mem_of_getElem? (i := 91) rfl))) (mvT hZ (hw _ (List.mem_of_getElem? (i := 92) rfl))) (mvT hZ (hw _ (List.mem_of_getElem? (i := 93) rfl))) (mvT hZ (hw _ (List.mem_of_getElem? (i := 94) rfl))) (mvT hZ (hw _ (List.mem_of_getElem? (i := 95) rfl))) (mvT hZ (hw _ (List.mem_of_getElem? (i := 96) rfl))) (mvT hZ (hw _ (List.mem_of_getElem? (i := 38) rfl))) (by decide) (backOf (W := 4) (rm14 l Z a0 hw [] o1 (0 : Int32) ea gE r0 (4 : Int32) h85 n0 Ex85_o1 F85_o1_size F85_o1_elementData R85_ea (by unfold own_In; decide) hg0 (by decide) (by decide)) hZ (hw _ (List.mem_of_getElem? (i := 97) rfl)) (hw _ (List.mem_of_getElem? (i := 2) rfl)) (by decide) (by decide)) q90a q90b q90c (g := (mkF m 111 #[.val (.ref o0), .val (.ref o1), .val (.int (0 : Int32))] [(.int (0 : Int32)), (.ref o1), (.int (gf80 ((0 : Int32)).toNatClampNeg)), (.ref b84), (.int (0 : Int32)), (.ref r0)])) rfl (by rw [hml]; rfl) (Steps.refl _) (argsL := [(.int (0 : Int32))]) (rest := [(.int (gf80 ((0 : Int32)).toNatClampNeg)), (.ref b84), (.int (0 : Int32)), (.ref r0)]) (lenOf pdm_8 rfl) rfl (by show 2 * 0 + _ ≤ _; exact Nat.le_of_eq rfl) (hb hby d12_111) (fun _ _ => ⟨rfl, e89, (show cells + 0 + 1 + 0 + 0 + 0 + 0 + 0 + 0 + 0 + 0 + 0 + 0 + 1 + 0 + 0 + 0 ≤ 2 from (Nat.le_trans (Nat.add_le_add_right hc 2) (by decide))), (show slots + 0 + 5 + 0 + 0 + 0 + 0 + 0 + 0 + 0 + 0 + 0 + 0 + 12 + 0 + 0 + 0 ≤ 17 from (Nat.le_trans (Nat.add_le_add_right hs 17) (by decide)))⟩)
  dsimp only [Pt.U, Pt.locs, Pt.cells, Pt.slots] at X90 l90 y90 z90 st90 hQ90
  have yy90 : k90 = cells + 0 + 1 + 0 + 0 + 0 + 0 + 0 + 0 + 0 + 0 + 0 + 0 + 1 + 0 + 0 + 0 := y90
  have zz90 : n90 = slots + 0 + 5 + 0 + 0 + 0 + 0 + 0 + 0 + 0 + 0 + 0 + 0 + 12 + 0 + 0 + 0 := z90
  rw [yy90, zz90, l90] at X90
  obtain ⟨rfl, N90q, e90⟩ := hQ90
  have N90 := Fr.app N87 N90q
  refine own_step (fun t k => st90.trans k) ?_
  show own_Fin p e below s Q 2 17 (T90.setTop (mkF m 116 #[.val (.ref o0), .val (.ref o1), .val (.int (0 : Int32))] [(.ref r0), (.int (gf80 ((0 : Int32)).toNatClampNeg)), (.ref b84), (.int (0 : Int32)), (.ref r0)]))
  obtain ⟨T91, X91, e91, st91⟩ := castY X90 hx hZ hown (hw _ (List.mem_of_getElem? (i := 111) rfl)) e90 (Ins.of_exa Xa85_r0 (hw _ (List.mem_of_getElem? (i := 112) rfl))) (g := (mkF m 116 #[.val (.ref o0), .val (.ref o1), .val (.int (0 : Int32))] [(.ref r0), (.int (gf80 ((0 : Int32)).toNatClampNeg)), (.ref b84), (.int (0 : Int32)), (.ref r0)])) rfl rfl (hb hby d12_116)
  refine own_step st91 ?_
  show own_Fin p e below s Q 2 17 (T91.setTop (mkF m 119 #[.val (.ref o0), .val (.ref o1), .val (.int (0 : Int32))] [(.ref r0), (.int (gf80 ((0 : Int32)).toNatClampNeg)), (.ref b84), (.int (0 : Int32)), (.ref r0)]))
  obtain ⟨ca119, Ar119, Sz119, Ht119⟩ := id V85_r0
  refine own_step (X91.arraylength hx (by rw [e91]; exact Ar119.1) (State.isArrayOf_alike hZ.alike Ar119.2.1) (g := (mkF m 119 #[.val (.ref o0), .val (.ref o1), .val (.int (0 : Int32))] [(.ref r0), (.int (gf80 ((0 : Int32)).toNatClampNeg)), (.ref b84), (.int (0 : Int32)), (.ref r0)])) rfl rfl (hb hby d12_119)) ?_
  rw [Sz119]
  show own_Fin p e below s Q 2 17 (T91.setTop (mkF m 120 #[.val (.ref o0), .val (.ref o1), .val (.int (0 : Int32))] [(.int (z0.toInt32)), (.int (gf80 ((0 : Int32)).toNatClampNeg)), (.ref b84), (.int (0 : Int32)), (.ref r0)]))
  obtain ⟨T92, h92, L92, X92, e92, N92, K92, V92, st92⟩ := own_cp X91 hx hZ hown (hw _ (List.mem_of_getElem? (i := 115) rfl)) (hw _ (List.mem_of_getElem? (i := 118) rfl)) (hw _ (List.mem_of_getElem? (i := 116) rfl)) (hw _ (List.mem_of_getElem? (i := 117) rfl)) e91 V85_r0 V85_b84 (by omega) (by omega) (by rw [(show (gf80 ((0 : Int32)).toNatClampNeg) = (0 : Int32) from es0)]; exact (own_sn0 z0 z1 z2 z3 hz0 hz1 hz2 hz3).1) (by rw [(own_zl z0 (by omega)).1]; exact Nat.le_refl _) ((own_zl z0 (by omega)).2) (by rw [(show (gf80 ((0 : Int32)).toNatClampNeg) = (0 : Int32) from es0), (own_sn0 z0 z1 z2 z3 hz0 hz1 hz2 hz3).2, (own_zl z0 (by omega)).1]; omega) N90 fr84  (g := (mkF m 120 #[.val (.ref o0), .val (.ref o1), .val (.int (0 : Int32))] [(.int (z0.toInt32)), (.int (gf80 ((0 : Int32)).toNatClampNeg)), (.ref b84), (.int (0 : Int32)), (.ref r0)])) rfl (by rw [hml]; rfl) rfl (hb hby d12_120) (by decide) (W := 0) (by show 2 * 0 + _ ≤ _; exact Nat.le_of_eq rfl) (by decide)
  have Z092 : n0 ≤ h92.size := Nat.le_trans Z085 K92.1
  obtain ⟨gf92, hgf92⟩ : ∃ g' : Nat → Int32, g' = (fun i => if ((gf80 ((0 : Int32)).toNatClampNeg)).toNatClampNeg ≤ i ∧ i < ((gf80 ((0 : Int32)).toNatClampNeg)).toNatClampNeg + ((z0.toInt32)).toNatClampNeg then g0 (i - ((gf80 ((0 : Int32)).toNatClampNeg)).toNatClampNeg) else (fun _ => 0) i) := ⟨_, rfl⟩
  rw [← hgf92] at V92
  have eh92 : T92.heap = h92 := e92
  subst e92
  have V92_r0 := own_AFkeep V85_r0 K92 (ninS ner0_84 nin0)
  have Xa92_r0 := Xa85_r0.keep K92
  have V92_r1 := own_AFkeep V85_r1 K92 (ninS ner1_84 nin0)
  have Xa92_r1 := Xa85_r1.keep K92
  have V92_r2 := own_AFkeep V85_r2 K92 (ninS ner2_84 nin0)
  have Xa92_r2 := Xa85_r2.keep K92
  have V92_r3 := own_AFkeep V85_r3 K92 (ninS ner3_84 nin0)
  have Xa92_r3 := Xa85_r3.keep K92
  have V92_b55 := own_AFkeep V85_b55 K92 (ninS neb55_84 nin0)
  have Xa92_b55 := Xa85_b55.keep K92
  have Xa92_b84 := Xa85_b84.keep K92
  have R92_ea := own_RFkeep R85_ea K92 (ninS neea_84 nin0)
  have Ex92_o1 := Ex85_o1.keep K92
  have F92_o1_modCount := F85_o1_modCount.keep K92 (ninS neo1_84 nin0)
  have F92_o1_elementData := F85_o1_elementData.keep K92 (ninS neo1_84 nin0)
  have F92_o1_size := F85_o1_size.keep K92 (ninS neo1_84 nin0)
  have Ex92_o0 := Ex85_o0.keep K92
  have F92_o0_starts := F85_o0_starts.keep K92 (ninS neo0_84 nin0)
  have F92_o0_values := F85_o0_values.keep K92 (ninS neo0_84 nin0)
  have KK92 : Keep h T92.heap [o0] := K85.trans K92 (allS (Or.inr sz84) all0)
  refine own_step st92 ?_
  show own_Fin p e below s Q 2 17 (T92.setTop (mkF m 123 #[.val (.ref o0), .val (.ref o1), .val (.int (0 : Int32))] []))
  refine own_step (fun t k => XS.iinc X92.here hx rfl (hb hby d12_123) rfl (l' := #[.val (.ref o0), .val (.ref o1), .val (.int (1 : Int32))]) rfl k) ?_
  show own_Fin p e below s Q 2 17 (T92.setTop (mkF m 126 #[.val (.ref o0), .val (.ref o1), .val (.int (1 : Int32))] []))
  refine own_step (fun t k => XS.goto X92.here hx rfl (pc0 := 126) (pc' := 81) rfl (hb hby d12_126) (by decide) (by decide) k) ?_
  show own_Fin p e below s Q 2 17 (T92.setTop (mkF m 81 #[.val (.ref o0), .val (.ref o1), .val (.int (1 : Int32))] []))
  refine own_step (fun t k => XS.iloadN X92.here hx rfl (hb hby d12_81) rfl  k) ?_
  show own_Fin p e below s Q 2 17 (T92.setTop (mkF m 82 #[.val (.ref o0), .val (.ref o1), .val (.int (1 : Int32))] [(.int (1 : Int32))]))
  refine own_step (fun t k => XS.aloadN X92.here hx rfl (hb hby d12_82) rfl rfl k) ?_
  show own_Fin p e below s Q 2 17 (T92.setTop (mkF m 83 #[.val (.ref o0), .val (.ref o1), .val (.int (1 : Int32))] [(.ref o1), (.int (1 : Int32))]))
  obtain ⟨cq93, kq93, q93a, q93b, q93c⟩ := isOf hZ rfl Ex92_o1
  obtain ⟨_, _, ⟨T93, L93, k93, n93⟩, -, X93, ⟨Lc93, hQ93, l93, y93, z93⟩, st93⟩ := X92.interfaceBack hx (xi := (⟨"java/util/List", "size", "()I"⟩ : MethodName)) (y := (⟨"java/util/ArrayList", "size", "()I"⟩ : MethodName)) hown (mvT hZ (hw _ (List.mem_of_getElem? (i := 80) rfl))) (mvT hZ (hw _ (List.mem_of_getElem? (i := 81) rfl))) (mvT hZ (hw _ (List.mem_of_getElem? (i := 82) rfl))) (mvT hZ (hw _ (List.mem_of_getElem? (i := 83) rfl))) (mvT hZ (hw _ (List.mem_of_getElem? (i := 84) rfl))) (mvT hZ (hw _ (List.mem_of_getElem? (i := 85) rfl))) (mvT hZ (hw _ (List.mem_of_getElem? (i := 86) rfl))) (mvT hZ (hw _ (List.mem_of_getElem? (i := 38) rfl))) (by decide) (backOf (W := 1) (rm13 l Z a0 hw [] o1 (4 : Int32) T92.heap n0 F92_o1_size) hZ (hw _ (List.mem_of_getElem? (i := 87) rfl)) (hw _ (List.mem_of_getElem? (i := 2) rfl)) (by decide) (by decide)) q93a q93b q93c (g := (mkF m 83 #[.val (.ref o0), .val (.ref o1), .val (.int (1 : Int32))] [(.ref o1), (.int (1 : Int32))])) rfl (by rw [hml]; rfl) (Steps.refl _) (argsL := []) (rest := [(.int (1 : Int32))]) (lenOf pdm_6 rfl) rfl (by show 2 * 0 + _ ≤ _; exact Nat.le_of_eq rfl) (hb hby d12_83) (fun _ _ => ⟨rfl, rfl, (show cells + 0 + 1 + 0 + 0 + 0 + 0 + 0 + 0 + 0 + 0 + 0 + 0 + 1 + 0 + 0 + 0 + 0 ≤ 2 from (Nat.le_trans (Nat.add_le_add_right hc 2) (by decide))), (show slots + 0 + 5 + 0 + 0 + 0 + 0 + 0 + 0 + 0 + 0 + 0 + 0 + 12 + 0 + 0 + 0 + 0 ≤ 17 from (Nat.le_trans (Nat.add_le_add_right hs 17) (by decide)))⟩)
  dsimp only [Pt.U, Pt.locs, Pt.cells, Pt.slots] at X93 l93 y93 z93 st93 hQ93
  have yy93 : k93 = cells + 0 + 1 + 0 + 0 + 0 + 0 + 0 + 0 + 0 + 0 + 0 + 0 + 1 + 0 + 0 + 0 + 0 := y93
  have zz93 : n93 = slots + 0 + 5 + 0 + 0 + 0 + 0 + 0 + 0 + 0 + 0 + 0 + 0 + 12 + 0 + 0 + 0 + 0 := z93
  rw [yy93, zz93, l93] at X93
  obtain ⟨rfl, N93q, e93⟩ := hQ93
  have N93 := Fr.app N92 N93q
  refine own_step (fun t k => st93.trans k) ?_
  show own_Fin p e below s Q 2 17 (T93.setTop (mkF m 88 #[.val (.ref o0), .val (.ref o1), .val (.int (1 : Int32))] [(.int (4 : Int32)), (.int (1 : Int32))]))
  refine own_step (fun t k => XS.icmpNo X93.here hx rfl (hb hby d12_88) rfl (tlt (by decide : (1 : Int32) < (4 : Int32))).2.1 k) ?_
  show own_Fin p e below s Q 2 17 (T93.setTop (mkF m 91 #[.val (.ref o0), .val (.ref o1), .val (.int (1 : Int32))] []))
  refine own_step (fun t k => XS.aloadN X93.here hx rfl (hb hby d12_91) rfl rfl k) ?_
  show own_Fin p e below s Q 2 17 (T93.setTop (mkF m 92 #[.val (.ref o0), .val (.ref o1), .val (.int (1 : Int32))] [(.ref o1)]))
  refine own_step (fun t k => XS.iloadN X93.here hx rfl (hb hby d12_92) rfl  k) ?_
  show own_Fin p e below s Q 2 17 (T93.setTop (mkF m 93 #[.val (.ref o0), .val (.ref o1), .val (.int (1 : Int32))] [(.int (1 : Int32)), (.ref o1)]))
  obtain ⟨cq94, kq94, q94a, q94b, q94c⟩ := isOf hZ e93 Ex92_o1
  obtain ⟨_, _, ⟨T94, L94, k94, n94⟩, -, X94, ⟨Lc94, hQ94, l94, y94, z94⟩, st94⟩ := X93.interfaceBack hx (xi := (⟨"java/util/List", "get", "(I)Ljava/lang/Object;"⟩ : MethodName)) (y := (⟨"java/util/ArrayList", "get", "(I)Ljava/lang/Object;"⟩ : MethodName)) hown (mvT hZ (hw _ (List.mem_of_getElem? (i := 90) rfl))) (mvT hZ (hw _ (List.mem_of_getElem? (i := 91) rfl))) (mvT hZ (hw _ (List.mem_of_getElem? (i := 92) rfl))) (mvT hZ (hw _ (List.mem_of_getElem? (i := 93) rfl))) (mvT hZ (hw _ (List.mem_of_getElem? (i := 94) rfl))) (mvT hZ (hw _ (List.mem_of_getElem? (i := 95) rfl))) (mvT hZ (hw _ (List.mem_of_getElem? (i := 96) rfl))) (mvT hZ (hw _ (List.mem_of_getElem? (i := 38) rfl))) (by decide) (backOf (W := 0) (rm14 l Z a0 hw [] o1 (1 : Int32) ea gE r1 (4 : Int32) T92.heap n0 Ex92_o1 F92_o1_size F92_o1_elementData R92_ea (by unfold own_In; decide) hg1 (by decide) (by decide)) hZ (hw _ (List.mem_of_getElem? (i := 97) rfl)) (hw _ (List.mem_of_getElem? (i := 2) rfl)) (by decide) (by decide)) q94a q94b q94c (g := (mkF m 93 #[.val (.ref o0), .val (.ref o1), .val (.int (1 : Int32))] [(.int (1 : Int32)), (.ref o1)])) rfl (by rw [hml]; rfl) (Steps.refl _) (argsL := [(.int (1 : Int32))]) (rest := []) (lenOf pdm_8 rfl) rfl (by show 2 * 0 + _ ≤ _; exact Nat.le_of_eq rfl) (hb hby d12_93) (fun _ _ => ⟨rfl, e93, (show cells + 0 + 1 + 0 + 0 + 0 + 0 + 0 + 0 + 0 + 0 + 0 + 0 + 1 + 0 + 0 + 0 + 0 + 0 ≤ 2 from (Nat.le_trans (Nat.add_le_add_right hc 2) (by decide))), (show slots + 0 + 5 + 0 + 0 + 0 + 0 + 0 + 0 + 0 + 0 + 0 + 0 + 12 + 0 + 0 + 0 + 0 + 0 ≤ 17 from (Nat.le_trans (Nat.add_le_add_right hs 17) (by decide)))⟩)
  dsimp only [Pt.U, Pt.locs, Pt.cells, Pt.slots] at X94 l94 y94 z94 st94 hQ94
  have yy94 : k94 = cells + 0 + 1 + 0 + 0 + 0 + 0 + 0 + 0 + 0 + 0 + 0 + 0 + 1 + 0 + 0 + 0 + 0 + 0 := y94
  have zz94 : n94 = slots + 0 + 5 + 0 + 0 + 0 + 0 + 0 + 0 + 0 + 0 + 0 + 0 + 12 + 0 + 0 + 0 + 0 + 0 := z94
  rw [yy94, zz94, l94] at X94
  obtain ⟨rfl, N94q, e94⟩ := hQ94
  have N94 := Fr.app N93 N94q
  refine own_step (fun t k => st94.trans k) ?_
  show own_Fin p e below s Q 2 17 (T94.setTop (mkF m 98 #[.val (.ref o0), .val (.ref o1), .val (.int (1 : Int32))] [(.ref r1)]))
  refine own_step (fun t k => XS.iconst X94.here hx rfl (hb hby d12_98) k) ?_
  show own_Fin p e below s Q 2 17 (T94.setTop (mkF m 99 #[.val (.ref o0), .val (.ref o1), .val (.int (1 : Int32))] [(.int (0 : Int32)), (.ref r1)]))
  refine own_step (fun t k => XS.aloadN X94.here hx rfl (hb hby d12_99) rfl rfl k) ?_
  show own_Fin p e below s Q 2 17 (T94.setTop (mkF m 100 #[.val (.ref o0), .val (.ref o1), .val (.int (1 : Int32))] [(.ref o0), (.int (0 : Int32)), (.ref r1)]))
  obtain ⟨T95, X95, e95, st95⟩ := getF X94 hx hZ hown (host := "") (Or.inl (hw _ (List.mem_of_getElem? (i := 113) rfl))) Via.refl e94 F92_o0_values (g := (mkF m 100 #[.val (.ref o0), .val (.ref o1), .val (.int (1 : Int32))] [(.ref o0), (.int (0 : Int32)), (.ref r1)])) rfl rfl (hb hby d12_100)
  refine own_step st95 ?_
  show own_Fin p e below s Q 2 17 (T95.setTop (mkF m 103 #[.val (.ref o0), .val (.ref o1), .val (.int (1 : Int32))] [(.ref b84), (.int (0 : Int32)), (.ref r1)]))
  refine own_step (fun t k => XS.aloadN X95.here hx rfl (hb hby d12_103) rfl rfl k) ?_
  show own_Fin p e below s Q 2 17 (T95.setTop (mkF m 104 #[.val (.ref o0), .val (.ref o1), .val (.int (1 : Int32))] [(.ref o0), (.ref b84), (.int (0 : Int32)), (.ref r1)]))
  obtain ⟨T96, X96, e96, st96⟩ := getF X95 hx hZ hown (host := "") (Or.inl (hw _ (List.mem_of_getElem? (i := 88) rfl))) Via.refl e95 F92_o0_starts (g := (mkF m 104 #[.val (.ref o0), .val (.ref o1), .val (.int (1 : Int32))] [(.ref o0), (.ref b84), (.int (0 : Int32)), (.ref r1)])) rfl rfl (hb hby d12_104)
  refine own_step st96 ?_
  show own_Fin p e below s Q 2 17 (T96.setTop (mkF m 107 #[.val (.ref o0), .val (.ref o1), .val (.int (1 : Int32))] [(.ref b55), (.ref b84), (.int (0 : Int32)), (.ref r1)]))
  refine own_step (fun t k => XS.iloadN X96.here hx rfl (hb hby d12_107) rfl  k) ?_
  show own_Fin p e below s Q 2 17 (T96.setTop (mkF m 108 #[.val (.ref o0), .val (.ref o1), .val (.int (1 : Int32))] [(.int (1 : Int32)), (.ref b55), (.ref b84), (.int (0 : Int32)), (.ref r1)]))
  obtain ⟨ca108, Ar108, Sz108, Ht108⟩ := id V92_b55
  have hin108 : ¬ ((1 : Int32) < 0 ∨ ca108.slots.size ≤ ((1 : Int32)).toNatClampNeg) := by rw [Sz108]; exact (by decide)
  refine own_step (X96.iaload hx (j := (1 : Int32)) (v := (.int (gf80 ((1 : Int32)).toNatClampNeg))) (by rw [e96]; exact Ar108.1) (State.isArrayOf_alike hZ.alike Ar108.2.1) Ar108.2.2 hin108 (Ht108 _ (by have hq := Nat.lt_of_not_le (fun y => hin108 (Or.inr y)); rw [Sz108] at hq; exact hq)) (g := (mkF m 108 #[.val (.ref o0), .val (.ref o1), .val (.int (1 : Int32))] [(.int (1 : Int32)), (.ref b55), (.ref b84), (.int (0 : Int32)), (.ref r1)])) rfl rfl (hb hby d12_108)) ?_
  show own_Fin p e below s Q 2 17 (T96.setTop (mkF m 109 #[.val (.ref o0), .val (.ref o1), .val (.int (1 : Int32))] [(.int (gf80 ((1 : Int32)).toNatClampNeg)), (.ref b84), (.int (0 : Int32)), (.ref r1)]))
  refine own_step (fun t k => XS.aloadN X96.here hx rfl (hb hby d12_109) rfl rfl k) ?_
  show own_Fin p e below s Q 2 17 (T96.setTop (mkF m 110 #[.val (.ref o0), .val (.ref o1), .val (.int (1 : Int32))] [(.ref o1), (.int (gf80 ((1 : Int32)).toNatClampNeg)), (.ref b84), (.int (0 : Int32)), (.ref r1)]))
  refine own_step (fun t k => XS.iloadN X96.here hx rfl (hb hby d12_110) rfl  k) ?_
  show own_Fin p e below s Q 2 17 (T96.setTop (mkF m 111 #[.val (.ref o0), .val (.ref o1), .val (.int (1 : Int32))] [(.int (1 : Int32)), (.ref o1), (.int (gf80 ((1 : Int32)).toNatClampNeg)), (.ref b84), (.int (0 : Int32)), (.ref r1)]))
  obtain ⟨cq97, kq97, q97a, q97b, q97c⟩ := isOf hZ e96 Ex92_o1
  obtain ⟨_, _, ⟨T97, L97, k97, n97⟩, -, X97, ⟨Lc97, hQ97, l97, y97, z97⟩, st97⟩ := X96.interfaceBack hx (xi := (⟨"java/util/List", "get", "(I)Ljava/lang/Object;"⟩ : MethodName)) (y := (⟨"java/util/ArrayList", "get", "(I)Ljava/lang/Object;"⟩ : MethodName)) hown (mvT hZ (hw _ (List.mem_of_getElem? (i := 90) rfl))) (mvT hZ (hw _ (List.mem_of_getElem? (i := 91) rfl))) (mvT hZ (hw _ (List.mem_of_getElem? (i := 92) rfl))) (mvT hZ (hw _ (List.mem_of_getElem? (i := 93) rfl))) (mvT hZ (hw _ (List.mem_of_getElem? (i := 94) rfl))) (mvT hZ (hw _ (List.mem_of_getElem? (i := 95) rfl))) (mvT hZ (hw _ (List.mem_of_getElem? (i := 96) rfl))) (mvT hZ (hw _ (List.mem_of_getElem? (i := 38) rfl))) (by decide) (backOf (W := 4) (rm14 l Z a0 hw [] o1 (1 : Int32) ea gE r1 (4 : Int32) T92.heap n0 Ex92_o1 F92_o1_size F92_o1_elementData R92_ea (by unfold own_In; decide) hg1 (by decide) (by decide)) hZ (hw _ (List.mem_of_getElem? (i := 97) rfl)) (hw _ (List.mem_of_getElem? (i := 2) rfl)) (by decide) (by decide)) q97a q97b q97c (g := (mkF m 111 #[.val (.ref o0), .val (.ref o1), .val (.int (1 : Int32))] [(.int (1 : Int32)), (.ref o1), (.int (gf80 ((1 : Int32)).toNatClampNeg)), (.ref b84), (.int (0 : Int32)), (.ref r1)])) rfl (by rw [hml]; rfl) (Steps.refl _) (argsL := [(.int (1 : Int32))]) (rest := [(.int (gf80 ((1 : Int32)).toNatClampNeg)), (.ref b84), (.int (0 : Int32)), (.ref r1)]) (lenOf pdm_8 rfl) rfl (by show 2 * 0 + _ ≤ _; exact Nat.le_of_eq rfl) (hb hby d12_111) (fun _ _ => ⟨rfl, e96, (show cells + 0 + 1 + 0 + 0 + 0 + 0 + 0 + 0 + 0 + 0 + 0 + 0 + 1 + 0 + 0 + 0 + 0 + 0 + 0 ≤ 2 from (Nat.le_trans (Nat.add_le_add_right hc 2) (by decide))), (show slots + 0 + 5 + 0 + 0 + 0 + 0 + 0 + 0 + 0 + 0 + 0 + 0 + 12 + 0 + 0 + 0 + 0 + 0 + 0 ≤ 17 from (Nat.le_trans (Nat.add_le_add_right hs 17) (by decide)))⟩)
  dsimp only [Pt.U, Pt.locs, Pt.cells, Pt.slots] at X97 l97 y97 z97 st97 hQ97
  have yy97 : k97 = cells + 0 + 1 + 0 + 0 + 0 + 0 + 0 + 0 + 0 + 0 + 0 + 0 + 1 + 0 + 0 + 0 + 0 + 0 + 0 := y97
  have zz97 : n97 = slots + 0 + 5 + 0 + 0 + 0 + 0 + 0 + 0 + 0 + 0 + 0 + 0 + 12 + 0 + 0 + 0 + 0 + 0 + 0 := z97
  rw [yy97, zz97, l97] at X97
  obtain ⟨rfl, N97q, e97⟩ := hQ97
  have N97 := Fr.app N94 N97q
  refine own_step (fun t k => st97.trans k) ?_
  show own_Fin p e below s Q 2 17 (T97.setTop (mkF m 116 #[.val (.ref o0), .val (.ref o1), .val (.int (1 : Int32))] [(.ref r1), (.int (gf80 ((1 : Int32)).toNatClampNeg)), (.ref b84), (.int (0 : Int32)), (.ref r1)]))
  obtain ⟨T98, X98, e98, st98⟩ := castY X97 hx hZ hown (hw _ (List.mem_of_getElem? (i := 111) rfl)) e97 (Ins.of_exa Xa92_r1 (hw _ (List.mem_of_getElem? (i := 112) rfl))) (g := (mkF m 116 #[.val (.ref o0), .val (.ref o1), .val (.int (1 : Int32))] [(.ref r1), (.int (gf80 ((1 : Int32)).toNatClampNeg)), (.ref b84), (.int (0 : Int32)), (.ref r1)])) rfl rfl (hb hby d12_116)
  refine own_step st98 ?_
  show own_Fin p e below s Q 2 17 (T98.setTop (mkF m 119 #[.val (.ref o0), .val (.ref o1), .val (.int (1 : Int32))] [(.ref r1), (.int (gf80 ((1 : Int32)).toNatClampNeg)), (.ref b84), (.int (0 : Int32)), (.ref r1)]))
  obtain ⟨ca119, Ar119, Sz119, Ht119⟩ := id V92_r1
  refine own_step (X98.arraylength hx (by rw [e98]; exact Ar119.1) (State.isArrayOf_alike hZ.alike Ar119.2.1) (g := (mkF m 119 #[.val (.ref o0), .val (.ref o1), .val (.int (1 : Int32))] [(.ref r1), (.int (gf80 ((1 : Int32)).toNatClampNeg)), (.ref b84), (.int (0 : Int32)), (.ref r1)])) rfl rfl (hb hby d12_119)) ?_
  rw [Sz119]
  show own_Fin p e below s Q 2 17 (T98.setTop (mkF m 120 #[.val (.ref o0), .val (.ref o1), .val (.int (1 : Int32))] [(.int (z1.toInt32)), (.int (gf80 ((1 : Int32)).toNatClampNeg)), (.ref b84), (.int (0 : Int32)), (.ref r1)]))
  obtain ⟨T99, h99, L99, X99, e99, N99, K99, V99, st99⟩ := own_cp X98 hx hZ hown (hw _ (List.mem_of_getElem? (i := 115) rfl)) (hw _ (List.mem_of_getElem? (i := 118) rfl)) (hw _ (List.mem_of_getElem? (i := 116) rfl)) (hw _ (List.mem_of_getElem? (i := 117) rfl)) e98 V92_r1 V92 (by omega) (by omega) (by rw [(show (gf80 ((1 : Int32)).toNatClampNeg) = ((0 : Int32) + (z0.toInt32)) from es1)]; exact (own_sn1 z0 z1 z2 z3 hz0 hz1 hz2 hz3).1) (by rw [(own_zl z1 (by omega)).1]; exact Nat.le_refl _) ((own_zl z1 (by omega)).2) (by rw [(show (gf80 ((1 : Int32)).toNatClampNeg) = ((0 : Int32) + (z0.toInt32)) from es1), (own_sn1 z0 z1 z2 z3 hz0 hz1 hz2 hz3).2, (own_zl z1 (by omega)).1]; omega) N97 fr84  (g := (mkF m 120 #[.val (.ref o0), .val (.ref o1), .val (.int (1 : Int32))] [(.int (z1.toInt32)), (.int (gf80 ((1 : Int32)).toNatClampNeg)), (.ref b84), (.int (0 : Int32)), (.ref r1)])) rfl (by rw [hml]; rfl) rfl (hb hby d12_120) (by decide) (W := 0) (by show 2 * 0 + _ ≤ _; exact Nat.le_of_eq rfl) (by decide)
  have Z099 : n0 ≤ h99.size := Nat.le_trans Z092 K99.1
  obtain ⟨gf99, hgf99⟩ : ∃ g' : Nat → Int32, g' = (fun i => if ((gf80 ((1 : Int32)).toNatClampNeg)).toNatClampNeg ≤ i ∧ i < ((gf80 ((1 : Int32)).toNatClampNeg)).toNatClampNeg + ((z1.toInt32)).toNatClampNeg then g1 (i - ((gf80 ((1 : Int32)).toNatClampNeg)).toNatClampNeg) else gf92 i) := ⟨_, rfl⟩
  rw [← hgf99] at V99
  have eh99 : T99.heap = h99 := e99
  subst e99
  have V99_r0 := own_AFkeep V92_r0 K99 (ninS ner0_84 nin0)
  have Xa99_r0 := Xa92_r0.keep K99
  have V99_r1 := own_AFkeep V92_r1 K99 (ninS ner1_84 nin0)
  have Xa99_r1 := Xa92_r1.keep K99
  have V99_r2 := own_AFkeep V92_r2 K99 (ninS ner2_84 nin0)
  have Xa99_r2 := Xa92_r2.keep K99
  have V99_r3 := own_AFkeep V92_r3 K99 (ninS ner3_84 nin0)
  have Xa99_r3 := Xa92_r3.keep K99
  have V99_b55 := own_AFkeep V92_b55 K99 (ninS neb55_84 nin0)
  have Xa99_b55 := Xa92_b55.keep K99
  have Xa99_b84 := Xa92_b84.keep K99
  have R99_ea := own_RFkeep R92_ea K99 (ninS neea_84 nin0)
  have Ex99_o1 := Ex92_o1.keep K99
  have F99_o1_modCount := F92_o1_modCount.keep K99 (ninS neo1_84 nin0)
  have F99_o1_elementData := F92_o1_elementData.keep K99 (ninS neo1_84 nin0)
  have F99_o1_size := F92_o1_size.keep K99 (ninS neo1_84 nin0)
  have Ex99_o0 := Ex92_o0.keep K99
  have F99_o0_starts := F92_o0_starts.keep K99 (ninS neo0_84 nin0)
  have F99_o0_values := F92_o0_values.keep K99 (ninS neo0_84 nin0)
  have KK99 : Keep h T99.heap [o0] := KK92.trans K99 (allS (Or.inr sz84) all0)
  refine own_step st99 ?_
  show own_Fin p e below s Q 2 17 (T99.setTop (mkF m 123 #[.val (.ref o0), .val (.ref o1), .val (.int (1 : Int32))] []))
  refine own_step (fun t k => XS.iinc X99.here hx rfl (hb hby d12_123) rfl (l' := #[.val (.ref o0), .val (.ref o1), .val (.int (2 : Int32))]) rfl k) ?_
  show own_Fin p e below s Q 2 17 (T99.setTop (mkF m 126 #[.val (.ref o0), .val (.ref o1), .val (.int (2 : Int32))] []))
  refine own_step (fun t k => XS.goto X99.here hx rfl (pc0 := 126) (pc' := 81) rfl (hb hby d12_126) (by decide) (by decide) k) ?_
  show own_Fin p e below s Q 2 17 (T99.setTop (mkF m 81 #[.val (.ref o0), .val (.ref o1), .val (.int (2 : Int32))] []))
  refine own_step (fun t k => XS.iloadN X99.here hx rfl (hb hby d12_81) rfl  k) ?_
  show own_Fin p e below s Q 2 17 (T99.setTop (mkF m 82 #[.val (.ref o0), .val (.ref o1), .val (.int (2 : Int32))] [(.int (2 : Int32))]))
  refine own_step (fun t k => XS.aloadN X99.here hx rfl (hb hby d12_82) rfl rfl k) ?_
  show own_Fin p e below s Q 2 17 (T99.setTop (mkF m 83 #[.val (.ref o0), .val (.ref o1), .val (.int (2 : Int32))] [(.ref o1), (.int (2 : Int32))]))
  obtain ⟨cq100, kq100, q100a, q100b, q100c⟩ := isOf hZ rfl Ex99_o1
  obtain ⟨_, _, ⟨T100, L100, k100, n100⟩, -, X100, ⟨Lc100, hQ100, l100, y100, z100⟩, st100⟩ := X99.interfaceBack hx (xi := (⟨"java/util/List", "size", "()I"⟩ : MethodName)) (y := (⟨"java/util/ArrayList", "size", "()I"⟩ : MethodName)) hown (mvT hZ (hw _ (List.mem_of_getElem? (i := 80) rfl))) (mvT hZ (hw _ (List.mem_of_getElem? (i := 81) rfl))) (mvT hZ (hw _ (List.mem_of_getElem? (i := 82) rfl))) (mvT hZ (hw _ (List.mem_of_getElem? (i := 83) rfl))) (mvT hZ (hw _ (List.mem_of_getElem? (i := 84) rfl))) (mvT hZ (hw _ (List.mem_of_getElem? (i := 85) rfl))) (mvT hZ (hw _ (List.mem_of_getElem? (i := 86) rfl))) (mvT hZ (hw _ (List.mem_of_getElem? (i := 38) rfl))) (by decide) (backOf (W := 1) (rm13 l Z a0 hw [] o1 (4 : Int32) T99.heap n0 F99_o1_size) hZ (hw _ (List.mem_of_getElem? (i := 87) rfl)) (hw _ (List.mem_of_getElem? (i := 2) rfl)) (by decide) (by decide)) q100a q100b q100c (g := (mkF m 83 #[.val (.ref o0), .val (.ref o1), .val (.int (2 : Int32))] [(.ref o1), (.int (2 : Int32))])) rfl (by rw [hml]; rfl) (Steps.refl _) (argsL := []) (rest := [(.int (2 : Int32))]) (lenOf pdm_6 rfl) rfl (by show 2 * 0 + _ ≤ _; exact Nat.le_of_eq rfl) (hb hby d12_83) (fun _ _ => ⟨rfl, rfl, (show cells + 0 + 1 + 0 + 0 + 0 + 0 + 0 + 0 + 0 + 0 + 0 + 0 + 1 + 0 + 0 + 0 + 0 + 0 + 0 + 0 ≤ 2 from (Nat.le_trans (Nat.add_le_add_right hc 2) (by decide))), (show slots + 0 + 5 + 0 + 0 + 0 + 0 + 0 + 0 + 0 + 0 + 0 + 0 + 12 + 0 + 0 + 0 + 0 + 0 + 0 + 0 ≤ 17 from (Nat.le_trans (Nat.add_le_add_right hs 17) (by decide)))⟩)
  dsimp only [Pt.U, Pt.locs, Pt.cells, Pt.slots] at X100 l100 y100 z100 st100 hQ100
  have yy100 : k100 = cells + 0 + 1 + 0 + 0 + 0 + 0 + 0 + 0 + 0 + 0 + 0 + 0 + 1 + 0 + 0 + 0 + 0 + 0 + 0 + 0 := y100
  have zz100 : n100 = slots + 0 + 5 + 0 + 0 + 0 + 0 + 0 + 0 + 0 + 0 + 0 + 0 + 12 + 0 + 0 + 0 + 0 + 0 + 0 + 0 := z100
  rw [yy100, zz100, l100] at X100
  obtain ⟨rfl, N100q, e100⟩ := hQ100
  have N100 := Fr.app N99 N100q
  refine own_step (fun t k => st100.trans k) ?_
  show own_Fin p e below s Q 2 17 (T100.setTop (mkF m 88 #[.val (.ref o0), .val (.ref o1), .val (.int (2 : Int32))] [(.int (4 : Int32)), (.int (2 : Int32))]))
  refine own_step (fun t k => XS.icmpNo X100.here hx rfl (hb hby d12_88) rfl (tlt (by decide : (2 : Int32) < (4 : Int32))).2.1 k) ?_
  show own_Fin p e below s Q 2 17 (T100.setTop (mkF m 91 #[.val (.ref o0), .val (.ref o1), .val (.int (2 : Int32))] []))
  refine own_step (fun t k => XS.aloadN X100.here hx rfl (hb hby d12_91) rfl rfl k) ?_
  show own_Fin p e below s Q 2 17 (T100.setTop (mkF m 92 #[.val (.ref o0), .val (.ref o1), .val (.int (2 : Int32))] [(.ref o1)]))
  refine own_step (fun t k => XS.iloadN X100.here hx rfl (hb hby d12_92) rfl  k) ?_
  show own_Fin p e below s Q 2 17 (T100.setTop (mkF m 93 #[.val (.ref o0), .val (.ref o1), .val (.int (2 : Int32))] [(.int (2 : Int32)), (.ref o1)]))
  obtain ⟨cq101, kq101, q101a, q101b, q101c⟩ := isOf hZ e100 Ex99_o1
  obtain ⟨_, _, ⟨T101, L101, k101, n101⟩, -, X101, ⟨Lc101, hQ101, l101, y101, z101⟩, st101⟩ := X100.interfaceBack hx (xi := (⟨"java/util/List", "get", "(I)Ljava/lang/Object;"⟩ : MethodName)) (y := (⟨"java/util/ArrayList", "get", "(I)Ljava/lang/Object;"⟩ : MethodName)) hown (mvT hZ (hw _ (List.mem_of_getElem? (i := 90) rfl))) (mvT hZ (hw _ (List.mem_of_getElem? (i := 91) rfl))) (mvT hZ (hw _ (List.mem_of_getElem? (i := 92) rfl))) (mvT hZ (hw _ (List.mem_of_getElem? (i := 93) rfl))) (mvT hZ (hw _ (List.mem_of_getElem? (i := 94) rfl))) (mvT hZ (hw _ (List.mem_of_getElem? (i := 95) rfl))) (mvT hZ (hw _ (List.mem_of_getElem? (i := 96) rfl))) (mvT hZ (hw _ (List.mem_of_getElem? (i := 38) rfl))) (by decide) (backOf (W := 0) (rm14 l Z a0 hw [] o1 (2 : Int32) ea gE r2 (4 : Int32) T99.heap n0 Ex99_o1 F99_o1_size F99_o1_elementData R99_ea (by unfold own_In; decide) hg2 (by decide) (by decide)) hZ (hw _ (List.mem_of_getElem? (i := 97) rfl)) (hw _ (List.mem_of_getElem? (i := 2) rfl)) (by decide) (by decide)) q101a q101b q101c (g := (mkF m 93 #[.val (.ref o0), .val (.ref o1), .val (.int (2 : Int32))] [(.int (2 : Int32)), (.ref o1)])) rfl (by rw [hml]; rfl) (Steps.refl _) (argsL := [(.int (2 : Int32))]) (rest := []) (lenOf pdm_8 rfl) rfl (by show 2 * 0 + _ ≤ _; exact Nat.le_of_eq rfl) (hb hby d12_93) (fun _ _ => ⟨rfl, e100, (show cells + 0 + 1 + 0 + 0 + 0 + 0 + 0 + 0 + 0 + 0 + 0 + 0 + 1 + 0 + 0 + 0 + 0 + 0 + 0 + 0 + 0 ≤ 2 from (Nat.le_trans (Nat.add_le_add_right hc 2) (by decide))), (show slots + 0 + 5 + 0 + 0 + 0 + 0 + 0 + 0 + 0 + 0 + 0 + 0 + 12 + 0 + 0 + 0 + 0 + 0 + 0 + 0 + 0 ≤ 17 from (Nat.le_trans (Nat.add_le_add_right hs 17) (by decide)))⟩)
  dsimp only [Pt.U, Pt.locs, Pt.cells, Pt.slots] at X101 l101 y101 z101 st101 hQ101
  have yy101 : k101 = cells + 0 + 1 + 0 + 0 + 0 + 0 + 0 + 0 + 0 + 0 + 0 + 0 + 1 + 0 + 0 + 0 + 0 + 0 + 0 + 0 + 0 := y101
  have zz101 : n101 = slots + 0 + 5 + 0 + 0 + 0 + 0 + 0 + 0 + 0 + 0 + 0 + 0 + 12 + 0 + 0 + 0 + 0 + 0 + 0 + 0 + 0 := z101
  rw [yy101, zz101, l101] at X101
  obtain ⟨rfl, N101q, e101⟩ := hQ101
  have N101 := Fr.app N100 N101q
  refine own_step (fun t k => st101.trans k) ?_
  show own_Fin p e below s Q 2 17 (T101.setTop (mkF m 98 #[.val (.ref o0), .val (.ref o1), .val (.int (2 : Int32))] [(.ref r2)]))
  refine own_step (fun t k => XS.iconst X101.here hx rfl (hb hby d12_98) k) ?_
  show own_Fin p e below s Q 2 17 (T101.setTop (mkF m 99 #[.val (.ref o0), .val (.ref o1), .val (.int (2 : Int32))] [(.int (0 : Int32)), (.ref r2)]))
  refine own_step (fun t k => XS.aloadN X101.here hx rfl (hb hby d12_99) rfl rfl k) ?_
  show own_Fin p e below s Q 2 17 (T101.setTop (mkF m 100 #[.val (.ref o0), .val (.ref o1), .val (.int (2 : Int32))] [(.ref o0), (.int (0 : Int32)), (.ref r2)]))
  obtain ⟨T102, X102, e102, st102⟩ := getF X101 hx hZ hown (host := "") (Or.inl (hw _ (List.mem_of_getElem? (i := 113) rfl))) Via.refl e101 F99_o0_values (g := (mkF m 100 #[.val (.ref o0), .val (.ref o1), .val (.int (2 : Int32))] [(.ref o0), (.int (0 : Int32)), (.ref r2)])) rfl rfl (hb hby d12_100)
  refine own_step st102 ?_
  show own_Fin p e below s Q 2 17 (T102.setTop (mkF m 103 #[.val (.ref o0), .val (.ref o1), .val (.int (2 : Int32))] [(.ref b84), (.int (0 : Int32)), (.ref r2)]))
  refine own_step (fun t k => XS.aloadN X102.here hx rfl (hb hby d12_103) rfl rfl k) ?_
  show own_Fin p e below s Q 2 17 (T102.setTop (mkF m 104 #[.val (.ref o0), .val (.ref o1), .val (.int (2 : Int32))] [(.ref o0), (.ref b84), (.int (0 : Int32)), (.ref r2)]))
  obtain ⟨T103, X103, e103, st103⟩ := getF X102 hx hZ hown (host := "") (Or.inl (hw _ (List.mem_of_getElem? (i := 88) rfl))) Via.refl e102 F99_o0_starts (g := (mkF m 104 #[.val (.ref o0), .val (.ref o1), .val (.int (2 : Int32))] [(.ref o0), (.ref b84), (.int (0 : Int32)), (.ref r2)])) rfl rfl (hb hby d12_104)
  refine own_step st103 ?_
  show own_Fin p e below s Q 2 17 (T103.setTop (mkF m 107 #[.val (.ref o0), .val (.ref o1), .val (.int (2 : Int32))] [(.ref b55), (.ref b84), (.int (0 : Int32)), (.ref r2)]))
  refine own_step (fun t k => XS.iloadN X103.here hx rfl (hb hby d12_107) rfl  k) ?_
  show own_Fin p e below s Q 2 17 (T103.setTop (mkF m 108 #[.val (.ref o0), .val (.ref o1), .val (.int (2 : Int32))] [(.int (2 : Int32)), (.ref b55), (.ref b84), (.int (0 : Int32)), (.ref r2)]))
  obtain ⟨ca108, Ar108, Sz108, Ht108⟩ := id V99_b55
  have hin108 : ¬ ((2 : Int32) < 0 ∨ ca108.slots.size ≤ ((2 : Int32)).toNatClampNeg) := by rw [Sz108]; exact (by decide)
  refine own_step (X103.iaload hx (j := (2 : Int32)) (v := (.int (gf80 ((2 : Int32)).toNatClampNeg))) (by rw [e103]; exact Ar108.1) (State.isArrayOf_alike hZ.alike Ar108.2.1) Ar108.2.2 hin108 (Ht108 _ (by have hq := Nat.lt_of_not_le (fun y => hin108 (Or.inr y)); rw [Sz108] at hq; exact hq)) (g := (mkF m 108 #[.val (.ref o0), .val (.ref o1), .val (.int (2 : Int32))] [(.int (2 : Int32)), (.ref b55), (.ref b84), (.int (0 : Int32)), (.ref r2)])) rfl rfl (hb hby d12_108)) ?_
  show own_Fin p e below s Q 2 17 (T103.setTop (mkF m 109 #[.val (.ref o0), .val (.ref o1), .val (.int (2 : Int32))] [(.int (gf80 ((2 : Int32)).toNatClampNeg)), (.ref b84), (.int (0 : Int32)), (.ref r2)]))
  refine own_step (fun t k => XS.aloadN X103.here hx rfl (hb hby d12_109) rfl rfl k) ?_
  show own_Fin p e below s Q 2 17 (T103.setTop (mkF m 110 #[.val (.ref o0), .val (.ref o1), .val (.int (2 : Int32))] [(.ref o1), (.int (gf80 ((2 : Int32)).toNatClampNeg)), (.ref b84), (.int (0 : Int32)), (.ref r2)]))
  refine own_step (fun t k => XS.iloadN X103.here hx rfl (hb hby d12_110) rfl  k) ?_
  show own_Fin p e below s Q 2 17 (T103.setTop (mkF m 111 #[.val (.ref o0), .val (.ref o1), .val (.int (2 : Int32))] [(.int (2 : Int32)), (.ref o1), (.int (gf80 ((2 : Int32)).toNatClampNeg)), (.ref b84), (.int (0 : Int32)), (.ref r2)]))
  obtain ⟨cq104, kq104, q104a, q104b, q104c⟩ := isOf hZ e103 Ex99_o1
  obtain ⟨_, _, ⟨T104, L104, k104, n104⟩, -, X104, ⟨Lc104, hQ104, l104, y104, z104⟩, st104⟩ := X103.interfaceBack hx (xi := (⟨"java/util/List", "get", "(I)Ljava/lang/Object;"⟩ : MethodName)) (y := (⟨"java/util/ArrayList", "get", "(I)Ljava/lang/Object;"⟩ : MethodName)) hown (mvT hZ (hw _ (List.mem_of_getElem? (i := 90) rfl))) (mvT hZ (hw _ (List.mem_of_getElem? (i := 91) rfl))) (mvT hZ (hw _ (List.mem_of_getElem? (i := 92) rfl))) (mvT hZ (hw _ (List.mem_of_getElem? (i := 93) rfl))) (mvT hZ (hw _ (List.mem_of_getElem? (i := 94) rfl))) (mvT hZ (hw _ (List.mem_of_getElem? (i := 95) rfl))) (mvT hZ (hw _ (List.mem_of_getElem? (i := 96) rfl))) (mvT hZ (hw _ (List.mem_of_getElem? (i := 38) rfl))) (by decide) (backOf (W := 4) (rm14 l Z a0 hw [] o1 (2 : Int32) ea gE r2 (4 : Int32) T99.heap n0 Ex99_o1 F99_o1_size F99_o1_elementData R99_ea (by unfold own_In; decide) hg2 (by decide) (by decide)) hZ (hw _ (List.mem_of_getElem? (i := 97) rfl)) (hw _ (List.mem_of_getElem? (i := 2) rfl)) (by decide) (by decide)) q104a q104b q104c (g := (mkF m 111 #[.val (.ref o0), .val (.ref o1), .val (.int (2 : Int32))] [(.int (2 : Int32)), (.ref o1), (.int (gf80 ((2 : Int32)).toNatClampNeg)), (.ref b84), (.int (0 : Int32)), (.ref r2)])) rfl (by rw [hml]; rfl) (Steps.refl _) (argsL := [(.int (2 : Int32))]) (rest := [(.int (gf80 ((2 : Int32)).toNatClampNeg)), (.ref b84), (.int (0 : Int32)), (.ref r2)]) (lenOf pdm_8 rfl) rfl (by show 2 * 0 + _ ≤ _; exact Nat.le_of_eq rfl) (hb hby d12_111) (fun _ _ => ⟨rfl, e103, (show cells + 0 + 1 + 0 + 0 + 0 + 0 + 0 + 0 + 0 + 0 + 0 + 0 + 1 + 0 + 0 + 0 + 0 + 0 + 0 + 0 + 0 + 0 ≤ 2 from (Nat.le_trans (Nat.add_le_add_right hc 2) (by decide))), (show slots + 0 + 5 + 0 + 0 + 0 + 0 + 0 + 0 + 0 + 0 + 0 + 0 + 12 + 0 + 0 + 0 + 0 + 0 + 0 + 0 + 0 + 0 ≤ 17 from (Nat.le_trans (Nat.add_le_add_right hs 17) (by decide)))⟩)
  dsimp only [Pt.U, Pt.locs, Pt.cells, Pt.slots] at X104 l104 y104 z104 st104 hQ104
  have yy104 : k104 = cells + 0 + 1 + 0 + 0 + 0 + 0 + 0 + 0 + 0 + 0 + 0 + 0 + 1 + 0 + 0 + 0 + 0 + 0 + 0 + 0 + 0 + 0 := y104
  have zz104 : n104 = slots + 0 + 5 + 0 + 0 + 0 + 0 + 0 + 0 + 0 + 0 + 0 + 0 + 12 + 0 + 0 + 0 + 0 + 0 + 0 + 0 + 0 + 0 := z104
  rw [yy104, zz104, l104] at X104
  obtain ⟨rfl, N104q, e104⟩ := hQ104
  have N104 := Fr.app N101 N104q
  refine own_step (fun t k => st104.trans k) ?_
  show own_Fin p e below s Q 2 17 (T104.setTop (mkF m 116 #[.val (.ref o0), .val (.ref o1), .val (.int (2 : Int32))] [(.ref r2), (.int (gf80 ((2 : Int32)).toNatClampNeg)), (.ref b84), (.int (0 : Int32)), (.ref r2)]))
  obtain ⟨T105, X105, e105, st105⟩ := castY X104 hx hZ hown (hw _ (List.mem_of_getElem? (i := 111) rfl)) e104 (Ins.of_exa Xa99_r2 (hw _ (List.mem_of_getElem? (i := 112) rfl))) (g := (mkF m 116 #[.val (.ref o0), .val (.ref o1), .val (.int (2 : Int32))] [(.ref r2), (.int (gf80 ((2 : Int32)).toNatClampNeg)), (.ref b84), (.int (0 : Int32)), (.ref r2)])) rfl rfl (hb hby d12_116)
  refine own_step st105 ?_
  show own_Fin p e below s Q 2 17 (T105.setTop (mkF m 119 #[.val (.ref o0), .val (.ref o1), .val (.int (2 : Int32))] [(.ref r2), (.int (gf80 ((2 : Int32)).toNatClampNeg)), (.ref b84), (.int (0 : Int32)), (.ref r2)]))
  obtain ⟨ca119, Ar119, Sz119, Ht119⟩ := id V99_r2
  refine own_step (X105.arraylength hx (by rw [e105]; exact Ar119.1) (State.isArrayOf_alike hZ.alike Ar119.2.1) (g := (mkF m 119 #[.val (.ref o0), .val (.ref o1), .val (.int (2 : Int32))] [(.ref r2), (.int (gf80 ((2 : Int32)).toNatClampNeg)), (.ref b84), (.int (0 : Int32)), (.ref r2)])) rfl rfl (hb hby d12_119)) ?_
  rw [Sz119]
  show own_Fin p e below s Q 2 17 (T105.setTop (mkF m 120 #[.val (.ref o0), .val (.ref o1), .val (.int (2 : Int32))] [(.int (z2.toInt32)), (.int (gf80 ((2 : Int32)).toNatClampNeg)), (.ref b84), (.int (0 : Int32)), (.ref r2)]))
  obtain ⟨T106, h106, L106, X106, e106, N106, K106, V106, st106⟩ := own_cp X105 hx hZ hown (hw _ (List.mem_of_getElem? (i := 115) rfl)) (hw _ (List.mem_of_getElem? (i := 118) rfl)) (hw _ (List.mem_of_getElem? (i := 116) rfl)) (hw _ (List.mem_of_getElem? (i := 117) rfl)) e105 V99_r2 V99 (by omega) (by omega) (by rw [(show (gf80 ((2 : Int32)).toNatClampNeg) = (((0 : Int32) + (z0.toInt32)) + (z1.toInt32)) from es2)]; exact (own_sn2 z0 z1 z2 z3 hz0 hz1 hz2 hz3).1) (by rw [(own_zl z2 (by omega)).1]; exact Nat.le_refl _) ((own_zl z2 (by omega)).2) (by rw [(show (gf80 ((2 : Int32)).toNatClampNeg) = (((0 : Int32) + (z0.toInt32)) + (z1.toInt32)) from es2), (own_sn2 z0 z1 z2 z3 hz0 hz1 hz2 hz3).2, (own_zl z2 (by omega)).1]; omega) N104 fr84  (g := (mkF m 120 #[.val (.ref o0), .val (.ref o1), .val (.int (2 : Int32))] [(.int (z2.toInt32)), (.int (gf80 ((2 : Int32)).toNatClampNeg)), (.ref b84), (.int (0 : Int32)), (.ref r2)])) rfl (by rw [hml]; rfl) rfl (hb hby d12_120) (by decide) (W := 0) (by show 2 * 0 + _ ≤ _; exact Nat.le_of_eq rfl) (by decide)
  have Z0106 : n0 ≤ h106.size := Nat.le_trans Z099 K106.1
  obtain ⟨gf106, hgf106⟩ : ∃ g' : Nat → Int32, g' = (fun i => if ((gf80 ((2 : Int32)).toNatClampNeg)).toNatClampNeg ≤ i ∧ i < ((gf80 ((2 : Int32)).toNatClampNeg)).toNatClampNeg + ((z2.toInt32)).toNatClampNeg then g2 (i - ((gf80 ((2 : Int32)).toNatClampNeg)).toNatClampNeg) else gf99 i) := ⟨_, rfl⟩
  rw [← hgf106] at V106
  have eh106 : T106.heap = h106 := e106
  subst e106
  have V106_r0 := own_AFkeep V99_r0 K106 (ninS ner0_84 nin0)
  have Xa106_r0 := Xa99_r0.keep K106
  have V106_r1 := own_AFkeep V99_r1 K106 (ninS ner1_84 nin0)
  have Xa106_r1 := Xa99_r1.keep K106
  have V106_r2 := own_AFkeep V99_r2 K106 (ninS ner2_84 nin0)
  have Xa106_r2 := Xa99_r2.keep K106
  have V106_r3 := own_AFkeep V99_r3 K106 (ninS ner3_84 nin0)
  have Xa106_r3 := Xa99_r3.keep K106
  have V106_b55 := own_AFkeep V99_b55 K106 (ninS neb55_84 nin0)
  have Xa106_b55 := Xa99_b55.keep K106
  have Xa106_b84 := Xa99_b84.keep K106
  have R106_ea := own_RFkeep R99_ea K106 (ninS neea_84 nin0)
  have Ex106_o1 := Ex99_o1.keep K106
  have F106_o1_modCount := F99_o1_modCount.keep K106 (ninS neo1_84 nin0)
  have F106_o1_elementData := F99_o1_elementData.keep K106 (ninS neo1_84 nin0)
  have F106_o1_size := F99_o1_size.keep K106 (ninS neo1_84 nin0)
  have Ex106_o0 := Ex99_o0.keep K106
  have F106_o0_starts := F99_o0_starts.keep K106 (ninS neo0_84 nin0)
  have F106_o0_values := F99_o0_values.keep K106 (ninS neo0_84 nin0)
  have KK106 : Keep h T106.heap [o0] := KK99.trans K106 (allS (Or.inr sz84) all0)
  refine own_step st106 ?_
  show own_Fin p e below s Q 2 17 (T106.setTop (mkF m 123 #[.val (.ref o0), .val (.ref o1), .val (.int (2 : Int32))] []))
  refine own_step (fun t k => XS.iinc X106.here hx rfl (hb hby d12_123) rfl (l' := #[.val (.ref o0), .val (.ref o1), .val (.int (3 : Int32))]) rfl k) ?_
  show own_Fin p e below s Q 2 17 (T106.setTop (mkF m 126 #[.val (.ref o0), .val (.ref o1), .val (.int (3 : Int32))] []))
  refine own_step (fun t k => XS.goto X106.here hx rfl (pc0 := 126) (pc' := 81) rfl (hb hby d12_126) (by decide) (by decide) k) ?_
  show own_Fin p e below s Q 2 17 (T106.setTop (mkF m 81 #[.val (.ref o0), .val (.ref o1), .val (.int (3 : Int32))] []))
  refine own_step (fun t k => XS.iloadN X106.here hx rfl (hb hby d12_81) rfl  k) ?_
  show own_Fin p e below s Q 2 17 (T106.setTop (mkF m 82 #[.val (.ref o0), .val (.ref o1), .val (.int (3 : Int32))] [(.int (3 : Int32))]))
  refine own_step (fun t k => XS.aloadN X106.here hx rfl (hb hby d12_82) rfl rfl k) ?_
  show own_Fin p e below s Q 2 17 (T106.setTop (mkF m 83 #[.val (.ref o0), .val (.ref o1), .val (.int (3 : Int32))] [(.ref o1), (.int (3 : Int32))]))
  obtain ⟨cq107, kq107, q107a, q107b, q107c⟩ := isOf hZ rfl Ex106_o1
  obtain ⟨_, _, ⟨T107, L107, k107, n107⟩, -, X107, ⟨Lc107, hQ107, l107, y107, z107⟩, st107⟩ := X106.interfaceBack hx (xi := (⟨"java/util/List", "size", "()I"⟩ : MethodName)) (y := (⟨"java/util/ArrayList", "size", "()I"⟩ : MethodName)) hown (mvT hZ (hw _ (List.mem_of_getElem? (i := 80) rfl))) (mvT hZ (hw _ (List.mem_of_getElem? (i := 81) rfl))) (mvT hZ (hw _ (List.mem_of_getElem? (i := 82) rfl))) (mvT hZ (hw _ (List.mem_of_getElem? (i := 83) rfl))) (mvT hZ (hw _ (List.mem_of_getElem? (i := 84) rfl))) (mvT hZ (hw _ (List.mem_of_getElem? (i := 85) rfl))) (mvT hZ (hw _ (List.mem_of_getElem? (i := 86) rfl))) (mvT hZ (hw _ (List.mem_of_getElem? (i := 38) rfl))) (by decide) (backOf (W := 1) (rm13 l Z a0 hw [] o1 (4 : Int32) T106.heap n0 F106_o1_size) hZ (hw _ (List.mem_of_getElem? (i := 87) rfl)) (hw _ (List.mem_of_getElem? (i := 2) rfl)) (by decide) (by decide)) q107a q107b q107c (g := (mkF m 83 #[.val (.ref o0), .val (.ref o1), .val (.int (3 : Int32))] [(.ref o1), (.int (3 : Int32))])) rfl (by rw [hml]; rfl) (Steps.refl _) (argsL := []) (rest := [(.int (3 : Int32))]) (lenOf pdm_6 rfl) rfl (by show 2 * 0 + _ ≤ _; exact Nat.le_of_eq rfl) (hb hby d12_83) (fun _ _ => ⟨rfl, rfl, (show cells + 0 + 1 + 0 + 0 + 0 + 0 + 0 + 0 + 0 + 0 + 0 + 0 + 1 + 0 + 0 + 0 + 0 + 0 + 0 + 0 + 0 + 0 + 0 ≤ 2 from (Nat.le_trans (Nat.add_le_add_right hc 2) (by decide))), (show slots + 0 + 5 + 0 + 0 + 0 + 0 + 0 + 0 + 0 + 0 + 0 + 0 + 12 + 0 + 0 + 0 + 0 + 0 + 0 + 0 + 0 + 0 + 0 ≤ 17 from (Nat.le_trans (Nat.add_le_add_right hs 17) (by decide)))⟩)
  dsimp only [Pt.U, Pt.locs, Pt.cells, Pt.slots] at X107 l107 y107 z107 st107 hQ107
  have yy107 : k107 = cells + 0 + 1 + 0 + 0 + 0 + 0 + 0 + 0 + 0 + 0 + 0 + 0 + 1 + 0 + 0 + 0 + 0 + 0 + 0 + 0 + 0 + 0 + 0 := y107
  have zz107 : n107 = slots + 0 + 5 + 0 + 0 + 0 + 0 + 0 + 0 + 0 + 0 + 0 + 0 + 12 + 0 + 0 + 0 + 0 + 0 + 0 + 0 + 0 + 0 + 0 := z107
  rw [yy107, zz107, l107] at X107
  obtain ⟨rfl, N107q, e107⟩ := hQ107
  have N107 := Fr.app N106 N107q
  refine own_step (fun t k => st107.trans k) ?_
  show own_Fin p e below s Q 2 17 (T107.setTop (mkF m 88 #[.val (.ref o0), .val (.ref o1), .val (.int (3 : Int32))] [(.int (4 : Int32)), (.int (3 : Int32))]))
  refine own_step (fun t k => XS.icmpNo X107.here hx rfl (hb hby d12_88) rfl (tlt (by decide : (3 : Int32) < (4 : Int32))).2.1 k) ?_
  show own_Fin p e below s Q 2 17 (T107.setTop (mkF m 91 #[.val (.ref o0), .val (.ref o1), .val (.int (3 : Int32))] []))
  refine own_step (fun t k => XS.aloadN X107.here hx rfl (hb hby d12_91) rfl rfl k) ?_
  show own_Fin p e below s Q 2 17 (T107.setTop (mkF m 92 #[.val (.ref o0), .val (.ref o1), .val (.int (3 : Int32))] [(.ref o1)]))
  refine own_step (fun t k => XS.iloadN X107.here hx rfl (hb hby d12_92) rfl  k) ?_
  show own_Fin p e below s Q 2 17 (T107.setTop (mkF m 93 #[.val (.ref o0), .val (.ref o1), .val (.int (3 : Int32))] [(.int (3 : Int32)), (.ref o1)]))
  obtain ⟨cq108, kq108, q108a, q108b, q108c⟩ := isOf hZ e107 Ex106_o1
  obtain ⟨_, _, ⟨T108, L108, k108, n108⟩, -, X108, ⟨Lc108, hQ108, l108, y108, z108⟩, st108⟩ := X107.interfaceBack hx (xi := (⟨"java/util/List", "get", "(I)Ljava/lang/Object;"⟩ : MethodName)) (y := (⟨"java/util/ArrayList", "get", "(I)Ljava/lang/Object;"⟩ : MethodName)) hown (mvT hZ (hw _ (List.mem_of_getElem? (i := 90) rfl))) (mvT hZ (hw _ (List.mem_of_getElem? (i := 91) rfl))) (mvT hZ (hw _ (List.mem_of_getElem? (i := 92) rfl))) (mvT hZ (hw _ (List.mem_of_getElem? (i := 93) rfl))) (mvT hZ (hw _ (List.mem_of_getElem? (i := 94) rfl))) (mvT hZ (hw _ (List.mem_of_getElem? (i := 95) rfl))) (mvT hZ (hw _ (List.mem_of_getElem? (i := 96) rfl))) (mvT hZ (hw _ (List.mem_of_getElem? (i := 38) rfl))) (by decide) (backOf (W := 0) (rm14 l Z a0 hw [] o1 (3 : Int32) ea gE r3 (4 : Int32) T106.heap n0 Ex106_o1 F106_o1_size F106_o1_elementData R106_ea (by unfold own_In; decide) hg3 (by decide) (by decide)) hZ (hw _ (List.mem_of_getElem? (i := 97) rfl)) (hw _ (List.mem_of_getElem? (i := 2) rfl)) (by decide) (by decide)) q108a q108b q108c (g := (mkF m 93 #[.val (.ref o0), .val (.ref o1), .val (.int (3 : Int32))] [(.int (3 : Int32)), (.ref o1)])) rfl (by rw [hml]; rfl) (Steps.refl _) (argsL := [(.int (3 : Int32))]) (rest := []) (lenOf pdm_8 rfl) rfl (by show 2 * 0 + _ ≤ _; exact Nat.le_of_eq rfl) (hb hby d12_93) (fun _ _ => ⟨rfl, e107, (show cells + 0 + 1 + 0 + 0 + 0 + 0 + 0 + 0 + 0 + 0 + 0 + 0 + 1 + 0 + 0 + 0 + 0 + 0 + 0 + 0 + 0 + 0 + 0 + 0 ≤ 2 from (Nat.le_trans (Nat.add_le_add_right hc 2) (by decide))), (show slots + 0 + 5 + 0 + 0 + 0 + 0 + 0 + 0 + 0 + 0 + 0 + 0 + 12 + 0 + 0 + 0 + 0 + 0 + 0 + 0 + 0 + 0 + 0 + 0 ≤ 17 from (Nat.le_trans (Nat.add_le_add_right hs 17) (by decide)))⟩)
  dsimp only [Pt.U, Pt.locs, Pt.cells, Pt.slots] at X108 l108 y108 z108 st108 hQ108
  have yy108 : k108 = cells + 0 + 1 + 0 + 0 + 0 + 0 + 0 + 0 + 0 + 0 + 0 + 0 + 1 + 0 + 0 + 0 + 0 + 0 + 0 + 0 + 0 + 0 + 0 + 0 := y108
  have zz108 : n108 = slots + 0 + 5 + 0 + 0 + 0 + 0 + 0 + 0 + 0 + 0 + 0 + 0 + 12 + 0 + 0 + 0 + 0 + 0 + 0 + 0 + 0 + 0 + 0 + 0 := z108
  rw [yy108, zz108, l108] at X108
  obtain ⟨rfl, N108q, e108⟩ := hQ108
  have N108 := Fr.app N107 N108q
  refine own_step (fun t k => st108.trans k) ?_
  show own_Fin p e below s Q 2 17 (T108.setTop (mkF m 98 #[.val (.ref o0), .val (.ref o1), .val (.int (3 : Int32))] [(.ref r3)]))
  refine own_step (fun t k => XS.iconst X108.here hx rfl (hb hby d12_98) k) ?_
  show own_Fin p e below s Q 2 17 (T108.setTop (mkF m 99 #[.val (.ref o0), .val (.ref o1), .val (.int (3 : Int32))] [(.int (0 : Int32)), (.ref r3)]))
  refine own_step (fun t k => XS.aloadN X108.here hx rfl (hb hby d12_99) rfl rfl k) ?_
  show own_Fin p e below s Q 2 17 (T108.setTop (mkF m 100 #[.val (.ref o0), .val (.ref o1), .val (.int (3 : Int32))] [(.ref o0), (.int (0 : Int32)), (.ref r3)]))
  obtain ⟨T109, X109, e109, st109⟩ := getF X108 hx hZ hown (host := "") (Or.inl (hw _ (List.mem_of_getElem? (i := 113) rfl))) Via.refl e108 F106_o0_values (g := (mkF m 100 #[.val (.ref o0), .val (.ref o1), .val (.int (3 : Int32))] [(.ref o0), (.int (0 : Int32)), (.ref r3)])) rfl rfl (hb hby d12_100)
  refine own_step st109 ?_
  show own_Fin p e below s Q 2 17 (T109.setTop (mkF m 103 #[.val (.ref o0), .val (.ref o1), .val (.int (3 : Int32))] [(.ref b84), (.int (0 : Int32)), (.ref r3)]))
  refine own_step (fun t k => XS.aloadN X109.here hx rfl (hb hby d12_103) rfl rfl k) ?_
  show own_Fin p e below s Q 2 17 (T109.setTop (mkF m 104 #[.val (.ref o0), .val (.ref o1), .val (.int (3 : Int32))] [(.ref o0), (.ref b84), (.int (0 : Int32)), (.ref r3)]))
  obtain ⟨T110, X110, e110, st110⟩ := getF X109 hx hZ hown (host := "") (Or.inl (hw _ (List.mem_of_getElem? (i := 88) rfl))) Via.refl e109 F106_o0_starts (g := (mkF m 104 #[.val (.ref o0), .val (.ref o1), .val (.int (3 : Int32))] [(.ref o0), (.ref b84), (.int (0 : Int32)), (.ref r3)])) rfl rfl (hb hby d12_104)
  refine own_step st110 ?_
  show own_Fin p e below s Q 2 17 (T110.setTop (mkF m 107 #[.val (.ref o0), .val (.ref o1), .val (.int (3 : Int32))] [(.ref b55), (.ref b84), (.int (0 : Int32)), (.ref r3)]))
  refine own_step (fun t k => XS.iloadN X110.here hx rfl (hb hby d12_107) rfl  k) ?_
  show own_Fin p e below s Q 2 17 (T110.setTop (mkF m 108 #[.val (.ref o0), .val (.ref o1), .val (.int (3 : Int32))] [(.int (3 : Int32)), (.ref b55), (.ref b84), (.int (0 : Int32)), (.ref r3)]))
  obtain ⟨ca108, Ar108, Sz108, Ht108⟩ := id V106_b55
  have hin108 : ¬ ((3 : Int32) < 0 ∨ ca108.slots.size ≤ ((3 : Int32)).toNatClampNeg) := by rw [Sz108]; exact (by decide)
  refine own_step (X110.iaload hx (j := (3 : Int32)) (v := (.int (gf80 ((3 : Int32)).toNatClampNeg))) (by rw [e110]; exact Ar108.1) (State.isArrayOf_alike hZ.alike Ar108.2.1) Ar108.2.2 hin108 (Ht108 _ (by have hq := Nat.lt_of_not_le (fun y => hin108 (Or.inr y)); rw [Sz108] at hq; exact hq)) (g := (mkF m 108 #[.val (.ref o0), .val (.ref o1), .val (.int (3 : Int32))] [(.int (3 : Int32)), (.ref b55), (.ref b84), (.int (0 : Int32)), (.ref r3)])) rfl rfl (hb hby d12_108)) ?_
  show own_Fin p e below s Q 2 17 (T110.setTop (mkF m 109 #[.val (.ref o0), .val (.ref o1), .val (.int (3 : Int32))] [(.int (gf80 ((3 : Int32)).toNatClampNeg)), (.ref b84), (.int (0 : Int32)), (.ref r3)]))
  refine own_step (fun t k => XS.aloadN X110.here hx rfl (hb hby d12_109) rfl rfl k) ?_
  show own_Fin p e below s Q 2 17 (T110.setTop (mkF m 110 #[.val (.ref o0), .val (.ref o1), .val (.int (3 : Int32))] [(.ref o1), (.int (gf80 ((3 : Int32)).toNatClampNeg)), (.ref b84), (.int (0 : Int32)), (.ref r3)]))
  refine own_step (fun t k => XS.iloadN X110.here hx rfl (hb hby d12_110) rfl  k) ?_
  show own_Fin p e below s Q 2 17 (T110.setTop (mkF m 111 #[.val (.ref o0), .val (.ref o1), .val (.int (3 : Int32))] [(.int (3 : Int32)), (.ref o1), (.int (gf80 ((3 : Int32)).toNatClampNeg)), (.ref b84), (.int (0 : Int32)), (.ref r3)]))
  obtain ⟨cq111, kq111, q111a, q111b, q111c⟩ := isOf hZ e110 Ex106_o1
  obtain ⟨_, _, ⟨T111, L111, k111, n111⟩, -, X111, ⟨Lc111, hQ111, l111, y111, z111⟩, st111⟩ := X110.interfaceBack hx (xi := (⟨"java/util/List", "get", "(I)Ljava/lang/Object;"⟩ : MethodName)) (y := (⟨"java/util/ArrayList", "get", "(I)Ljava/lang/Object;"⟩ : MethodName)) hown (mvT hZ (hw _ (List.mem_of_getElem? (i := 90) rfl))) (mvT hZ (hw _ (List.mem_of_getElem? (i := 91) rfl))) (mvT hZ (hw _ (List.mem_of_getElem? (i := 92) rfl))) (mvT hZ (hw _ (List.mem_of_getElem? (i := 93) rfl))) (mvT hZ (hw _ (List.mem_of_getElem? (i := 94) rfl))) (mvT hZ (hw _ (List.mem_of_getElem? (i := 95) rfl))) (mvT hZ (hw _ (List.mem_of_getElem? (i := 96) rfl))) (mvT hZ (hw _ (List.mem_of_getElem? (i := 38) rfl))) (by decide) (backOf (W := 4) (rm14 l Z a0 hw [] o1 (3 : Int32) ea gE r3 (4 : Int32) T106.heap n0 Ex106_o1 F106_o1_size F106_o1_elementData R106_ea (by unfold own_In; decide) hg3 (by decide) (by decide)) hZ (hw _ (List.mem_of_getElem? (i := 97) rfl)) (hw _ (List.mem_of_getElem? (i := 2) rfl)) (by decide) (by decide)) q111a q111b q111c (g := (mkF m 111 #[.val (.ref o0), .val (.ref o1), .val (.int (3 : Int32))] [(.int (3 : Int32)), (.ref o1), (.int (gf80 ((3 : Int32)).toNatClampNeg)), (.ref b84), (.int (0 : Int32)), (.ref r3)])) rfl (by rw [hml]; rfl) (Steps.refl _) (argsL := [(.int (3 : Int32))]) (rest := [(.int (gf80 ((3 : Int32)).toNatClampNeg)), (.ref b84), (.int (0 : Int32)), (.ref r3)]) (lenOf pdm_8 rfl) rfl (by show 2 * 0 + _ ≤ _; exact Nat.le_of_eq rfl) (hb hby d12_111) (fun _ _ => ⟨rfl, e110, (show cells + 0 + 1 + 0 + 0 + 0 + 0 + 0 + 0 + 0 + 0 + 0 + 0 + 1 + 0 + 0 + 0 + 0 + 0 + 0 + 0 + 0 + 0 + 0 + 0 + 0 ≤ 2 from (Nat.le_trans (Nat.add_le_add_right hc 2) (by decide))), (show slots + 0 + 5 + 0 + 0 + 0 + 0 + 0 + 0 + 0 + 0 + 0 + 0 + 12 + 0 + 0 + 0 + 0 + 0 + 0 + 0 + 0 + 0 + 0 + 0 + 0 ≤ 17 from (Nat.le_trans (Nat.add_le_add_right hs 17) (by decide)))⟩)
  dsimp only [Pt.U, Pt.locs, Pt.cells, Pt.slots] at X111 l111 y111 z111 st111 hQ111
  have yy111 : k111 = cells + 0 + 1 + 0 + 0 + 0 + 0 + 0 + 0 + 0 + 0 + 0 + 0 + 1 + 0 + 0 + 0 + 0 + 0 + 0 + 0 + 0 + 0 + 0 + 0 + 0 := y111
  have zz111 : n111 = slots + 0 + 5 + 0 + 0 + 0 + 0 + 0 + 0 + 0 + 0 + 0 + 0 + 12 + 0 + 0 + 0 + 0 + 0 + 0 + 0 + 0 + 0 + 0 + 0 + 0 := z111
  rw [yy111, zz111, l111] at X111
  obtain ⟨rfl, N111q, e111⟩ := hQ111
  have N111 := Fr.app N108 N111q
  refine own_step (fun t k => st111.trans k) ?_
  show own_Fin p e below s Q 2 17 (T111.setTop (mkF m 116 #[.val (.ref o0), .val (.ref o1), .val (.int (3 : Int32))] [(.ref r3), (.int (gf80 ((3 : Int32)).toNatClampNeg)), (.ref b84), (.int (0 : Int32)), (.ref r3)]))
  obtain ⟨T112, X112, e112, st112⟩ := castY X111 hx hZ hown (hw _ (List.mem_of_getElem? (i := 111) rfl)) e111 (Ins.of_exa Xa106_r3 (hw _ (List.mem_of_getElem? (i := 112) rfl))) (g := (mkF m 116 #[.val (.ref o0), .val (.ref o1), .val (.int (3 : Int32))] [(.ref r3), (.int (gf80 ((3 : Int32)).toNatClampNeg)), (.ref b84), (.int (0 : Int32)), (.ref r3)])) rfl rfl (hb hby d12_116)
  refine own_step st112 ?_
  show own_Fin p e below s Q 2 17 (T112.setTop (mkF m 119 #[.val (.ref o0), .val (.ref o1), .val (.int (3 : Int32))] [(.ref r3), (.int (gf80 ((3 : Int32)).toNatClampNeg)), (.ref b84), (.int (0 : Int32)), (.ref r3)]))
  obtain ⟨ca119, Ar119, Sz119, Ht119⟩ := id V106_r3
  refine own_step (X112.arraylength hx (by rw [e112]; exact Ar119.1) (State.isArrayOf_alike hZ.alike Ar119.2.1) (g := (mkF m 119 #[.val (.ref o0), .val (.ref o1), .val (.int (3 : Int32))] [(.ref r3), (.int (gf80 ((3 : Int32)).toNatClampNeg)), (.ref b84), (.int (0 : Int32)), (.ref r3)])) rfl rfl (hb hby d12_119)) ?_
  rw [Sz119]
  show own_Fin p e below s Q 2 17 (T112.setTop (mkF m 120 #[.val (.ref o0), .val (.ref o1), .val (.int (3 : Int32))] [(.int (z3.toInt32)), (.int (gf80 ((3 : Int32)).toNatClampNeg)), (.ref b84), (.int (0 : Int32)), (.ref r3)]))
  obtain ⟨T113, h113, L113, X113, e113, N113, K113, V113, st113⟩ := own_cp X112 hx hZ hown (hw _ (List.mem_of_getElem? (i := 115) rfl)) (hw _ (List.mem_of_getElem? (i := 118) rfl)) (hw _ (List.mem_of_getElem? (i := 116) rfl)) (hw _ (List.mem_of_getElem? (i := 117) rfl)) e112 V106_r3 V106 (by omega) (by omega) (by rw [(show (gf80 ((3 : Int32)).toNatClampNeg) = ((((0 : Int32) + (z0.toInt32)) + (z1.toInt32)) + (z2.toInt32)) from es3)]; exact (own_sn3 z0 z1 z2 z3 hz0 hz1 hz2 hz3).1) (by rw [(own_zl z3 (by omega)).1]; exact Nat.le_refl _) ((own_zl z3 (by omega)).2) (by rw [(show (gf80 ((3 : Int32)).toNatClampNeg) = ((((0 : Int32) + (z0.toInt32)) + (z1.toInt32)) + (z2.toInt32)) from es3), (own_sn3 z0 z1 z2 z3 hz0 hz1 hz2 hz3).2, (own_zl z3 (by omega)).1]; omega) N111 fr84  (g := (mkF m 120 #[.val (.ref o0), .val (.ref o1), .val (.int (3 : Int32))] [(.int (z3.toInt32)), (.int (gf80 ((3 : Int32)).toNatClampNeg)), (.ref b84), (.int (0 : Int32)), (.ref r3)])) rfl (by rw [hml]; rfl) rfl (hb hby d12_120) (by decide) (W := 0) (by show 2 * 0 + _ ≤ _; exact Nat.le_of_eq rfl) (by decide)
  have Z0113 : n0 ≤ h113.size := Nat.le_trans Z0106 K113.1
  obtain ⟨gf113, hgf113⟩ : ∃ g' : Nat → Int32, g' = (fun i => if ((gf80 ((3 : Int32)).toNatClampNeg)).toNatClampNeg ≤ i ∧ i < ((gf80 ((3 : Int32)).toNatClampNeg)).toNatClampNeg + ((z3.toInt32)).toNatClampNeg then g3 (i - ((gf80 ((3 : Int32)).toNatClampNeg)).toNatClampNeg) else gf106 i) := ⟨_, rfl⟩
  rw [← hgf113] at V113
  have eh113 : T113.heap = h113 := e113
  subst e113
  have V113_r0 := own_AFkeep V106_r0 K113 (ninS ner0_84 nin0)
  have Xa113_r0 := Xa106_r0.keep K113
  have V113_r1 := own_AFkeep V106_r1 K113 (ninS ner1_84 nin0)
  have Xa113_r1 := Xa106_r1.keep K113
  have V113_r2 := own_AFkeep V106_r2 K113 (ninS ner2_84 nin0)
  have Xa113_r2 := Xa106_r2.keep K113
  have V113_r3 := own_AFkeep V106_r3 K113 (ninS ner3_84 nin0)
  have Xa113_r3 := Xa106_r3.keep K113
  have V113_b55 := own_AFkeep V106_b55 K113 (ninS neb55_84 nin0)
  have Xa113_b55 := Xa106_b55.keep K113
  have Xa113_b84 := Xa106_b84.keep K113
  have R113_ea := own_RFkeep R106_ea K113 (ninS neea_84 nin0)
  have Ex113_o1 := Ex106_o1.keep K113
  have F113_o1_modCount := F106_o1_modCount.keep K113 (ninS neo1_84 nin0)
  have F113_o1_elementData := F106_o1_elementData.keep K113 (ninS neo1_84 nin0)
  have F113_o1_size := F106_o1_size.keep K113 (ninS neo1_84 nin0)
  have Ex113_o0 := Ex106_o0.keep K113
  have F113_o0_starts := F106_o0_starts.keep K113 (ninS neo0_84 nin0)
  have F113_o0_values := F106_o0_values.keep K113 (ninS neo0_84 nin0)
  have KK113 : Keep h T113.heap [o0] := KK106.trans K113 (allS (Or.inr sz84) all0)
  refine own_step st113 ?_
  show own_Fin p e below s Q 2 17 (T113.setTop (mkF m 123 #[.val (.ref o0), .val (.ref o1), .val (.int (3 : Int32))] []))
  refine own_step (fun t k => XS.iinc X113.here hx rfl (hb hby d12_123) rfl (l' := #[.val (.ref o0), .val (.ref o1), .val (.int (4 : Int32))]) rfl k) ?_
  show own_Fin p e below s Q 2 17 (T113.setTop (mkF m 126 #[.val (.ref o0), .val (.ref o1), .val (.int (4 : Int32))] []))
  refine own_step (fun t k => XS.goto X113.here hx rfl (pc0 := 126) (pc' := 81) rfl (hb hby d12_126) (by decide) (by decide) k) ?_
  show own_Fin p e below s Q 2 17 (T113.setTop (mkF m 81 #[.val (.ref o0), .val (.ref o1), .val (.int (4 : Int32))] []))
  refine own_step (fun t k => XS.iloadN X113.here hx rfl (hb hby d12_81) rfl  k) ?_
  show own_Fin p e below s Q 2 17 (T113.setTop (mkF m 82 #[.val (.ref o0), .val (.ref o1), .val (.int (4 : Int32))] [(.int (4 : Int32))]))
  refine own_step (fun t k => XS.aloadN X113.here hx rfl (hb hby d12_82) rfl rfl k) ?_
  show own_Fin p e below s Q 2 17 (T113.setTop (mkF m 83 #[.val (.ref o0), .val (.ref o1), .val (.int (4 : Int32))] [(.ref o1), (.int (4 : Int32))]))
  obtain ⟨cq114, kq114, q114a, q114b, q114c⟩ := isOf hZ rfl Ex113_o1
  obtain ⟨_, _, ⟨T114, L114, k114, n114⟩, -, X114, ⟨Lc114, hQ114, l114, y114, z114⟩, st114⟩ := X113.interfaceBack hx (xi := (⟨"java/util/List", "size", "()I"⟩ : MethodName)) (y := (⟨"java/util/ArrayList", "size", "()I"⟩ : MethodName)) hown (mvT hZ (hw _ (List.mem_of_getElem? (i := 80) rfl))) (mvT hZ (hw _ (List.mem_of_getElem? (i := 81) rfl))) (mvT hZ (hw _ (List.mem_of_getElem? (i := 82) rfl))) (mvT hZ (hw _ (List.mem_of_getElem? (i := 83) rfl))) (mvT hZ (hw _ (List.mem_of_getElem? (i := 84) rfl))) (mvT hZ (hw _ (List.mem_of_getElem? (i := 85) rfl))) (mvT hZ (hw _ (List.mem_of_getElem? (i := 86) rfl))) (mvT hZ (hw _ (List.mem_of_getElem? (i := 38) rfl))) (by decide) (backOf (W := 1) (rm13 l Z a0 hw [] o1 (4 : Int32) T113.heap n0 F113_o1_size) hZ (hw _ (List.mem_of_getElem? (i := 87) rfl)) (hw _ (List.mem_of_getElem? (i := 2) rfl)) (by decide) (by decide)) q114a q114b q114c (g := (mkF m 83 #[.val (.ref o0), .val (.ref o1), .val (.int (4 : Int32))] [(.ref o1), (.int (4 : Int32))])) rfl (by rw [hml]; rfl) (Steps.refl _) (argsL := []) (rest := [(.int (4 : Int32))]) (lenOf pdm_6 rfl) rfl (by show 2 * 0 + _ ≤ _; exact Nat.le_of_eq rfl) (hb hby d12_83) (fun _ _ => ⟨rfl, rfl, (show cells + 0 + 1 + 0 + 0 + 0 + 0 + 0 + 0 + 0 + 0 + 0 + 0 + 1 + 0 + 0 + 0 + 0 + 0 + 0 + 0 + 0 + 0 + 0 + 0 + 0 + 0 ≤ 2 from (Nat.le_trans (Nat.add_le_add_right hc 2) (by decide))), (show slots + 0 + 5 + 0 + 0 + 0 + 0 + 0 + 0 + 0 + 0 + 0 + 0 + 12 + 0 + 0 + 0 + 0 + 0 + 0 + 0 + 0 + 0 + 0 + 0 + 0 + 0 ≤ 17 from (Nat.le_trans (Nat.add_le_add_right hs 17) (by decide)))⟩)
  dsimp only [Pt.U, Pt.locs, Pt.cells, Pt.slots] at X114 l114 y114 z114 st114 hQ114
  have yy114 : k114 = cells + 0 + 1 + 0 + 0 + 0 + 0 + 0 + 0 + 0 + 0 + 0 + 0 + 1 + 0 + 0 + 0 + 0 + 0 + 0 + 0 + 0 + 0 + 0 + 0 + 0 + 0 := y114
  have zz114 : n114 = slots + 0 + 5 + 0 + 0 + 0 + 0 + 0 + 0 + 0 + 0 + 0 + 0 + 12 + 0 + 0 + 0 + 0 + 0 + 0 + 0 + 0 + 0 + 0 + 0 + 0 + 0 := z114
  rw [yy114, zz114, l114] at X114
  obtain ⟨rfl, N114q, e114⟩ := hQ114
  have N114 := Fr.app N113 N114q
  refine own_step (fun t k => st114.trans k) ?_
  show own_Fin p e below s Q 2 17 (T114.setTop (mkF m 88 #[.val (.ref o0), .val (.ref o1), .val (.int (4 : Int32))] [(.int (4 : Int32)), (.int (4 : Int32))]))
  refine own_step (fun t k => XS.icmpYes X114.here hx rfl (pc0 := 88) (pc' := 129) rfl (hb hby d12_88) rfl (flt (by decide : ¬ ((4 : Int32) < (4 : Int32)))).2.1 (by decide) (by decide) k) ?_
  show own_Fin p e below s Q 2 17 (T114.setTop (mkF m 129 #[.val (.ref o0), .val (.ref o1), .val (.int (4 : Int32))] []))
  refine own_ret0 X114 hx hlk hret (hb hby d12_129) (Nat.le_trans (Nat.add_le_add_right hc 2) (by decide)) (Nat.le_trans (Nat.add_le_add_right hs 17) (by decide)) e114 ?_
  exact hQ _ _ b55 b84 gf80 gf113 N114 KK113 fr55 sz55 fr84 sz84 neb55_84 V113_b55 V113 es0 es1 es2 es3 es4 (fun i _ => (own_vstep hgf113 (fun i hi => hv3 i (by rw [(own_zl z3 (by omega)).1] at hi; exact hi)) (own_vstep hgf106 (fun i hi => hv2 i (by rw [(own_zl z2 (by omega)).1] at hi; exact hi)) (own_vstep hgf99 (fun i hi => hv1 i (by rw [(own_zl z1 (by omega)).1] at hi; exact hi)) (own_vstep hgf92 (fun i hi => hv0 i (by rw [(own_zl z0 (by omega)).1] at hi; exact hi)) own_val0)))) i) Ex113_o0 F113_o0_starts F113_o0_values
theorem pnm_5 : plainName "com/example/libentitle/libentitle/role/Rows" = true := by first | (simp [plainName, overriddenIn]; done) | decide +kernel
theorem pdm_9 : parseMethodDescriptor "(Ljava/util/List;)V" = some ⟨[(.object "java/util/List")], none⟩ := by decide +kernel
theorem ef_12 (m : MethodId) (o0 : Addr) (o1 : Addr) : entryFrame m #[(.ref o0), (.ref o1)] 3 = (mkF m 0 #[.val (.ref o0), .val (.ref o1), .unset] []) := by first | (simp [entryFrame, mkF, argsToLocals, Value.category]; done) | rfl
def Q12 (Z : State) (o0 : Addr) (o1 : Addr) (ust : Value) (uva : Value) (um : Value) (ea : Addr) (gE : Nat → Value) (r0 : Addr) (z0 : Nat) (g0 : Nat → Int32) (r1 : Addr) (z1 : Nat) (g1 : Nat → Int32) (r2 : Addr) (z2 : Nat) (g2 : Nat → Int32) (r3 : Addr) (z3 : Nat) (g3 : Nat → Int32) (h0 : Heap) (n0 : Nat) (v : Option Value) (h : Heap) (L : List Loc) : Prop := ∃ (bs : Addr) (bv : Addr) (gs : Nat → Int32) (gv : Nat → Int32), v = none ∧ Fr n0 L ∧ Keep h0 h [o0] ∧ (n0 ≤ bs) ∧ (h0.size ≤ bs) ∧ (n0 ≤ bv) ∧ (h0.size ≤ bv) ∧ (bs ≠ bv) ∧ (own_AF Z h bs .int 5 gs) ∧ (own_AF Z h bv .int (0 + z0 + z1 + z2 + z3) gv) ∧ (gs 0 = (0 : Int32)) ∧ (gs 1 = ((0 : Int32) + (z0.toInt32))) ∧ (gs 2 = (((0 : Int32) + (z0.toInt32)) + (z1.toInt32))) ∧ (gs 3 = ((((0 : Int32) + (z0.toInt32)) + (z1.toInt32)) + (z2.toInt32))) ∧ (gs 4 = (((((0 : Int32) + (z0.toInt32)) + (z1.toInt32)) + (z2.toInt32)) + (z3.toInt32))) ∧ (∀ i, i < 0 + z0 + z1 + z2 + z3 → own_val (gv i)) ∧ (Exa Z h o0 "com/example/libentitle/libentitle/role/Rows") ∧ (Fld Z h o0 "com/example/libentitle/libentitle/role/Rows" "starts" "[I" (.ref bs)) ∧ (Fld Z h o0 "com/example/libentitle/libentitle/role/Rows" "values" "[I" (.ref bv))
set_option maxRecDepth 65536 in
set_option maxHeartbeats 4000000 in
theorem rm12 (l : Launch) (Z : State) (a0 : Array Value) (hw : ∀ d ∈ tables_1, d.before a0 Z = true) (ws : List Jvm.Cond) (o0 : Addr) (o1 : Addr) (ust : Value) (uva : Value) (um : Value) (ea : Addr) (gE : Nat → Value) (r0 : Addr) (z0 : Nat) (g0 : Nat → Int32) (r1 : Addr) (z1 : Nat) (g1 : Nat → Int32) (r2 : Addr) (z2 : Nat) (g2 : Nat → Int32) (r3 : Addr) (z3 : Nat) (g3 : Nat → Int32) (h0 : Heap) (n0 : Nat) (Z0 : n0 ≤ h0.size) (fr0 : n0 ≤ o0) (Er : Exa Z h0 o0 "com/example/libentitle/libentitle/role/Rows") (Fst : Fld Z h0 o0 "com/example/libentitle/libentitle/role/Rows" "starts" "[I" ust) (Fva : Fld Z h0 o0 "com/example/libentitle/libentitle/role/Rows" "values" "[I" uva) (E0 : Exa Z h0 o1 "java/util/ArrayList") (Fm : Fld Z h0 o1 "java/util/AbstractList" "modCount" "I" um) (Fe : Fld Z h0 o1 "java/util/ArrayList" "elementData" "[Ljava/lang/Object;" (.ref ea)) (Fs : Fld Z h0 o1 "java/util/ArrayList" "size" "I" (.int (4 : Int32))) (Re : own_RF Z h0 ea "java/lang/Object" 10 gE) (A0 : own_AF Z h0 r0 .int z0 g0) (Xr0 : Exa Z h0 r0 "[I") (hg0 : gE 0 = .ref r0) (hz0 : z0 ≤ 3) (A1 : own_AF Z h0 r1 .int z1 g1) (Xr1 : Exa Z h0 r1 "[I") (hg1 : gE 1 = .ref r1) (hz1 : z1 ≤ 3) (A2 : own_AF Z h0 r2 .int z2 g2) (Xr2 : Exa Z h0 r2 "[I") (hg2 : gE 2 = .ref r2) (hz2 : z2 ≤ 3) (A3 : own_AF Z h0 r3 .int z3 g3) (Xr3 : Exa Z h0 r3 "[I") (hg3 : gE 3 = .ref r3) (hz3 : z3 ≤ 3) (nel : o1 ≠ o0) (nee : ea ≠ o0) (ne0 : r0 ≠ o0) (ne1 : r1 ≠ o0) (ne2 : r2 ≠ o0) (ne3 : r3 ≠ o0) (hv0 : ∀ i, i < z0 → own_val (g0 i)) (hv1 : ∀ i, i < z1 → own_val (g1 i)) (hv2 : ∀ i, i < z2 → own_val (g2 i)) (hv3 : ∀ i, i < z3 → own_val (g3 i)) :
    MetFree l (⟨"com/example/libentitle/libentitle/role/Rows", "<init>", "(Ljava/util/List;)V"⟩ : MethodName) (head1 (Jvm.Cond.code (⟨"com/example/libentitle/libentitle/role/Rows", "<init>", "(Ljava/util/List;)V"⟩ : MethodName) prog_61_method_1_code 3 none :: ws) ({ frames := 3, cells := 2, slots := 17, locals := 90 } : Room)) (fun a U => a = #[(.ref o0), (.ref o1)] ∧ Z.Warmed39 U.vm ∧ U.heap = h0) (fun _ _ _ _ _ => True) (fun _ U o U' => ∃ v L, o = .returned v ∧ Q12 Z o0 o1 ust uva um ea gE r0 z0 g0 r1 z1 g1 r2 z2 g2 r3 z3 g3 h0 n0 v U'.heap L ∧ FrameEnd U o U' L ({ frames := 3, cells := 2, slots := 17, locals := 90 } : Room).cells ({ frames := 3, cells := 2, slots := 17, locals := 90 } : Room).slots) := by
  refine MetFree.of_bodySF (plainFor_of_name pnm_5) hisR ?_
  intro p e s m args below meth c s₁ Bd hml0 hP hK
  obtain ⟨rfl, hZ, hh⟩ := hP
  have hx := Bd.exec
  have hby := Bd.bytes
  have hml : c.maxLocals = 3 := hml0
  have hown : s.vm.findClass "com/example/libentitle/libentitle/role/Rows" = some m.cls := findClass_of_methodNamed Bd.named
  have X0 : Stand p l e ({ frames := 3, cells := 2, slots := 17, locals := 90 } : Room) s m #[(.ref o0), (.ref o1)] below meth c s₁ [] 0 0 := Stand.of_body Bd
  have e0 : s₁.heap = h0 := by rw [← hh, Bd.state]; rfl
  have fin := b12_0 o0 o1 ust uva um ea gE r0 z0 g0 r1 z1 g1 r2 z2 g2 r3 z3 g3 (Q := Q12 Z o0 o1 ust uva um ea gE r0 z0 g0 r1 z1 g1 r2 z2 g2 r3 z3 g3 h0 n0) hw X0 hx hZ hby hml hown Bd.returns (BodyLoose.notSynchronized Bd) (name_of_methodNamed Bd.named Bd.method).1 e0 (Fr.nil n0) (Nat.zero_le _) (Nat.zero_le _) Z0 fr0 Er Fst Fva E0 Fm Fe Fs Re A0 Xr0 hg0 hz0 A1 Xr1 hg1 hz1 A2 Xr2 hg2 hz2 A3 Xr3 hg3 hz3 nel nee ne0 ne1 ne2 ne3 hv0 hv1 hv2 hv3 (fun H' L' bs bv gs gv n' k' r0 r1 r2 r3 r4 r5 r6 r7 r8 r9 r10 r11 r12 r13 r14 r15 => ⟨bs, bv, gs, gv, rfl, n', k', r0, r1, r2, r3, r4, r5, r6, r7, r8, r9, r10, r11, r12, r13, r14, r15⟩)
  exact own_step (fun t k => castTop (ef_12 m o0 o1) k) fin
theorem own_and3 (x : Int32) : own_val (x &&& (3 : Int32)) := by
  have h := c_and x 3 (by decide)
  have z : (3 : Int32).toInt = 3 := by decide
  exact ⟨h.1, by omega⟩
theorem own_vset {g' g : Nat → Int32} {k : Nat} {v : Int32} (h : g' = (fun i => if i = k then v else g i)) (hv : own_val v) (hg : ∀ i, own_val (g i)) : ∀ i, own_val (g' i) := fun i => by
  rw [h]
  show own_val (if i = k then v else g i)
  by_cases q : i = k
  · rw [if_pos q]; exact hv
  · rw [if_neg q]; exact hg i
theorem own_is3 {x : Int32} (h : own_val x) (h0 : ¬ x = 0) (h1 : ¬ x = 1) (h2 : ¬ x = 2) : x = 3 := by
  have a0 : ¬ x.toInt = 0 := fun y => h0 ((own_eqi (by decide)).mpr y)
  have a1 : ¬ x.toInt = 1 := fun y => h1 ((own_eqi (by decide)).mpr y)
  have a2 : ¬ x.toInt = 2 := fun y => h2 ((own_eqi (by decide)).mpr y)
  have := h.1
  have := h.2
  exact (own_eqi (b := 3) (by decide)).mpr (by omega)
theorem own_vz {x : Int32} (h : own_val x) : x.toNatClampNeg ≤ 3 ∧ ¬ x < (0 : Int32) := by
  obtain ⟨n1, -, -⟩ := own_vn h
  obtain ⟨h1, h2⟩ := h
  exact ⟨by omega, own_ltz h1⟩
theorem d5_0 : decode method_2_code 0 = .ok (.iload_n 1, 1) := by decide +kernel
theorem d5_1 : decode method_2_code 1 = .ok (.iconst 3, 1) := by decide +kernel
theorem d5_2 : decode method_2_code 2 = .ok (.iand, 1) := by decide +kernel
theorem d5_3 : decode method_2_code 3 = .ok (.istore_n 2, 1) := by decide +kernel
theorem d5_4 : decode method_2_code 4 = .ok (.iload_n 1, 1) := by decide +kernel
theorem d5_5 : decode method_2_code 5 = .ok (.iconst 2, 1) := by decide +kernel
theorem d5_6 : decode method_2_code 6 = .ok (.iushr, 1) := by decide +kernel
theorem d5_7 : decode method_2_code 7 = .ok (.iconst 3, 1) := by decide +kernel
theorem d5_8 : decode method_2_code 8 = .ok (.iand, 1) := by decide +kernel
theorem d5_9 : decode method_2_code 9 = .ok (.istore_n 3, 1) := by decide +kernel
theorem d5_10 : decode method_2_code 10 = .ok (.iload_n 1, 1) := by decide +kernel
theorem d5_11 : decode method_2_code 11 = .ok (.iconst 4, 1) := by decide +kernel
theorem d5_12 : decode method_2_code 12 = .ok (.iushr, 1) := by decide +kernel
theorem d5_13 : decode method_2_code 13 = .ok (.iconst 3, 1) := by decide +kernel
theorem d5_14 : decode method_2_code 14 = .ok (.iand, 1) := by decide +kernel
theorem d5_15 : decode method_2_code 15 = .ok (.istore 4, 2) := by decide +kernel
theorem d5_17 : decode method_2_code 17 = .ok (.iload_n 0, 1) := by decide +kernel
theorem d5_18 : decode method_2_code 18 = .ok (.ifCond .ne 7, 3) := by decide +kernel
theorem d5_21 : decode method_2_code 21 = .ok (.iconst 0, 1) := by decide +kernel
theorem d5_22 : decode method_2_code 22 = .ok (.newarray .int, 2) := by decide +kernel
theorem d5_24 : decode method_2_code 24 = .ok (.areturn, 1) := by decide +kernel
theorem d5_25 : decode method_2_code 25 = .ok (.iload_n 0, 1) := by decide +kernel
theorem d5_26 : decode method_2_code 26 = .ok (.iconst 1, 1) := by decide +kernel
theorem d5_27 : decode method_2_code 27 = .ok (.if_icmp .ne 11, 3) := by decide +kernel
theorem d5_30 : decode method_2_code 30 = .ok (.iconst 1, 1) := by decide +kernel
theorem d5_31 : decode method_2_code 31 = .ok (.newarray .int, 2) := by decide +kernel
theorem d5_33 : decode method_2_code 33 = .ok (.dup, 1) := by decide +kernel
theorem d5_34 : decode method_2_code 34 = .ok (.iconst 0, 1) := by decide +kernel
theorem d5_35 : decode method_2_code 35 = .ok (.iload_n 2, 1) := by decide +kernel
theorem d5_36 : decode method_2_code 36 = .ok (.iastore, 1) := by decide +kernel
theorem d5_37 : decode method_2_code 37 = .ok (.areturn, 1) := by decide +kernel
theorem d5_38 : decode method_2_code 38 = .ok (.iload_n 0, 1) := by decide +kernel
theorem d5_39 : decode method_2_code 39 = .ok (.iconst 2, 1) := by decide +kernel
theorem d5_40 : decode method_2_code 40 = .ok (.if_icmp .ne 15, 3) := by decide +kernel
theorem d5_43 : decode method_2_code 43 = .ok (.iconst 2, 1) := by decide +kernel
theorem d5_44 : decode method_2_code 44 = .ok (.newarray .int, 2) := by decide +kernel
theorem d5_46 : decode method_2_code 46 = .ok (.dup, 1) := by decide +kernel
theorem d5_47 : decode method_2_code 47 = .ok (.iconst 0, 1) := by decide +kernel
theorem d5_48 : decode method_2_code 48 = .ok (.iload_n 2, 1) := by decide +kernel
theorem d5_49 : decode method_2_code 49 = .ok (.iastore, 1) := by decide +kernel
theorem d5_50 : decode method_2_code 50 = .ok (.dup, 1) := by decide +kernel
theorem d5_51 : decode method_2_code 51 = .ok (.iconst 1, 1) := by decide +kernel
theorem d5_52 : decode method_2_code 52 = .ok (.iload_n 3, 1) := by decide +kernel
theorem d5_53 : decode method_2_code 53 = .ok (.iastore, 1) := by decide +kernel
theorem d5_54 : decode method_2_code 54 = .ok (.areturn, 1) := by decide +kernel
theorem d5_55 : decode method_2_code 55 = .ok (.iconst 3, 1) := by decide +kernel
theorem d5_56 : decode method_2_code 56 = .ok (.newarray .int, 2) := by decide +kernel
theorem d5_58 : decode method_2_code 58 = .ok (.dup, 1) := by decide +kernel
theorem d5_59 : decode method_2_code 59 = .ok (.iconst 0, 1) := by decide +kernel
theorem d5_60 : decode method_2_code 60 = .ok (.iload_n 2, 1) := by decide +kernel
theorem d5_61 : decode method_2_code 61 = .ok (.iastore, 1) := by decide +kernel
theorem d5_62 : decode method_2_code 62 = .ok (.dup, 1) := by decide +kernel
theorem d5_63 : decode method_2_code 63 = .ok (.iconst 1, 1) := by decide +kernel
theorem d5_64 : decode method_2_code 64 = .ok (.iload_n 3, 1) := by decide +kernel
theorem d5_65 : decode method_2_code 65 = .ok (.iastore, 1) := by decide +kernel
theorem d5_66 : decode method_2_code 66 = .ok (.dup, 1) := by decide +kernel
theorem d5_67 : decode method_2_code 67 = .ok (.iconst 2, 1) := by decide +kernel
theorem d5_68 : decode method_2_code 68 = .ok (.iload 4, 2) := by decide +kernel
theorem d5_70 : decode method_2_code 70 = .ok (.iastore, 1) := by decide +kernel
theorem d5_71 : decode method_2_code 71 = .ok (.areturn, 1) := by decide +kernel
set_option maxRecDepth 65536 in
set_option maxHeartbeats 40000000 in
theorem b5_0 {p : Program} {l : Launch} {e : Env} {s : State} {m : MethodId} {args : Array Value} {below : List Frame} {meth : Method} {c : Code} {T : State} {locs : List Loc} {cells slots : Nat} {Z : State} {a0 : Array Value} {h : Heap} {n0 : Nat} {Q : Option Value → Heap → List Loc → Prop} (i0 : Int32) (i1 : Int32) (hw : ∀ d ∈ tables_1, d.before a0 Z = true) (X : Stand p l e ({ frames := 0, cells := 1, slots := 3, locals := 0 } : Room) s m args below meth c T locs cells slots) (hx : p.tables.exec = Jvm.exec) (hZ : Z.Warmed39 s.vm) (hby : c.code = method_2_code) (hml : c.maxLocals = 5) (hown : s.vm.findClass "com/example/libentitle/libentitle/role/GraphLeadsPinLaw" = some m.cls) (hret : meth.sig.returnType = some (.array .int)) (hlk : meth.locks = false) (eT : T.heap = h) (N : Fr n0 locs) (hc : cells ≤ 0) (hs : slots ≤ 0) (Z0 : n0 ≤ h.size) (hl : own_val i0) (hQ : ∀ (H' : Heap) (L' : List Loc) (b : Addr) (g : Nat → Int32), Fr n0 L' → Keep h H' [] → (n0 ≤ b) → (h.size ≤ b) → (own_AF Z H' b .int (i0.toNatClampNeg) g) → (Exa Z H' b "[I") → (∀ i, i < i0.toNatClampNeg → own_val (g i)) → Q (some (.ref b)) H' L') :
    own_Fin p e below s Q 1 3 (T.setTop (mkF m 0 #[.val (.int i0), .val (.int i1), .unset, .unset, .unset] [])) := by
  refine own_step (fun t k => XS.iloadN X.here hx rfl (hb hby d5_0) rfl  k) ?_
  show own_Fin p e below s Q 1 3 (T.setTop (mkF m 1 #[.val (.int i0), .val (.int i1), .unset, .unset, .unset] [(.int i1)]))
  refine own_step (fun t k => XS.iconst X.here hx rfl (hb hby d5_1) k) ?_
  show own_Fin p e below s Q 1 3 (T.setTop (mkF m 2 #[.val (.int i0), .val (.int i1), .unset, .unset, .unset] [(.int (3 : Int32)), (.int i1)]))
  refine own_step (fun t k => XS.iand X.here hx rfl (hb hby d5_2) rfl k) ?_
  show own_Fin p e below s Q 1 3 (T.setTop (mkF m 3 #[.val (.int i0), .val (.int i1), .unset, .unset, .unset] [(.int (i1 &&& (3 : Int32)))]))
  refine own_step (fun t k => XS.istoreN X.here hx rfl (hb hby d5_3) rfl (l' := #[.val (.int i0), .val (.int i1), .val (.int (i1 &&& (3 : Int32))), .unset, .unset]) rfl k) ?_
  show own_Fin p e below s Q 1 3 (T.setTop (mkF m 4 #[.val (.int i0), .val (.int i1), .val (.int (i1 &&& (3 : Int32))), .unset, .unset] []))
  refine own_step (fun t k => XS.iloadN X.here hx rfl (hb hby d5_4) rfl  k) ?_
  show own_Fin p e below s Q 1 3 (T.setTop (mkF m 5 #[.val (.int i0), .val (.int i1), .val (.int (i1 &&& (3 : Int32))), .unset, .unset] [(.int i1)]))
  refine own_step (fun t k => XS.iconst X.here hx rfl (hb hby d5_5) k) ?_
  show own_Fin p e below s Q 1 3 (T.setTop (mkF m 6 #[.val (.int i0), .val (.int i1), .val (.int (i1 &&& (3 : Int32))), .unset, .unset] [(.int (2 : Int32)), (.int i1)]))
  refine own_step (fun t k => XS.iushr X.here hx rfl (hb hby d5_6) rfl k) ?_
  show own_Fin p e below s Q 1 3 (T.setTop (mkF m 7 #[.val (.int i0), .val (.int i1), .val (.int (i1 &&& (3 : Int32))), .unset, .unset] [(.int ((i1.toUInt32 >>> ((2 : Int32) &&& 31).toUInt32).toInt32))]))
  refine own_step (fun t k => XS.iconst X.here hx rfl (hb hby d5_7) k) ?_
  show own_Fin p e below s Q 1 3 (T.setTop (mkF m 8 #[.val (.int i0), .val (.int i1), .val (.int (i1 &&& (3 : Int32))), .unset, .unset] [(.int (3 : Int32)), (.int ((i1.toUInt32 >>> ((2 : Int32) &&& 31).toUInt32).toInt32))]))
  refine own_step (fun t k => XS.iand X.here hx rfl (hb hby d5_8) rfl k) ?_
  show own_Fin p e below s Q 1 3 (T.setTop (mkF m 9 #[.val (.int i0), .val (.int i1), .val (.int (i1 &&& (3 : Int32))), .unset, .unset] [(.int (((i1.toUInt32 >>> ((2 : Int32) &&& 31).toUInt32).toInt32) &&& (3 : Int32)))]))
  refine own_step (fun t k => XS.istoreN X.here hx rfl (hb hby d5_9) rfl (l' := #[.val (.int i0), .val (.int i1), .val (.int (i1 &&& (3 : Int32))), .val (.int (((i1.toUInt32 >>> ((2 : Int32) &&& 31).toUInt32).toInt32) &&& (3 : Int32))), .unset]) rfl k) ?_
  show own_Fin p e below s Q 1 3 (T.setTop (mkF m 10 #[.val (.int i0), .val (.int i1), .val (.int (i1 &&& (3 : Int32))), .val (.int (((i1.toUInt32 >>> ((2 : Int32) &&& 31).toUInt32).toInt32) &&& (3 : Int32))), .unset] []))
  refine own_step (fun t k => XS.iloadN X.here hx rfl (hb hby d5_10) rfl  k) ?_
  show own_Fin p e below s Q 1 3 (T.setTop (mkF m 11 #[.val (.int i0), .val (.int i1), .val (.int (i1 &&& (3 : Int32))), .val (.int (((i1.toUInt32 >>> ((2 : Int32) &&& 31).toUInt32).toInt32) &&& (3 : Int32))), .unset] [(.int i1)]))
  refine own_step (fun t k => XS.iconst X.here hx rfl (hb hby d5_11) k) ?_
  show own_Fin p e below s Q 1 3 (T.setTop (mkF m 12 #[.val (.int i0), .val (.int i1), .val (.int (i1 &&& (3 : Int32))), .val (.int (((i1.toUInt32 >>> ((2 : Int32) &&& 31).toUInt32).toInt32) &&& (3 : Int32))), .unset] [(.int (4 : Int32)), (.int i1)]))
  refine own_step (fun t k => XS.iushr X.here hx rfl (hb hby d5_12) rfl k) ?_
  show own_Fin p e below s Q 1 3 (T.setTop (mkF m 13 #[.val (.int i0), .val (.int i1), .val (.int (i1 &&& (3 : Int32))), .val (.int (((i1.toUInt32 >>> ((2 : Int32) &&& 31).toUInt32).toInt32) &&& (3 : Int32))), .unset] [(.int ((i1.toUInt32 >>> ((4 : Int32) &&& 31).toUInt32).toInt32))]))
  refine own_step (fun t k => XS.iconst X.here hx rfl (hb hby d5_13) k) ?_
  show own_Fin p e below s Q 1 3 (T.setTop (mkF m 14 #[.val (.int i0), .val (.int i1), .val (.int (i1 &&& (3 : Int32))), .val (.int (((i1.toUInt32 >>> ((2 : Int32) &&& 31).toUInt32).toInt32) &&& (3 : Int32))), .unset] [(.int (3 : Int32)), (.int ((i1.toUInt32 >>> ((4 : Int32) &&& 31).toUInt32).toInt32))]))
  refine own_step (fun t k => XS.iand X.here hx rfl (hb hby d5_14) rfl k) ?_
  show own_Fin p e below s Q 1 3 (T.setTop (mkF m 15 #[.val (.int i0), .val (.int i1), .val (.int (i1 &&& (3 : Int32))), .val (.int (((i1.toUInt32 >>> ((2 : Int32) &&& 31).toUInt32).toInt32) &&& (3 : Int32))), .unset] [(.int (((i1.toUInt32 >>> ((4 : Int32) &&& 31).toUInt32).toInt32) &&& (3 : Int32)))]))
  refine own_step (fun t k => XS.istore X.here hx rfl (hb hby d5_15) rfl (l' := #[.val (.int i0), .val (.int i1), .val (.int (i1 &&& (3 : Int32))), .val (.int (((i1.toUInt32 >>> ((2 : Int32) &&& 31).toUInt32).toInt32) &&& (3 : Int32))), .val (.int (((i1.toUInt32 >>> ((4 : Int32) &&& 31).toUInt32).toInt32) &&& (3 : Int32)))]) rfl k) ?_
  show own_Fin p e below s Q 1 3 (T.setTop (mkF m 17 #[.val (.int i0), .val (.int i1), .val (.int (i1 &&& (3 : Int32))), .val (.int (((i1.toUInt32 >>> ((2 : Int32) &&& 31).toUInt32).toInt32) &&& (3 : Int32))), .val (.int (((i1.toUInt32 >>> ((4 : Int32) &&& 31).toUInt32).toInt32) &&& (3 : Int32)))] []))
  refine own_step (fun t k => XS.iloadN X.here hx rfl (hb hby d5_17) rfl  k) ?_
  show own_Fin p e below s Q 1 3 (T.setTop (mkF m 18 #[.val (.int i0), .val (.int i1), .val (.int (i1 &&& (3 : Int32))), .val (.int (((i1.toUInt32 >>> ((2 : Int32) &&& 31).toUInt32).toInt32) &&& (3 : Int32))), .val (.int (((i1.toUInt32 >>> ((4 : Int32) &&& 31).toUInt32).toInt32) &&& (3 : Int32)))] [(.int i0)]))
  by_cases hB18_115 : i0 = (0 : Int32)
  · refine own_step (fun t k => XS.ifNo X.here hx rfl (hb hby d5_18) rfl ((if0 _ _).trans (teq hB18_115).2) k) ?_
    show own_Fin p e below s Q 1 3 (T.setTop (mkF m 21 #[.val (.int i0), .val (.int i1), .val (.int (i1 &&& (3 : Int32))), .val (.int (((i1.toUInt32 >>> ((2 : Int32) &&& 31).toUInt32).toInt32) &&& (3 : Int32))), .val (.int (((i1.toUInt32 >>> ((4 : Int32) &&& 31).toUInt32).toInt32) &&& (3 : Int32)))] []))
    refine own_step (fun t k => XS.iconst X.here hx rfl (hb hby d5_21) k) ?_
    show own_Fin p e below s Q 1 3 (T.setTop (mkF m 22 #[.val (.int i0), .val (.int i1), .val (.int (i1 &&& (3 : Int32))), .val (.int (((i1.toUInt32 >>> ((2 : Int32) &&& 31).toUInt32).toInt32) &&& (3 : Int32))), .val (.int (((i1.toUInt32 >>> ((4 : Int32) &&& 31).toUInt32).toInt32) &&& (3 : Int32)))] [(.int (0 : Int32))]))
    obtain ⟨T116, h116, k116, X116, e116, E116, AA116, XX116, st116⟩ := newPE X hx hZ (hw _ (List.mem_of_getElem? (i := 30) rfl)) eT (g := (mkF m 22 #[.val (.int i0), .val (.int i1), .val (.int (i1 &&& (3 : Int32))), .val (.int (((i1.toUInt32 >>> ((2 : Int32) &&& 31).toUInt32).toInt32) &&& (3 : Int32))), .val (.int (((i1.toUInt32 >>> ((4 : Int32) &&& 31).toUInt32).toInt32) &&& (3 : Int32)))] [(.int (0 : Int32))])) rfl (hb hby d5_22) rfl (by decide) (cap := 0) (by decide) (by decide) (show cells + 1 ≤ 1 from (Nat.le_trans (Nat.add_le_add_right hc 1) (by decide))) (show slots + 0 ≤ 3 from (Nat.le_trans (Nat.add_le_add_right hs 0) (by decide))) (ad := "[I") (by decide)
    obtain ⟨b116, gg116⟩ : ∃ z, z = h.size := ⟨_, rfl⟩
    rw [← gg116] at AA116 XX116 st116
    have V116 : own_AF Z h116 b116 .int 0 (fun _ => 0) := own_AFnew AA116 (by decide)
    have fr116 : n0 ≤ b116 := Nat.le_trans Z0 (Nat.le_of_eq gg116.symm)
    have Z0116 : n0 ≤ h116.size := Nat.le_trans Z0 E116.1
    have sz116 : h.size ≤ b116 := Nat.le_trans (Keep.refl h []).1 (Nat.le_of_eq gg116.symm)
    have K116 : Keep h h116 [] := (Keep.refl h []).ext E116
    refine own_step st116 ?_
    show own_Fin p e below s Q 1 3 (T116.setTop (mkF m 24 #[.val (.int i0), .val (.int i1), .val (.int (i1 &&& (3 : Int32))), .val (.int (((i1.toUInt32 >>> ((2 : Int32) &&& 31).toUInt32).toInt32) &&& (3 : Int32))), .val (.int (((i1.toUInt32 >>> ((4 : Int32) &&& 31).toUInt32).toInt32) &&& (3 : Int32)))] [(.ref b116)]))
    refine own_retA X116 hx hlk hret rfl (hb hby d5_24) (Nat.le_trans (Nat.add_le_add_right hc 1) (by decide)) (Nat.le_trans (Nat.add_le_add_right hs 0) (by decide)) e116 ?_
    exact hQ _ _ b116 (fun _ => 0) N K116 fr116 sz116 (by rw [hB18_115]; exact V116) XX116 (fun i _ => own_val0 i)
  · refine own_step (fun t k => XS.ifYes X.here hx rfl (pc0 := 18) (pc' := 25) rfl (hb hby d5_18) rfl ((if0 _ _).trans (feq hB18_115).2) (by decide) (by decide) k) ?_
    show own_Fin p e below s Q 1 3 (T.setTop (mkF m 25 #[.val (.int i0), .val (.int i1), .val (.int (i1 &&& (3 : Int32))), .val (.int (((i1.toUInt32 >>> ((2 : Int32) &&& 31).toUInt32).toInt32) &&& (3 : Int32))), .val (.int (((i1.toUInt32 >>> ((4 : Int32) &&& 31).toUInt32).toInt32) &&& (3 : Int32)))] []))
    refine own_step (fun t k => XS.iloadN X.here hx rfl (hb hby d5_25) rfl  k) ?_
    show own_Fin p e below s Q 1 3 (T.setTop (mkF m 26 #[.val (.int i0), .val (.int i1), .val (.int (i1 &&& (3 : Int32))), .val (.int (((i1.toUInt32 >>> ((2 : Int32) &&& 31).toUInt32).toInt32) &&& (3 : Int32))), .val (.int (((i1.toUInt32 >>> ((4 : Int32) &&& 31).toUInt32).toInt32) &&& (3 : Int32)))] [(.int i0)]))
    refine own_step (fun t k => XS.iconst X.here hx rfl (hb hby d5_26) k) ?_
    show own_Fin p e below s Q 1 3 (T.setTop (mkF m 27 #[.val (.int i0), .val (.int i1), .val (.int (i1 &&& (3 : Int32))), .val (.int (((i1.toUInt32 >>> ((2 : Int32) &&& 31).toUInt32).toInt32) &&& (3 : Int32))), .val (.int (((i1.toUInt32 >>> ((4 : Int32) &&& 31).toUInt32).toInt32) &&& (3 : Int32)))] [(.int (1 : Int32)), (.int i0)]))
    by_cases hB27_117 : i0 = (1 : Int32)
    · refine own_step (fun t k => XS.icmpNo X.here hx rfl (hb hby d5_27) rfl (teq hB27_117).2 k) ?_
      show own_Fin p e below s Q 1 3 (T.setTop (mkF m 30 #[.val (.int i0), .val (.int i1), .val (.int (i1 &&& (3 : Int32))), .val (.int (((i1.toUInt32 >>> ((2 : Int32) &&& 31).toUInt32).toInt32) &&& (3 : Int32))), .val (.int (((i1.toUInt32 >>> ((4 : Int32) &&& 31).toUInt32).toInt32) &&& (3 : Int32)))] []))
      refine own_step (fun t k => XS.iconst X.here hx rfl (hb hby d5_30) k) ?_
      show own_Fin p e below s Q 1 3 (T.setTop (mkF m 31 #[.val (.int i0), .val (.int i1), .val (.int (i1 &&& (3 : Int32))), .val (.int (((i1.toUInt32 >>> ((2 : Int32) &&& 31).toUInt32).toInt32) &&& (3 : Int32))), .val (.int (((i1.toUInt32 >>> ((4 : Int32) &&& 31).toUInt32).toInt32) &&& (3 : Int32)))] [(.int (1 : Int32))]))
      obtain ⟨T118, h118, k118, X118, e118, E118, AA118, XX118, st118⟩ := newPE X hx hZ (hw _ (List.mem_of_getElem? (i := 30) rfl)) eT (g := (mkF m 31 #[.val (.int i0), .val (.int i1), .val (.int (i1 &&& (3 : Int32))), .val (.int (((i1.toUInt32 >>> ((2 : Int32) &&& 31).toUInt32).toInt32) &&& (3 : Int32))), .val (.int (((i1.toUInt32 >>> ((4 : Int32) &&& 31).toUInt32).toInt32) &&& (3 : Int32)))] [(.int (1 : Int32))])) rfl (hb hby d5_31) rfl (by decide) (cap := 1) (by decide) (by decide) (show cells + 1 ≤ 1 from (Nat.le_trans (Nat.add_le_add_right hc 1) (by decide))) (show slots + 1 ≤ 3 from (Nat.le_trans (Nat.add_le_add_right hs 1) (by decide))) (ad := "[I") (by decide)
      obtain ⟨b118, gg118⟩ : ∃ z, z = h.size := ⟨_, rfl⟩
      rw [← gg118] at AA118 XX118 st118
      have V118 : own_AF Z h118 b118 .int 1 (fun _ => 0) := own_AFnew AA118 (by decide)
      have fr118 : n0 ≤ b118 := Nat.le_trans Z0 (Nat.le_of_eq gg118.symm)
      have Z0118 : n0 ≤ h118.size := Nat.le_trans Z0 E118.1
      have sz118 : h.size ≤ b118 := Nat.le_trans (Keep.refl h []).1 (Nat.le_of_eq gg118.symm)
      have K118 : Keep h h118 [] := (Keep.refl h []).ext E118
      refine own_step st118 ?_
      show own_Fin p e below s Q 1 3 (T118.setTop (mkF m 33 #[.val (.int i0), .val (.int i1), .val (.int (i1 &&& (3 : Int32))), .val (.int (((i1.toUInt32 >>> ((2 : Int32) &&& 31).toUInt32).toInt32) &&& (3 : Int32))), .val (.int (((i1.toUInt32 >>> ((4 : Int32) &&& 31).toUInt32).toInt32) &&& (3 : Int32)))] [(.ref b118)]))
      refine own_step (fun t k => XS.dup X118.here hx rfl (hb hby d5_33) rfl rfl k) ?_
      show own_Fin p e below s Q 1 3 (T118.setTop (mkF m 34 #[.val (.int i0), .val (.int i1), .val (.int (i1 &&& (3 : Int32))), .val (.int (((i1.toUInt32 >>> ((2 : Int32) &&& 31).toUInt32).toInt32) &&& (3 : Int32))), .val (.int (((i1.toUInt32 >>> ((4 : Int32) &&& 31).toUInt32).toInt32) &&& (3 : Int32)))] [(.ref b118), (.ref b118)]))
      refine own_step (fun t k => XS.iconst X118.here hx rfl (hb hby d5_34) k) ?_
      show own_Fin p e below s Q 1 3 (T118.setTop (mkF m 35 #[.val (.int i0), .val (.int i1), .val (.int (i1 &&& (3 : Int32))), .val (.int (((i1.toUInt32 >>> ((2 : Int32) &&& 31).toUInt32).toInt32) &&& (3 : Int32))), .val (.int (((i1.toUInt32 >>> ((4 : Int32) &&& 31).toUInt32).toInt32) &&& (3 : Int32)))] [(.int (0 : Int32)), (.ref b118), (.ref b118)]))
      refine own_step (fun t k => XS.iloadN X118.here hx rfl (hb hby d5_35) rfl  k) ?_
      show own_Fin p e below s Q 1 3 (T118.setTop (mkF m 36 #[.val (.int i0), .val (.int i1), .val (.int (i1 &&& (3 : Int32))), .val (.int (((i1.toUInt32 >>> ((2 : Int32) &&& 31).toUInt32).toInt32) &&& (3 : Int32))), .val (.int (((i1.toUInt32 >>> ((4 : Int32) &&& 31).toUInt32).toInt32) &&& (3 : Int32)))] [(.int (i1 &&& (3 : Int32))), (.int (0 : Int32)), (.ref b118), (.ref b118)]))
      obtain ⟨ca119, Ar119, Sz119, Ht119⟩ := id V118
      have hin119 : ¬ ((0 : Int32) < 0 ∨ ca119.slots.size ≤ ((0 : Int32)).toNatClampNeg) := by rw [Sz119]; exact (by decide)
      obtain ⟨T119, h119, X119, e119, W119, st119⟩ := stI X118 hx hZ e118 Ar119 (j := (0 : Int32)) hin119 (g := (mkF m 36 #[.val (.int i0), .val (.int i1), .val (.int (i1 &&& (3 : Int32))), .val (.int (((i1.toUInt32 >>> ((2 : Int32) &&& 31).toUInt32).toInt32) &&& (3 : Int32))), .val (.int (((i1.toUInt32 >>> ((4 : Int32) &&& 31).toUInt32).toInt32) &&& (3 : Int32)))] [(.int (i1 &&& (3 : Int32))), (.int (0 : Int32)), (.ref b118), (.ref b118)])) rfl rfl (hb hby d5_36)
      have V119 : own_AF Z h119 b118 .int 1 (fun i => if i = 0 then (i1 &&& (3 : Int32)) else (fun _ => 0) i) := own_AFset Ar119 Sz119 Ht119 W119
      obtain ⟨gf119, hgf119⟩ : ∃ g' : Nat → Int32, g' = (fun i => if i = 0 then (i1 &&& (3 : Int32)) else (fun _ => 0) i) := ⟨_, rfl⟩
      rw [← hgf119] at V119
      have N119 := Fr.snoc X119 N fr118
      have Z0119 : n0 ≤ h119.size := Nat.le_trans Z0118 (Nat.le_of_eq W119.size.symm)
      have Xa119_b118 := XX118.wr W119
      have K119 : Keep h h119 [] := K118.wr W119 (Or.inr sz118)
      refine own_step st119 ?_
      show own_Fin p e below s Q 1 3 (T119.setTop (mkF m 37 #[.val (.int i0), .val (.int i1), .val (.int (i1 &&& (3 : Int32))), .val (.int (((i1.toUInt32 >>> ((2 : Int32) &&& 31).toUInt32).toInt32) &&& (3 : Int32))), .val (.int (((i1.toUInt32 >>> ((4 : Int32) &&& 31).toUInt32).toInt32) &&& (3 : Int32)))] [(.ref b118)]))
      refine own_retA X119 hx hlk hret rfl (hb hby d5_37) (Nat.le_trans (Nat.add_le_add_right hc 1) (by decide)) (Nat.le_trans (Nat.add_le_add_right hs 1) (by decide)) e119 ?_
      exact hQ _ _ b118 gf119 N119 K119 fr118 sz118 (by rw [hB27_117]; exact V119) Xa119_b118 (fun i _ => (own_vset hgf119 (own_and3 _) own_val0) i)
    · refine own_step (fun t k => XS.icmpYes X.here hx rfl (pc0 := 27) (pc' := 38) rfl (hb hby d5_27) rfl (feq hB27_117).2 (by decide) (by decide) k) ?_
      show own_Fin p e below s Q 1 3 (T.setTop (mkF m 38 #[.val (.int i0), .val (.int i1), .val (.int (i1 &&& (3 : Int32))), .val (.int (((i1.toUInt32 >>> ((2 : Int32) &&& 31).toUInt32).toInt32) &&& (3 : Int32))), .val (.int (((i1.toUInt32 >>> ((4 : Int32) &&& 31).toUInt32).toInt32) &&& (3 : Int32)))] []))
      refine own_step (fun t k => XS.iloadN X.here hx rfl (hb hby d5_38) rfl  k) ?_
      show own_Fin p e below s Q 1 3 (T.setTop (mkF m 39 #[.val (.int i0), .val (.int i1), .val (.int (i1 &&& (3 : Int32))), .val (.int (((i1.toUInt32 >>> ((2 : Int32) &&& 31).toUInt32).toInt32) &&& (3 : Int32))), .val (.int (((i1.toUInt32 >>> ((4 : Int32) &&& 31).toUInt32).toInt32) &&& (3 : Int32)))] [(.int i0)]))
      refine own_step (fun t k => XS.iconst X.here hx rfl (hb hby d5_39) k) ?_
      show own_Fin p e below s Q 1 3 (T.setTop (mkF m 40 #[.val (.int i0), .val (.int i1), .val (.int (i1 &&& (3 : Int32))), .val (.int (((i1.toUInt32 >>> ((2 : Int32) &&& 31).toUInt32).toInt32) &&& (3 : Int32))), .val (.int (((i1.toUInt32 >>> ((4 : Int32) &&& 31).toUInt32).toInt32) &&& (3 : Int32)))] [(.int (2 : Int32)), (.int i0)]))
      by_cases hB40_120 : i0 = (2 : Int32)
      · refine own_step (fun t k => XS.icmpNo X.here hx rfl (hb hby d5_40) rfl (teq hB40_120).2 k) ?_
        show own_Fin p e below s Q 1 3 (T.setTop (mkF m 43 #[.val (.int i0), .val (.int i1), .val (.int (i1 &&& (3 : Int32))), .val (.int (((i1.toUInt32 >>> ((2 : Int32) &&& 31).toUInt32).toInt32) &&& (3 : Int32))), .val (.int (((i1.toUInt32 >>> ((4 : Int32) &&& 31).toUInt32).toInt32) &&& (3 : Int32)))] []))
        refine own_step (fun t k => XS.iconst X.here hx rfl (hb hby d5_43) k) ?_
        show own_Fin p e below s Q 1 3 (T.setTop (mkF m 44 #[.val (.int i0), .val (.int i1), .val (.int (i1 &&& (3 : Int32))), .val (.int (((i1.toUInt32 >>> ((2 : Int32) &&& 31).toUInt32).toInt32) &&& (3 : Int32))), .val (.int (((i1.toUInt32 >>> ((4 : Int32) &&& 31).toUInt32).toInt32) &&& (3 : Int32)))] [(.int (2 : Int32))]))
        obtain ⟨T121, h121, k121, X121, e121, E121, AA121, XX121, st121⟩ := newPE X hx hZ (hw _ (List.mem_of_getElem? (i := 30) rfl)) eT (g := (mkF m 44 #[.val (.int i0), .val (.int i1), .val (.int (i1 &&& (3 : Int32))), .val (.int (((i1.toUInt32 >>> ((2 : Int32) &&& 31).toUInt32).toInt32) &&& (3 : Int32))), .val (.int (((i1.toUInt32 >>> ((4 : Int32) &&& 31).toUInt32).toInt32) &&& (3 : Int32)))] [(.int (2 : Int32))])) rfl (hb hby d5_44) rfl (by decide) (cap := 2) (by decide) (by decide) (show cells + 1 ≤ 1 from (Nat.le_trans (Nat.add_le_add_right hc 1) (by decide))) (show slots + 2 ≤ 3 from (Nat.le_trans (Nat.add_le_add_right hs 2) (by decide))) (ad := "[I") (by decide)
        obtain ⟨b121, gg121⟩ : ∃ z, z = h.size := ⟨_, rfl⟩
        rw [← gg121] at AA121 XX121 st121
        have V121 : own_AF Z h121 b121 .int 2 (fun _ => 0) := own_AFnew AA121 (by decide)
        have fr121 : n0 ≤ b121 := Nat.le_trans Z0 (Nat.le_of_eq gg121.symm)
        have Z0121 : n0 ≤ h121.size := Nat.le_trans Z0 E121.1
        have sz121 : h.size ≤ b121 := Nat.le_trans (Keep.refl h []).1 (Nat.le_of_eq gg121.symm)
        have K121 : Keep h h121 [] := (Keep.refl h []).ext E121
        refine own_step st121 ?_
        show own_Fin p e below s Q 1 3 (T121.setTop (mkF m 46 #[.val (.int i0), .val (.int i1), .val (.int (i1 &&& (3 : Int32))), .val (.int (((i1.toUInt32 >>> ((2 : Int32) &&& 31).toUInt32).toInt32) &&& (3 : Int32))), .val (.int (((i1.toUInt32 >>> ((4 : Int32) &&& 31).toUInt32).toInt32) &&& (3 : Int32)))] [(.ref b121)]))
        refine own_step (fun t k => XS.dup X121.here hx rfl (hb hby d5_46) rfl rfl k) ?_
        show own_Fin p e below s Q 1 3 (T121.setTop (mkF m 47 #[.val (.int i0), .val (.int i1), .val (.int (i1 &&& (3 : Int32))), .val (.int (((i1.toUInt32 >>> ((2 : Int32) &&& 31).toUInt32).toInt32) &&& (3 : Int32))), .val (.int (((i1.toUInt32 >>> ((4 : Int32) &&& 31).toUInt32).toInt32) &&& (3 : Int32)))] [(.ref b121), (.ref b121)]))
        refine own_step (fun t k => XS.iconst X121.here hx rfl (hb hby d5_47) k) ?_
        show own_Fin p e below s Q 1 3 (T121.setTop (mkF m 48 #[.val (.int i0), .val (.int i1), .val (.int (i1 &&& (3 : Int32))), .val (.int (((i1.toUInt32 >>> ((2 : Int32) &&& 31).toUInt32).toInt32) &&& (3 : Int32))), .val (.int (((i1.toUInt32 >>> ((4 : Int32) &&& 31).toUInt32).toInt32) &&& (3 : Int32)))] [(.int (0 : Int32)), (.ref b121), (.ref b121)]))
        refine own_step (fun t k => XS.iloadN X121.here hx rfl (hb hby d5_48) rfl  k) ?_
        show own_Fin p e below s Q 1 3 (T121.setTop (mkF m 49 #[.val (.int i0), .val (.int i1), .val (.int (i1 &&& (3 : Int32))), .val (.int (((i1.toUInt32 >>> ((2 : Int32) &&& 31).toUInt32).toInt32) &&& (3 : Int32))), .val (.int (((i1.toUInt32 >>> ((4 : Int32) &&& 31).toUInt32).toInt32) &&& (3 : Int32)))] [(.int (i1 &&& (3 : Int32))), (.int (0 : Int32)), (.ref b121), (.ref b121)]))
        obtain ⟨ca122, Ar122, Sz122, Ht122⟩ := id V121
        have hin122 : ¬ ((0 : Int32) < 0 ∨ ca122.slots.size ≤ ((0 : Int32)).toNatClampNeg) := by rw [Sz122]; exact (by decide)
        obtain ⟨T122, h122, X122, e122, W122, st122⟩ := stI X121 hx hZ e121 Ar122 (j := (0 : Int32)) hin122 (g := (mkF m 49 #[.val (.int i0), .val (.int i1), .val (.int (i1 &&& (3 : Int32))), .val (.int (((i1.toUInt32 >>> ((2 : Int32) &&& 31).toUInt32).toInt32) &&& (3 : Int32))), .val (.int (((i1.toUInt32 >>> ((4 : Int32) &&& 31).toUInt32).toInt32) &&& (3 : Int32)))] [(.int (i1 &&& (3 : Int32))), (.int (0 : Int32)), (.ref b121), (.ref b121)])) rfl rfl (hb hby d5_49)
        have V122 : own_AF Z h122 b121 .int 2 (fun i => if i = 0 then (i1 &&& (3 : Int32)) else (fun _ => 0) i) := own_AFset Ar122 Sz122 Ht122 W122
        obtain ⟨gf122, hgf122⟩ : ∃ g' : Nat → Int32, g' = (fun i => if i = 0 then (i1 &&& (3 : Int32)) else (fun _ => 0) i) := ⟨_, rfl⟩
        rw [← hgf122] at V122
        have N122 := Fr.snoc X122 N fr121
        have Z0122 : n0 ≤ h122.size := Nat.le_trans Z0121 (Nat.le_of_eq W122.size.symm)
        have Xa122_b121 := XX121.wr W122
        have K122 : Keep h h122 [] := K121.wr W122 (Or.inr sz121)
        refine own_step st122 ?_
        show own_Fin p e below s Q 1 3 (T122.setTop (mkF m 50 #[.val (.int i0), .val (.int i1), .val (.int (i1 &&& (3 : Int32))), .val (.int (((i1.toUInt32 >>> ((2 : Int32) &&& 31).toUInt32).toInt32) &&& (3 : Int32))), .val (.int (((i1.toUInt32 >>> ((4 : Int32) &&& 31).toUInt32).toInt32) &&& (3 : Int32)))] [(.ref b121)]))
        refine own_step (fun t k => XS.dup X122.here hx rfl (hb hby d5_50) rfl rfl k) ?_
        show own_Fin p e below s Q 1 3 (T122.setTop (mkF m 51 #[.val (.int i0), .val (.int i1), .val (.int (i1 &&& (3 : Int32))), .val (.int (((i1.toUInt32 >>> ((2 : Int32) &&& 31).toUInt32).toInt32) &&& (3 : Int32))), .val (.int (((i1.toUInt32 >>> ((4 : Int32) &&& 31).toUInt32).toInt32) &&& (3 : Int32)))] [(.ref b121), (.ref b121)]))
        refine own_step (fun t k => XS.iconst X122.here hx rfl (hb hby d5_51) k) ?_
        show own_Fin p e below s Q 1 3 (T122.setTop (mkF m 52 #[.val (.int i0), .val (.int i1), .val (.int (i1 &&& (3 : Int32))), .val (.int (((i1.toUInt32 >>> ((2 : Int32) &&& 31).toUInt32).toInt32) &&& (3 : Int32))), .val (.int (((i1.toUInt32 >>> ((4 : Int32) &&& 31).toUInt32).toInt32) &&& (3 : Int32)))] [(.int (1 : Int32)), (.ref b121), (.ref b121)]))
        refine own_step (fun t k => XS.iloadN X122.here hx rfl (hb hby d5_52) rfl  k) ?_
        show own_Fin p e below s Q 1 3 (T122.setTop (mkF m 53 #[.val (.int i0), .val (.int i1), .val (.int (i1 &&& (3 : Int32))), .val (.int (((i1.toUInt32 >>> ((2 : Int32) &&& 31).toUInt32).toInt32) &&& (3 : Int32))), .val (.int (((i1.toUInt32 >>> ((4 : Int32) &&& 31).toUInt32).toInt32) &&& (3 : Int32)))] [(.int (((i1.toUInt32 >>> ((2 : Int32) &&& 31).toUInt32).toInt32) &&& (3 : Int32))), (.int (1 : Int32)), (.ref b121), (.ref b121)]))
        obtain ⟨ca123, Ar123, Sz123, Ht123⟩ := id V122
        have hin123 : ¬ ((1 : Int32) < 0 ∨ ca123.slots.size ≤ ((1 : Int32)).toNatClampNeg) := by rw [Sz123]; exact (by decide)
        obtain ⟨T123, h123, X123, e123, W123, st123⟩ := stI X122 hx hZ e122 Ar123 (j := (1 : Int32)) hin123 (g := (mkF m 53 #[.val (.int i0), .val (.int i1), .val (.int (i1 &&& (3 : Int32))), .val (.int (((i1.toUInt32 >>> ((2 : Int32) &&& 31).toUInt32).toInt32) &&& (3 : Int32))), .val (.int (((i1.toUInt32 >>> ((4 : Int32) &&& 31).toUInt32).toInt32) &&& (3 : Int32)))] [(.int (((i1.toUInt32 >>> ((2 : Int32) &&& 31).toUInt32).toInt32) &&& (3 : Int32))), (.int (1 : Int32)), (.ref b121), (.ref b121)])) rfl rfl (hb hby d5_53)
        have V123 : own_AF Z h123 b121 .int 2 (fun i => if i = 1 then (((i1.toUInt32 >>> ((2 : Int32) &&& 31).toUInt32).toInt32) &&& (3 : Int32)) else gf122 i) := own_AFset Ar123 Sz123 Ht123 W123
        obtain ⟨gf123, hgf123⟩ : ∃ g' : Nat → Int32, g' = (fun i => if i = 1 then (((i1.toUInt32 >>> ((2 : Int32) &&& 31).toUInt32).toInt32) &&& (3 : Int32)) else gf122 i) := ⟨_, rfl⟩
        rw [← hgf123] at V123
        have N123 := Fr.snoc X123 N122 fr121
        have Z0123 : n0 ≤ h123.size := Nat.le_trans Z0122 (Nat.le_of_eq W123.size.symm)
        have Xa123_b121 := Xa122_b121.wr W123
        have K123 : Keep h h123 [] := K122.wr W123 (Or.inr sz121)
        refine own_step st123 ?_
        show own_Fin p e below s Q 1 3 (T123.setTop (mkF m 54 #[.val (.int i0), .val (.int i1), .val (.int (i1 &&& (3 : Int32))), .val (.int (((i1.toUInt32 >>> ((2 : Int32) &&& 31).toUInt32).toInt32) &&& (3 : Int32))), .val (.int (((i1.toUInt32 >>> ((4 : Int32) &&& 31).toUInt32).toInt32) &&& (3 : Int32)))] [(.ref b121)]))
        refine own_retA X123 hx hlk hret rfl (hb hby d5_54) (Nat.le_trans (Nat.add_le_add_right hc 1) (by decide)) (Nat.le_trans (Nat.add_le_add_right hs 2) (by decide)) e123 ?_
        exact hQ _ _ b121 gf123 N123 K123 fr121 sz121 (by rw [hB40_120]; exact V123) Xa123_b121 (fun i _ => (own_vset hgf123 (own_and3 _) (own_vset hgf122 (own_and3 _) own_val0)) i)
      · refine own_step (fun t k => XS.icmpYes X.here hx rfl (pc0 := 40) (pc' := 55) rfl (hb hby d5_40) rfl (feq hB40_120).2 (by decide) (by decide) k) ?_
        show own_Fin p e below s Q 1 3 (T.setTop (mkF m 55 #[.val (.int i0), .val (.int i1), .val (.int (i1 &&& (3 : Int32))), .val (.int (((i1.toUInt32 >>> ((2 : Int32) &&& 31).toUInt32).toInt32) &&& (3 : Int32))), .val (.int (((i1.toUInt32 >>> ((4 : Int32) &&& 31).toUInt32).toInt32) &&& (3 : Int32)))] []))
        refine own_step (fun t k => XS.iconst X.here hx rfl (hb hby d5_55) k) ?_
        show own_Fin p e below s Q 1 3 (T.setTop (mkF m 56 #[.val (.int i0), .val (.int i1), .val (.int (i1 &&& (3 : Int32))), .val (.int (((i1.toUInt32 >>> ((2 : Int32) &&& 31).toUInt32).toInt32) &&& (3 : Int32))), .val (.int (((i1.toUInt32 >>> ((4 : Int32) &&& 31).toUInt32).toInt32) &&& (3 : Int32)))] [(.int (3 : Int32))]))
        obtain ⟨T124, h124, k124, X124, e124, E124, AA124, XX124, st124⟩ := newPE X hx hZ (hw _ (List.mem_of_getElem? (i := 30) rfl)) eT (g := (mkF m 56 #[.val (.int i0), .val (.int i1), .val (.int (i1 &&& (3 : Int32))), .val (.int (((i1.toUInt32 >>> ((2 : Int32) &&& 31).toUInt32).toInt32) &&& (3 : Int32))), .val (.int (((i1.toUInt32 >>> ((4 : Int32) &&& 31).toUInt32).toInt32) &&& (3 : Int32)))] [(.int (3 : Int32))])) rfl (hb hby d5_56) rfl (by decide) (cap := 3) (by decide) (by decide) (show cells + 1 ≤ 1 from (Nat.le_trans (Nat.add_le_add_right hc 1) (by decide))) (show slots + 3 ≤ 3 from (Nat.le_trans (Nat.add_le_add_right hs 3) (by decide))) (ad := "[I") (by decide)
        obtain ⟨b124, gg124⟩ : ∃ z, z = h.size := ⟨_, rfl⟩
        rw [← gg124] at AA124 XX124 st124
        have V124 : own_AF Z h124 b124 .int 3 (fun _ => 0) := own_AFnew AA124 (by decide)
        have fr124 : n0 ≤ b124 := Nat.le_trans Z0 (Nat.le_of_eq gg124.symm)
        have Z0124 : n0 ≤ h124.size := Nat.le_trans Z0 E124.1
        have sz124 : h.size ≤ b124 := Nat.le_trans (Keep.refl h []).1 (Nat.le_of_eq gg124.symm)
        have K124 : Keep h h124 [] := (Keep.refl h []).ext E124
        refine own_step st124 ?_
        show own_Fin p e below s Q 1 3 (T124.setTop (mkF m 58 #[.val (.int i0), .val (.int i1), .val (.int (i1 &&& (3 : Int32))), .val (.int (((i1.toUInt32 >>> ((2 : Int32) &&& 31).toUInt32).toInt32) &&& (3 : Int32))), .val (.int (((i1.toUInt32 >>> ((4 : Int32) &&& 31).toUInt32).toInt32) &&& (3 : Int32)))] [(.ref b124)]))
        refine own_step (fun t k => XS.dup X124.here hx rfl (hb hby d5_58) rfl rfl k) ?_
        show own_Fin p e below s Q 1 3 (T124.setTop (mkF m 59 #[.val (.int i0), .val (.int i1), .val (.int (i1 &&& (3 : Int32))), .val (.int (((i1.toUInt32 >>> ((2 : Int32) &&& 31).toUInt32).toInt32) &&& (3 : Int32))), .val (.int (((i1.toUInt32 >>> ((4 : Int32) &&& 31).toUInt32).toInt32) &&& (3 : Int32)))] [(.ref b124), (.ref b124)]))
        refine own_step (fun t k => XS.iconst X124.here hx rfl (hb hby d5_59) k) ?_
        show own_Fin p e below s Q 1 3 (T124.setTop (mkF m 60 #[.val (.int i0), .val (.int i1), .val (.int (i1 &&& (3 : Int32))), .val (.int (((i1.toUInt32 >>> ((2 : Int32) &&& 31).toUInt32).toInt32) &&& (3 : Int32))), .val (.int (((i1.toUInt32 >>> ((4 : Int32) &&& 31).toUInt32).toInt32) &&& (3 : Int32)))] [(.int (0 : Int32)), (.ref b124), (.ref b124)]))
        refine own_step (fun t k => XS.iloadN X124.here hx rfl (hb hby d5_60) rfl  k) ?_
        show own_Fin p e below s Q 1 3 (T124.setTop (mkF m 61 #[.val (.int i0), .val (.int i1), .val (.int (i1 &&& (3 : Int32))), .val (.int (((i1.toUInt32 >>> ((2 : Int32) &&& 31).toUInt32).toInt32) &&& (3 : Int32))), .val (.int (((i1.toUInt32 >>> ((4 : Int32) &&& 31).toUInt32).toInt32) &&& (3 : Int32)))] [(.int (i1 &&& (3 : Int32))), (.int (0 : Int32)), (.ref b124), (.ref b124)]))
        obtain ⟨ca125, Ar125, Sz125, Ht125⟩ := id V124
        have hin125 : ¬ ((0 : Int32) < 0 ∨ ca125.slots.size ≤ ((0 : Int32)).toNatClampNeg) := by rw [Sz125]; exact (by decide)
        obtain ⟨T125, h125, X125, e125, W125, st125⟩ := stI X124 hx hZ e124 Ar125 (j := (0 : Int32)) hin125 (g := (mkF m 61 #[.val (.int i0), .val (.int i1), .val (.int (i1 &&& (3 : Int32))), .val (.int (((i1.toUInt32 >>> ((2 : Int32) &&& 31).toUInt32).toInt32) &&& (3 : Int32))), .val (.int (((i1.toUInt32 >>> ((4 : Int32) &&& 31).toUInt32).toInt32) &&& (3 : Int32)))] [(.int (i1 &&& (3 : Int32))), (.int (0 : Int32)), (.ref b124), (.ref b124)])) rfl rfl (hb hby d5_61)
        have V125 : own_AF Z h125 b124 .int 3 (fun i => if i = 0 then (i1 &&& (3 : Int32)) else (fun _ => 0) i) := own_AFset Ar125 Sz125 Ht125 W125
        obtain ⟨gf125, hgf125⟩ : ∃ g' : Nat → Int32, g' = (fun i => if i = 0 then (i1 &&& (3 : Int32)) else (fun _ => 0) i) := ⟨_, rfl⟩
        rw [← hgf125] at V125
        have N125 := Fr.snoc X125 N fr124
        have Z0125 : n0 ≤ h125.size := Nat.le_trans Z0124 (Nat.le_of_eq W125.size.symm)
        have Xa125_b124 := XX124.wr W125
        have K125 : Keep h h125 [] := K124.wr W125 (Or.inr sz124)
        refine own_step st125 ?_
        show own_Fin p e below s Q 1 3 (T125.setTop (mkF m 62 #[.val (.int i0), .val (.int i1), .val (.int (i1 &&& (3 : Int32))), .val (.int (((i1.toUInt32 >>> ((2 : Int32) &&& 31).toUInt32).toInt32) &&& (3 : Int32))), .val (.int (((i1.toUInt32 >>> ((4 : Int32) &&& 31).toUInt32).toInt32) &&& (3 : Int32)))] [(.ref b124)]))
        refine own_step (fun t k => XS.dup X125.here hx rfl (hb hby d5_62) rfl rfl k) ?_
        show own_Fin p e below s Q 1 3 (T125.setTop (mkF m 63 #[.val (.int i0), .val (.int i1), .val (.int (i1 &&& (3 : Int32))), .val (.int (((i1.toUInt32 >>> ((2 : Int32) &&& 31).toUInt32).toInt32) &&& (3 : Int32))), .val (.int (((i1.toUInt32 >>> ((4 : Int32) &&& 31).toUInt32).toInt32) &&& (3 : Int32)))] [(.ref b124), (.ref b124)]))
        refine own_step (fun t k => XS.iconst X125.here hx rfl (hb hby d5_63) k) ?_
        show own_Fin p e below s Q 1 3 (T125.setTop (mkF m 64 #[.val (.int i0), .val (.int i1), .val (.int (i1 &&& (3 : Int32))), .val (.int (((i1.toUInt32 >>> ((2 : Int32) &&& 31).toUInt32).toInt32) &&& (3 : Int32))), .val (.int (((i1.toUInt32 >>> ((4 : Int32) &&& 31).toUInt32).toInt32) &&& (3 : Int32)))] [(.int (1 : Int32)), (.ref b124), (.ref b124)]))
        refine own_step (fun t k => XS.iloadN X125.here hx rfl (hb hby d5_64) rfl  k) ?_
        show own_Fin p e below s Q 1 3 (T125.setTop (mkF m 65 #[.val (.int i0), .val (.int i1), .val (.int (i1 &&& (3 : Int32))), .val (.int (((i1.toUInt32 >>> ((2 : Int32) &&& 31).toUInt32).toInt32) &&& (3 : Int32))), .val (.int (((i1.toUInt32 >>> ((4 : Int32) &&& 31).toUInt32).toInt32) &&& (3 : Int32)))] [(.int (((i1.toUInt32 >>> ((2 : Int32) &&& 31).toUInt32).toInt32) &&& (3 : Int32))), (.int (1 : Int32)), (.ref b124), (.ref b124)]))
        obtain ⟨ca126, Ar126, Sz126, Ht126⟩ := id V125
        have hin126 : ¬ ((1 : Int32) < 0 ∨ ca126.slots.size ≤ ((1 : Int32)).toNatClampNeg) := by rw [Sz126]; exact (by decide)
        obtain ⟨T126, h126, X126, e126, W126, st126⟩ := stI X125 hx hZ e125 Ar126 (j := (1 : Int32)) hin126 (g := (mkF m 65 #[.val (.int i0), .val (.int i1), .val (.int (i1 &&& (3 : Int32))), .val (.int (((i1.toUInt32 >>> ((2 : Int32) &&& 31).toUInt32).toInt32) &&& (3 : Int32))), .val (.int (((i1.toUInt32 >>> ((4 : Int32) &&& 31).toUInt32).toInt32) &&& (3 : Int32)))] [(.int (((i1.toUInt32 >>> ((2 : Int32) &&& 31).toUInt32).toInt32) &&& (3 : Int32))), (.int (1 : Int32)), (.ref b124), (.ref b124)])) rfl rfl (hb hby d5_65)
        have V126 : own_AF Z h126 b124 .int 3 (fun i => if i = 1 then (((i1.toUInt32 >>> ((2 : Int32) &&& 31).toUInt32).toInt32) &&& (3 : Int32)) else gf125 i) := own_AFset Ar126 Sz126 Ht126 W126
        obtain ⟨gf126, hgf126⟩ : ∃ g' : Nat → Int32, g' = (fun i => if i = 1 then (((i1.toUInt32 >>> ((2 : Int32) &&& 31).toUInt32).toInt32) &&& (3 : Int32)) else gf125 i) := ⟨_, rfl⟩
        rw [← hgf126] at V126
        have N126 := Fr.snoc X126 N125 fr124
        have Z0126 : n0 ≤ h126.size := Nat.le_trans Z0125 (Nat.le_of_eq W126.size.symm)
        have Xa126_b124 := Xa125_b124.wr W126
        have K126 : Keep h h126 [] := K125.wr W126 (Or.inr sz124)
        refine own_step st126 ?_
        show own_Fin p e below s Q 1 3 (T126.setTop (mkF m 66 #[.val (.int i0), .val (.int i1), .val (.int (i1 &&& (3 : Int32))), .val (.int (((i1.toUInt32 >>> ((2 : Int32) &&& 31).toUInt32).toInt32) &&& (3 : Int32))), .val (.int (((i1.toUInt32 >>> ((4 : Int32) &&& 31).toUInt32).toInt32) &&& (3 : Int32)))] [(.ref b124)]))
        refine own_step (fun t k => XS.dup X126.here hx rfl (hb hby d5_66) rfl rfl k) ?_
        show own_Fin p e below s Q 1 3 (T126.setTop (mkF m 67 #[.val (.int i0), .val (.int i1), .val (.int (i1 &&& (3 : Int32))), .val (.int (((i1.toUInt32 >>> ((2 : Int32) &&& 31).toUInt32).toInt32) &&& (3 : Int32))), .val (.int (((i1.toUInt32 >>> ((4 : Int32) &&& 31).toUInt32).toInt32) &&& (3 : Int32)))] [(.ref b124), (.ref b124)]))
        refine own_step (fun t k => XS.iconst X126.here hx rfl (hb hby d5_67) k) ?_
        show own_Fin p e below s Q 1 3 (T126.setTop (mkF m 68 #[.val (.int i0), .val (.int i1), .val (.int (i1 &&& (3 : Int32))), .val (.int (((i1.toUInt32 >>> ((2 : Int32) &&& 31).toUInt32).toInt32) &&& (3 : Int32))), .val (.int (((i1.toUInt32 >>> ((4 : Int32) &&& 31).toUInt32).toInt32) &&& (3 : Int32)))] [(.int (2 : Int32)), (.ref b124), (.ref b124)]))
        refine own_step (fun t k => XS.iload X126.here hx rfl (hb hby d5_68) rfl  k) ?_
        show own_Fin p e below s Q 1 3 (T126.setTop (mkF m 70 #[.val (.int i0), .val (.int i1), .val (.int (i1 &&& (3 : Int32))), .val (.int (((i1.toUInt32 >>> ((2 : Int32) &&& 31).toUInt32).toInt32) &&& (3 : Int32))), .val (.int (((i1.toUInt32 >>> ((4 : Int32) &&& 31).toUInt32).toInt32) &&& (3 : Int32)))] [(.int (((i1.toUInt32 >>> ((4 : Int32) &&& 31).toUInt32).toInt32) &&& (3 : Int32))), (.int (2 : Int32)), (.ref b124), (.ref b124)]))
        obtain ⟨ca127, Ar127, Sz127, Ht127⟩ := id V126
        have hin127 : ¬ ((2 : Int32) < 0 ∨ ca127.slots.size ≤ ((2 : Int32)).toNatClampNeg) := by rw [Sz127]; exact (by decide)
        obtain ⟨T127, h127, X127, e127, W127, st127⟩ := stI X126 hx hZ e126 Ar127 (j := (2 : Int32)) hin127 (g := (mkF m 70 #[.val (.int i0), .val (.int i1), .val (.int (i1 &&& (3 : Int32))), .val (.int (((i1.toUInt32 >>> ((2 : Int32) &&& 31).toUInt32).toInt32) &&& (3 : Int32))), .val (.int (((i1.toUInt32 >>> ((4 : Int32) &&& 31).toUInt32).toInt32) &&& (3 : Int32)))] [(.int (((i1.toUInt32 >>> ((4 : Int32) &&& 31).toUInt32).toInt32) &&& (3 : Int32))), (.int (2 : Int32)), (.ref b124), (.ref b124)])) rfl rfl (hb hby d5_70)
        have V127 : own_AF Z h127 b124 .int 3 (fun i => if i = 2 then (((i1.toUInt32 >>> ((4 : Int32) &&& 31).toUInt32).toInt32) &&& (3 : Int32)) else gf126 i) := own_AFset Ar127 Sz127 Ht127 W127
        obtain ⟨gf127, hgf127⟩ : ∃ g' : Nat → Int32, g' = (fun i => if i = 2 then (((i1.toUInt32 >>> ((4 : Int32) &&& 31).toUInt32).toInt32) &&& (3 : Int32)) else gf126 i) := ⟨_, rfl⟩
        rw [← hgf127] at V127
        have N127 := Fr.snoc X127 N126 fr124
        have Z0127 : n0 ≤ h127.size := Nat.le_trans Z0126 (Nat.le_of_eq W127.size.symm)
        have Xa127_b124 := Xa126_b124.wr W127
        have K127 : Keep h h127 [] := K126.wr W127 (Or.inr sz124)
        refine own_step st127 ?_
        show own_Fin p e below s Q 1 3 (T127.setTop (mkF m 71 #[.val (.int i0), .val (.int i1), .val (.int (i1 &&& (3 : Int32))), .val (.int (((i1.toUInt32 >>> ((2 : Int32) &&& 31).toUInt32).toInt32) &&& (3 : Int32))), .val (.int (((i1.toUInt32 >>> ((4 : Int32) &&& 31).toUInt32).toInt32) &&& (3 : Int32)))] [(.ref b124)]))
        refine own_retA X127 hx hlk hret rfl (hb hby d5_71) (Nat.le_trans (Nat.add_le_add_right hc 1) (by decide)) (Nat.le_trans (Nat.add_le_add_right hs 3) (by decide)) e127 ?_
        exact hQ _ _ b124 gf127 N127 K127 fr124 sz124 (by rw [(own_is3 hl hB18_115 hB27_117 hB40_120)]; exact V127) Xa127_b124 (fun i _ => (own_vset hgf127 (own_and3 _) (own_vset hgf126 (own_and3 _) (own_vset hgf125 (own_and3 _) own_val0))) i)
theorem pnm_6 : plainName "com/example/libentitle/libentitle/role/GraphLeadsPinLaw" = true := by first | (simp [plainName, overriddenIn]; done) | decide +kernel
theorem pdm_10 : parseMethodDescriptor "(II)[I" = some ⟨[.int, .int], some (.array .int)⟩ := by decide +kernel
theorem ef_5 (m : MethodId) (i0 : Int32) (i1 : Int32) : entryFrame m #[(.int i0), (.int i1)] 5 = (mkF m 0 #[.val (.int i0), .val (.int i1), .unset, .unset, .unset] []) := by first | (simp [entryFrame, mkF, argsToLocals, Value.category]; done) | rfl
def Q5 (Z : State) (i0 : Int32) (i1 : Int32) (h0 : Heap) (n0 : Nat) (v : Option Value) (h : Heap) (L : List Loc) : Prop := ∃ (b : Addr) (g : Nat → Int32), v = some (.ref b) ∧ Fr n0 L ∧ Keep h0 h [] ∧ (n0 ≤ b) ∧ (h0.size ≤ b) ∧ (own_AF Z h b .int (i0.toNatClampNeg) g) ∧ (Exa Z h b "[I") ∧ (∀ i, i < i0.toNatClampNeg → own_val (g i))
set_option maxRecDepth 65536 in
set_option maxHeartbeats 4000000 in
theorem rm5 (l : Launch) (Z : State) (a0 : Array Value) (hw : ∀ d ∈ tables_1, d.before a0 Z = true) (ws : List Jvm.Cond) (i0 : Int32) (i1 : Int32) (h0 : Heap) (n0 : Nat) (Z0 : n0 ≤ h0.size) (hl : own_val i0) :
    MetFree l (⟨"com/example/libentitle/libentitle/role/GraphLeadsPinLaw", "row", "(II)[I"⟩ : MethodName) (head1 (Jvm.Cond.code (⟨"com/example/libentitle/libentitle/role/GraphLeadsPinLaw", "row", "(II)[I"⟩ : MethodName) method_2_code 5 (some (.array .int)) :: ws) ({ frames := 0, cells := 1, slots := 3, locals := 0 } : Room)) (fun a U => a = #[(.int i0), (.int i1)] ∧ Z.Warmed39 U.vm ∧ U.heap = h0) (fun _ _ _ _ _ => True) (fun _ U o U' => ∃ v L, o = .returned v ∧ Q5 Z i0 i1 h0 n0 v U'.heap L ∧ FrameEnd U o U' L ({ frames := 0, cells := 1, slots := 3, locals := 0 } : Room).cells ({ frames := 0, cells := 1, slots := 3, locals := 0 } : Room).slots) := by
  refine MetFree.of_bodySF (plainFor_of_name pnm_6) hisR ?_
  intro p e s m args below meth c s₁ Bd hml0 hP hK
  obtain ⟨rfl, hZ, hh⟩ := hP
  have hx := Bd.exec
  have hby := Bd.bytes
  have hml : c.maxLocals = 5 := hml0
  have hown : s.vm.findClass "com/example/libentitle/libentitle/role/GraphLeadsPinLaw" = some m.cls := findClass_of_methodNamed Bd.named
  have X0 : Stand p l e ({ frames := 0, cells := 1, slots := 3, locals := 0 } : Room) s m #[(.int i0), (.int i1)] below meth c s₁ [] 0 0 := Stand.of_body Bd
  have e0 : s₁.heap = h0 := by rw [← hh, Bd.state]; rfl
  have fin := b5_0 i0 i1 (Q := Q5 Z i0 i1 h0 n0) hw X0 hx hZ hby hml hown Bd.returns (BodyLoose.notSynchronized Bd) e0 (Fr.nil n0) (Nat.zero_le _) (Nat.zero_le _) Z0 hl (fun H' L' b g n' k' r0 r1 r2 r3 r4 => ⟨b, g, rfl, n', k', r0, r1, r2, r3, r4⟩)
  exact own_step (fun t k => castTop (ef_5 m i0 i1) k) fin
theorem d20_0 : decode jdk_29_method_69_code 0 = .ok (.iload_n 0, 1) := by decide +kernel
theorem d20_1 : decode jdk_29_method_69_code 1 = .ok (.iload_n 1, 1) := by decide +kernel
theorem d20_2 : decode jdk_29_method_69_code 2 = .ok (.if_icmp .gt 7, 3) := by decide +kernel
theorem d20_5 : decode jdk_29_method_69_code 5 = .ok (.iload_n 0, 1) := by decide +kernel
theorem d20_6 : decode jdk_29_method_69_code 6 = .ok (.goto 4, 3) := by decide +kernel
theorem d20_9 : decode jdk_29_method_69_code 9 = .ok (.iload_n 1, 1) := by decide +kernel
theorem d20_10 : decode jdk_29_method_69_code 10 = .ok (.ireturn, 1) := by decide +kernel
def f20_0 (i0 : Int32) (i1 : Int32) : Int32 := if i1 < i0 then i1 else i0
set_option maxRecDepth 65536 in
set_option maxHeartbeats 40000000 in
theorem b20_0 {p : Program} {l : Launch} {e : Env} {s : State} {m : MethodId} {args : Array Value} {below : List Frame} {meth : Method} {c : Code} {T : State} {locs : List Loc} {cells slots : Nat} {Z : State} {a0 : Array Value} {h : Heap} {n0 : Nat} {Q : Option Value → Heap → List Loc → Prop} (i0 : Int32) (i1 : Int32) (hw : ∀ d ∈ tables_1, d.before a0 Z = true) (X : Stand p l e ({ frames := 0, cells := 0, slots := 0, locals := 0 } : Room) s m args below meth c T locs cells slots) (hx : p.tables.exec = Jvm.exec) (hZ : Z.Warmed39 s.vm) (hby : c.code = jdk_29_method_69_code) (hml : c.maxLocals = 2) (hown : s.vm.findClass "java/lang/Math" = some m.cls) (hret : meth.sig.returnType = some .int) (hlk : meth.locks = false) (eT : T.heap = h) (N : Fr n0 locs) (hc : cells ≤ 0) (hs : slots ≤ 0) (v : Int32) (hv : v = f20_0 i0 i1) (hQ : ∀ L', Fr n0 L' → Q (some (.int v)) h L') :
    own_Fin p e below s Q 0 0 (T.setTop (mkF m 0 #[.val (.int i0), .val (.int i1)] [])) := by
  refine own_step (fun t k => XS.iloadN X.here hx rfl (hb hby d20_0) rfl  k) ?_
  show own_Fin p e below s Q 0 0 (T.setTop (mkF m 1 #[.val (.int i0), .val (.int i1)] [(.int i0)]))
  refine own_step (fun t k => XS.iloadN X.here hx rfl (hb hby d20_1) rfl  k) ?_
  show own_Fin p e below s Q 0 0 (T.setTop (mkF m 2 #[.val (.int i0), .val (.int i1)] [(.int i1), (.int i0)]))
  by_cases hB2_128 : i1 < i0
  · refine own_step (fun t k => XS.icmpYes X.here hx rfl (pc0 := 2) (pc' := 9) rfl (hb hby d20_2) rfl (tlt hB2_128).2.2.1 (by decide) (by decide) k) ?_
    have hvhB2_128 : v = i1 := hv.trans (if_pos hB2_128)
    show own_Fin p e below s Q 0 0 (T.setTop (mkF m 9 #[.val (.int i0), .val (.int i1)] []))
    refine own_step (fun t k => XS.iloadN X.here hx rfl (hb hby d20_9) rfl  k) ?_
    show own_Fin p e below s Q 0 0 (T.setTop (mkF m 10 #[.val (.int i0), .val (.int i1)] [(.int i1)]))
    exact own_retI X hx hlk hret (hb hby d20_10) (Nat.le_trans (Nat.add_le_add_right hc 0) (by decide)) (Nat.le_trans (Nat.add_le_add_right hs 0) (by decide)) eT N hQ (hvhB2_128)
  · refine own_step (fun t k => XS.icmpNo X.here hx rfl (hb hby d20_2) rfl (flt hB2_128).2.2.1 k) ?_
    have hvhB2_128 : v = i0 := hv.trans (if_neg hB2_128)
    show own_Fin p e below s Q 0 0 (T.setTop (mkF m 5 #[.val (.int i0), .val (.int i1)] []))
    refine own_step (fun t k => XS.iloadN X.here hx rfl (hb hby d20_5) rfl  k) ?_
    show own_Fin p e below s Q 0 0 (T.setTop (mkF m 6 #[.val (.int i0), .val (.int i1)] [(.int i0)]))
    refine own_step (fun t k => XS.goto X.here hx rfl (pc0 := 6) (pc' := 10) rfl (hb hby d20_6) (by decide) (by decide) k) ?_
    show own_Fin p e below s Q 0 0 (T.setTop (mkF m 10 #[.val (.int i0), .val (.int i1)] [(.int i0)]))
    exact own_retI X hx hlk hret (hb hby d20_10) (Nat.le_trans (Nat.add_le_add_right hc 0) (by decide)) (Nat.le_trans (Nat.add_le_add_right hs 0) (by decide)) eT N hQ (hvhB2_128)
theorem ef_20 (m : MethodId) (i0 : Int32) (i1 : Int32) : entryFrame m #[(.int i0), (.int i1)] 2 = (mkF m 0 #[.val (.int i0), .val (.int i1)] []) := by first | (simp [entryFrame, mkF, argsToLocals, Value.category]; done) | rfl
def Q20 (i0 : Int32) (i1 : Int32) (h0 : Heap) (n0 : Nat) (v : Option Value) (h : Heap) (L : List Loc) : Prop := v = some (.int (f20_0 i0 i1)) ∧ Fr n0 L ∧ h = h0
set_option maxRecDepth 65536 in
set_option maxHeartbeats 4000000 in
theorem rm20 (l : Launch) (Z : State) (a0 : Array Value) (hw : ∀ d ∈ tables_1, d.before a0 Z = true) (ws : List Jvm.Cond) (i0 : Int32) (i1 : Int32) (h0 : Heap) (n0 : Nat) :
    MetFree l (⟨"java/lang/Math", "min", "(II)I"⟩ : MethodName) (head1 (Jvm.Cond.code (⟨"java/lang/Math", "min", "(II)I"⟩ : MethodName) jdk_29_method_69_code 2 (some .int) :: ws) ({ frames := 0, cells := 0, slots := 0, locals := 0 } : Room)) (fun a U => a = #[(.int i0), (.int i1)] ∧ Z.Warmed39 U.vm ∧ U.heap = h0) (fun _ _ _ _ _ => True) (fun _ U o U' => ∃ v L, o = .returned v ∧ Q20 i0 i1 h0 n0 v U'.heap L ∧ FrameEnd U o U' L ({ frames := 0, cells := 0, slots := 0, locals := 0 } : Room).cells ({ frames := 0, cells := 0, slots := 0, locals := 0 } : Room).slots) := by
  refine MetFree.of_bodySF (Jvm.Free.JP.mathPlain rfl (by decide +kernel)) hisR ?_
  intro p e s m args below meth c s₁ Bd hml0 hP hK
  obtain ⟨rfl, hZ, hh⟩ := hP
  have hx := Bd.exec
  have hby := Bd.bytes
  have hml : c.maxLocals = 2 := hml0
  have hown : s.vm.findClass "java/lang/Math" = some m.cls := findClass_of_methodNamed Bd.named
  have X0 : Stand p l e ({ frames := 0, cells := 0, slots := 0, locals := 0 } : Room) s m #[(.int i0), (.int i1)] below meth c s₁ [] 0 0 := Stand.of_body Bd
  have e0 : s₁.heap = h0 := by rw [← hh, Bd.state]; rfl
  have fin := b20_0 i0 i1 (Q := Q20 i0 i1 h0 n0) hw X0 hx hZ hby hml hown Bd.returns (BodyLoose.notSynchronized Bd) e0 (Fr.nil n0) (Nat.zero_le _) (Nat.zero_le _) _ rfl (fun L' n' => ⟨rfl, n', rfl⟩)
  exact own_step (fun t k => castTop (ef_20 m i0 i1) k) fin
theorem own_cpy {g' ga gb : Nat → Int32} {d n : Nat} (h : g' = (fun i => if d ≤ i ∧ i < d + n then ga (i - d) else gb i)) (hd : d = 0) (hn : n = 4) : ∀ i, i < 4 → g' i = ga i := fun i hi => by
  subst hd hn
  rw [h]
  exact if_pos ⟨Nat.zero_le _, by omega⟩
theorem own_dupx2 {tb : Tables} [Ours tb] {e : Env} {below : List Frame} {T target : State} {m : MethodId} {c : Code} {g : JFrame} (h : At T m c below) (hx : tb.exec = Jvm.exec) (hg : g.method = m) {x y z : Value} {rest : List Value} (hd : decode c.code g.pc = .ok (.dup_x2, 1)) (hs : g.stack = x :: y :: z :: rest) (hc : x.category = 1) (hc' : y.category = 1) (hc'' : z.category = 1)
    (hr : Steps tb e below (T.setTop { g with pc := g.pc + 1, stack := x :: y :: z :: x :: rest }) target) : Steps tb e below (T.setTop g) target := by
  subst hg
  jvm_step h [h.top, hx, hd, hs, hc, hc', hc'']
  exact hr
theorem d19_0 : decode jdk_65_method_123_code 0 = .ok (.iload_n 1, 1) := by decide +kernel
theorem d19_1 : decode jdk_65_method_123_code 1 = .ok (.aload_n 0, 1) := by decide +kernel
theorem d19_2 : decode jdk_65_method_123_code 2 = .ok (.arraylength, 1) := by decide +kernel
theorem d19_3 : decode jdk_65_method_123_code 3 = .ok (.if_icmp .ne 11, 3) := by decide +kernel
theorem d19_6 : decode jdk_65_method_123_code 6 = .ok (.aload_n 0, 1) := by decide +kernel
theorem d19_7 : decode jdk_65_method_123_code 7 = .ok (.invokevirtual 316, 3) := by decide +kernel
theorem d19_10 : decode jdk_65_method_123_code 10 = .ok (.checkcast 317, 3) := by decide +kernel
theorem d19_13 : decode jdk_65_method_123_code 13 = .ok (.areturn, 1) := by decide +kernel
theorem d19_14 : decode jdk_65_method_123_code 14 = .ok (.iload_n 1, 1) := by decide +kernel
theorem d19_15 : decode jdk_65_method_123_code 15 = .ok (.newarray .int, 2) := by decide +kernel
theorem d19_17 : decode jdk_65_method_123_code 17 = .ok (.astore_n 2, 1) := by decide +kernel
theorem d19_18 : decode jdk_65_method_123_code 18 = .ok (.aload_n 0, 1) := by decide +kernel
theorem d19_19 : decode jdk_65_method_123_code 19 = .ok (.iconst 0, 1) := by decide +kernel
theorem d19_20 : decode jdk_65_method_123_code 20 = .ok (.aload_n 2, 1) := by decide +kernel
theorem d19_21 : decode jdk_65_method_123_code 21 = .ok (.iconst 0, 1) := by decide +kernel
theorem d19_22 : decode jdk_65_method_123_code 22 = .ok (.aload_n 0, 1) := by decide +kernel
theorem d19_23 : decode jdk_65_method_123_code 23 = .ok (.arraylength, 1) := by decide +kernel
theorem d19_24 : decode jdk_65_method_123_code 24 = .ok (.iload_n 1, 1) := by decide +kernel
theorem d19_25 : decode jdk_65_method_123_code 25 = .ok (.invokestatic 304, 3) := by decide +kernel
theorem d19_28 : decode jdk_65_method_123_code 28 = .ok (.invokestatic 150, 3) := by decide +kernel
theorem d19_31 : decode jdk_65_method_123_code 31 = .ok (.aload_n 2, 1) := by decide +kernel
theorem d19_32 : decode jdk_65_method_123_code 32 = .ok (.areturn, 1) := by decide +kernel
set_option maxRecDepth 65536 in
set_option maxHeartbeats 40000000 in
theorem b19_0 {p : Program} {l : Launch} {e : Env} {s : State} {m : MethodId} {args : Array Value} {below : List Frame} {meth : Method} {c : Code} {T : State} {locs : List Loc} {cells slots : Nat} {Z : State} {a0 : Array Value} {h : Heap} {n0 : Nat} {Q : Option Value → Heap → List Loc → Prop} (o0 : Addr) (g0 : Nat → Int32) (hw : ∀ d ∈ tables_1, d.before a0 Z = true) (X : Stand p l e ({ frames := 1, cells := 1, slots := 4, locals := 50 } : Room) s m args below meth c T locs cells slots) (hx : p.tables.exec = Jvm.exec) (hZ : Z.Warmed39 s.vm) (hby : c.code = jdk_65_method_123_code) (hml : c.maxLocals = 3) (hown : s.vm.findClass "java/util/Arrays" = some m.cls) (hret : meth.sig.returnType = some (.array .int)) (hlk : meth.locks = false) (eT : T.heap = h) (N : Fr n0 locs) (hc : cells ≤ 0) (hs : slots ≤ 0) (Z0 : n0 ≤ h.size) (A0 : own_AF Z h o0 .int 5 g0) (hQ : ∀ (H' : Heap) (L' : List Loc) (b : Addr) (g : Nat → Int32), Fr n0 L' → Keep h H' [] → (n0 ≤ b) → (h.size ≤ b) → (own_AF Z H' b .int 4 g) → (∀ i, i < 4 → g i = g0 i) → Q (some (.ref b)) H' L') :
    own_Fin p e below s Q 1 4 (T.setTop (mkF m 0 #[.val (.ref o0), .val (.int (4 : Int32)), .unset] [])) := by
  refine own_step (fun t k => XS.iloadN X.here hx rfl (hb hby d19_0) rfl  k) ?_
  show own_Fin p e below s Q 1 4 (T.setTop (mkF m 1 #[.val (.ref o0), .val (.int (4 : Int32)), .unset] [(.int (4 : Int32))]))
  refine own_step (fun t k => XS.aloadN X.here hx rfl (hb hby d19_1) rfl rfl k) ?_
  show own_Fin p e below s Q 1 4 (T.setTop (mkF m 2 #[.val (.ref o0), .val (.int (4 : Int32)), .unset] [(.ref o0), (.int (4 : Int32))]))
  obtain ⟨ca2, Ar2, Sz2, Ht2⟩ := id A0
  refine own_step (X.arraylength hx (by rw [eT]; exact Ar2.1) (State.isArrayOf_alike hZ.alike Ar2.2.1) (g := (mkF m 2 #[.val (.ref o0), .val (.int (4 : Int32)), .unset] [(.ref o0), (.int (4 : Int32))])) rfl rfl (hb hby d19_2)) ?_
  rw [Sz2]
  show own_Fin p e below s Q 1 4 (T.setTop (mkF m 3 #[.val (.ref o0), .val (.int (4 : Int32)), .unset] [(.int (5 : Int32)), (.int (4 : Int32))]))
  refine own_step (fun t k => XS.icmpYes X.here hx rfl (pc0 := 3) (pc' := 14) rfl (hb hby d19_3) rfl (feq (by decide : ¬ ((4 : Int32) = (5 : Int32)))).2 (by decide) (by decide) k) ?_
  show own_Fin p e below s Q 1 4 (T.setTop (mkF m 14 #[.val (.ref o0), .val (.int (4 : Int32)), .unset] []))
  refine own_step (fun t k => XS.iloadN X.here hx rfl (hb hby d19_14) rfl  k) ?_
  show own_Fin p e below s Q 1 4 (T.setTop (mkF m 15 #[.val (.ref o0), .val (.int (4 : Int32)), .unset] [(.int (4 : Int32))]))
  obtain ⟨T131, h131, k131, X131, e131, E131, AA131, XX131, st131⟩ := newPE X hx hZ (hw _ (List.mem_of_getElem? (i := 30) rfl)) eT (g := (mkF m 15 #[.val (.ref o0), .val (.int (4 : Int32)), .unset] [(.int (4 : Int32))])) rfl (hb hby d19_15) rfl (by decide) (cap := 4) (by decide) (by decide) (show cells + 1 ≤ 1 from (Nat.le_trans (Nat.add_le_add_right hc 1) (by decide))) (show slots + 4 ≤ 4 from (Nat.le_trans (Nat.add_le_add_right hs 4) (by decide))) (ad := "[I") (by decide)
  obtain ⟨b131, gg131⟩ : ∃ z, z = h.size := ⟨_, rfl⟩
  rw [← gg131] at AA131 XX131 st131
  have V131 : own_AF Z h131 b131 .int 4 (fun _ => 0) := own_AFnew AA131 (by decide)
  have fr131 : n0 ≤ b131 := Nat.le_trans Z0 (Nat.le_of_eq gg131.symm)
  have Z0131 : n0 ≤ h131.size := Nat.le_trans Z0 E131.1
  have neo0_131 : o0 ≠ b131 := Nat.ne_of_lt (Nat.lt_of_lt_of_le A0.lt (Nat.le_of_eq gg131.symm))
  have sz131 : h.size ≤ b131 := Nat.le_trans (Keep.refl h []).1 (Nat.le_of_eq gg131.symm)
  have V131_o0 := own_AFext A0 E131
  have K131 : Keep h h131 [] := (Keep.refl h []).ext E131
  refine own_step st131 ?_
  show own_Fin p e below s Q 1 4 (T131.setTop (mkF m 17 #[.val (.ref o0), .val (.int (4 : Int32)), .unset] [(.ref b131)]))
  refine own_step (fun t k => XS.astoreN X131.here hx rfl (hb hby d19_17) rfl rfl (l' := #[.val (.ref o0), .val (.int (4 : Int32)), .val (.ref b131)]) rfl k) ?_
  show own_Fin p e below s Q 1 4 (T131.setTop (mkF m 18 #[.val (.ref o0), .val (.int (4 : Int32)), .val (.ref b131)] []))
  refine own_step (fun t k => XS.aloadN X131.here hx rfl (hb hby d19_18) rfl rfl k) ?_
  show own_Fin p e below s Q 1 4 (T131.setTop (mkF m 19 #[.val (.ref o0), .val (.int (4 : Int32)), .val (.ref b131)] [(.ref o0)]))
  refine own_step (fun t k => XS.iconst X131.here hx rfl (hb hby d19_19) k) ?_
  show own_Fin p e below s Q 1 4 (T131.setTop (mkF m 20 #[.val (.ref o0), .val (.int (4 : Int32)), .val (.ref b131)] [(.int (0 : Int32)), (.ref o0)]))
  refine own_step (fun t k => XS.aloadN X131.here hx rfl (hb hby d19_20) rfl rfl k) ?_
  show own_Fin p e below s Q 1 4 (T131.setTop (mkF m 21 #[.val (.ref o0), .val (.int (4 : Int32)), .val (.ref b131)] [(.ref b131), (.int (0 : Int32)), (.ref o0)]))
  refine own_step (fun t k => XS.iconst X131.here hx rfl (hb hby d19_21) k) ?_
  show own_Fin p e below s Q 1 4 (T131.setTop (mkF m 22 #[.val (.ref o0), .val (.int (4 : Int32)), .val (.ref b131)] [(.int (0 : Int32)), (.ref b131), (.int (0 : Int32)), (.ref o0)]))
  refine own_step (fun t k => XS.aloadN X131.here hx rfl (hb hby d19_22) rfl rfl k) ?_
  show own_Fin p e below s Q 1 4 (T131.setTop (mkF m 23 #[.val (.ref o0), .val (.int (4 : Int32)), .val (.ref b131)] [(.ref o0), (.int (0 : Int32)), (.ref b131), (.int (0 : Int32)), (.ref o0)]))
  obtain ⟨ca23, Ar23, Sz23, Ht23⟩ := id V131_o0
  refine own_step (X131.arraylength hx (by rw [e131]; exact Ar23.1) (State.isArrayOf_alike hZ.alike Ar23.2.1) (g := (mkF m 23 #[.val (.ref o0), .val (.int (4 : Int32)), .val (.ref b131)] [(.ref o0), (.int (0 : Int32)), (.ref b131), (.int (0 : Int32)), (.ref o0)])) rfl rfl (hb hby d19_23)) ?_
  rw [Sz23]
  show own_Fin p e below s Q 1 4 (T131.setTop (mkF m 24 #[.val (.ref o0), .val (.int (4 : Int32)), .val (.ref b131)] [(.int (5 : Int32)), (.int (0 : Int32)), (.ref b131), (.int (0 : Int32)), (.ref o0)]))
  refine own_step (fun t k => XS.iloadN X131.here hx rfl (hb hby d19_24) rfl  k) ?_
  show own_Fin p e below s Q 1 4 (T131.setTop (mkF m 25 #[.val (.ref o0), .val (.int (4 : Int32)), .val (.ref b131)] [(.int (4 : Int32)), (.int (5 : Int32)), (.int (0 : Int32)), (.ref b131), (.int (0 : Int32)), (.ref o0)]))
  obtain ⟨_, _, ⟨T132, L132, k132, n132⟩, -, X132, ⟨Lc132, hQ132, l132, y132, z132⟩, st132⟩ := Jvm.LawKit.callS X131 hx (y := (⟨"java/lang/Math", "min", "(II)I"⟩ : MethodName)) hown (mvT hZ (hw _ (List.mem_of_getElem? (i := 133) rfl))) (mvT hZ (hw _ (List.mem_of_getElem? (i := 134) rfl))) (mvT hZ (hw _ (List.mem_of_getElem? (i := 61) rfl))) (mvT hZ (hw _ (List.mem_of_getElem? (i := 135) rfl))) (by decide) (backOf (W := 4) (rm20 l Z a0 hw [] (5 : Int32) (4 : Int32) h131 n0) hZ (hw _ (List.mem_of_getElem? (i := 135) rfl)) (hw _ (List.mem_of_getElem? (i := 61) rfl)) (by decide) (by decide)) (g := (mkF m 25 #[.val (.ref o0), .val (.int (4 : Int32)), .val (.ref b131)] [(.int (4 : Int32)), (.int (5 : Int32)), (.int (0 : Int32)), (.ref b131), (.int (0 : Int32)), (.ref o0)])) rfl (by rw [hml]; rfl) (argsL := [(.int (5 : Int32)), (.int (4 : Int32))]) (rest := [(.int (0 : Int32)), (.ref b131), (.int (0 : Int32)), (.ref o0)]) (lenOf pdm_0 rfl) rfl (by show 2 * 0 + _ ≤ _; exact Nat.le_of_eq rfl) (hb hby d19_25) (fun _ _ => ⟨rfl, e131, (show cells + 1 + 0 ≤ 1 from (Nat.le_trans (Nat.add_le_add_right hc 1) (by decide))), (show slots + 4 + 0 ≤ 4 from (Nat.le_trans (Nat.add_le_add_right hs 4) (by decide)))⟩)
  dsimp only [Pt.U, Pt.locs, Pt.cells, Pt.slots] at X132 l132 y132 z132 st132 hQ132
  have yy132 : k132 = cells + 1 + 0 := y132
  have zz132 : n132 = slots + 4 + 0 := z132
  rw [yy132, zz132, l132] at X132
  obtain ⟨rfl, N132q, e132⟩ := hQ132
  have N132 := Fr.app N N132q
  refine own_step st132 ?_
  show own_Fin p e below s Q 1 4 (T132.setTop (mkF m 28 #[.val (.ref o0), .val (.int (4 : Int32)), .val (.ref b131)] [(.int (f20_0 (5 : Int32) (4 : Int32))), (.int (0 : Int32)), (.ref b131), (.int (0 : Int32)), (.ref o0)]))
  obtain ⟨T133, h133, L133, X133, e133, N133, K133, V133, st133⟩ := own_cp X132 hx hZ hown (hw _ (List.mem_of_getElem? (i := 136) rfl)) (hw _ (List.mem_of_getElem? (i := 118) rfl)) (hw _ (List.mem_of_getElem? (i := 116) rfl)) (hw _ (List.mem_of_getElem? (i := 117) rfl)) e132 V131_o0 V131 (by decide) (by decide) (by decide) (by decide) (by decide) (by decide) N132 fr131  (g := (mkF m 28 #[.val (.ref o0), .val (.int (4 : Int32)), .val (.ref b131)] [(.int (f20_0 (5 : Int32) (4 : Int32))), (.int (0 : Int32)), (.ref b131), (.int (0 : Int32)), (.ref o0)])) rfl (by rw [hml]; rfl) rfl (hb hby d19_28) (by decide) (W := 0) (by show 2 * 0 + _ ≤ _; exact Nat.le_of_eq rfl) (by decide)
  have Z0133 : n0 ≤ h133.size := Nat.le_trans Z0131 K133.1
  obtain ⟨gf133, hgf133⟩ : ∃ g' : Nat → Int32, g' = (fun i => if ((0 : Int32)).toNatClampNeg ≤ i ∧ i < ((0 : Int32)).toNatClampNeg + ((f20_0 (5 : Int32) (4 : Int32))).toNatClampNeg then g0 (i - ((0 : Int32)).toNatClampNeg) else (fun _ => 0) i) := ⟨_, rfl⟩
  rw [← hgf133] at V133
  have eh133 : T133.heap = h133 := e133
  subst e133
  have V133_o0 := own_AFkeep V131_o0 K133 (ninS neo0_131 nin0)
  have Xa133_b131 := XX131.keep K133
  have KK133 : Keep h T133.heap [] := K131.trans K133 (allS (Or.inr sz131) all0)
  refine own_step st133 ?_
  show own_Fin p e below s Q 1 4 (T133.setTop (mkF m 31 #[.val (.ref o0), .val (.int (4 : Int32)), .val (.ref b131)] []))
  refine own_step (fun t k => XS.aloadN X133.here hx rfl (hb hby d19_31) rfl rfl k) ?_
  show own_Fin p e below s Q 1 4 (T133.setTop (mkF m 32 #[.val (.ref o0), .val (.int (4 : Int32)), .val (.ref b131)] [(.ref b131)]))
  refine own_retA X133 hx hlk hret rfl (hb hby d19_32) (Nat.le_trans (Nat.add_le_add_right hc 1) (by decide)) (Nat.le_trans (Nat.add_le_add_right hs 4) (by decide)) rfl ?_
  exact hQ _ _ b131 gf133 N133 KK133 fr131 sz131 V133 (own_cpy hgf133 (by decide) (by decide))
theorem pnm_7 : plainName "java/util/Arrays" = true := by first | (simp [plainName, overriddenIn]; done) | decide +kernel
theorem pdm_11 : parseMethodDescriptor "([II)[I" = some ⟨[(.array .int), .int], some (.array .int)⟩ := by decide +kernel
theorem ef_19 (m : MethodId) (o0 : Addr) : entryFrame m #[(.ref o0), (.int (4 : Int32))] 3 = (mkF m 0 #[.val (.ref o0), .val (.int (4 : Int32)), .unset] []) := by first | (simp [entryFrame, mkF, argsToLocals, Value.category]; done) | rfl
def Q19 (Z : State) (o0 : Addr) (g0 : Nat → Int32) (h0 : Heap) (n0 : Nat) (v : Option Value) (h : Heap) (L : List Loc) : Prop := ∃ (b : Addr) (g : Nat → Int32), v = some (.ref b) ∧ Fr n0 L ∧ Keep h0 h [] ∧ (n0 ≤ b) ∧ (h0.size ≤ b) ∧ (own_AF Z h b .int 4 g) ∧ (∀ i, i < 4 → g i = g0 i)
set_option maxRecDepth 65536 in
set_option maxHeartbeats 4000000 in
theorem rm19 (l : Launch) (Z : State) (a0 : Array Value) (hw : ∀ d ∈ tables_1, d.before a0 Z = true) (ws : List Jvm.Cond) (o0 : Addr) (g0 : Nat → Int32) (h0 : Heap) (n0 : Nat) (Z0 : n0 ≤ h0.size) (A0 : own_AF Z h0 o0 .int 5 g0) :
    MetFree l (⟨"java/util/Arrays", "copyOf", "([II)[I"⟩ : MethodName) (head1 (Jvm.Cond.code (⟨"java/util/Arrays", "copyOf", "([II)[I"⟩ : MethodName) jdk_65_method_123_code 3 (some (.array .int)) :: ws) ({ frames := 1, cells := 1, slots := 4, locals := 50 } : Room)) (fun a U => a = #[(.ref o0), (.int (4 : Int32))] ∧ Z.Warmed39 U.vm ∧ U.heap = h0) (fun _ _ _ _ _ => True) (fun _ U o U' => ∃ v L, o = .returned v ∧ Q19 Z o0 g0 h0 n0 v U'.heap L ∧ FrameEnd U o U' L ({ frames := 1, cells := 1, slots := 4, locals := 50 } : Room).cells ({ frames := 1, cells := 1, slots := 4, locals := 50 } : Room).slots) := by
  refine MetFree.of_bodySF (plainFor_of_name pnm_7) hisR ?_
  intro p e s m args below meth c s₁ Bd hml0 hP hK
  obtain ⟨rfl, hZ, hh⟩ := hP
  have hx := Bd.exec
  have hby := Bd.bytes
  have hml : c.maxLocals = 3 := hml0
  have hown : s.vm.findClass "java/util/Arrays" = some m.cls := findClass_of_methodNamed Bd.named
  have X0 : Stand p l e ({ frames := 1, cells := 1, slots := 4, locals := 50 } : Room) s m #[(.ref o0), (.int (4 : Int32))] below meth c s₁ [] 0 0 := Stand.of_body Bd
  have e0 : s₁.heap = h0 := by rw [← hh, Bd.state]; rfl
  have fin := b19_0 o0 g0 (Q := Q19 Z o0 g0 h0 n0) hw X0 hx hZ hby hml hown Bd.returns (BodyLoose.notSynchronized Bd) e0 (Fr.nil n0) (Nat.zero_le _) (Nat.zero_le _) Z0 A0 (fun H' L' b g n' k' r0 r1 r2 r3 => ⟨b, g, rfl, n', k', r0, r1, r2, r3⟩)
  exact own_step (fun t k => castTop (ef_19 m o0) k) fin
theorem d21_0 : decode prog_61_method_2_code 0 = .ok (.aload_n 0, 1) := by decide +kernel
theorem d21_1 : decode prog_61_method_2_code 1 = .ok (.invokespecial 1, 3) := by decide +kernel
theorem d21_4 : decode prog_61_method_2_code 4 = .ok (.aload_n 0, 1) := by decide +kernel
theorem d21_5 : decode prog_61_method_2_code 5 = .ok (.aload_n 1, 1) := by decide +kernel
theorem d21_6 : decode prog_61_method_2_code 6 = .ok (.putfield 13, 3) := by decide +kernel
theorem d21_9 : decode prog_61_method_2_code 9 = .ok (.aload_n 0, 1) := by decide +kernel
theorem d21_10 : decode prog_61_method_2_code 10 = .ok (.aload_n 2, 1) := by decide +kernel
theorem d21_11 : decode prog_61_method_2_code 11 = .ok (.putfield 24, 3) := by decide +kernel
theorem d21_14 : decode prog_61_method_2_code 14 = .ok (.return_, 1) := by decide +kernel
theorem pn_21 : plainName "com/example/libentitle/libentitle/role/Rows" = true := by first | (simp [plainName, overriddenIn]; done) | decide +kernel
theorem ef_21 (m : MethodId) (x0 : Addr) (x1 : Addr) (x2 : Addr) : entryFrame m #[(.ref x0), (.ref x1), (.ref x2)] 3 = mkF m 0 #[.val (.ref x0), .val (.ref x1), .val (.ref x2)] [] := by first | (simp [entryFrame, mkF, argsToLocals, Value.category]; done) | rfl
def Q21 (Z : State) (a1 : Addr) (a2 : Addr) (a3 : Addr) (u_starts_a1 : Value) (u_values_a1 : Value) (h0 : Heap) (n0 : Nat) (v : Option Value) (h : Heap) (L : List Loc) : Prop := v = none ∧ Fr n0 L ∧ Keep h0 h [a1] ∧ Exa Z h a1 "com/example/libentitle/libentitle/role/Rows" ∧ Fld Z h a1 "com/example/libentitle/libentitle/role/Rows" "starts" "[I" (.ref a2) ∧ Fld Z h a1 "com/example/libentitle/libentitle/role/Rows" "values" "[I" (.ref a3)
set_option maxRecDepth 65536 in
set_option maxHeartbeats 40000000 in
theorem rm21 (l : Launch) (Z : State) (a0 : Array Value) (hw : ∀ d ∈ tables_1, d.before a0 Z = true) (ws : List Jvm.Cond) (a1 : Addr) (a2 : Addr) (a3 : Addr) (u_starts_a1 : Value) (u_values_a1 : Value) (h0 : Heap) (n0 : Nat) (Z0 : n0 ≤ h0.size) (E_a1 : Exa Z h0 a1 "com/example/libentitle/libentitle/role/Rows") (F_starts_a1 : Fld Z h0 a1 "com/example/libentitle/libentitle/role/Rows" "starts" "[I" u_starts_a1) (g_a1 : n0 ≤ a1) (F_values_a1 : Fld Z h0 a1 "com/example/libentitle/libentitle/role/Rows" "values" "[I" u_values_a1) :
    MetFree l (⟨"com/example/libentitle/libentitle/role/Rows", "<init>", "([I[I)V"⟩ : MethodName) (head1 (Jvm.Cond.code (⟨"com/example/libentitle/libentitle/role/Rows", "<init>", "([I[I)V"⟩ : MethodName) prog_61_method_2_code 3 none :: ws) ({ frames := 1, cells := 0, slots := 0, locals := 12 } : Room)) (fun a U => a = #[(.ref a1), (.ref a2), (.ref a3)] ∧ Z.Warmed39 U.vm ∧ U.heap = h0) (fun _ _ _ _ _ => True) (fun _ U o U' => ∃ v L, o = .returned v ∧ Q21 Z a1 a2 a3 u_starts_a1 u_values_a1 h0 n0 v U'.heap L ∧ FrameEnd U o U' L ({ frames := 1, cells := 0, slots := 0, locals := 12 } : Room).cells ({ frames := 1, cells := 0, slots := 0, locals := 12 } : Room).slots) := by
  refine MetFree.of_bodySF (plainFor_of_name pn_21) hisR ?_
  intro p e s m args below meth c s₁ Bd hml0 hP hK
  obtain ⟨rfl, hZ, hh⟩ := hP
  have hx := Bd.exec
  have hby := Bd.bytes
  have hml : c.maxLocals = 3 := hml0
  have hown : s.vm.findClass "com/example/libentitle/libentitle/role/Rows" = some m.cls := findClass_of_methodNamed Bd.named
  have hnm := (name_of_methodNamed Bd.named Bd.method).1
  have X0 : Stand p l e ({ frames := 1, cells := 0, slots := 0, locals := 12 } : Room) s m #[(.ref a1), (.ref a2), (.ref a3)] below meth c s₁ [] 0 0 := Stand.of_body Bd
  have e0 : s₁.heap = h0 := by rw [← hh, Bd.state]; rfl
  have N0 := Fr.nil n0
  have pre0 : ∀ t, Steps p.tables e below (s₁.setTop (mkF m 0 #[.val (.ref a1), .val (.ref a2), .val (.ref a3)] [])) t → Steps p.tables e below (s₁.setTop (entryFrame m #[(.ref a1), (.ref a2), (.ref a3)] 3)) t := fun t k => castTop (ef_21 m a1 a2 a3) k
  obtain ⟨T4, X4, e4, st4⟩ := initO X0 hx hZ hown (hw _ (List.mem_of_getElem? (i := 79) rfl)) (hw _ (List.mem_of_getElem? (i := 19) rfl)) (hw _ (List.mem_of_getElem? (i := 20) rfl)) e0 (g := (mkF m 1 #[.val (.ref a1), .val (.ref a2), .val (.ref a3)] [(.ref a1)])) rfl (by rw [hml]; rfl) rfl (hb hby d21_1) (by decide) (W := 0) (by show 2 * 0 + _ ≤ _; exact Nat.le_of_eq rfl) (by decide)
  obtain ⟨T5, h5, X5, e5, W5, st5⟩ := putF X4 hx hZ hown (host := "") (Or.inl (hw _ (List.mem_of_getElem? (i := 88) rfl))) Via.refl e4 F_starts_a1 E_a1 (Or.inr ⟨(hw _ (List.mem_of_getElem? (i := 89) rfl)), rfl, hnm⟩) (hw _ (List.mem_of_getElem? (i := 74) rfl)) (ty := (.array .int)) (by decide) rfl rfl (g := (mkF m 6 #[.val (.ref a1), .val (.ref a2), .val (.ref a3)] [(.ref a2), (.ref a1)])) rfl rfl (hb hby d21_6)
  have Fw5 := F_starts_a1.same W5
  have K5 : Keep h0 h5 [a1] := (Keep.refl h0 [a1]).wr W5 (Or.inl (List.mem_of_getElem? (i := 0) rfl))
  have N5 := Fr.snoc X5 N0 g_a1
  obtain ⟨T6, h6, X6, e6, W6, st6⟩ := putF X5 hx hZ hown (host := "") (Or.inl (hw _ (List.mem_of_getElem? (i := 113) rfl))) Via.refl e5 (F_values_a1.other W5 (Or.inr (slot_ne (Or.inr (hw _ (List.mem_of_getElem? (i := 114) rfl))) (Or.inr (hw _ (List.mem_of_getElem? (i := 89) rfl))) (by decide) (t := (.array .int)) (t' := (.array .int)) (by decide) (by decide)))) (E_a1.wr W5) (Or.inr ⟨(hw _ (List.mem_of_getElem? (i := 114) rfl)), rfl, hnm⟩) (hw _ (List.mem_of_getElem? (i := 74) rfl)) (ty := (.array .int)) (by decide) rfl rfl (g := (mkF m 11 #[.val (.ref a1), .val (.ref a2), .val (.ref a3)] [(.ref a3), (.ref a1)])) rfl rfl (hb hby d21_11)
  have Fw6 := (F_values_a1.other W5 (Or.inr (slot_ne (Or.inr (hw _ (List.mem_of_getElem? (i := 114) rfl))) (Or.inr (hw _ (List.mem_of_getElem? (i := 89) rfl))) (by decide) (t := (.array .int)) (t' := (.array .int)) (by decide) (by decide)))).same W6
  have K6 : Keep h0 h6 [a1] := K5.wr W6 (Or.inl (List.mem_of_getElem? (i := 0) rfl))
  have N6 := Fr.snoc X6 N5 g_a1
  obtain ⟨fs, hr, hrun, hended, hW, hsame⟩ := X6.leave (v := none) (fun _ => rfl)
  refine ⟨_, _, pre0 _ ?_, hrun, hended, _, _, rfl, ?_, ⟨_, rfl⟩, hW, hsame.mono (by decide) (by decide)⟩
  · show Steps p.tables e below (s₁.setTop (mkF m 0 #[.val (.ref a1), .val (.ref a2), .val (.ref a3)] [])) _
    refine XS.aloadN X0.here hx rfl (hb hby d21_0) rfl rfl ?_
    show Steps p.tables e below (s₁.setTop (mkF m 1 #[.val (.ref a1), .val (.ref a2), .val (.ref a3)] [(.ref a1)])) _
    refine st4 _ ?_
    show Steps p.tables e below (T4.setTop (mkF m 4 #[.val (.ref a1), .val (.ref a2), .val (.ref a3)] [])) _
    refine XS.aloadN X4.here hx rfl (hb hby d21_4) rfl rfl ?_
    show Steps p.tables e below (T4.setTop (mkF m 5 #[.val (.ref a1), .val (.ref a2), .val (.ref a3)] [(.ref a1)])) _
    refine XS.aloadN X4.here hx rfl (hb hby d21_5) rfl rfl ?_
    show Steps p.tables e below (T4.setTop (mkF m 6 #[.val (.ref a1), .val (.ref a2), .val (.ref a3)] [(.ref a2), (.ref a1)])) _
    refine st5 _ ?_
    show Steps p.tables e below (T5.setTop (mkF m 9 #[.val (.ref a1), .val (.ref a2), .val (.ref a3)] [])) _
    refine XS.aloadN X5.here hx rfl (hb hby d21_9) rfl rfl ?_
    show Steps p.tables e below (T5.setTop (mkF m 10 #[.val (.ref a1), .val (.ref a2), .val (.ref a3)] [(.ref a1)])) _
    refine XS.aloadN X5.here hx rfl (hb hby d21_10) rfl rfl ?_
    show Steps p.tables e below (T5.setTop (mkF m 11 #[.val (.ref a1), .val (.ref a2), .val (.ref a3)] [(.ref a3), (.ref a1)])) _
    refine st6 _ ?_
    show Steps p.tables e below (T6.setTop (mkF m 14 #[.val (.ref a1), .val (.ref a2), .val (.ref a3)] [])) _
    exact X6.returnOut hx Bd.returns (hb hby d21_14) hr
  · show Q21 Z a1 a2 a3 u_starts_a1 u_values_a1 h0 n0 _ T6.heap _
    rw [e6]
    exact ⟨rfl, N6, K6, ((E_a1.wr W5).wr W6), (Fw5.other W6 (Or.inr (slot_ne (Or.inr (hw _ (List.mem_of_getElem? (i := 89) rfl))) (Or.inr (hw _ (List.mem_of_getElem? (i := 114) rfl))) (by decide) (t := (.array .int)) (t' := (.array .int)) (by decide) (by decide)))), Fw6⟩
theorem pdm_12 : parseMethodDescriptor "([I[I)V" = some ⟨[(.array .int), (.array .int)], none⟩ := by decide +kernel
def own_Mon (g : Nat → Int32) (z : Nat) : Prop := (g 0).toInt = 0 ∧ (g 0).toInt ≤ (g 1).toInt ∧ (g 1).toInt ≤ (g 2).toInt ∧ (g 2).toInt ≤ (g 3).toInt ∧ (g 3).toInt ≤ (g 4).toInt ∧ (g 4).toInt = z
theorem own_lpe {i n : Int32} {z z' : Nat} (hk : own_lp i n 0 z') (hn : n.toInt = z) : i.toNatClampNeg = z := by
  have := nat_of (own_ltz hk.2.1)
  have := hk.1
  omega
theorem own_lpn {i n : Int32} {k z : Nat} (hk : own_lp i n (k + 1) z) : i.toNatClampNeg < z ∧ (i + (1 : Int32)).toNatClampNeg = i.toNatClampNeg + 1 := by
  have e := own_lps hk
  have a1 := nat_of (own_ltz hk.2.1)
  have a2 := nat_of (own_ltz e.2.1)
  have b1 := hk.1
  have b2 := e.1
  have b3 := hk.2.2
  omega
theorem own_in5 {x : Int32} (h : own_val x) : own_In 5 (x + (1 : Int32)) := fun q => by
  obtain ⟨-, n2, e⟩ := own_vn h
  obtain ⟨h1, h2⟩ := h
  rcases q with q | q
  · exact own_ltz (by omega) q
  · omega
theorem own_in4 {x : Int32} (h : own_val x) : own_In 4 x := fun q => by
  obtain ⟨n1, -, -⟩ := own_vn h
  obtain ⟨h1, h2⟩ := h
  rcases q with q | q
  · exact own_ltz h1 q
  · omega
theorem own_inz {x : Int32} {z : Nat} (h : 0 ≤ x.toInt ∧ x.toInt < z) : own_In z x := fun q => by
  have := nat_of (own_ltz h.1)
  rcases q with q | q
  · exact own_ltz h.1 q
  · omega
theorem own_J10 (g : Nat → Int32) : own_J1 g (fun _ => 0) 0 := by
  have q : (0 : Int32).toInt = ((0 : Nat) : Int) := by decide
  exact ⟨q, q, q, q, q⟩
theorem own_lp00 {z : Nat} (h : z ≤ 1000) : own_lp (0 : Int32) (z.toInt32) z z := by
  have e := own_t32 z h
  refine ⟨?_, ?_, ?_⟩
  · rw [e, own_lz]; omega
  · rw [own_lz]; omega
  · rw [e]; omega
theorem own_J2 {g A B1 B2 B3 B4 : Nat → Int32} {z : Nat} (hz : z ≤ 100) (hv : ∀ i, i < z → own_val (g i)) (J : own_J1 g A z) (h1 : B1 = (fun i => if i = 1 then ((A ((1 : Int32)).toNatClampNeg) + (A ((0 : Int32)).toNatClampNeg)) else A i)) (h2 : B2 = (fun i => if i = 2 then ((B1 ((2 : Int32)).toNatClampNeg) + (B1 ((1 : Int32)).toNatClampNeg)) else B1 i)) (h3 : B3 = (fun i => if i = 3 then ((B2 ((3 : Int32)).toNatClampNeg) + (B2 ((2 : Int32)).toNatClampNeg)) else B2 i)) (h4 : B4 = (fun i => if i = 4 then ((B3 ((4 : Int32)).toNatClampNeg) + (B3 ((3 : Int32)).toNatClampNeg)) else B3 i)) :
    own_J3 g B4 z 0 := by
  obtain ⟨j0, j1, j2, j3, j4⟩ := J
  have c0 := own_cn g 0 z
  have c1 := own_cn g 1 z
  have c2 := own_cn g 2 z
  have c3 := own_cn g 3 z
  have a0 : (A 0).toInt = ((0 : Nat) : Int) := j0
  have b1 : (B1 1).toInt = ((own_cnt g 0 z + 0 : Nat) : Int) := by rw [h1]; exact own_add2 j1 a0 (by omega) (by omega)
  have b12 : (B1 2).toInt = own_cnt g 1 z := by rw [h1]; exact j2
  have b2 : (B2 2).toInt = ((own_cnt g 1 z + (own_cnt g 0 z + 0) : Nat) : Int) := by rw [h2]; exact own_add2 b12 b1 (by omega) (by omega)
  have b23 : (B2 3).toInt = own_cnt g 2 z := by rw [h2, h1]; exact j3
  have b3 : (B3 3).toInt = ((own_cnt g 2 z + (own_cnt g 1 z + (own_cnt g 0 z + 0)) : Nat) : Int) := by rw [h3]; exact own_add2 b23 b2 (by omega) (by omega)
  have e0 : (B4 0).toInt = 0 := by rw [h4, h3, h2, h1]; exact j0
  have e1 : (B4 1).toInt = ((own_cnt g 0 z + 0 : Nat) : Int) := by rw [h4, h3, h2]; exact b1
  have e2 : (B4 2).toInt = ((own_cnt g 1 z + (own_cnt g 0 z + 0) : Nat) : Int) := by rw [h4, h3]; exact b2
  have e3 : (B4 3).toInt = ((own_cnt g 2 z + (own_cnt g 1 z + (own_cnt g 0 z + 0)) : Nat) : Int) := by rw [h4]; exact b3
  have n0 : ∀ v, own_cnt g v 0 = 0 := fun _ => rfl
  refine ⟨?_, ?_, ?_, ?_⟩
  · rw [e0, n0]; rfl
  · rw [e1, n0]; omega
  · rw [e2, n0]; omega
  · rw [e3, n0]; omega
theorem own_J3c {g F F' : Nat → Int32} {z n : Nat} (J : own_J3 g F z n) (h : ∀ i, i < 4 → F' i = F i) : own_J3 g F' z n := by
  obtain ⟨j0, j1, j2, j3⟩ := J
  exact ⟨by rw [h 0 (by decide)]; exact j0, by rw [h 1 (by decide)]; exact j1, by rw [h 2 (by decide)]; exact j2, by rw [h 3 (by decide)]; exact j3⟩
theorem own_seg {a b : Int32} {z : Nat} (h0 : 0 ≤ a.toInt) (h1 : a.toInt ≤ b.toInt) (h2 : b.toInt ≤ z) : own_lp a b ((b.toInt - a.toInt).toNat) z := ⟨by omega, h0, h2⟩
theorem d18_0 : decode prog_61_method_4_code 0 = .ok (.iload_n 1, 1) := by decide +kernel
theorem d18_1 : decode prog_61_method_4_code 1 = .ok (.iconst 1, 1) := by decide +kernel
theorem d18_2 : decode prog_61_method_4_code 2 = .ok (.iadd, 1) := by decide +kernel
theorem d18_3 : decode prog_61_method_4_code 3 = .ok (.newarray .int, 2) := by decide +kernel
theorem d18_5 : decode prog_61_method_4_code 5 = .ok (.astore_n 2, 1) := by decide +kernel
theorem d18_6 : decode prog_61_method_4_code 6 = .ok (.aload_n 0, 1) := by decide +kernel
theorem d18_7 : decode prog_61_method_4_code 7 = .ok (.getfield 24, 3) := by decide +kernel
theorem d18_10 : decode prog_61_method_4_code 10 = .ok (.astore_n 3, 1) := by decide +kernel
theorem d18_11 : decode prog_61_method_4_code 11 = .ok (.aload_n 3, 1) := by decide +kernel
theorem d18_12 : decode prog_61_method_4_code 12 = .ok (.arraylength, 1) := by decide +kernel
theorem d18_13 : decode prog_61_method_4_code 13 = .ok (.istore 4, 2) := by decide +kernel
theorem d18_15 : decode prog_61_method_4_code 15 = .ok (.iconst 0, 1) := by decide +kernel
theorem d18_16 : decode prog_61_method_4_code 16 = .ok (.istore 5, 2) := by decide +kernel
theorem d18_18 : decode prog_61_method_4_code 18 = .ok (.iload 5, 2) := by decide +kernel
theorem d18_20 : decode prog_61_method_4_code 20 = .ok (.iload 4, 2) := by decide +kernel
theorem d18_22 : decode prog_61_method_4_code 22 = .ok (.if_icmp .ge 25, 3) := by decide +kernel
theorem d18_25 : decode prog_61_method_4_code 25 = .ok (.aload_n 3, 1) := by decide +kernel
theorem d18_26 : decode prog_61_method_4_code 26 = .ok (.iload 5, 2) := by decide +kernel
theorem d18_28 : decode prog_61_method_4_code 28 = .ok (.iaload, 1) := by decide +kernel
theorem d18_29 : decode prog_61_method_4_code 29 = .ok (.istore 6, 2) := by decide +kernel
theorem d18_31 : decode prog_61_method_4_code 31 = .ok (.aload_n 2, 1) := by decide +kernel
theorem d18_32 : decode prog_61_method_4_code 32 = .ok (.iload 6, 2) := by decide +kernel
theorem d18_34 : decode prog_61_method_4_code 34 = .ok (.iconst 1, 1) := by decide +kernel
theorem d18_35 : decode prog_61_method_4_code 35 = .ok (.iadd, 1) := by decide +kernel
theorem d18_36 : decode prog_61_method_4_code 36 = .ok (.dup2, 1) := by decide +kernel
theorem d18_37 : decode prog_61_method_4_code 37 = .ok (.iaload, 1) := by decide +kernel
theorem d18_38 : decode prog_61_method_4_code 38 = .ok (.iconst 1, 1) := by decide +kernel
theorem d18_39 : decode prog_61_method_4_code 39 = .ok (.iadd, 1) := by decide +kernel
theorem d18_40 : decode prog_61_method_4_code 40 = .ok (.iastore, 1) := by decide +kernel
theorem d18_41 : decode prog_61_method_4_code 41 = .ok (.iinc 5 1, 3) := by decide +kernel
theorem d18_44 : decode prog_61_method_4_code 44 = .ok (.goto (-26), 3) := by decide +kernel
theorem d18_47 : decode prog_61_method_4_code 47 = .ok (.iconst 0, 1) := by decide +kernel
theorem d18_48 : decode prog_61_method_4_code 48 = .ok (.istore_n 3, 1) := by decide +kernel
theorem d18_49 : decode prog_61_method_4_code 49 = .ok (.iload_n 3, 1) := by decide +kernel
theorem d18_50 : decode prog_61_method_4_code 50 = .ok (.iload_n 1, 1) := by decide +kernel
theorem d18_51 : decode prog_61_method_4_code 51 = .ok (.if_icmp .ge 20, 3) := by decide +kernel
theorem d18_54 : decode prog_61_method_4_code 54 = .ok (.aload_n 2, 1) := by decide +kernel
theorem d18_55 : decode prog_61_method_4_code 55 = .ok (.iload_n 3, 1) := by decide +kernel
theorem d18_56 : decode prog_61_method_4_code 56 = .ok (.iconst 1, 1) := by decide +kernel
theorem d18_57 : decode prog_61_method_4_code 57 = .ok (.iadd, 1) := by decide +kernel
theorem d18_58 : decode prog_61_method_4_code 58 = .ok (.dup2, 1) := by decide +kernel
theorem d18_59 : decode prog_61_method_4_code 59 = .ok (.iaload, 1) := by decide +kernel
theorem d18_60 : decode prog_61_method_4_code 60 = .ok (.aload_n 2, 1) := by decide +kernel
theorem d18_61 : decode prog_61_method_4_code 61 = .ok (.iload_n 3, 1) := by decide +kernel
theorem d18_62 : decode prog_61_method_4_code 62 = .ok (.iaload, 1) := by decide +kernel
theorem d18_63 : decode prog_61_method_4_code 63 = .ok (.iadd, 1) := by decide +kernel
theorem d18_64 : decode prog_61_method_4_code 64 = .ok (.iastore, 1) := by decide +kernel
theorem d18_65 : decode prog_61_method_4_code 65 = .ok (.iinc 3 1, 3) := by decide +kernel
theorem d18_68 : decode prog_61_method_4_code 68 = .ok (.goto (-19), 3) := by decide +kernel
theorem d18_71 : decode prog_61_method_4_code 71 = .ok (.aload_n 0, 1) := by decide +kernel
theorem d18_72 : decode prog_61_method_4_code 72 = .ok (.getfield 24, 3) := by decide +kernel
theorem d18_75 : decode prog_61_method_4_code 75 = .ok (.arraylength, 1) := by decide +kernel
theorem d18_76 : decode prog_61_method_4_code 76 = .ok (.newarray .int, 2) := by decide +kernel
theorem d18_78 : decode prog_61_method_4_code 78 = .ok (.astore_n 3, 1) := by decide +kernel
theorem d18_79 : decode prog_61_method_4_code 79 = .ok (.aload_n 2, 1) := by decide +kernel
theorem d18_80 : decode prog_61_method_4_code 80 = .ok (.iload_n 1, 1) := by decide +kernel
theorem d18_81 : decode prog_61_method_4_code 81 = .ok (.invokestatic 40, 3) := by decide +kernel
theorem d18_84 : decode prog_61_method_4_code 84 = .ok (.astore 4, 2) := by decide +kernel
theorem d18_86 : decode prog_61_method_4_code 86 = .ok (.iconst 0, 1) := by decide +kernel
theorem d18_87 : decode prog_61_method_4_code 87 = .ok (.istore 5, 2) := by decide +kernel
theorem d18_89 : decode prog_61_method_4_code 89 = .ok (.iload 5, 2) := by decide +kernel
theorem d18_91 : decode prog_61_method_4_code 91 = .ok (.iconst 1, 1) := by decide +kernel
theorem d18_92 : decode prog_61_method_4_code 92 = .ok (.iadd, 1) := by decide +kernel
theorem d18_93 : decode prog_61_method_4_code 93 = .ok (.aload_n 0, 1) := by decide +kernel
theorem d18_94 : decode prog_61_method_4_code 94 = .ok (.getfield 13, 3) := by decide +kernel
theorem d18_97 : decode prog_61_method_4_code 97 = .ok (.arraylength, 1) := by decide +kernel
theorem d18_98 : decode prog_61_method_4_code 98 = .ok (.if_icmp .ge 57, 3) := by decide +kernel
theorem d18_101 : decode prog_61_method_4_code 101 = .ok (.aload_n 0, 1) := by decide +kernel
theorem d18_102 : decode prog_61_method_4_code 102 = .ok (.getfield 13, 3) := by decide +kernel
theorem d18_105 : decode prog_61_method_4_code 105 = .ok (.iload 5, 2) := by decide +kernel
theorem d18_107 : decode prog_61_method_4_code 107 = .ok (.iaload, 1) := by decide +kernel
theorem d18_108 : decode prog_61_method_4_code 108 = .ok (.istore 6, 2) := by decide +kernel
theorem d18_110 : decode prog_61_method_4_code 110 = .ok (.iload 6, 2) := by decide +kernel
theorem d18_112 : decode prog_61_method_4_code 112 = .ok (.aload_n 0, 1) := by decide +kernel
theorem d18_113 : decode prog_61_method_4_code 113 = .ok (.getfield 13, 3) := by decide +kernel
theorem d18_116 : decode prog_61_method_4_code 116 = .ok (.iload 5, 2) := by decide +kernel
theorem d18_118 : decode prog_61_method_4_code 118 = .ok (.iconst 1, 1) := by decide +kernel
theorem d18_119 : decode prog_61_method_4_code 119 = .ok (.iadd, 1) := by decide +kernel
theorem d18_120 : decode prog_61_method_4_code 120 = .ok (.iaload, 1) := by decide +kernel
theorem d18_121 : decode prog_61_method_4_code 121 = .ok (.if_icmp .ge 28, 3) := by decide +kernel
theorem d18_124 : decode prog_61_method_4_code 124 = .ok (.aload_n 3, 1) := by decide +kernel
theorem d18_125 : decode prog_61_method_4_code 125 = .ok (.aload 4, 2) := by decide +kernel
theorem d18_127 : decode prog_61_method_4_code 127 = .ok (.aload_n 0, 1) := by decide +kernel
theorem d18_128 : decode prog_61_method_4_code 128 = .ok (.getfield 24, 3) := by decide +kernel
theorem d18_131 : decode prog_61_method_4_code 131 = .ok (.iload 6, 2) := by decide +kernel
theorem d18_133 : decode prog_61_method_4_code 133 = .ok (.iaload, 1) := by decide +kernel
theorem d18_134 : decode prog_61_method_4_code 134 = .ok (.dup2, 1) := by decide +kernel
theorem d18_135 : decode prog_61_method_4_code 135 = .ok (.iaload, 1) := by decide +kernel
theorem d18_136 : decode prog_61_method_4_code 136 = .ok (.dup_x2, 1) := by decide +kernel
theorem d18_137 : decode prog_61_method_4_code 137 = .ok (.iconst 1, 1) := by decide +kernel
theorem d18_138 : decode prog_61_method_4_code 138 = .ok (.iadd, 1) := by decide +kernel
theorem d18_139 : decode prog_61_method_4_code 139 = .ok (.iastore, 1) := by decide +kernel
theorem d18_140 : decode prog_61_method_4_code 140 = .ok (.iload 5, 2) := by decide +kernel
theorem d18_142 : decode prog_61_method_4_code 142 = .ok (.iastore, 1) := by decide +kernel
theorem d18_143 : decode prog_61_method_4_code 143 = .ok (.iinc 6 1, 3) := by decide +kernel
theorem d18_146 : decode prog_61_method_4_code 146 = .ok (.goto (-36), 3) := by decide +kernel
theorem d18_149 : decode prog_61_method_4_code 149 = .ok (.iinc 5 1, 3) := by decide +kernel
theorem d18_152 : decode prog_61_method_4_code 152 = .ok (.goto (-63), 3) := by decide +kernel
theorem d18_155 : decode prog_61_method_4_code 155 = .ok (.new 14, 3) := by decide +kernel
theorem d18_158 : decode prog_61_method_4_code 158 = .ok (.dup, 1) := by decide +kernel
theorem d18_159 : decode prog_61_method_4_code 159 = .ok (.aload_n 2, 1) := by decide +kernel
theorem d18_160 : decode prog_61_method_4_code 160 = .ok (.aload_n 3, 1) := by decide +kernel
theorem d18_161 : decode prog_61_method_4_code 161 = .ok (.invokespecial 37, 3) := by decide +kernel
theorem d18_164 : decode prog_61_method_4_code 164 = .ok (.areturn, 1) := by decide +kernel
set_option maxRecDepth 65536 in
set_option maxHeartbeats 40000000 in
theorem own_l1 {p : Program} {l : Launch} {e : Env} {s : State} {m : MethodId} {args : Array Value} {below : List Frame} {meth : Method} {c : Code} {cells slots : Nat} {Z : State} {a0 : Array Value} {n0 : Nat} {Q : Option Value → Heap → List Loc → Prop} (o0 : Addr) (o2 : Addr) (o3 : Addr) (i4 : Int32) (z : Nat) (gv : Nat → Int32) (hw : ∀ d ∈ tables_1, d.before a0 Z = true) (hx : p.tables.exec = Jvm.exec) (hZ : Z.Warmed39 s.vm) (hby : c.code = prog_61_method_4_code) (hml : c.maxLocals = 7) (hown : s.vm.findClass "com/example/libentitle/libentitle/role/Rows" = some m.cls) (hz : z ≤ 12) (hval : ∀ i, i < z → own_val (gv i)) (fr2 : n0 ≤ o2) (ne32 : o3 ≠ o2) (hi4 : i4.toInt = z) (k : Nat) : ∀ {T : State} {locs : List Loc} {h : Heap} (gA : Nat → Int32) (i5 : Int32) (s6 : Slot) (X : Stand p l e ({ frames := 3, cells := 4, slots := 23, locals := 100 } : Room) s m args below meth c T locs cells slots) (eT : T.heap = h) (N : Fr n0 locs) (Z0 : n0 ≤ h.size) (hs6 : One s6) (V2 : own_AF Z h o2 .int 5 gA) (V3 : own_AF Z h o3 .int z gv) (hk : own_lp i5 i4 k z) (J : own_J1 gv gA i5.toNatClampNeg) (cont : ∀ {T' : State} {locs' : List Loc} {h' : Heap} (gA' : Nat → Int32) (i5' : Int32) (s6' : Slot), Stand p l e ({ frames := 3, cells := 4, slots := 23, locals := 100 } : Room) s m args below meth c T' locs' cells slots → T'.heap = h' → Fr n0 locs' → Keep h h' [o2] → One s6' → own_AF Z h' o2 .int 5 gA' → own_J1 gv gA' z → own_Fin p e below s Q 4 23 (T'.setTop (mkF m 47 #[.val (.ref o0), .val (.int (4 : Int32)), .val (.ref o2), .val (.ref o3), .val (.int i4), .val (.int i5'), s6'] []))),
    own_Fin p e below s Q 4 23 (T.setTop (mkF m 18 #[.val (.ref o0), .val (.int (4 : Int32)), .val (.ref o2), .val (.ref o3), .val (.int i4), .val (.int i5), s6] [])) := by
  induction k with
  | zero =>
    intro T locs h gA i5 s6 X eT N Z0 hs6 V2 V3 hk J cont
    refine own_step (fun t k => XS.iload X.here hx rfl (hb hby d18_18) rfl  k) ?_
    show own_Fin p e below s Q 4 23 (T.setTop (mkF m 20 #[.val (.ref o0), .val (.int (4 : Int32)), .val (.ref o2), .val (.ref o3), .val (.int i4), .val (.int i5), s6] [(.int i5)]))
    refine own_step (fun t k => XS.iload X.here hx rfl (hb hby d18_20) rfl  k) ?_
    show own_Fin p e below s Q 4 23 (T.setTop (mkF m 22 #[.val (.ref o0), .val (.int (4 : Int32)), .val (.ref o2), .val (.ref o3), .val (.int i4), .val (.int i5), s6] [(.int i4), (.int i5)]))
    refine own_step (fun t k => XS.icmpYes X.here hx rfl (pc0 := 22) (pc' := 47) rfl (hb hby d18_22) rfl (flt (own_lp0 hk)).2.1 (by decide) (by decide) k) ?_
    rw [own_lpe hk hi4] at J
    exact cont gA i5 s6 X eT N (Keep.refl _ _) hs6 V2 J
  | succ k ih =>
    intro T locs h gA i5 s6 X eT N Z0 hs6 V2 V3 hk J cont
    refine own_step (fun t k => XS.iload X.here hx rfl (hb hby d18_18) rfl  k) ?_
    show own_Fin p e below s Q 4 23 (T.setTop (mkF m 20 #[.val (.ref o0), .val (.int (4 : Int32)), .val (.ref o2), .val (.ref o3), .val (.int i4), .val (.int i5), s6] [(.int i5)]))
    refine own_step (fun t k => XS.iload X.here hx rfl (hb hby d18_20) rfl  k) ?_
    show own_Fin p e below s Q 4 23 (T.setTop (mkF m 22 #[.val (.ref o0), .val (.int (4 : Int32)), .val (.ref o2), .val (.ref o3), .val (.int i4), .val (.int i5), s6] [(.int i4), (.int i5)]))
    refine own_step (fun t k => XS.icmpNo X.here hx rfl (hb hby d18_22) rfl (tlt (own_lp1 hk)).2.1 k) ?_
    show own_Fin p e below s Q 4 23 (T.setTop (mkF m 25 #[.val (.ref o0), .val (.int (4 : Int32)), .val (.ref o2), .val (.ref o3), .val (.int i4), .val (.int i5), s6] []))
    refine own_step (fun t k => XS.aloadN X.here hx rfl (hb hby d18_25) rfl rfl k) ?_
    show own_Fin p e below s Q 4 23 (T.setTop (mkF m 26 #[.val (.ref o0), .val (.int (4 : Int32)), .val (.ref o2), .val (.ref o3), .val (.int i4), .val (.int i5), s6] [(.ref o3)]))
    refine own_step (fun t k => XS.iload X.here hx rfl (hb hby d18_26) rfl  k) ?_
    show own_Fin p e below s Q 4 23 (T.setTop (mkF m 28 #[.val (.ref o0), .val (.int (4 : Int32)), .val (.ref o2), .val (.ref o3), .val (.int i4), .val (.int i5), s6] [(.int i5), (.ref o3)]))
    obtain ⟨ca28, Ar28, Sz28, Ht28⟩ := id V3
    have hin28 : ¬ (i5 < 0 ∨ ca28.slots.size ≤ (i5).toNatClampNeg) := by rw [Sz28]; exact own_lpin hk
    refine own_step (X.iaload hx (j := i5) (v := (.int (gv (i5).toNatClampNeg))) (by rw [eT]; exact Ar28.1) (State.isArrayOf_alike hZ.alike Ar28.2.1) Ar28.2.2 hin28 (Ht28 _ (by have hq := Nat.lt_of_not_le (fun y => hin28 (Or.inr y)); rw [Sz28] at hq; exact hq)) (g := (mkF m 28 #[.val (.ref o0), .val (.int (4 : Int32)), .val (.ref o2), .val (.ref o3), .val (.int i4), .val (.int i5), s6] [(.int i5), (.ref o3)])) rfl rfl (hb hby d18_28)) ?_
    show own_Fin p e below s Q 4 23 (T.setTop (mkF m 29 #[.val (.ref o0), .val (.int (4 : Int32)), .val (.ref o2), .val (.ref o3), .val (.int i4), .val (.int i5), s6] [(.int (gv (i5).toNatClampNeg))]))
    refine own_step (fun t k => XS.istoreS X.here hx rfl (hb hby d18_29) rfl rfl hs6 k) ?_
    show own_Fin p e below s Q 4 23 (T.setTop (mkF m 31 #[.val (.ref o0), .val (.int (4 : Int32)), .val (.ref o2), .val (.ref o3), .val (.int i4), .val (.int i5), .val (.int (gv (i5).toNatClampNeg))] []))
    refine own_step (fun t k => XS.aloadN X.here hx rfl (hb hby d18_31) rfl rfl k) ?_
    show own_Fin p e below s Q 4 23 (T.setTop (mkF m 32 #[.val (.ref o0), .val (.int (4 : Int32)), .val (.ref o2), .val (.ref o3), .val (.int i4), .val (.int i5), .val (.int (gv (i5).toNatClampNeg))] [(.ref o2)]))
    refine own_step (fun t k => XS.iload X.here hx rfl (hb hby d18_32) rfl  k) ?_
    show own_Fin p e below s Q 4 23 (T.setTop (mkF m 34 #[.val (.ref o0), .val (.int (4 : Int32)), .val (.ref o2), .val (.ref o3), .val (.int i4), .val (.int i5), .val (.int (gv (i5).toNatClampNeg))] [(.int (gv (i5).toNatClampNeg)), (.ref o2)]))
    refine own_step (fun t k => XS.iconst X.here hx rfl (hb hby d18_34) k) ?_
    show own_Fin p e below s Q 4 23 (T.setTop (mkF m 35 #[.val (.ref o0), .val (.int (4 : Int32)), .val (.ref o2), .val (.ref o3), .val (.int i4), .val (.int i5), .val (.int (gv (i5).toNatClampNeg))] [(.int (1 : Int32)), (.int (gv (i5).toNatClampNeg)), (.ref o2)]))
    refine own_step (fun t k => XS.iadd X.here hx rfl (hb hby d18_35) rfl k) ?_
    show own_Fin p e below s Q 4 23 (T.setTop (mkF m 36 #[.val (.ref o0), .val (.int (4 : Int32)), .val (.ref o2), .val (.ref o3), .val (.int i4), .val (.int i5), .val (.int (gv (i5).toNatClampNeg))] [(.int ((gv (i5).toNatClampNeg) + (1 : Int32))), (.ref o2)]))
    refine own_step (fun t k => Jvm.Free.XT.dup2 X.here hx rfl (hb hby d18_36) rfl rfl rfl k) ?_
    show own_Fin p e below s Q 4 23 (T.setTop (mkF m 37 #[.val (.ref o0), .val (.int (4 : Int32)), .val (.ref o2), .val (.ref o3), .val (.int i4), .val (.int i5), .val (.int (gv (i5).toNatClampNeg))] [(.int ((gv (i5).toNatClampNeg) + (1 : Int32))), (.ref o2), (.int ((gv (i5).toNatClampNeg) + (1 : Int32))), (.ref o2)]))
    obtain ⟨ca37, Ar37, Sz37, Ht37⟩ := id V2
    have hin37 : ¬ (((gv (i5).toNatClampNeg) + (1 : Int32)) < 0 ∨ ca37.slots.size ≤ (((gv (i5).toNatClampNeg) + (1 : Int32))).toNatClampNeg) := by rw [Sz37]; exact own_in5 (hval _ (own_lpn hk).1)
    refine own_step (X.iaload hx (j := ((gv (i5).toNatClampNeg) + (1 : Int32))) (v := (.int (gA (((gv (i5).toNatClampNeg) + (1 : Int32))).toNatClampNeg))) (by rw [eT]; exact Ar37.1) (State.isArrayOf_alike hZ.alike Ar37.2.1) Ar37.2.2 hin37 (Ht37 _ (by have hq := Nat.lt_of_not_le (fun y => hin37 (Or.inr y)); rw [Sz37] at hq; exact hq)) (g := (mkF m 37 #[.val (.ref o0), .val (.int (4 : Int32)), .val (.ref o2), .val (.ref o3), .val (.int i4), .val (.int i5), .val (.int (gv (i5).toNatClampNeg))] [(.int ((gv (i5).toNatClampNeg) + (1 : Int32))), (.ref o2), (.int ((gv (i5).toNatClampNeg) + (1 : Int32))), (.ref o2)])) rfl rfl (hb hby d18_37)) ?_
    show own_Fin p e below s Q 4 23 (T.setTop (mkF m 38 #[.val (.ref o0), .val (.int (4 : Int32)), .val (.ref o2), .val (.ref o3), .val (.int i4), .val (.int i5), .val (.int (gv (i5).toNatClampNeg))] [(.int (gA (((gv (i5).toNatClampNeg) + (1 : Int32))).toNatClampNeg)), (.int ((gv (i5).toNatClampNeg) + (1 : Int32))), (.ref o2)]))
    refine own_step (fun t k => XS.iconst X.here hx rfl (hb hby d18_38) k) ?_
    show own_Fin p e below s Q 4 23 (T.setTop (mkF m 39 #[.val (.ref o0), .val (.int (4 : Int32)), .val (.ref o2), .val (.ref o3), .val (.int i4), .val (.int i5), .val (.int (gv (i5).toNatClampNeg))] [(.int (1 : Int32)), (.int (gA (((gv (i5).toNatClampNeg) + (1 : Int32))).toNatClampNeg)), (.int ((gv (i5).toNatClampNeg) + (1 : Int32))), (.ref o2)]))
    refine own_step (fun t k => XS.iadd X.here hx rfl (hb hby d18_39) rfl k) ?_
    show own_Fin p e below s Q 4 23 (T.setTop (mkF m 40 #[.val (.ref o0), .val (.int (4 : Int32)), .val (.ref o2), .val (.ref o3), .val (.int i4), .val (.int i5), .val (.int (gv (i5).toNatClampNeg))] [(.int ((gA (((gv (i5).toNatClampNeg) + (1 : Int32))).toNatClampNeg) + (1 : Int32))), (.int ((gv (i5).toNatClampNeg) + (1 : Int32))), (.ref o2)]))
    obtain ⟨ca134, Ar134, Sz134, Ht134⟩ := id V2
    have hin134 : ¬ (((gv (i5).toNatClampNeg) + (1 : Int32)) < 0 ∨ ca134.slots.size ≤ (((gv (i5).toNatClampNeg) + (1 : Int32))).toNatClampNeg) := by rw [Sz134]; exact own_in5 (hval _ (own_lpn hk).1)
    obtain ⟨T134, h134, X134, e134, W134, st134⟩ := stI X hx hZ eT Ar134 (j := ((gv (i5).toNatClampNeg) + (1 : Int32))) hin134 (g := (mkF m 40 #[.val (.ref o0), .val (.int (4 : Int32)), .val (.ref o2), .val (.ref o3), .val (.int i4), .val (.int i5), .val (.int (gv (i5).toNatClampNeg))] [(.int ((gA (((gv (i5).toNatClampNeg) + (1 : Int32))).toNatClampNeg) + (1 : Int32))), (.int ((gv (i5).toNatClampNeg) + (1 : Int32))), (.ref o2)])) rfl rfl (hb hby d18_40)
    have V134 : own_AF Z h134 o2 .int 5 (fun i => if i = (((gv (i5).toNatClampNeg) + (1 : Int32))).toNatClampNeg then ((gA (((gv (i5).toNatClampNeg) + (1 : Int32))).toNatClampNeg) + (1 : Int32)) else gA i) := own_AFset Ar134 Sz134 Ht134 W134
    obtain ⟨gf134, hgf134⟩ : ∃ g' : Nat → Int32, g' = (fun i => if i = (((gv (i5).toNatClampNeg) + (1 : Int32))).toNatClampNeg then ((gA (((gv (i5).toNatClampNeg) + (1 : Int32))).toNatClampNeg) + (1 : Int32)) else gA i) := ⟨_, rfl⟩
    rw [← hgf134] at V134
    have N134 := Fr.snoc X134 N fr2
    have Z0134 : n0 ≤ h134.size := Nat.le_trans Z0 (Nat.le_of_eq W134.size.symm)
    have V134_o3 := own_AFoth V3 W134 ne32
    refine own_step st134 ?_
    show own_Fin p e below s Q 4 23 (T134.setTop (mkF m 41 #[.val (.ref o0), .val (.int (4 : Int32)), .val (.ref o2), .val (.ref o3), .val (.int i4), .val (.int i5), .val (.int (gv (i5).toNatClampNeg))] []))
    refine own_step (fun t k => XS.iinc X134.here hx rfl (hb hby d18_41) rfl (l' := #[.val (.ref o0), .val (.int (4 : Int32)), .val (.ref o2), .val (.ref o3), .val (.int i4), .val (.int (i5 + (1 : Int32))), .val (.int (gv (i5).toNatClampNeg))]) rfl k) ?_
    show own_Fin p e below s Q 4 23 (T134.setTop (mkF m 44 #[.val (.ref o0), .val (.int (4 : Int32)), .val (.ref o2), .val (.ref o3), .val (.int i4), .val (.int (i5 + (1 : Int32))), .val (.int (gv (i5).toNatClampNeg))] []))
    refine own_step (fun t k => XS.goto X134.here hx rfl (pc0 := 44) (pc' := 18) rfl (hb hby d18_44) (by decide) (by decide) k) ?_
    have J' := own_J1s (by have := (own_lpn hk).1; omega) J rfl (hval _ (own_lpn hk).1) hgf134
    rw [← (own_lpn hk).2] at J'
    exact ih gf134 (i5 + (1 : Int32)) (.val (.int (gv (i5).toNatClampNeg))) X134 e134 N134 Z0134 (One.val rfl) V134 V134_o3 (own_lps hk) J' (fun gA' i5' s6' X' e' n' k' s' v' j' => cont gA' i5' s6' X' e' n' (((Keep.refl h [o2]).wr W134 (Or.inl (List.mem_singleton.mpr rfl))).trans k' (fun x hx => Or.inl hx)) s' v' j')
set_option maxRecDepth 65536 in
set_option maxHeartbeats 40000000 in
theorem own_l3 {p : Program} {l : Launch} {e : Env} {s : State} {m : MethodId} {args : Array Value} {below : List Frame} {meth : Method} {c : Code} {cells slots : Nat} {Z : State} {a0 : Array Value} {n0 : Nat} {Q : Option Value → Heap → List Loc → Prop} (o0 : Addr) (o2 : Addr) (o3 : Addr) (o4 : Addr) (bs : Addr) (bv : Addr) (i5 : Int32) (en : Int32) (z : Nat) (gs : Nat → Int32) (gv : Nat → Int32) (hw : ∀ d ∈ tables_1, d.before a0 Z = true) (hx : p.tables.exec = Jvm.exec) (hZ : Z.Warmed39 s.vm) (hby : c.code = prog_61_method_4_code) (hml : c.maxLocals = 7) (hown : s.vm.findClass "com/example/libentitle/libentitle/role/Rows" = some m.cls) (hz : z ≤ 12) (hval : ∀ i, i < z → own_val (gv i)) (fr3 : n0 ≤ o3) (fr4 : n0 ≤ o4) (no0o3 : o0 ≠ o3) (no0o4 : o0 ≠ o4) (nbso3 : bs ≠ o3) (nbso4 : bs ≠ o4) (nbvo3 : bv ≠ o3) (nbvo4 : bv ≠ o4) (n34 : o3 ≠ o4) (hi51 : own_In 5 (i5 + (1 : Int32))) (he : gs ((i5 + (1 : Int32))).toNatClampNeg = en) (hen : 0 ≤ en.toInt) (k : Nat) : ∀ {T : State} {locs : List Loc} {h : Heap} (gI : Nat → Int32) (gF : Nat → Int32) (i6 : Int32) (X : Stand p l e ({ frames := 3, cells := 4, slots := 23, locals := 100 } : Room) s m args below meth c T locs cells slots) (eT : T.heap = h) (N : Fr n0 locs) (Z0 : n0 ≤ h.size) (E0 : Exa Z h o0 "com/example/libentitle/libentitle/role/Rows") (Fst : Fld Z h o0 "com/example/libentitle/libentitle/role/Rows" "starts" "[I" (.ref bs)) (Fva : Fld Z h o0 "com/example/libentitle/libentitle/role/Rows" "values" "[I" (.ref bv)) (As : own_AF Z h bs .int 5 gs) (Av : own_AF Z h bv .int z gv) (V3 : own_AF Z h o3 .int z gI) (V4 : own_AF Z h o4 .int 4 gF) (hk : own_lp i6 en k z) (J : own_J3 gv gF z i6.toNatClampNeg) (cont : ∀ {T' : State} {locs' : List Loc} {h' : Heap} (gI' gF' : Nat → Int32) (i6' : Int32), Stand p l e ({ frames := 3, cells := 4, slots := 23, locals := 100 } : Room) s m args below meth c T' locs' cells slots → T'.heap = h' → Fr n0 locs' → Keep h h' [o3, o4] → own_AF Z h' o3 .int z gI' → own_AF Z h' o4 .int 4 gF' → own_J3 gv gF' z en.toNatClampNeg → own_Fin p e below s Q 4 23 (T'.setTop (mkF m 149 #[.val (.ref o0), .val (.int (4 : Int32)), .val (.ref o2), .val (.ref o3), .val (.ref o4), .val (.int i5), .val (.int i6')] []))),
    own_Fin p e below s Q 4 23 (T.setTop (mkF m 110 #[.val (.ref o0), .val (.int (4 : Int32)), .val (.ref o2), .val (.ref o3), .val (.ref o4), .val (.int i5), .val (.int i6)] [])) := by
  induction k with
  | zero =>
    intro T locs h gI gF i6 X eT N Z0 E0 Fst Fva As Av V3 V4 hk J cont
    refine own_step (fun t k => XS.iload X.here hx rfl (hb hby d18_110) rfl  k) ?_
    show own_Fin p e below s Q 4 23 (T.setTop (mkF m 112 #[.val (.ref o0), .val (.int (4 : Int32)), .val (.ref o2), .val (.ref o3), .val (.ref o4), .val (.int i5), .val (.int i6)] [(.int i6)]))
    refine own_step (fun t k => XS.aloadN X.here hx rfl (hb hby d18_112) rfl rfl k) ?_
    show own_Fin p e below s Q 4 23 (T.setTop (mkF m 113 #[.val (.ref o0), .val (.int (4 : Int32)), .val (.ref o2), .val (.ref o3), .val (.ref o4), .val (.int i5), .val (.int i6)] [(.ref o0), (.int i6)]))
    obtain ⟨T135, X135, e135, st135⟩ := getF X hx hZ hown (host := "") (Or.inl (hw _ (List.mem_of_getElem? (i := 88) rfl))) Via.refl eT Fst (g := (mkF m 113 #[.val (.ref o0), .val (.int (4 : Int32)), .val (.ref o2), .val (.ref o3), .val (.ref o4), .val (.int i5), .val (.int i6)] [(.ref o0), (.int i6)])) rfl rfl (hb hby d18_113)
    refine own_step st135 ?_
    show own_Fin p e below s Q 4 23 (T135.setTop (mkF m 116 #[.val (.ref o0), .val (.int (4 : Int32)), .val (.ref o2), .val (.ref o3), .val (.ref o4), .val (.int i5), .val (.int i6)] [(.ref bs), (.int i6)]))
    refine own_step (fun t k => XS.iload X135.here hx rfl (hb hby d18_116) rfl  k) ?_
    show own_Fin p e below s Q 4 23 (T135.setTop (mkF m 118 #[.val (.ref o0), .val (.int (4 : Int32)), .val (.ref o2), .val (.ref o3), .val (.ref o4), .val (.int i5), .val (.int i6)] [(.int i5), (.ref bs), (.int i6)]))
    refine own_step (fun t k => XS.iconst X135.here hx rfl (hb hby d18_118) k) ?_
    show own_Fin p e below s Q 4 23 (T135.setTop (mkF m 119 #[.val (.ref o0), .val (.int (4 : Int32)), .val (.ref o2), .val (.ref o3), .val (.ref o4), .val (.int i5), .val (.int i6)] [(.int (1 : Int32)), (.int i5), (.ref bs), (.int i6)]))
    refine own_step (fun t k => XS.iadd X135.here hx rfl (hb hby d18_119) rfl k) ?_
    show own_Fin p e below s Q 4 23 (T135.setTop (mkF m 120 #[.val (.ref o0), .val (.int (4 : Int32)), .val (.ref o2), .val (.ref o3), .val (.ref o4), .val (.int i5), .val (.int i6)] [(.int (i5 + (1 : Int32))), (.ref bs), (.int i6)]))
    obtain ⟨ca120, Ar120, Sz120, Ht120⟩ := id As
    have hin120 : ¬ ((i5 + (1 : Int32)) < 0 ∨ ca120.slots.size ≤ ((i5 + (1 : Int32))).toNatClampNeg) := by rw [Sz120]; exact hi51
    refine own_step (X135.iaload hx (j := (i5 + (1 : Int32))) (v := (.int (gs ((i5 + (1 : Int32))).toNatClampNeg))) (by rw [e135]; exact Ar120.1) (State.isArrayOf_alike hZ.alike Ar120.2.1) Ar120.2.2 hin120 (Ht120 _ (by have hq := Nat.lt_of_not_le (fun y => hin120 (Or.inr y)); rw [Sz120] at hq; exact hq)) (g := (mkF m 120 #[.val (.ref o0), .val (.int (4 : Int32)), .val (.ref o2), .val (.ref o3), .val (.ref o4), .val (.int i5), .val (.int i6)] [(.int (i5 + (1 : Int32))), (.ref bs), (.int i6)])) rfl rfl (hb hby d18_120)) ?_
    show own_Fin p e below s Q 4 23 (T135.setTop (mkF m 121 #[.val (.ref o0), .val (.int (4 : Int32)), .val (.ref o2), .val (.ref o3), .val (.ref o4), .val (.int i5), .val (.int i6)] [(.int (gs ((i5 + (1 : Int32))).toNatClampNeg)), (.int i6)]))
    refine own_step (fun t k => XS.icmpYes X135.here hx rfl (pc0 := 121) (pc' := 149) rfl (hb hby d18_121) rfl (flt (by rw [he]; exact own_lp0 hk)).2.1 (by decide) (by decide) k) ?_
    rw [own_lpe (z := en.toNatClampNeg) hk (nat_of (own_ltz hen))] at J
    exact cont gI gF i6 X135 e135 N (Keep.refl _ _) V3 V4 J
  | succ k ih =>
    intro T locs h gI gF i6 X eT N Z0 E0 Fst Fva As Av V3 V4 hk J cont
    refine own_step (fun t k => XS.iload X.here hx rfl (hb hby d18_110) rfl  k) ?_
    show own_Fin p e below s Q 4 23 (T.setTop (mkF m 112 #[.val (.ref o0), .val (.int (4 : Int32)), .val (.ref o2), .val (.ref o3), .val (.ref o4), .val (.int i5), .val (.int i6)] [(.int i6)]))
    refine own_step (fun t k => XS.aloadN X.here hx rfl (hb hby d18_112) rfl rfl k) ?_
    show own_Fin p e below s Q 4 23 (T.setTop (mkF m 113 #[.val (.ref o0), .val (.int (4 : Int32)), .val (.ref o2), .val (.ref o3), .val (.ref o4), .val (.int i5), .val (.int i6)] [(.ref o0), (.int i6)]))
    obtain ⟨T136, X136, e136, st136⟩ := getF X hx hZ hown (host := "") (Or.inl (hw _ (List.mem_of_getElem? (i := 88) rfl))) Via.refl eT Fst (g := (mkF m 113 #[.val (.ref o0), .val (.int (4 : Int32)), .val (.ref o2), .val (.ref o3), .val (.ref o4), .val (.int i5), .val (.int i6)] [(.ref o0), (.int i6)])) rfl rfl (hb hby d18_113)
    refine own_step st136 ?_
    show own_Fin p e below s Q 4 23 (T136.setTop (mkF m 116 #[.val (.ref o0), .val (.int (4 : Int32)), .val (.ref o2), .val (.ref o3), .val (.ref o4), .val (.int i5), .val (.int i6)] [(.ref bs), (.int i6)]))
    refine own_step (fun t k => XS.iload X136.here hx rfl (hb hby d18_116) rfl  k) ?_
    show own_Fin p e below s Q 4 23 (T136.setTop (mkF m 118 #[.val (.ref o0), .val (.int (4 : Int32)), .val (.ref o2), .val (.ref o3), .val (.ref o4), .val (.int i5), .val (.int i6)] [(.int i5), (.ref bs), (.int i6)]))
    refine own_step (fun t k => XS.iconst X136.here hx rfl (hb hby d18_118) k) ?_
    show own_Fin p e below s Q 4 23 (T136.setTop (mkF m 119 #[.val (.ref o0), .val (.int (4 : Int32)), .val (.ref o2), .val (.ref o3), .val (.ref o4), .val (.int i5), .val (.int i6)] [(.int (1 : Int32)), (.int i5), (.ref bs), (.int i6)]))
    refine own_step (fun t k => XS.iadd X136.here hx rfl (hb hby d18_119) rfl k) ?_
    show own_Fin p e below s Q 4 23 (T136.setTop (mkF m 120 #[.val (.ref o0), .val (.int (4 : Int32)), .val (.ref o2), .val (.ref o3), .val (.ref o4), .val (.int i5), .val (.int i6)] [(.int (i5 + (1 : Int32))), (.ref bs), (.int i6)]))
    obtain ⟨ca120, Ar120, Sz120, Ht120⟩ := id As
    have hin120 : ¬ ((i5 + (1 : Int32)) < 0 ∨ ca120.slots.size ≤ ((i5 + (1 : Int32))).toNatClampNeg) := by rw [Sz120]; exact hi51
    refine own_step (X136.iaload hx (j := (i5 + (1 : Int32))) (v := (.int (gs ((i5 + (1 : Int32))).toNatClampNeg))) (by rw [e136]; exact Ar120.1) (State.isArrayOf_alike hZ.alike Ar120.2.1) Ar120.2.2 hin120 (Ht120 _ (by have hq := Nat.lt_of_not_le (fun y => hin120 (Or.inr y)); rw [Sz120] at hq; exact hq)) (g := (mkF m 120 #[.val (.ref o0), .val (.int (4 : Int32)), .val (.ref o2), .val (.ref o3), .val (.ref o4), .val (.int i5), .val (.int i6)] [(.int (i5 + (1 : Int32))), (.ref bs), (.int i6)])) rfl rfl (hb hby d18_120)) ?_
    show own_Fin p e below s Q 4 23 (T136.setTop (mkF m 121 #[.val (.ref o0), .val (.int (4 : Int32)), .val (.ref o2), .val (.ref o3), .val (.ref o4), .val (.int i5), .val (.int i6)] [(.int (gs ((i5 + (1 : Int32))).toNatClampNeg)), (.int i6)]))
    refine own_step (fun t k => XS.icmpNo X136.here hx rfl (hb hby d18_121) rfl (tlt (by rw [he]; exact own_lp1 hk)).2.1 k) ?_
    show own_Fin p e below s Q 4 23 (T136.setTop (mkF m 124 #[.val (.ref o0), .val (.int (4 : Int32)), .val (.ref o2), .val (.ref o3), .val (.ref o4), .val (.int i5), .val (.int i6)] []))
    refine own_step (fun t k => XS.aloadN X136.here hx rfl (hb hby d18_124) rfl rfl k) ?_
    show own_Fin p e below s Q 4 23 (T136.setTop (mkF m 125 #[.val (.ref o0), .val (.int (4 : Int32)), .val (.ref o2), .val (.ref o3), .val (.ref o4), .val (.int i5), .val (.int i6)] [(.ref o3)]))
    refine own_step (fun t k => XS.aload X136.here hx rfl (hb hby d18_125) rfl rfl k) ?_
    show own_Fin p e below s Q 4 23 (T136.setTop (mkF m 127 #[.val (.ref o0), .val (.int (4 : Int32)), .val (.ref o2), .val (.ref o3), .val (.ref o4), .val (.int i5), .val (.int i6)] [(.ref o4), (.ref o3)]))
    refine own_step (fun t k => XS.aloadN X136.here hx rfl (hb hby d18_127) rfl rfl k) ?_
    show own_Fin p e below s Q 4 23 (T136.setTop (mkF m 128 #[.val (.ref o0), .val (.int (4 : Int32)), .val (.ref o2), .val (.ref o3), .val (.ref o4), .val (.int i5), .val (.int i6)] [(.ref o0), (.ref o4), (.ref o3)]))
    obtain ⟨T137, X137, e137, st137⟩ := getF X136 hx hZ hown (host := "") (Or.inl (hw _ (List.mem_of_getElem? (i := 113) rfl))) Via.refl e136 Fva (g := (mkF m 128 #[.val (.ref o0), .val (.int (4 : Int32)), .val (.ref o2), .val (.ref o3), .val (.ref o4), .val (.int i5), .val (.int i6)] [(.ref o0), (.ref o4), (.ref o3)])) rfl rfl (hb hby d18_128)
    refine own_step st137 ?_
    show own_Fin p e below s Q 4 23 (T137.setTop (mkF m 131 #[.val (.ref o0), .val (.int (4 : Int32)), .val (.ref o2), .val (.ref o3), .val (.ref o4), .val (.int i5), .val (.int i6)] [(.ref bv), (.ref o4), (.ref o3)]))
    refine own_step (fun t k => XS.iload X137.here hx rfl (hb hby d18_131) rfl  k) ?_
    show own_Fin p e below s Q 4 23 (T137.setTop (mkF m 133 #[.val (.ref o0), .val (.int (4 : Int32)), .val (.ref o2), .val (.ref o3), .val (.ref o4), .val (.int i5), .val (.int i6)] [(.int i6), (.ref bv), (.ref o4), (.ref o3)]))
    obtain ⟨ca133, Ar133, Sz133, Ht133⟩ := id Av
    have hin133 : ¬ (i6 < 0 ∨ ca133.slots.size ≤ (i6).toNatClampNeg) := by rw [Sz133]; exact own_lpin hk
    refine own_step (X137.iaload hx (j := i6) (v := (.int (gv (i6).toNatClampNeg))) (by rw [e137]; exact Ar133.1) (State.isArrayOf_alike hZ.alike Ar133.2.1) Ar133.2.2 hin133 (Ht133 _ (by have hq := Nat.lt_of_not_le (fun y => hin133 (Or.inr y)); rw [Sz133] at hq; exact hq)) (g := (mkF m 133 #[.val (.ref o0), .val (.int (4 : Int32)), .val (.ref o2), .val (.ref o3), .val (.ref o4), .val (.int i5), .val (.int i6)] [(.int i6), (.ref bv), (.ref o4), (.ref o3)])) rfl rfl (hb hby d18_133)) ?_
    show own_Fin p e below s Q 4 23 (T137.setTop (mkF m 134 #[.val (.ref o0), .val (.int (4 : Int32)), .val (.ref o2), .val (.ref o3), .val (.ref o4), .val (.int i5), .val (.int i6)] [(.int (gv (i6).toNatClampNeg)), (.ref o4), (.ref o3)]))
    refine own_step (fun t k => Jvm.Free.XT.dup2 X137.here hx rfl (hb hby d18_134) rfl rfl rfl k) ?_
    show own_Fin p e below s Q 4 23 (T137.setTop (mkF m 135 #[.val (.ref o0), .val (.int (4 : Int32)), .val (.ref o2), .val (.ref o3), .val (.ref o4), .val (.int i5), .val (.int i6)] [(.int (gv (i6).toNatClampNeg)), (.ref o4), (.int (gv (i6).toNatClampNeg)), (.ref o4), (.ref o3)]))
    obtain ⟨ca135, Ar135, Sz135, Ht135⟩ := id V4
    have hin135 : ¬ ((gv (i6).toNatClampNeg) < 0 ∨ ca135.slots.size ≤ ((gv (i6).toNatClampNeg)).toNatClampNeg) := by rw [Sz135]; exact own_in4 (hval _ (own_lpn hk).1)
    refine own_step (X137.iaload hx (j := (gv (i6).toNatClampNeg)) (v := (.int (gF ((gv (i6).toNatClampNeg)).toNatClampNeg))) (by rw [e137]; exact Ar135.1) (State.isArrayOf_alike hZ.alike Ar135.2.1) Ar135.2.2 hin135 (Ht135 _ (by have hq := Nat.lt_of_not_le (fun y => hin135 (Or.inr y)); rw [Sz135] at hq; exact hq)) (g := (mkF m 135 #[.val (.ref o0), .val (.int (4 : Int32)), .val (.ref o2), .val (.ref o3), .val (.ref o4), .val (.int i5), .val (.int i6)] [(.int (gv (i6).toNatClampNeg)), (.ref o4), (.int (gv (i6).toNatClampNeg)), (.ref o4), (.ref o3)])) rfl rfl (hb hby d18_135)) ?_
    show own_Fin p e below s Q 4 23 (T137.setTop (mkF m 136 #[.val (.ref o0), .val (.int (4 : Int32)), .val (.ref o2), .val (.ref o3), .val (.ref o4), .val (.int i5), .val (.int i6)] [(.int (gF ((gv (i6).toNatClampNeg)).toNatClampNeg)), (.int (gv (i6).toNatClampNeg)), (.ref o4), (.ref o3)]))
    refine own_step (fun t k => own_dupx2 X137.here hx rfl (hb hby d18_136) rfl rfl rfl rfl k) ?_
    show own_Fin p e below s Q 4 23 (T137.setTop (mkF m 137 #[.val (.ref o0), .val (.int (4 : Int32)), .val (.ref o2), .val (.ref o3), .val (.ref o4), .val (.int i5), .val (.int i6)] [(.int (gF ((gv (i6).toNatClampNeg)).toNatClampNeg)), (.int (gv (i6).toNatClampNeg)), (.ref o4), (.int (gF ((gv (i6).toNatClampNeg)).toNatClampNeg)), (.ref o3)]))
    refine own_step (fun t k => XS.iconst X137.here hx rfl (hb hby d18_137) k) ?_
    show own_Fin p e below s Q 4 23 (T137.setTop (mkF m 138 #[.val (.ref o0), .val (.int (4 : Int32)), .val (.ref o2), .val (.ref o3), .val (.ref o4), .val (.int i5), .val (.int i6)] [(.int (1 : Int32)), (.int (gF ((gv (i6).toNatClampNeg)).toNatClampNeg)), (.int (gv (i6).toNatClampNeg)), (.ref o4), (.int (gF ((gv (i6).toNatClampNeg)).toNatClampNeg)), (.ref o3)]))
    refine own_step (fun t k => XS.iadd X137.here hx rfl (hb hby d18_138) rfl k) ?_
    show own_Fin p e below s Q 4 23 (T137.setTop (mkF m 139 #[.val (.ref o0), .val (.int (4 : Int32)), .val (.ref o2), .val (.ref o3), .val (.ref o4), .val (.int i5), .val (.int i6)] [(.int ((gF ((gv (i6).toNatClampNeg)).toNatClampNeg) + (1 : Int32))), (.int (gv (i6).toNatClampNeg)), (.ref o4), (.int (gF ((gv (i6).toNatClampNeg)).toNatClampNeg)), (.ref o3)]))
    obtain ⟨ca138, Ar138, Sz138, Ht138⟩ := id V4
    have hin138 : ¬ ((gv (i6).toNatClampNeg) < 0 ∨ ca138.slots.size ≤ ((gv (i6).toNatClampNeg)).toNatClampNeg) := by rw [Sz138]; exact own_in4 (hval _ (own_lpn hk).1)
    obtain ⟨T138, h138, X138, e138, W138, st138⟩ := stI X137 hx hZ e137 Ar138 (j := (gv (i6).toNatClampNeg)) hin138 (g := (mkF m 139 #[.val (.ref o0), .val (.int (4 : Int32)), .val (.ref o2), .val (.ref o3), .val (.ref o4), .val (.int i5), .val (.int i6)] [(.int ((gF ((gv (i6).toNatClampNeg)).toNatClampNeg) + (1 : Int32))), (.int (gv (i6).toNatClampNeg)), (.ref o4), (.int (gF ((gv (i6).toNatClampNeg)).toNatClampNeg)), (.ref o3)])) rfl rfl (hb hby d18_139)
    have V138 : own_AF Z h138 o4 .int 4 (fun i => if i = ((gv (i6).toNatClampNeg)).toNatClampNeg then ((gF ((gv (i6).toNatClampNeg)).toNatClampNeg) + (1 : Int32)) else gF i) := own_AFset Ar138 Sz138 Ht138 W138
    obtain ⟨gf138, hgf138⟩ : ∃ g' : Nat → Int32, g' = (fun i => if i = ((gv (i6).toNatClampNeg)).toNatClampNeg then ((gF ((gv (i6).toNatClampNeg)).toNatClampNeg) + (1 : Int32)) else gF i) := ⟨_, rfl⟩
    rw [← hgf138] at V138
    have N138 := Fr.snoc X138 N fr4
    have Z0138 : n0 ≤ h138.size := Nat.le_trans Z0 (Nat.le_of_eq W138.size.symm)
    have V138_bs := own_AFoth As W138 nbso4
    have V138_bv := own_AFoth Av W138 nbvo4
    have V138_o3 := own_AFoth V3 W138 n34
    have Ex138_o0 := E0.wr W138
    have F138_o0_starts := Fst.other W138 (Or.inl no0o4)
    have F138_o0_values := Fva.other W138 (Or.inl no0o4)
    refine own_step st138 ?_
    show own_Fin p e below s Q 4 23 (T138.setTop (mkF m 140 #[.val (.ref o0), .val (.int (4 : Int32)), .val (.ref o2), .val (.ref o3), .val (.ref o4), .val (.int i5), .val (.int i6)] [(.int (gF ((gv (i6).toNatClampNeg)).toNatClampNeg)), (.ref o3)]))
    refine own_step (fun t k => XS.iload X138.here hx rfl (hb hby d18_140) rfl  k) ?_
    show own_Fin p e below s Q 4 23 (T138.setTop (mkF m 142 #[.val (.ref o0), .val (.int (4 : Int32)), .val (.ref o2), .val (.ref o3), .val (.ref o4), .val (.int i5), .val (.int i6)] [(.int i5), (.int (gF ((gv (i6).toNatClampNeg)).toNatClampNeg)), (.ref o3)]))
    obtain ⟨ca139, Ar139, Sz139, Ht139⟩ := id V138_o3
    have hin139 : ¬ ((gF ((gv (i6).toNatClampNeg)).toNatClampNeg) < 0 ∨ ca139.slots.size ≤ ((gF ((gv (i6).toNatClampNeg)).toNatClampNeg)).toNatClampNeg) := by rw [Sz139]; exact own_inz (own_J3in hval J (own_lpn hk).1 rfl)
    obtain ⟨T139, h139, X139, e139, W139, st139⟩ := stI X138 hx hZ e138 Ar139 (j := (gF ((gv (i6).toNatClampNeg)).toNatClampNeg)) hin139 (g := (mkF m 142 #[.val (.ref o0), .val (.int (4 : Int32)), .val (.ref o2), .val (.ref o3), .val (.ref o4), .val (.int i5), .val (.int i6)] [(.int i5), (.int (gF ((gv (i6).toNatClampNeg)).toNatClampNeg)), (.ref o3)])) rfl rfl (hb hby d18_142)
    have V139 : own_AF Z h139 o3 .int z (fun i => if i = ((gF ((gv (i6).toNatClampNeg)).toNatClampNeg)).toNatClampNeg then i5 else gI i) := own_AFset Ar139 Sz139 Ht139 W139
    obtain ⟨gf139, hgf139⟩ : ∃ g' : Nat → Int32, g' = (fun i => if i = ((gF ((gv (i6).toNatClampNeg)).toNatClampNeg)).toNatClampNeg then i5 else gI i) := ⟨_, rfl⟩
    rw [← hgf139] at V139
    have N139 := Fr.snoc X139 N138 fr3
    have Z0139 : n0 ≤ h139.size := Nat.le_trans Z0138 (Nat.le_of_eq W139.size.symm)
    have V139_bs := own_AFoth V138_bs W139 nbso3
    have V139_bv := own_AFoth V138_bv W139 nbvo3
    have V139_o4 := own_AFoth V138 W139 (Ne.symm n34)
    have Ex139_o0 := Ex138_o0.wr W139
    have F139_o0_starts := F138_o0_starts.other W139 (Or.inl no0o3)
    have F139_o0_values := F138_o0_values.other W139 (Or.inl no0o3)
    refine own_step st139 ?_
    show own_Fin p e below s Q 4 23 (T139.setTop (mkF m 143 #[.val (.ref o0), .val (.int (4 : Int32)), .val (.ref o2), .val (.ref o3), .val (.ref o4), .val (.int i5), .val (.int i6)] []))
    refine own_step (fun t k => XS.iinc X139.here hx rfl (hb hby d18_143) rfl (l' := #[.val (.ref o0), .val (.int (4 : Int32)), .val (.ref o2), .val (.ref o3), .val (.ref o4), .val (.int i5), .val (.int (i6 + (1 : Int32)))]) rfl k) ?_
    show own_Fin p e below s Q 4 23 (T139.setTop (mkF m 146 #[.val (.ref o0), .val (.int (4 : Int32)), .val (.ref o2), .val (.ref o3), .val (.ref o4), .val (.int i5), .val (.int (i6 + (1 : Int32)))] []))
    refine own_step (fun t k => XS.goto X139.here hx rfl (pc0 := 146) (pc' := 110) rfl (hb hby d18_146) (by decide) (by decide) k) ?_
    have J' := own_J3s (by omega) hval J (own_lpn hk).1 rfl hgf138
    rw [← (own_lpn hk).2] at J'
    exact ih gf139 gf138 (i6 + (1 : Int32)) X139 e139 N139 Z0139 Ex139_o0 F139_o0_starts F139_o0_values V139_bs V139_bv V139 V139_o4 (own_lps hk) J' (fun gI' gF' i6' X' e' n' k' v3' v4' j' => cont gI' gF' i6' X' e' n' ((((Keep.refl h [o3, o4]).wr W138 (Or.inl (List.mem_of_getElem? (i := 1) rfl))).wr W139 (Or.inl (List.mem_of_getElem? (i := 0) rfl))).trans k' (fun x hx => Or.inl hx)) v3' v4' j')
theorem own_0n {x : Int32} (h : x.toInt = 0) : x.toNatClampNeg = 0 := by
  have := nat_of (own_ltz (x := x) (by omega))
  omega
theorem own_mon0 {g : Nat → Int32} {z : Nat} (h : own_Mon g z) : 0 ≤ (g 0).toInt ∧ 0 ≤ (g 1).toInt ∧ (g 0).toInt ≤ (g 1).toInt ∧ (g 1).toInt ≤ z := by
  obtain ⟨h0, h1, h2, h3, h4, h5⟩ := h
  omega
theorem own_mon1 {g : Nat → Int32} {z : Nat} (h : own_Mon g z) : 0 ≤ (g 1).toInt ∧ 0 ≤ (g 2).toInt ∧ (g 1).toInt ≤ (g 2).toInt ∧ (g 2).toInt ≤ z := by
  obtain ⟨h0, h1, h2, h3, h4, h5⟩ := h
  omega
theorem own_mon2 {g : Nat → Int32} {z : Nat} (h : own_Mon g z) : 0 ≤ (g 2).toInt ∧ 0 ≤ (g 3).toInt ∧ (g 2).toInt ≤ (g 3).toInt ∧ (g 3).toInt ≤ z := by
  obtain ⟨h0, h1, h2, h3, h4, h5⟩ := h
  omega
theorem own_mon3 {g : Nat → Int32} {z : Nat} (h : own_Mon g z) : 0 ≤ (g 3).toInt ∧ 0 ≤ (g 4).toInt ∧ (g 3).toInt ≤ (g 4).toInt ∧ (g 4).toInt ≤ z := by
  obtain ⟨h0, h1, h2, h3, h4, h5⟩ := h
  omega
set_option maxRecDepth 65536 in
set_option maxHeartbeats 40000000 in
theorem b18_0 {p : Program} {l : Launch} {e : Env} {s : State} {m : MethodId} {args : Array Value} {below : List Frame} {meth : Method} {c : Code} {T : State} {locs : List Loc} {cells slots : Nat} {Z : State} {a0 : Array Value} {h : Heap} {n0 : Nat} {Q : Option Value → Heap → List Loc → Prop} (o0 : Addr) (bs : Addr) (bv : Addr) (gs : Nat → Int32) (gv : Nat → Int32) (z : Nat) (hw : ∀ d ∈ tables_1, d.before a0 Z = true) (X : Stand p l e ({ frames := 3, cells := 4, slots := 23, locals := 100 } : Room) s m args below meth c T locs cells slots) (hx : p.tables.exec = Jvm.exec) (hZ : Z.Warmed39 s.vm) (hby : c.code = prog_61_method_4_code) (hml : c.maxLocals = 7) (hown : s.vm.findClass "com/example/libentitle/libentitle/role/Rows" = some m.cls) (hret : meth.sig.returnType = some (.object "com/example/libentitle/libentitle/role/Rows")) (hlk : meth.locks = false) (eT : T.heap = h) (N : Fr n0 locs) (hc : cells ≤ 0) (hs : slots ≤ 0) (Z0 : n0 ≤ h.size) (E0 : Exa Z h o0 "com/example/libentitle/libentitle/role/Rows") (Fst : Fld Z h o0 "com/example/libentitle/libentitle/role/Rows" "starts" "[I" (.ref bs)) (Fva : Fld Z h o0 "com/example/libentitle/libentitle/role/Rows" "values" "[I" (.ref bv)) (As : own_AF Z h bs .int 5 gs) (Av : own_AF Z h bv .int z gv) (hz : z ≤ 12) (hval : ∀ i, i < z → own_val (gv i)) (hm : own_Mon gs z) (hQ : ∀ (H' : Heap) (L' : List Loc) (b : Addr), Fr n0 L' → Keep h H' [] → (n0 ≤ b) → Q (some (.ref b)) H' L') :
    own_Fin p e below s Q 4 23 (T.setTop (mkF m 0 #[.val (.ref o0), .val (.int (4 : Int32)), .unset, .unset, .unset, .unset, .unset] [])) := by
  refine own_step (fun t k => XS.iloadN X.here hx rfl (hb hby d18_0) rfl  k) ?_
  show own_Fin p e below s Q 4 23 (T.setTop (mkF m 1 #[.val (.ref o0), .val (.int (4 : Int32)), .unset, .unset, .unset, .unset, .unset] [(.int (4 : Int32))]))
  refine own_step (fun t k => XS.iconst X.here hx rfl (hb hby d18_1) k) ?_
  show own_Fin p e below s Q 4 23 (T.setTop (mkF m 2 #[.val (.ref o0), .val (.int (4 : Int32)), .unset, .unset, .unset, .unset, .unset] [(.int (1 : Int32)), (.int (4 : Int32))]))
  refine own_step (fun t k => XS.iadd X.here hx rfl (hb hby d18_2) rfl k) ?_
  show own_Fin p e below s Q 4 23 (T.setTop (mkF m 3 #[.val (.ref o0), .val (.int (4 : Int32)), .unset, .unset, .unset, .unset, .unset] [(.int (5 : Int32))]))
  obtain ⟨T140, h140, k140, X140, e140, E140, AA140, XX140, st140⟩ := newPE X hx hZ (hw _ (List.mem_of_getElem? (i := 30) rfl)) eT (g := (mkF m 3 #[.val (.ref o0), .val (.int (4 : Int32)), .unset, .unset, .unset, .unset, .unset] [(.int (5 : Int32))])) rfl (hb hby d18_3) rfl (by decide) (cap := 5) (by decide) (by decide) (show cells + 1 ≤ 4 from (Nat.le_trans (Nat.add_le_add_right hc 1) (by decide))) (show slots + 5 ≤ 23 from (Nat.le_trans (Nat.add_le_add_right hs 5) (by decide))) (ad := "[I") (by decide)
  obtain ⟨b140, gg140⟩ : ∃ z, z = h.size := ⟨_, rfl⟩
  rw [← gg140] at AA140 XX140 st140
  have V140 : own_AF Z h140 b140 .int 5 (fun _ => 0) := own_AFnew AA140 (by decide)
  have fr140 : n0 ≤ b140 := Nat.le_trans Z0 (Nat.le_of_eq gg140.symm)
  have Z0140 : n0 ≤ h140.size := Nat.le_trans Z0 E140.1
  have nebs_140 : bs ≠ b140 := Nat.ne_of_lt (Nat.lt_of_lt_of_le As.lt (Nat.le_of_eq gg140.symm))
  have nebv_140 : bv ≠ b140 := Nat.ne_of_lt (Nat.lt_of_lt_of_le Av.lt (Nat.le_of_eq gg140.symm))
  have neo0_140 : o0 ≠ b140 := Nat.ne_of_lt (Nat.lt_of_lt_of_le E0.lt (Nat.le_of_eq gg140.symm))
  have sz140 : h.size ≤ b140 := Nat.le_trans (Keep.refl h []).1 (Nat.le_of_eq gg140.symm)
  have V140_bs := own_AFext As E140
  have V140_bv := own_AFext Av E140
  have Ex140_o0 := E0.ext E140
  have F140_o0_starts := Fst.ext E140
  have F140_o0_values := Fva.ext E140
  have K140 : Keep h h140 [] := (Keep.refl h []).ext E140
  refine own_step st140 ?_
  show own_Fin p e below s Q 4 23 (T140.setTop (mkF m 5 #[.val (.ref o0), .val (.int (4 : Int32)), .unset, .unset, .unset, .unset, .unset] [(.ref b140)]))
  refine own_step (fun t k => XS.astoreN X140.here hx rfl (hb hby d18_5) rfl rfl (l' := #[.val (.ref o0), .val (.int (4 : Int32)), .val (.ref b140), .unset, .unset, .unset, .unset]) rfl k) ?_
  show own_Fin p e below s Q 4 23 (T140.setTop (mkF m 6 #[.val (.ref o0), .val (.int (4 : Int32)), .val (.ref b140), .unset, .unset, .unset, .unset] []))
  refine own_step (fun t k => XS.aloadN X140.here hx rfl (hb hby d18_6) rfl rfl k) ?_
  show own_Fin p e below s Q 4 23 (T140.setTop (mkF m 7 #[.val (.ref o0), .val (.int (4 : Int32)), .val (.ref b140), .unset, .unset, .unset, .unset] [(.ref o0)]))
  obtain ⟨T141, X141, e141, st141⟩ := getF X140 hx hZ hown (host := "") (Or.inl (hw _ (List.mem_of_getElem? (i := 113) rfl))) Via.refl e140 F140_o0_values (g := (mkF m 7 #[.val (.ref o0), .val (.int (4 : Int32)), .val (.ref b140), .unset, .unset, .unset, .unset] [(.ref o0)])) rfl rfl (hb hby d18_7)
  refine own_step st141 ?_
  show own_Fin p e below s Q 4 23 (T141.setTop (mkF m 10 #[.val (.ref o0), .val (.int (4 : Int32)), .val (.ref b140), .unset, .unset, .unset, .unset] [(.ref bv)]))
  refine own_step (fun t k => XS.astoreN X141.here hx rfl (hb hby d18_10) rfl rfl (l' := #[.val (.ref o0), .val (.int (4 : Int32)), .val (.ref b140), .val (.ref bv), .unset, .unset, .unset]) rfl k) ?_
  show own_Fin p e below s Q 4 23 (T141.setTop (mkF m 11 #[.val (.ref o0), .val (.int (4 : Int32)), .val (.ref b140), .val (.ref bv), .unset, .unset, .unset] []))
  refine own_step (fun t k => XS.aloadN X141.here hx rfl (hb hby d18_11) rfl rfl k) ?_
  show own_Fin p e below s Q 4 23 (T141.setTop (mkF m 12 #[.val (.ref o0), .val (.int (4 : Int32)), .val (.ref b140), .val (.ref bv), .unset, .unset, .unset] [(.ref bv)]))
  obtain ⟨ca12, Ar12, Sz12, Ht12⟩ := id V140_bv
  refine own_step (X141.arraylength hx (by rw [e141]; exact Ar12.1) (State.isArrayOf_alike hZ.alike Ar12.2.1) (g := (mkF m 12 #[.val (.ref o0), .val (.int (4 : Int32)), .val (.ref b140), .val (.ref bv), .unset, .unset, .unset] [(.ref bv)])) rfl rfl (hb hby d18_12)) ?_
  rw [Sz12]
  show own_Fin p e below s Q 4 23 (T141.setTop (mkF m 13 #[.val (.ref o0), .val (.int (4 : Int32)), .val (.ref b140), .val (.ref bv), .unset, .unset, .unset] [(.int (z.toInt32))]))
  refine own_step (fun t k => XS.istore X141.here hx rfl (hb hby d18_13) rfl (l' := #[.val (.ref o0), .val (.int (4 : Int32)), .val (.ref b140), .val (.ref bv), .val (.int (z.toInt32)), .unset, .unset]) rfl k) ?_
  show own_Fin p e below s Q 4 23 (T141.setTop (mkF m 15 #[.val (.ref o0), .val (.int (4 : Int32)), .val (.ref b140), .val (.ref bv), .val (.int (z.toInt32)), .unset, .unset] []))
  refine own_step (fun t k => XS.iconst X141.here hx rfl (hb hby d18_15) k) ?_
  show own_Fin p e below s Q 4 23 (T141.setTop (mkF m 16 #[.val (.ref o0), .val (.int (4 : Int32)), .val (.ref b140), .val (.ref bv), .val (.int (z.toInt32)), .unset, .unset] [(.int (0 : Int32))]))
  refine own_step (fun t k => XS.istore X141.here hx rfl (hb hby d18_16) rfl (l' := #[.val (.ref o0), .val (.int (4 : Int32)), .val (.ref b140), .val (.ref bv), .val (.int (z.toInt32)), .val (.int (0 : Int32)), .unset]) rfl k) ?_
  show own_Fin p e below s Q 4 23 (T141.setTop (mkF m 18 #[.val (.ref o0), .val (.int (4 : Int32)), .val (.ref b140), .val (.ref bv), .val (.int (z.toInt32)), .val (.int (0 : Int32)), .unset] []))
  refine own_l1 o0 b140 bv (z.toInt32) z gv hw hx hZ hby hml hown hz hval fr140 nebv_140 (own_t32 z (by omega)) z (fun _ => 0) (0 : Int32) .unset X141 e141 N Z0140 One.u V140 V140_bv (own_lp00 (by omega)) (own_J10 gv) ?_
  intro T142 locs142 h142 gA142 i5142 s6142 X142 e142 N142 K142 hs142 V142 J142
  subst e142
  have Z0142 : n0 ≤ T142.heap.size := Nat.le_trans Z0140 K142.1
  have V142_bs := own_AFkeep V140_bs K142 (ninS nebs_140 nin0)
  have V142_bv := own_AFkeep V140_bv K142 (ninS nebv_140 nin0)
  have Xa142_b140 := XX140.keep K142
  have Ex142_o0 := Ex140_o0.keep K142
  have F142_o0_starts := F140_o0_starts.keep K142 (ninS neo0_140 nin0)
  have F142_o0_values := F140_o0_values.keep K142 (ninS neo0_140 nin0)
  have KK142 : Keep h T142.heap [] := K140.trans K142 (allS (Or.inr sz140) all0)
  have hs6142 := hs142
  show own_Fin p e below s Q 4 23 (T142.setTop (mkF m 47 #[.val (.ref o0), .val (.int (4 : Int32)), .val (.ref b140), .val (.ref bv), .val (.int (z.toInt32)), .val (.int i5142), s6142] []))
  refine own_step (fun t k => XS.iconst X142.here hx rfl (hb hby d18_47) k) ?_
  show own_Fin p e below s Q 4 23 (T142.setTop (mkF m 48 #[.val (.ref o0), .val (.int (4 : Int32)), .val (.ref b140), .val (.ref bv), .val (.int (z.toInt32)), .val (.int i5142), s6142] [(.int (0 : Int32))]))
  refine own_step (fun t k => XS.istoreN X142.here hx rfl (hb hby d18_48) rfl (l' := #[.val (.ref o0), .val (.int (4 : Int32)), .val (.ref b140), .val (.int (0 : Int32)), .val (.int (z.toInt32)), .val (.int i5142), s6142]) rfl k) ?_
  show own_Fin p e below s Q 4 23 (T142.setTop (mkF m 49 #[.val (.ref o0), .val (.int (4 : Int32)), .val (.ref b140), .val (.int (0 : Int32)), .val (.int (z.toInt32)), .val (.int i5142), s6142] []))
  refine own_step (fun t k => XS.iloadN X142.here hx rfl (hb hby d18_49) rfl  k) ?_
  show own_Fin p e below s Q 4 23 (T142.setTop (mkF m 50 #[.val (.ref o0), .val (.int (4 : Int32)), .val (.ref b140), .val (.int (0 : Int32)), .val (.int (z.toInt32)), .val (.int i5142), s6142] [(.int (0 : Int32))]))
  refine own_step (fun t k => XS.iloadN X142.here hx rfl (hb hby d18_50) rfl  k) ?_
  show own_Fin p e below s Q 4 23 (T142.setTop (mkF m 51 #[.val (.ref o0), .val (.int (4 : Int32)), .val (.ref b140), .val (.int (0 : Int32)), .val (.int (z.toInt32)), .val (.int i5142), s6142] [(.int (4 : Int32)), (.int (0 : Int32))]))
  refine own_step (fun t k => XS.icmpNo X142.here hx rfl (hb hby d18_51) rfl (tlt (by decide : (0 : Int32) < (4 : Int32))).2.1 k) ?_
  show own_Fin p e below s Q 4 23 (T142.setTop (mkF m 54 #[.val (.ref o0), .val (.int (4 : Int32)), .val (.ref b140), .val (.int (0 : Int32)), .val (.int (z.toInt32)), .val (.int i5142), s6142] []))
  refine own_step (fun t k => XS.aloadN X142.here hx rfl (hb hby d18_54) rfl rfl k) ?_
  show own_Fin p e below s Q 4 23 (T142.setTop (mkF m 55 #[.val (.ref o0), .val (.int (4 : Int32)), .val (.ref b140), .val (.int (0 : Int32)), .val (.int (z.toInt32)), .val (.int i5142), s6142] [(.ref b140)]))
  refine own_step (fun t k => XS.iloadN X142.here hx rfl (hb hby d18_55) rfl  k) ?_
  show own_Fin p e below s Q 4 23 (T142.setTop (mkF m 56 #[.val (.ref o0), .val (.int (4 : Int32)), .val (.ref b140), .val (.int (0 : Int32)), .val (.int (z.toInt32)), .val (.int i5142), s6142] [(.int (0 : Int32)), (.ref b140)]))
  refine own_step (fun t k => XS.iconst X142.here hx rfl (hb hby d18_56) k) ?_
  show own_Fin p e below s Q 4 23 (T142.setTop (mkF m 57 #[.val (.ref o0), .val (.int (4 : Int32)), .val (.ref b140), .val (.int (0 : Int32)), .val (.int (z.toInt32)), .val (.int i5142), s6142] [(.int (1 : Int32)), (.int (0 : Int32)), (.ref b140)]))
  refine own_step (fun t k => XS.iadd X142.here hx rfl (hb hby d18_57) rfl k) ?_
  show own_Fin p e below s Q 4 23 (T142.setTop (mkF m 58 #[.val (.ref o0), .val (.int (4 : Int32)), .val (.ref b140), .val (.int (0 : Int32)), .val (.int (z.toInt32)), .val (.int i5142), s6142] [(.int (1 : Int32)), (.ref b140)]))
  refine own_step (fun t k => Jvm.Free.XT.dup2 X142.here hx rfl (hb hby d18_58) rfl rfl rfl k) ?_
  show own_Fin p e below s Q 4 23 (T142.setTop (mkF m 59 #[.val (.ref o0), .val (.int (4 : Int32)), .val (.ref b140), .val (.int (0 : Int32)), .val (.int (z.toInt32)), .val (.int i5142), s6142] [(.int (1 : Int32)), (.ref b140), (.int (1 : Int32)), (.ref b140)]))
  obtain ⟨ca59, Ar59, Sz59, Ht59⟩ := id V142
  have hin59 : ¬ ((1 : Int32) < 0 ∨ ca59.slots.size ≤ ((1 : Int32)).toNatClampNeg) := by rw [Sz59]; exact (by decide)
  refine own_step (X142.iaload hx (j := (1 : Int32)) (v := (.int (gA142 ((1 : Int32)).toNatClampNeg))) Ar59.1 (State.isArrayOf_alike hZ.alike Ar59.2.1) Ar59.2.2 hin59 (Ht59 _ (by have hq := Nat.lt_of_not_le (fun y => hin59 (Or.inr y)); rw [Sz59] at hq; exact hq)) (g := (mkF m 59 #[.val (.ref o0), .val (.int (4 : Int32)), .val (.ref b140), .val (.int (0 : Int32)), .val (.int (z.toInt32)), .val (.int i5142), s6142] [(.int (1 : Int32)), (.ref b140), (.int (1 : Int32)), (.ref b140)])) rfl rfl (hb hby d18_59)) ?_
  show own_Fin p e below s Q 4 23 (T142.setTop (mkF m 60 #[.val (.ref o0), .val (.int (4 : Int32)), .val (.ref b140), .val (.int (0 : Int32)), .val (.int (z.toInt32)), .val (.int i5142), s6142] [(.int (gA142 ((1 : Int32)).toNatClampNeg)), (.int (1 : Int32)), (.ref b140)]))
  refine own_step (fun t k => XS.aloadN X142.here hx rfl (hb hby d18_60) rfl rfl k) ?_
  show own_Fin p e below s Q 4 23 (T142.setTop (mkF m 61 #[.val (.ref o0), .val (.int (4 : Int32)), .val (.ref b140), .val (.int (0 : Int32)), .val (.int (z.toInt32)), .val (.int i5142), s6142] [(.ref b140), (.int (gA142 ((1 : Int32)).toNatClampNeg)), (.int (1 : Int32)), (.ref b140)]))
  refine own_step (fun t k => XS.iloadN X142.here hx rfl (hb hby d18_61) rfl  k) ?_
  show own_Fin p e below s Q 4 23 (T142.setTop (mkF m 62 #[.val (.ref o0), .val (.int (4 : Int32)), .val (.ref b140), .val (.int (0 : Int32)), .val (.int (z.toInt32)), .val (.int i5142), s6142] [(.int (0 : Int32)), (.ref b140), (.int (gA142 ((1 : Int32)).toNatClampNeg)), (.int (1 : Int32)), (.ref b140)]))
  obtain ⟨ca62, Ar62, Sz62, Ht62⟩ := id V142
  have hin62 : ¬ ((0 : Int32) < 0 ∨ ca62.slots.size ≤ ((0 : Int32)).toNatClampNeg) := by rw [Sz62]; exact (by decide)
  refine own_step (X142.iaload hx (j := (0 : Int32)) (v := (.int (gA142 ((0 : Int32)).toNatClampNeg))) Ar62.1 (State.isArrayOf_alike hZ.alike Ar62.2.1) Ar62.2.2 hin62 (Ht62 _ (by have hq := Nat.lt_of_not_le (fun y => hin62 (Or.inr y)); rw [Sz62] at hq; exact hq)) (g := (mkF m 62 #[.val (.ref o0), .val (.int (4 : Int32)), .val (.ref b140), .val (.int (0 : Int32)), .val (.int (z.toInt32)), .val (.int i5142), s6142] [(.int (0 : Int32)), (.ref b140), (.int (gA142 ((1 : Int32)).toNatClampNeg)), (.int (1 : Int32)), (.ref b140)])) rfl rfl (hb hby d18_62)) ?_
  show own_Fin p e below s Q 4 23 (T142.setTop (mkF m 63 #[.val (.ref o0), .val (.int (4 : Int32)), .val (.ref b140), .val (.int (0 : Int32)), .val (.int (z.toInt32)), .val (.int i5142), s6142] [(.int (gA142 ((0 : Int32)).toNatClampNeg)), (.int (gA142 ((1 : Int32)).toNatClampNeg)), (.int (1 : Int32)), (.ref b140)]))
  refine own_step (fun t k => XS.iadd X142.here hx rfl (hb hby d18_63) rfl k) ?_
  show own_Fin p e below s Q 4 23 (T142.setTop (mkF m 64 #[.val (.ref o0), .val (.int (4 : Int32)), .val (.ref b140), .val (.int (0 : Int32)), .val (.int (z.toInt32)), .val (.int i5142), s6142] [(.int ((gA142 ((1 : Int32)).toNatClampNeg) + (gA142 ((0 : Int32)).toNatClampNeg))), (.int (1 : Int32)), (.ref b140)]))
  obtain ⟨ca143, Ar143, Sz143, Ht143⟩ := id V142
  have hin143 : ¬ ((1 : Int32) < 0 ∨ ca143.slots.size ≤ ((1 : Int32)).toNatClampNeg) := by rw [Sz143]; exact (by decide)
  obtain ⟨T143, h143, X143, e143, W143, st143⟩ := stI X142 hx hZ rfl Ar143 (j := (1 : Int32)) hin143 (g := (mkF m 64 #[.val (.ref o0), .val (.int (4 : Int32)), .val (.ref b140), .val (.int (0 : Int32)), .val (.int (z.toInt32)), .val (.int i5142), s6142] [(.int ((gA142 ((1 : Int32)).toNatClampNeg) + (gA142 ((0 : Int32)).toNatClampNeg))), (.int (1 : Int32)), (.ref b140)])) rfl rfl (hb hby d18_64)
  have V143 : own_AF Z h143 b140 .int 5 (fun i => if i = 1 then ((gA142 ((1 : Int32)).toNatClampNeg) + (gA142 ((0 : Int32)).toNatClampNeg)) else gA142 i) := own_AFset Ar143 Sz143 Ht143 W143
  obtain ⟨gf143, hgf143⟩ : ∃ g' : Nat → Int32, g' = (fun i => if i = 1 then ((gA142 ((1 : Int32)).toNatClampNeg) + (gA142 ((0 : Int32)).toNatClampNeg)) else gA142 i) := ⟨_, rfl⟩
  rw [← hgf143] at V143
  have N143 := Fr.snoc X143 N142 fr140
  have Z0143 : n0 ≤ h143.size := Nat.le_trans Z0142 (Nat.le_of_eq W143.size.symm)
  have V143_bs := own_AFoth V142_bs W143 nebs_140
  have V143_bv := own_AFoth V142_bv W143 nebv_140
  have Ex143_o0 := Ex142_o0.wr W143
  have F143_o0_starts := F142_o0_starts.other W143 (Or.inl neo0_140)
  have F143_o0_values := F142_o0_values.other W143 (Or.inl neo0_140)
  have K143 : Keep h h143 [] := KK142.wr W143 (Or.inr sz140)
  refine own_step st143 ?_
  show own_Fin p e below s Q 4 23 (T143.setTop (mkF m 65 #[.val (.ref o0), .val (.int (4 : Int32)), .val (.ref b140), .val (.int (0 : Int32)), .val (.int (z.toInt32)), .val (.int i5142), s6142] []))
  refine own_step (fun t k => XS.iinc X143.here hx rfl (hb hby d18_65) rfl (l' := #[.val (.ref o0), .val (.int (4 : Int32)), .val (.ref b140), .val (.int (1 : Int32)), .val (.int (z.toInt32)), .val (.int i5142), s6142]) rfl k) ?_
  show own_Fin p e below s Q 4 23 (T143.setTop (mkF m 68 #[.val (.ref o0), .val (.int (4 : Int32)), .val (.ref b140), .val (.int (1 : Int32)), .val (.int (z.toInt32)), .val (.int i5142), s6142] []))
  refine own_step (fun t k => XS.goto X143.here hx rfl (pc0 := 68) (pc' := 49) rfl (hb hby d18_68) (by decide) (by decide) k) ?_
  show own_Fin p e below s Q 4 23 (T143.setTop (mkF m 49 #[.val (.ref o0), .val (.int (4 : Int32)), .val (.ref b140), .val (.int (1 : Int32)), .val (.int (z.toInt32)), .val (.int i5142), s6142] []))
  refine own_step (fun t k => XS.iloadN X143.here hx rfl (hb hby d18_49) rfl  k) ?_
  show own_Fin p e below s Q 4 23 (T143.setTop (mkF m 50 #[.val (.ref o0), .val (.int (4 : Int32)), .val (.ref b140), .val (.int (1 : Int32)), .val (.int (z.toInt32)), .val (.int i5142), s6142] [(.int (1 : Int32))]))
  refine own_step (fun t k => XS.iloadN X143.here hx rfl (hb hby d18_50) rfl  k) ?_
  show own_Fin p e below s Q 4 23 (T143.setTop (mkF m 51 #[.val (.ref o0), .val (.int (4 : Int32)), .val (.ref b140), .val (.int (1 : Int32)), .val (.int (z.toInt32)), .val (.int i5142), s6142] [(.int (4 : Int32)), (.int (1 : Int32))]))
  refine own_step (fun t k => XS.icmpNo X143.here hx rfl (hb hby d18_51) rfl (tlt (by decide : (1 : Int32) < (4 : Int32))).2.1 k) ?_
  show own_Fin p e below s Q 4 23 (T143.setTop (mkF m 54 #[.val (.ref o0), .val (.int (4 : Int32)), .val (.ref b140), .val (.int (1 : Int32)), .val (.int (z.toInt32)), .val (.int i5142), s6142] []))
  refine own_step (fun t k => XS.aloadN X143.here hx rfl (hb hby d18_54) rfl rfl k) ?_
  show own_Fin p e below s Q 4 23 (T143.setTop (mkF m 55 #[.val (.ref o0), .val (.int (4 : Int32)), .val (.ref b140), .val (.int (1 : Int32)), .val (.int (z.toInt32)), .val (.int i5142), s6142] [(.ref b140)]))
  refine own_step (fun t k => XS.iloadN X143.here hx rfl (hb hby d18_55) rfl  k) ?_
  show own_Fin p e below s Q 4 23 (T143.setTop (mkF m 56 #[.val (.ref o0), .val (.int (4 : Int32)), .val (.ref b140), .val (.int (1 : Int32)), .val (.int (z.toInt32)), .val (.int i5142), s6142] [(.int (1 : Int32)), (.ref b140)]))
  refine own_step (fun t k => XS.iconst X143.here hx rfl (hb hby d18_56) k) ?_
  show own_Fin p e below s Q 4 23 (T143.setTop (mkF m 57 #[.val (.ref o0), .val (.int (4 : Int32)), .val (.ref b140), .val (.int (1 : Int32)), .val (.int (z.toInt32)), .val (.int i5142), s6142] [(.int (1 : Int32)), (.int (1 : Int32)), (.ref b140)]))
  refine own_step (fun t k => XS.iadd X143.here hx rfl (hb hby d18_57) rfl k) ?_
  show own_Fin p e below s Q 4 23 (T143.setTop (mkF m 58 #[.val (.ref o0), .val (.int (4 : Int32)), .val (.ref b140), .val (.int (1 : Int32)), .val (.int (z.toInt32)), .val (.int i5142), s6142] [(.int (2 : Int32)), (.ref b140)]))
  refine own_step (fun t k => Jvm.Free.XT.dup2 X143.here hx rfl (hb hby d18_58) rfl rfl rfl k) ?_
  show own_Fin p e below s Q 4 23 (T143.setTop (mkF m 59 #[.val (.ref o0), .val (.int (4 : Int32)), .val (.ref b140), .val (.int (1 : Int32)), .val (.int (z.toInt32)), .val (.int i5142), s6142] [(.int (2 : Int32)), (.ref b140), (.int (2 : Int32)), (.ref b140)]))
  obtain ⟨ca59, Ar59, Sz59, Ht59⟩ := id V143
  have hin59 : ¬ ((2 : Int32) < 0 ∨ ca59.slots.size ≤ ((2 : Int32)).toNatClampNeg) := by rw [Sz59]; exact (by decide)
  refine own_step (X143.iaload hx (j := (2 : Int32)) (v := (.int (gf143 ((2 : Int32)).toNatClampNeg))) (by rw [e143]; exact Ar59.1) (State.isArrayOf_alike hZ.alike Ar59.2.1) Ar59.2.2 hin59 (Ht59 _ (by have hq := Nat.lt_of_not_le (fun y => hin59 (Or.inr y)); rw [Sz59] at hq; exact hq)) (g := (mkF m 59 #[.val (.ref o0), .val (.int (4 : Int32)), .val (.ref b140), .val (.int (1 : Int32)), .val (.int (z.toInt32)), .val (.int i5142), s6142] [(.int (2 : Int32)), (.ref b140), (.int (2 : Int32)), (.ref b140)])) rfl rfl (hb hby d18_59)) ?_
  show own_Fin p e below s Q 4 23 (T143.setTop (mkF m 60 #[.val (.ref o0), .val (.int (4 : Int32)), .val (.ref b140), .val (.int (1 : Int32)), .val (.int (z.toInt32)), .val (.int i5142), s6142] [(.int (gf143 ((2 : Int32)).toNatClampNeg)), (.int (2 : Int32)), (.ref b140)]))
  refine own_step (fun t k => XS.aloadN X143.here hx rfl (hb hby d18_60) rfl rfl k) ?_
  show own_Fin p e below s Q 4 23 (T143.setTop (mkF m 61 #[.val (.ref o0), .val (.int (4 : Int32)), .val (.ref b140), .val (.int (1 : Int32)), .val (.int (z.toInt32)), .val (.int i5142), s6142] [(.ref b140), (.int (gf143 ((2 : Int32)).toNatClampNeg)), (.int (2 : Int32)), (.ref b140)]))
  refine own_step (fun t k => XS.iloadN X143.here hx rfl (hb hby d18_61) rfl  k) ?_
  show own_Fin p e below s Q 4 23 (T143.setTop (mkF m 62 #[.val (.ref o0), .val (.int (4 : Int32)), .val (.ref b140), .val (.int (1 : Int32)), .val (.int (z.toInt32)), .val (.int i5142), s6142] [(.int (1 : Int32)), (.ref b140), (.int (gf143 ((2 : Int32)).toNatClampNeg)), (.int (2 : Int32)), (.ref b140)]))
  obtain ⟨ca62, Ar62, Sz62, Ht62⟩ := id V143
  have hin62 : ¬ ((1 : Int32) < 0 ∨ ca62.slots.size ≤ ((1 : Int32)).toNatClampNeg) := by rw [Sz62]; exact (by decide)
  refine own_step (X143.iaload hx (j := (1 : Int32)) (v := (.int (gf143 ((1 : Int32)).toNatClampNeg))) (by rw [e143]; exact Ar62.1) (State.isArrayOf_alike hZ.alike Ar62.2.1) Ar62.2.2 hin62 (Ht62 _ (by have hq := Nat.lt_of_not_le (fun y => hin62 (Or.inr y)); rw [Sz62] at hq; exact hq)) (g := (mkF m 62 #[.val (.ref o0), .val (.int (4 : Int32)), .val (.ref b140), .val (.int (1 : Int32)), .val (.int (z.toInt32)), .val (.int i5142), s6142] [(.int (1 : Int32)), (.ref b140), (.int (gf143 ((2 : Int32)).toNatClampNeg)), (.int (2 : Int32)), (.ref b140)])) rfl rfl (hb hby d18_62)) ?_
  show own_Fin p e below s Q 4 23 (T143.setTop (mkF m 63 #[.val (.ref o0), .val (.int (4 : Int32)), .val (.ref b140), .val (.int (1 : Int32)), .val (.int (z.toInt32)), .val (.int i5142), s6142] [(.int (gf143 ((1 : Int32)).toNatClampNeg)), (.int (gf143 ((2 : Int32)).toNatClampNeg)), (.int (2 : Int32)), (.ref b140)]))
  refine own_step (fun t k => XS.iadd X143.here hx rfl (hb hby d18_63) rfl k) ?_
  show own_Fin p e below s Q 4 23 (T143.setTop (mkF m 64 #[.val (.ref o0), .val (.int (4 : Int32)), .val (.ref b140), .val (.int (1 : Int32)), .val (.int (z.toInt32)), .val (.int i5142), s6142] [(.int ((gf143 ((2 : Int32)).toNatClampNeg) + (gf143 ((1 : Int32)).toNatClampNeg))), (.int (2 : Int32)), (.ref b140)]))
  obtain ⟨ca144, Ar144, Sz144, Ht144⟩ := id V143
  have hin144 : ¬ ((2 : Int32) < 0 ∨ ca144.slots.size ≤ ((2 : Int32)).toNatClampNeg) := by rw [Sz144]; exact (by decide)
  obtain ⟨T144, h144, X144, e144, W144, st144⟩ := stI X143 hx hZ e143 Ar144 (j := (2 : Int32)) hin144 (g := (mkF m 64 #[.val (.ref o0), .val (.int (4 : Int32)), .val (.ref b140), .val (.int (1 : Int32)), .val (.int (z.toInt32)), .val (.int i5142), s6142] [(.int ((gf143 ((2 : Int32)).toNatClampNeg) + (gf143 ((1 : Int32)).toNatClampNeg))), (.int (2 : Int32)), (.ref b140)])) rfl rfl (hb hby d18_64)
  have V144 : own_AF Z h144 b140 .int 5 (fun i => if i = 2 then ((gf143 ((2 : Int32)).toNatClampNeg) + (gf143 ((1 : Int32)).toNatClampNeg)) else gf143 i) := own_AFset Ar144 Sz144 Ht144 W144
  obtain ⟨gf144, hgf144⟩ : ∃ g' : Nat → Int32, g' = (fun i => if i = 2 then ((gf143 ((2 : Int32)).toNatClampNeg) + (gf143 ((1 : Int32)).toNatClampNeg)) else gf143 i) := ⟨_, rfl⟩
  rw [← hgf144] at V144
  have N144 := Fr.snoc X144 N143 fr140
  have Z0144 : n0 ≤ h144.size := Nat.le_trans Z0143 (Nat.le_of_eq W144.size.symm)
  have V144_bs := own_AFoth V143_bs W144 nebs_140
  have V144_bv := own_AFoth V143_bv W144 nebv_140
  have Ex144_o0 := Ex143_o0.wr W144
  have F144_o0_starts := F143_o0_starts.other W144 (Or.inl neo0_140)
  have F144_o0_values := F143_o0_values.other W144 (Or.inl neo0_140)
  have K144 : Keep h h144 [] := K143.wr W144 (Or.inr sz140)
  refine own_step st144 ?_
  show own_Fin p e below s Q 4 23 (T144.setTop (mkF m 65 #[.val (.ref o0), .val (.int (4 : Int32)), .val (.ref b140), .val (.int (1 : Int32)), .val (.int (z.toInt32)), .val (.int i5142), s6142] []))
  refine own_step (fun t k => XS.iinc X144.here hx rfl (hb hby d18_65) rfl (l' := #[.val (.ref o0), .val (.int (4 : Int32)), .val (.ref b140), .val (.int (2 : Int32)), .val (.int (z.toInt32)), .val (.int i5142), s6142]) rfl k) ?_
  show own_Fin p e below s Q 4 23 (T144.setTop (mkF m 68 #[.val (.ref o0), .val (.int (4 : Int32)), .val (.ref b140), .val (.int (2 : Int32)), .val (.int (z.toInt32)), .val (.int i5142), s6142] []))
  refine own_step (fun t k => XS.goto X144.here hx rfl (pc0 := 68) (pc' := 49) rfl (hb hby d18_68) (by decide) (by decide) k) ?_
  show own_Fin p e below s Q 4 23 (T144.setTop (mkF m 49 #[.val (.ref o0), .val (.int (4 : Int32)), .val (.ref b140), .val (.int (2 : Int32)), .val (.int (z.toInt32)), .val (.int i5142), s6142] []))
  refine own_step (fun t k => XS.iloadN X144.here hx rfl (hb hby d18_49) rfl  k) ?_
  show own_Fin p e below s Q 4 23 (T144.setTop (mkF m 50 #[.val (.ref o0), .val (.int (4 : Int32)), .val (.ref b140), .val (.int (2 : Int32)), .val (.int (z.toInt32)), .val (.int i5142), s6142] [(.int (2 : Int32))]))
  refine own_step (fun t k => XS.iloadN X144.here hx rfl (hb hby d18_50) rfl  k) ?_
  show own_Fin p e below s Q 4 23 (T144.setTop (mkF m 51 #[.val (.ref o0), .val (.int (4 : Int32)), .val (.ref b140), .val (.int (2 : Int32)), .val (.int (z.toInt32)), .val (.int i5142), s6142] [(.int (4 : Int32)), (.int (2 : Int32))]))
  refine own_step (fun t k => XS.icmpNo X144.here hx rfl (hb hby d18_51) rfl (tlt (by decide : (2 : Int32) < (4 : Int32))).2.1 k) ?_
  show own_Fin p e below s Q 4 23 (T144.setTop (mkF m 54 #[.val (.ref o0), .val (.int (4 : Int32)), .val (.ref b140), .val (.int (2 : Int32)), .val (.int (z.toInt32)), .val (.int i5142), s6142] []))
  refine own_step (fun t k => XS.aloadN X144.here hx rfl (hb hby d18_54) rfl rfl k) ?_
  show own_Fin p e below s Q 4 23 (T144.setTop (mkF m 55 #[.val (.ref o0), .val (.int (4 : Int32)), .val (.ref b140), .val (.int (2 : Int32)), .val (.int (z.toInt32)), .val (.int i5142), s6142] [(.ref b140)]))
  refine own_step (fun t k => XS.iloadN X144.here hx rfl (hb hby d18_55) rfl  k) ?_
  show own_Fin p e below s Q 4 23 (T144.setTop (mkF m 56 #[.val (.ref o0), .val (.int (4 : Int32)), .val (.ref b140), .val (.int (2 : Int32)), .val (.int (z.toInt32)), .val (.int i5142), s6142] [(.int (2 : Int32)), (.ref b140)]))
  refine own_step (fun t k => XS.iconst X144.here hx rfl (hb hby d18_56) k) ?_
  show own_Fin p e below s Q 4 23 (T144.setTop (mkF m 57 #[.val (.ref o0), .val (.int (4 : Int32)), .val (.ref b140), .val (.int (2 : Int32)), .val (.int (z.toInt32)), .val (.int i5142), s6142] [(.int (1 : Int32)), (.int (2 : Int32)), (.ref b140)]))
  refine own_step (fun t k => XS.iadd X144.here hx rfl (hb hby d18_57) rfl k) ?_
  show own_Fin p e below s Q 4 23 (T144.setTop (mkF m 58 #[.val (.ref o0), .val (.int (4 : Int32)), .val (.ref b140), .val (.int (2 : Int32)), .val (.int (z.toInt32)), .val (.int i5142), s6142] [(.int (3 : Int32)), (.ref b140)]))
  refine own_step (fun t k => Jvm.Free.XT.dup2 X144.here hx rfl (hb hby d18_58) rfl rfl rfl k) ?_
  show own_Fin p e below s Q 4 23 (T144.setTop (mkF m 59 #[.val (.ref o0), .val (.int (4 : Int32)), .val (.ref b140), .val (.int (2 : Int32)), .val (.int (z.toInt32)), .val (.int i5142), s6142] [(.int (3 : Int32)), (.ref b140), (.int (3 : Int32)), (.ref b140)]))
  obtain ⟨ca59, Ar59, Sz59, Ht59⟩ := id V144
  have hin59 : ¬ ((3 : Int32) < 0 ∨ ca59.slots.size ≤ ((3 : Int32)).toNatClampNeg) := by rw [Sz59]; exact (by decide)
  refine own_step (X144.iaload hx (j := (3 : Int32)) (v := (.int (gf144 ((3 : Int32)).toNatClampNeg))) (by rw [e144]; exact Ar59.1) (State.isArrayOf_alike hZ.alike Ar59.2.1) Ar59.2.2 hin59 (Ht59 _ (by have hq := Nat.lt_of_not_le (fun y => hin59 (Or.inr y)); rw [Sz59] at hq; exact hq)) (g := (mkF m 59 #[.val (.ref o0), .val (.int (4 : Int32)), .val (.ref b140), .val (.int (2 : Int32)), .val (.int (z.toInt32)), .val (.int i5142), s6142] [(.int (3 : Int32)), (.ref b140), (.int (3 : Int32)), (.ref b140)])) rfl rfl (hb hby d18_59)) ?_
  show own_Fin p e below s Q 4 23 (T144.setTop (mkF m 60 #[.val (.ref o0), .val (.int (4 : Int32)), .val (.ref b140), .val (.int (2 : Int32)), .val (.int (z.toInt32)), .val (.int i5142), s6142] [(.int (gf144 ((3 : Int32)).toNatClampNeg)), (.int (3 : Int32)), (.ref b140)]))
  refine own_step (fun t k => XS.aloadN X144.here hx rfl (hb hby d18_60) rfl rfl k) ?_
  show own_Fin p e below s Q 4 23 (T144.setTop (mkF m 61 #[.val (.ref o0), .val (.int (4 : Int32)), .val (.ref b140), .val (.int (2 : Int32)), .val (.int (z.toInt32)), .val (.int i5142), s6142] [(.ref b140), (.int (gf144 ((3 : Int32)).toNatClampNeg)), (.int (3 : Int32)), (.ref b140)]))
  refine own_step (fun t k => XS.iloadN X144.here hx rfl (hb hby d18_61) rfl  k) ?_
  show own_Fin p e below s Q 4 23 (T144.setTop (mkF m 62 #[.val (.ref o0), .val (.int (4 : Int32)), .val (.ref b140), .val (.int (2 : Int32)), .val (.int (z.toInt32)), .val (.int i5142), s6142] [(.int (2 : Int32)), (.ref b140), (.int (gf144 ((3 : Int32)).toNatClampNeg)), (.int (3 : Int32)), (.ref b140)]))
  obtain ⟨ca62, Ar62, Sz62, Ht62⟩ := id V144
  have hin62 : ¬ ((2 : Int32) < 0 ∨ ca62.slots.size ≤ ((2 : Int32)).toNatClampNeg) := by rw [Sz62]; exact (by decide)
  refine own_step (X144.iaload hx (j := (2 : Int32)) (v := (.int (gf144 ((2 : Int32)).toNatClampNeg))) (by rw [e144]; exact Ar62.1) (State.isArrayOf_alike hZ.alike Ar62.2.1) Ar62.2.2 hin62 (Ht62 _ (by have hq := Nat.lt_of_not_le (fun y => hin62 (Or.inr y)); rw [Sz62] at hq; exact hq)) (g := (mkF m 62 #[.val (.ref o0), .val (.int (4 : Int32)), .val (.ref b140), .val (.int (2 : Int32)), .val (.int (z.toInt32)), .val (.int i5142), s6142] [(.int (2 : Int32)), (.ref b140), (.int (gf144 ((3 : Int32)).toNatClampNeg)), (.int (3 : Int32)), (.ref b140)])) rfl rfl (hb hby d18_62)) ?_
  show own_Fin p e below s Q 4 23 (T144.setTop (mkF m 63 #[.val (.ref o0), .val (.int (4 : Int32)), .val (.ref b140), .val (.int (2 : Int32)), .val (.int (z.toInt32)), .val (.int i5142), s6142] [(.int (gf144 ((2 : Int32)).toNatClampNeg)), (.int (gf144 ((3 : Int32)).toNatClampNeg)), (.int (3 : Int32)), (.ref b140)]))
  refine own_step (fun t k => XS.iadd X144.here hx rfl (hb hby d18_63) rfl k) ?_
  show own_Fin p e below s Q 4 23 (T144.setTop (mkF m 64 #[.val (.ref o0), .val (.int (4 : Int32)), .val (.ref b140), .val (.int (2 : Int32)), .val (.int (z.toInt32)), .val (.int i5142), s6142] [(.int ((gf144 ((3 : Int32)).toNatClampNeg) + (gf144 ((2 : Int32)).toNatClampNeg))), (.int (3 : Int32)), (.ref b140)]))
  obtain ⟨ca145, Ar145, Sz145, Ht145⟩ := id V144
  have hin145 : ¬ ((3 : Int32) < 0 ∨ ca145.slots.size ≤ ((3 : Int32)).toNatClampNeg) := by rw [Sz145]; exact (by decide)
  obtain ⟨T145, h145, X145, e145, W145, st145⟩ := stI X144 hx hZ e144 Ar145 (j := (3 : Int32)) hin145 (g := (mkF m 64 #[.val (.ref o0), .val (.int (4 : Int32)), .val (.ref b140), .val (.int (2 : Int32)), .val (.int (z.toInt32)), .val (.int i5142), s6142] [(.int ((gf144 ((3 : Int32)).toNatClampNeg) + (gf144 ((2 : Int32)).toNatClampNeg))), (.int (3 : Int32)), (.ref b140)])) rfl rfl (hb hby d18_64)
  have V145 : own_AF Z h145 b140 .int 5 (fun i => if i = 3 then ((gf144 ((3 : Int32)).toNatClampNeg) + (gf144 ((2 : Int32)).toNatClampNeg)) else gf144 i) := own_AFset Ar145 Sz145 Ht145 W145
  obtain ⟨gf145, hgf145⟩ : ∃ g' : Nat → Int32, g' = (fun i => if i = 3 then ((gf144 ((3 : Int32)).toNatClampNeg) + (gf144 ((2 : Int32)).toNatClampNeg)) else gf144 i) := ⟨_, rfl⟩
  rw [← hgf145] at V145
  have N145 := Fr.snoc X145 N144 fr140
  have Z0145 : n0 ≤ h145.size := Nat.le_trans Z0144 (Nat.le_of_eq W145.size.symm)
  have V145_bs := own_AFoth V144_bs W145 nebs_140
  have V145_bv := own_AFoth V144_bv W145 nebv_140
  have Ex145_o0 := Ex144_o0.wr W145
  have F145_o0_starts := F144_o0_starts.other W145 (Or.inl neo0_140)
  have F145_o0_values := F144_o0_values.other W145 (Or.inl neo0_140)
  have K145 : Keep h h145 [] := K144.wr W145 (Or.inr sz140)
  refine own_step st145 ?_
  show own_Fin p e below s Q 4 23 (T145.setTop (mkF m 65 #[.val (.ref o0), .val (.int (4 : Int32)), .val (.ref b140), .val (.int (2 : Int32)), .val (.int (z.toInt32)), .val (.int i5142), s6142] []))
  refine own_step (fun t k => XS.iinc X145.here hx rfl (hb hby d18_65) rfl (l' := #[.val (.ref o0), .val (.int (4 : Int32)), .val (.ref b140), .val (.int (3 : Int32)), .val (.int (z.toInt32)), .val (.int i5142), s6142]) rfl k) ?_
  show own_Fin p e below s Q 4 23 (T145.setTop (mkF m 68 #[.val (.ref o0), .val (.int (4 : Int32)), .val (.ref b140), .val (.int (3 : Int32)), .val (.int (z.toInt32)), .val (.int i5142), s6142] []))
  refine own_step (fun t k => XS.goto X145.here hx rfl (pc0 := 68) (pc' := 49) rfl (hb hby d18_68) (by decide) (by decide) k) ?_
  show own_Fin p e below s Q 4 23 (T145.setTop (mkF m 49 #[.val (.ref o0), .val (.int (4 : Int32)), .val (.ref b140), .val (.int (3 : Int32)), .val (.int (z.toInt32)), .val (.int i5142), s6142] []))
  refine own_step (fun t k => XS.iloadN X145.here hx rfl (hb hby d18_49) rfl  k) ?_
  show own_Fin p e below s Q 4 23 (T145.setTop (mkF m 50 #[.val (.ref o0), .val (.int (4 : Int32)), .val (.ref b140), .val (.int (3 : Int32)), .val (.int (z.toInt32)), .val (.int i5142), s6142] [(.int (3 : Int32))]))
  refine own_step (fun t k => XS.iloadN X145.here hx rfl (hb hby d18_50) rfl  k) ?_
  show own_Fin p e below s Q 4 23 (T145.setTop (mkF m 51 #[.val (.ref o0), .val (.int (4 : Int32)), .val (.ref b140), .val (.int (3 : Int32)), .val (.int (z.toInt32)), .val (.int i5142), s6142] [(.int (4 : Int32)), (.int (3 : Int32))]))
  refine own_step (fun t k => XS.icmpNo X145.here hx rfl (hb hby d18_51) rfl (tlt (by decide : (3 : Int32) < (4 : Int32))).2.1 k) ?_
  show own_Fin p e below s Q 4 23 (T145.setTop (mkF m 54 #[.val (.ref o0), .val (.int (4 : Int32)), .val (.ref b140), .val (.int (3 : Int32)), .val (.int (z.toInt32)), .val (.int i5142), s6142] []))
  refine own_step (fun t k => XS.aloadN X145.here hx rfl (hb hby d18_54) rfl rfl k) ?_
  show own_Fin p e below s Q 4 23 (T145.setTop (mkF m 55 #[.val (.ref o0), .val (.int (4 : Int32)), .val (.ref b140), .val (.int (3 : Int32)), .val (.int (z.toInt32)), .val (.int i5142), s6142] [(.ref b140)]))
  refine own_step (fun t k => XS.iloadN X145.here hx rfl (hb hby d18_55) rfl  k) ?_
  show own_Fin p e below s Q 4 23 (T145.setTop (mkF m 56 #[.val (.ref o0), .val (.int (4 : Int32)), .val (.ref b140), .val (.int (3 : Int32)), .val (.int (z.toInt32)), .val (.int i5142), s6142] [(.int (3 : Int32)), (.ref b140)]))
  refine own_step (fun t k => XS.iconst X145.here hx rfl (hb hby d18_56) k) ?_
  show own_Fin p e below s Q 4 23 (T145.setTop (mkF m 57 #[.val (.ref o0), .val (.int (4 : Int32)), .val (.ref b140), .val (.int (3 : Int32)), .val (.int (z.toInt32)), .val (.int i5142), s6142] [(.int (1 : Int32)), (.int (3 : Int32)), (.ref b140)]))
  refine own_step (fun t k => XS.iadd X145.here hx rfl (hb hby d18_57) rfl k) ?_
  show own_Fin p e below s Q 4 23 (T145.setTop (mkF m 58 #[.val (.ref o0), .val (.int (4 : Int32)), .val (.ref b140), .val (.int (3 : Int32)), .val (.int (z.toInt32)), .val (.int i5142), s6142] [(.int (4 : Int32)), (.ref b140)]))
  refine own_step (fun t k => Jvm.Free.XT.dup2 X145.here hx rfl (hb hby d18_58) rfl rfl rfl k) ?_
  show own_Fin p e below s Q 4 23 (T145.setTop (mkF m 59 #[.val (.ref o0), .val (.int (4 : Int32)), .val (.ref b140), .val (.int (3 : Int32)), .val (.int (z.toInt32)), .val (.int i5142), s6142] [(.int (4 : Int32)), (.ref b140), (.int (4 : Int32)), (.ref b140)]))
  obtain ⟨ca59, Ar59, Sz59, Ht59⟩ := id V145
  have hin59 : ¬ ((4 : Int32) < 0 ∨ ca59.slots.size ≤ ((4 : Int32)).toNatClampNeg) := by rw [Sz59]; exact (by decide)
  refine own_step (X145.iaload hx (j := (4 : Int32)) (v := (.int (gf145 ((4 : Int32)).toNatClampNeg))) (by rw [e145]; exact Ar59.1) (State.isArrayOf_alike hZ.alike Ar59.2.1) Ar59.2.2 hin59 (Ht59 _ (by have hq := Nat.lt_of_not_le (fun y => hin59 (Or.inr y)); rw [Sz59] at hq; exact hq)) (g := (mkF m 59 #[.val (.ref o0), .val (.int (4 : Int32)), .val (.ref b140), .val (.int (3 : Int32)), .val (.int (z.toInt32)), .val (.int i5142), s6142] [(.int (4 : Int32)), (.ref b140), (.int (4 : Int32)), (.ref b140)])) rfl rfl (hb hby d18_59)) ?_
  show own_Fin p e below s Q 4 23 (T145.setTop (mkF m 60 #[.val (.ref o0), .val (.int (4 : Int32)), .val (.ref b140), .val (.int (3 : Int32)), .val (.int (z.toInt32)), .val (.int i5142), s6142] [(.int (gf145 ((4 : Int32)).toNatClampNeg)), (.int (4 : Int32)), (.ref b140)]))
  refine own_step (fun t k => XS.aloadN X145.here hx rfl (hb hby d18_60) rfl rfl k) ?_
  show own_Fin p e below s Q 4 23 (T145.setTop (mkF m 61 #[.val (.ref o0), .val (.int (4 : Int32)), .val (.ref b140), .val (.int (3 : Int32)), .val (.int (z.toInt32)), .val (.int i5142), s6142] [(.ref b140), (.int (gf145 ((4 : Int32)).toNatClampNeg)), (.int (4 : Int32)), (.ref b140)]))
  refine own_step (fun t k => XS.iloadN X145.here hx rfl (hb hby d18_61) rfl  k) ?_
  show own_Fin p e below s Q 4 23 (T145.setTop (mkF m 62 #[.val (.ref o0), .val (.int (4 : Int32)), .val (.ref b140), .val (.int (3 : Int32)), .val (.int (z.toInt32)), .val (.int i5142), s6142] [(.int (3 : Int32)), (.ref b140), (.int (gf145 ((4 : Int32)).toNatClampNeg)), (.int (4 : Int32)), (.ref b140)]))
  obtain ⟨ca62, Ar62, Sz62, Ht62⟩ := id V145
  have hin62 : ¬ ((3 : Int32) < 0 ∨ ca62.slots.size ≤ ((3 : Int32)).toNatClampNeg) := by rw [Sz62]; exact (by decide)
  refine own_step (X145.iaload hx (j := (3 : Int32)) (v := (.int (gf145 ((3 : Int32)).toNatClampNeg))) (by rw [e145]; exact Ar62.1) (State.isArrayOf_alike hZ.alike Ar62.2.1) Ar62.2.2 hin62 (Ht62 _ (by have hq := Nat.lt_of_not_le (fun y => hin62 (Or.inr y)); rw [Sz62] at hq; exact hq)) (g := (mkF m 62 #[.val (.ref o0), .val (.int (4 : Int32)), .val (.ref b140), .val (.int (3 : Int32)), .val (.int (z.toInt32)), .val (.int i5142), s6142] [(.int (3 : Int32)), (.ref b140), (.int (gf145 ((4 : Int32)).toNatClampNeg)), (.int (4 : Int32)), (.ref b140)])) rfl rfl (hb hby d18_62)) ?_
  show own_Fin p e below s Q 4 23 (T145.setTop (mkF m 63 #[.val (.ref o0), .val (.int (4 : Int32)), .val (.ref b140), .val (.int (3 : Int32)), .val (.int (z.toInt32)), .val (.int i5142), s6142] [(.int (gf145 ((3 : Int32)).toNatClampNeg)), (.int (gf145 ((4 : Int32)).toNatClampNeg)), (.int (4 : Int32)), (.ref b140)]))
  refine own_step (fun t k => XS.iadd X145.here hx rfl (hb hby d18_63) rfl k) ?_
  show own_Fin p e below s Q 4 23 (T145.setTop (mkF m 64 #[.val (.ref o0), .val (.int (4 : Int32)), .val (.ref b140), .val (.int (3 : Int32)), .val (.int (z.toInt32)), .val (.int i5142), s6142] [(.int ((gf145 ((4 : Int32)).toNatClampNeg) + (gf145 ((3 : Int32)).toNatClampNeg))), (.int (4 : Int32)), (.ref b140)]))
  obtain ⟨ca146, Ar146, Sz146, Ht146⟩ := id V145
  have hin146 : ¬ ((4 : Int32) < 0 ∨ ca146.slots.size ≤ ((4 : Int32)).toNatClampNeg) := by rw [Sz146]; exact (by decide)
  obtain ⟨T146, h146, X146, e146, W146, st146⟩ := stI X145 hx hZ e145 Ar146 (j := (4 : Int32)) hin146 (g := (mkF m 64 #[.val (.ref o0), .val (.int (4 : Int32)), .val (.ref b140), .val (.int (3 : Int32)), .val (.int (z.toInt32)), .val (.int i5142), s6142] [(.int ((gf145 ((4 : Int32)).toNatClampNeg) + (gf145 ((3 : Int32)).toNatClampNeg))), (.int (4 : Int32)), (.ref b140)])) rfl rfl (hb hby d18_64)
  have V146 : own_AF Z h146 b140 .int 5 (fun i => if i = 4 then ((gf145 ((4 : Int32)).toNatClampNeg) + (gf145 ((3 : Int32)).toNatClampNeg)) else gf145 i) := own_AFset Ar146 Sz146 Ht146 W146
  obtain ⟨gf146, hgf146⟩ : ∃ g' : Nat → Int32, g' = (fun i => if i = 4 then ((gf145 ((4 : Int32)).toNatClampNeg) + (gf145 ((3 : Int32)).toNatClampNeg)) else gf145 i) := ⟨_, rfl⟩
  rw [← hgf146] at V146
  have N146 := Fr.snoc X146 N145 fr140
  have Z0146 : n0 ≤ h146.size := Nat.le_trans Z0145 (Nat.le_of_eq W146.size.symm)
  have V146_bs := own_AFoth V145_bs W146 nebs_140
  have V146_bv := own_AFoth V145_bv W146 nebv_140
  have Ex146_o0 := Ex145_o0.wr W146
  have F146_o0_starts := F145_o0_starts.other W146 (Or.inl neo0_140)
  have F146_o0_values := F145_o0_values.other W146 (Or.inl neo0_140)
  have K146 : Keep h h146 [] := K145.wr W146 (Or.inr sz140)
  refine own_step st146 ?_
  show own_Fin p e below s Q 4 23 (T146.setTop (mkF m 65 #[.val (.ref o0), .val (.int (4 : Int32)), .val (.ref b140), .val (.int (3 : Int32)), .val (.int (z.toInt32)), .val (.int i5142), s6142] []))
  refine own_step (fun t k => XS.iinc X146.here hx rfl (hb hby d18_65) rfl (l' := #[.val (.ref o0), .val (.int (4 : Int32)), .val (.ref b140), .val (.int (4 : Int32)), .val (.int (z.toInt32)), .val (.int i5142), s6142]) rfl k) ?_
  show own_Fin p e below s Q 4 23 (T146.setTop (mkF m 68 #[.val (.ref o0), .val (.int (4 : Int32)), .val (.ref b140), .val (.int (4 : Int32)), .val (.int (z.toInt32)), .val (.int i5142), s6142] []))
  refine own_step (fun t k => XS.goto X146.here hx rfl (pc0 := 68) (pc' := 49) rfl (hb hby d18_68) (by decide) (by decide) k) ?_
  show own_Fin p e below s Q 4 23 (T146.setTop (mkF m 49 #[.val (.ref o0), .val (.int (4 : Int32)), .val (.ref b140), .val (.int (4 : Int32)), .val (.int (z.toInt32)), .val (.int i5142), s6142] []))
  refine own_step (fun t k => XS.iloadN X146.here hx rfl (hb hby d18_49) rfl  k) ?_
  show own_Fin p e below s Q 4 23 (T146.setTop (mkF m 50 #[.val (.ref o0), .val (.int (4 : Int32)), .val (.ref b140), .val (.int (4 : Int32)), .val (.int (z.toInt32)), .val (.int i5142), s6142] [(.int (4 : Int32))]))
  refine own_step (fun t k => XS.iloadN X146.here hx rfl (hb hby d18_50) rfl  k) ?_
  show own_Fin p e below s Q 4 23 (T146.setTop (mkF m 51 #[.val (.ref o0), .val (.int (4 : Int32)), .val (.ref b140), .val (.int (4 : Int32)), .val (.int (z.toInt32)), .val (.int i5142), s6142] [(.int (4 : Int32)), (.int (4 : Int32))]))
  refine own_step (fun t k => XS.icmpYes X146.here hx rfl (pc0 := 51) (pc' := 71) rfl (hb hby d18_51) rfl (flt (by decide : ¬ ((4 : Int32) < (4 : Int32)))).2.1 (by decide) (by decide) k) ?_
  show own_Fin p e below s Q 4 23 (T146.setTop (mkF m 71 #[.val (.ref o0), .val (.int (4 : Int32)), .val (.ref b140), .val (.int (4 : Int32)), .val (.int (z.toInt32)), .val (.int i5142), s6142] []))
  refine own_step (fun t k => XS.aloadN X146.here hx rfl (hb hby d18_71) rfl rfl k) ?_
  show own_Fin p e below s Q 4 23 (T146.setTop (mkF m 72 #[.val (.ref o0), .val (.int (4 : Int32)), .val (.ref b140), .val (.int (4 : Int32)), .val (.int (z.toInt32)), .val (.int i5142), s6142] [(.ref o0)]))
  obtain ⟨T147, X147, e147, st147⟩ := getF X146 hx hZ hown (host := "") (Or.inl (hw _ (List.mem_of_getElem? (i := 113) rfl))) Via.refl e146 F146_o0_values (g := (mkF m 72 #[.val (.ref o0), .val (.int (4 : Int32)), .val (.ref b140), .val (.int (4 : Int32)), .val (.int (z.toInt32)), .val (.int i5142), s6142] [(.ref o0)])) rfl rfl (hb hby d18_72)
  refine own_step st147 ?_
  show own_Fin p e below s Q 4 23 (T147.setTop (mkF m 75 #[.val (.ref o0), .val (.int (4 : Int32)), .val (.ref b140), .val (.int (4 : Int32)), .val (.int (z.toInt32)), .val (.int i5142), s6142] [(.ref bv)]))
  obtain ⟨ca75, Ar75, Sz75, Ht75⟩ := id V146_bv
  refine own_step (X147.arraylength hx (by rw [e147]; exact Ar75.1) (State.isArrayOf_alike hZ.alike Ar75.2.1) (g := (mkF m 75 #[.val (.ref o0), .val (.int (4 : Int32)), .val (.ref b140), .val (.int (4 : Int32)), .val (.int (z.toInt32)), .val (.int i5142), s6142] [(.ref bv)])) rfl rfl (hb hby d18_75)) ?_
  rw [Sz75]
  show own_Fin p e below s Q 4 23 (T147.setTop (mkF m 76 #[.val (.ref o0), .val (.int (4 : Int32)), .val (.ref b140), .val (.int (4 : Int32)), .val (.int (z.toInt32)), .val (.int i5142), s6142] [(.int (z.toInt32))]))
  obtain ⟨T148, h148, k148, X148, e148, E148, AA148, XX148, st148⟩ := newPE X147 hx hZ (hw _ (List.mem_of_getElem? (i := 30) rfl)) e147 (g := (mkF m 76 #[.val (.ref o0), .val (.int (4 : Int32)), .val (.ref b140), .val (.int (4 : Int32)), .val (.int (z.toInt32)), .val (.int i5142), s6142] [(.int (z.toInt32))])) rfl (hb hby d18_76) rfl (own_zl z (by omega)).2 (cap := 12) (by rw [(own_zl z (by omega)).1]; omega) (by decide) (show cells + 1 + 1 ≤ 4 from (Nat.le_trans (Nat.add_le_add_right hc 2) (by decide))) (show slots + 5 + 12 ≤ 23 from (Nat.le_trans (Nat.add_le_add_right hs 17) (by decide))) (ad := "[I") (by decide)
  obtain ⟨b148, gg148⟩ : ∃ z, z = h146.size := ⟨_, rfl⟩
  rw [← gg148] at AA148 XX148 st148
  have V148 : own_AF Z h148 b148 .int ((z.toInt32)).toNatClampNeg (fun _ => 0) := own_AFnew AA148 rfl
  have fr148 : n0 ≤ b148 := Nat.le_trans Z0146 (Nat.le_of_eq gg148.symm)
  have Z0148 : n0 ≤ h148.size := Nat.le_trans Z0146 E148.1
  have nebs_148 : bs ≠ b148 := Nat.ne_of_lt (Nat.lt_of_lt_of_le V146_bs.lt (Nat.le_of_eq gg148.symm))
  have nebv_148 : bv ≠ b148 := Nat.ne_of_lt (Nat.lt_of_lt_of_le V146_bv.lt (Nat.le_of_eq gg148.symm))
  have neb140_148 : b140 ≠ b148 := Nat.ne_of_lt (Nat.lt_of_lt_of_le V146.lt (Nat.le_of_eq gg148.symm))
  have neo0_148 : o0 ≠ b148 := Nat.ne_of_lt (Nat.lt_of_lt_of_le Ex146_o0.lt (Nat.le_of_eq gg148.symm))
  have sz148 : h.size ≤ b148 := Nat.le_trans K146.1 (Nat.le_of_eq gg148.symm)
  have V148_bs := own_AFext V146_bs E148
  have V148_bv := own_AFext V146_bv E148
  have V148_b140 := own_AFext V146 E148
  have Ex148_o0 := Ex146_o0.ext E148
  have F148_o0_starts := F146_o0_starts.ext E148
  have F148_o0_values := F146_o0_values.ext E148
  have K148 : Keep h h148 [] := K146.ext E148
  refine own_step st148 ?_
  show own_Fin p e below s Q 4 23 (T148.setTop (mkF m 78 #[.val (.ref o0), .val (.int (4 : Int32)), .val (.ref b140), .val (.int (4 : Int32)), .val (.int (z.toInt32)), .val (.int i5142), s6142] [(.ref b148)]))
  rw [(own_zl z (by omega)).1] at V148
  refine own_step (fun t k => XS.astoreN X148.here hx rfl (hb hby d18_78) rfl rfl (l' := #[.val (.ref o0), .val (.int (4 : Int32)), .val (.ref b140), .val (.ref b148), .val (.int (z.toInt32)), .val (.int i5142), s6142]) rfl k) ?_
  show own_Fin p e below s Q 4 23 (T148.setTop (mkF m 79 #[.val (.ref o0), .val (.int (4 : Int32)), .val (.ref b140), .val (.ref b148), .val (.int (z.toInt32)), .val (.int i5142), s6142] []))
  refine own_step (fun t k => XS.aloadN X148.here hx rfl (hb hby d18_79) rfl rfl k) ?_
  show own_Fin p e below s Q 4 23 (T148.setTop (mkF m 80 #[.val (.ref o0), .val (.int (4 : Int32)), .val (.ref b140), .val (.ref b148), .val (.int (z.toInt32)), .val (.int i5142), s6142] [(.ref b140)]))
  refine own_step (fun t k => XS.iloadN X148.here hx rfl (hb hby d18_80) rfl  k) ?_
  show own_Fin p e below s Q 4 23 (T148.setTop (mkF m 81 #[.val (.ref o0), .val (.int (4 : Int32)), .val (.ref b140), .val (.ref b148), .val (.int (z.toInt32)), .val (.int i5142), s6142] [(.int (4 : Int32)), (.ref b140)]))
  obtain ⟨_, _, ⟨T149, L149, k149, n149⟩, -, X149, ⟨Lc149, hQ149, l149, y149, z149⟩, st149⟩ := Jvm.LawKit.callS X148 hx (y := (⟨"java/util/Arrays", "copyOf", "([II)[I"⟩ : MethodName)) hown (mvT hZ (hw _ (List.mem_of_getElem? (i := 129) rfl))) (mvT hZ (hw _ (List.mem_of_getElem? (i := 130) rfl))) (mvT hZ (hw _ (List.mem_of_getElem? (i := 131) rfl))) (mvT hZ (hw _ (List.mem_of_getElem? (i := 132) rfl))) (by decide) (backOf (W := 0) (rm19 l Z a0 hw [] b140 gf146 h148 n0 Z0148 V148_b140) hZ (hw _ (List.mem_of_getElem? (i := 132) rfl)) (hw _ (List.mem_of_getElem? (i := 131) rfl)) (by decide) (by decide)) (g := (mkF m 81 #[.val (.ref o0), .val (.int (4 : Int32)), .val (.ref b140), .val (.ref b148), .val (.int (z.toInt32)), .val (.int i5142), s6142] [(.int (4 : Int32)), (.ref b140)])) rfl (by rw [hml]; rfl) (argsL := [(.ref b140), (.int (4 : Int32))]) (rest := []) (lenOf pdm_11 rfl) rfl (by show 2 * 0 + _ ≤ _; exact Nat.le_of_eq rfl) (hb hby d18_81) (fun _ _ => ⟨rfl, e148, (show cells + 1 + 1 + 1 ≤ 4 from (Nat.le_trans (Nat.add_le_add_right hc 3) (by decide))), (show slots + 5 + 12 + 4 ≤ 23 from (Nat.le_trans (Nat.add_le_add_right hs 21) (by decide)))⟩)
  dsimp only [Pt.U, Pt.locs, Pt.cells, Pt.slots] at X149 l149 y149 z149 st149 hQ149
  have yy149 : k149 = cells + 1 + 1 + 1 := y149
  have zz149 : n149 = slots + 5 + 12 + 4 := z149
  rw [yy149, zz149, l149] at X149
  obtain ⟨b_149, g_149, rfl, N149q, K149, r0_149, r1_149, r2_149, r3_149⟩ := hQ149
  have N149 := Fr.app N146 N149q
  have Z0149 : n0 ≤ T149.heap.size := Nat.le_trans Z0148 K149.1
  have V149_bs := own_AFkeep V148_bs K149 nin0
  have V149_bv := own_AFkeep V148_bv K149 nin0
  have V149_b140 := own_AFkeep V148_b140 K149 nin0
  have V149_b148 := own_AFkeep V148 K149 nin0
  have Xa149_b148 := XX148.keep K149
  have Ex149_o0 := Ex148_o0.keep K149
  have F149_o0_starts := F148_o0_starts.keep K149 nin0
  have F149_o0_values := F148_o0_values.keep K149 nin0
  have KK149 : Keep h T149.heap [] := K148.trans K149 all0
  have nebs_149 : bs ≠ b_149 := Nat.ne_of_lt (Nat.lt_of_lt_of_le V148_bs.lt r1_149)
  have nebv_149 : bv ≠ b_149 := Nat.ne_of_lt (Nat.lt_of_lt_of_le V148_bv.lt r1_149)
  have neb140_149 : b140 ≠ b_149 := Nat.ne_of_lt (Nat.lt_of_lt_of_le V148_b140.lt r1_149)
  have neb148_149 : b148 ≠ b_149 := Nat.ne_of_lt (Nat.lt_of_lt_of_le V148.lt r1_149)
  have neo0_149 : o0 ≠ b_149 := Nat.ne_of_lt (Nat.lt_of_lt_of_le Ex148_o0.lt r1_149)
  have sz149 : h.size ≤ b_149 := Nat.le_trans K148.1 r1_149
  refine own_step st149 ?_
  show own_Fin p e below s Q 4 23 (T149.setTop (mkF m 84 #[.val (.ref o0), .val (.int (4 : Int32)), .val (.ref b140), .val (.ref b148), .val (.int (z.toInt32)), .val (.int i5142), s6142] [(.ref b_149)]))
  refine own_step (fun t k => XS.astore X149.here hx rfl (hb hby d18_84) rfl rfl (l' := #[.val (.ref o0), .val (.int (4 : Int32)), .val (.ref b140), .val (.ref b148), .val (.ref b_149), .val (.int i5142), s6142]) rfl k) ?_
  show own_Fin p e below s Q 4 23 (T149.setTop (mkF m 86 #[.val (.ref o0), .val (.int (4 : Int32)), .val (.ref b140), .val (.ref b148), .val (.ref b_149), .val (.int i5142), s6142] []))
  refine own_step (fun t k => XS.iconst X149.here hx rfl (hb hby d18_86) k) ?_
  show own_Fin p e below s Q 4 23 (T149.setTop (mkF m 87 #[.val (.ref o0), .val (.int (4 : Int32)), .val (.ref b140), .val (.ref b148), .val (.ref b_149), .val (.int i5142), s6142] [(.int (0 : Int32))]))
  refine own_step (fun t k => XS.istore X149.here hx rfl (hb hby d18_87) rfl (l' := #[.val (.ref o0), .val (.int (4 : Int32)), .val (.ref b140), .val (.ref b148), .val (.ref b_149), .val (.int (0 : Int32)), s6142]) rfl k) ?_
  show own_Fin p e below s Q 4 23 (T149.setTop (mkF m 89 #[.val (.ref o0), .val (.int (4 : Int32)), .val (.ref b140), .val (.ref b148), .val (.ref b_149), .val (.int (0 : Int32)), s6142] []))
  refine own_step (fun t k => XS.iload X149.here hx rfl (hb hby d18_89) rfl  k) ?_
  show own_Fin p e below s Q 4 23 (T149.setTop (mkF m 91 #[.val (.ref o0), .val (.int (4 : Int32)), .val (.ref b140), .val (.ref b148), .val (.ref b_149), .val (.int (0 : Int32)), s6142] [(.int (0 : Int32))]))
  refine own_step (fun t k => XS.iconst X149.here hx rfl (hb hby d18_91) k) ?_
  show own_Fin p e below s Q 4 23 (T149.setTop (mkF m 92 #[.val (.ref o0), .val (.int (4 : Int32)), .val (.ref b140), .val (.ref b148), .val (.ref b_149), .val (.int (0 : Int32)), s6142] [(.int (1 : Int32)), (.int (0 : Int32))]))
  refine own_step (fun t k => XS.iadd X149.here hx rfl (hb hby d18_92) rfl k) ?_
  show own_Fin p e below s Q 4 23 (T149.setTop (mkF m 93 #[.val (.ref o0), .val (.int (4 : Int32)), .val (.ref b140), .val (.ref b148), .val (.ref b_149), .val (.int (0 : Int32)), s6142] [(.int (1 : Int32))]))
  refine own_step (fun t k => XS.aloadN X149.here hx rfl (hb hby d18_93) rfl rfl k) ?_
  show own_Fin p e below s Q 4 23 (T149.setTop (mkF m 94 #[.val (.ref o0), .val (.int (4 : Int32)), .val (.ref b140), .val (.ref b148), .val (.ref b_149), .val (.int (0 : Int32)), s6142] [(.ref o0), (.int (1 : Int32))]))
  obtain ⟨T150, X150, e150, st150⟩ := getF X149 hx hZ hown (host := "") (Or.inl (hw _ (List.mem_of_getElem? (i := 88) rfl))) Via.refl rfl F149_o0_starts (g := (mkF m 94 #[.val (.ref o0), .val (.int (4 : Int32)), .val (.ref b140), .val (.ref b148), .val (.ref b_149), .val (.int (0 : Int32)), s6142] [(.ref o0), (.int (1 : Int32))])) rfl rfl (hb hby d18_94)
  refine own_step st150 ?_
  show own_Fin p e below s Q 4 23 (T150.setTop (mkF m 97 #[.val (.ref o0), .val (.int (4 : Int32)), .val (.ref b140), .val (.ref b148), .val (.ref b_149), .val (.int (0 : Int32)), s6142] [(.ref bs), (.int (1 : Int32))]))
  obtain ⟨ca97, Ar97, Sz97, Ht97⟩ := id V149_bs
  refine own_step (X150.arraylength hx (by rw [e150]; exact Ar97.1) (State.isArrayOf_alike hZ.alike Ar97.2.1) (g := (mkF m 97 #[.val (.ref o0), .val (.int (4 : Int32)), .val (.ref b140), .val (.ref b148), .val (.ref b_149), .val (.int (0 : Int32)), s6142] [(.ref bs), (.int (1 : Int32))])) rfl rfl (hb hby d18_97)) ?_
  rw [Sz97]
  show own_Fin p e below s Q 4 23 (T150.setTop (mkF m 98 #[.val (.ref o0), .val (.int (4 : Int32)), .val (.ref b140), .val (.ref b148), .val (.ref b_149), .val (.int (0 : Int32)), s6142] [(.int (5 : Int32)), (.int (1 : Int32))]))
  refine own_step (fun t k => XS.icmpNo X150.here hx rfl (hb hby d18_98) rfl (tlt (by decide : (1 : Int32) < (5 : Int32))).2.1 k) ?_
  show own_Fin p e below s Q 4 23 (T150.setTop (mkF m 101 #[.val (.ref o0), .val (.int (4 : Int32)), .val (.ref b140), .val (.ref b148), .val (.ref b_149), .val (.int (0 : Int32)), s6142] []))
  refine own_step (fun t k => XS.aloadN X150.here hx rfl (hb hby d18_101) rfl rfl k) ?_
  show own_Fin p e below s Q 4 23 (T150.setTop (mkF m 102 #[.val (.ref o0), .val (.int (4 : Int32)), .val (.ref b140), .val (.ref b148), .val (.ref b_149), .val (.int (0 : Int32)), s6142] [(.ref o0)]))
  obtain ⟨T151, X151, e151, st151⟩ := getF X150 hx hZ hown (host := "") (Or.inl (hw _ (List.mem_of_getElem? (i := 88) rfl))) Via.refl e150 F149_o0_starts (g := (mkF m 102 #[.val (.ref o0), .val (.int (4 : Int32)), .val (.ref b140), .val (.ref b148), .val (.ref b_149), .val (.int (0 : Int32)), s6142] [(.ref o0)])) rfl rfl (hb hby d18_102)
  refine own_step st151 ?_
  show own_Fin p e below s Q 4 23 (T151.setTop (mkF m 105 #[.val (.ref o0), .val (.int (4 : Int32)), .val (.ref b140), .val (.ref b148), .val (.ref b_149), .val (.int (0 : Int32)), s6142] [(.ref bs)]))
  refine own_step (fun t k => XS.iload X151.here hx rfl (hb hby d18_105) rfl  k) ?_
  show own_Fin p e below s Q 4 23 (T151.setTop (mkF m 107 #[.val (.ref o0), .val (.int (4 : Int32)), .val (.ref b140), .val (.ref b148), .val (.ref b_149), .val (.int (0 : Int32)), s6142] [(.int (0 : Int32)), (.ref bs)]))
  obtain ⟨ca107, Ar107, Sz107, Ht107⟩ := id V149_bs
  have hin107 : ¬ ((0 : Int32) < 0 ∨ ca107.slots.size ≤ ((0 : Int32)).toNatClampNeg) := by rw [Sz107]; exact (by decide)
  refine own_step (X151.iaload hx (j := (0 : Int32)) (v := (.int (gs ((0 : Int32)).toNatClampNeg))) (by rw [e151]; exact Ar107.1) (State.isArrayOf_alike hZ.alike Ar107.2.1) Ar107.2.2 hin107 (Ht107 _ (by have hq := Nat.lt_of_not_le (fun y => hin107 (Or.inr y)); rw [Sz107] at hq; exact hq)) (g := (mkF m 107 #[.val (.ref o0), .val (.int (4 : Int32)), .val (.ref b140), .val (.ref b148), .val (.ref b_149), .val (.int (0 : Int32)), s6142] [(.int (0 : Int32)), (.ref bs)])) rfl rfl (hb hby d18_107)) ?_
  show own_Fin p e below s Q 4 23 (T151.setTop (mkF m 108 #[.val (.ref o0), .val (.int (4 : Int32)), .val (.ref b140), .val (.ref b148), .val (.ref b_149), .val (.int (0 : Int32)), s6142] [(.int (gs ((0 : Int32)).toNatClampNeg))]))
  refine own_step (fun t k => XS.istoreS X151.here hx rfl (hb hby d18_108) rfl rfl hs6142 k) ?_
  show own_Fin p e below s Q 4 23 (T151.setTop (mkF m 110 #[.val (.ref o0), .val (.int (4 : Int32)), .val (.ref b140), .val (.ref b148), .val (.ref b_149), .val (.int (0 : Int32)), .val (.int (gs ((0 : Int32)).toNatClampNeg))] []))
  have J3i152 : own_J3 gv g_149 z ((gs ((0 : Int32)).toNatClampNeg)).toNatClampNeg := (by rw [show ((gs ((0 : Int32)).toNatClampNeg)).toNatClampNeg = 0 from own_0n (show ((gs ((0 : Int32)).toNatClampNeg)).toInt = 0 from hm.1)]; exact (own_J3c (own_J2 (by omega) hval J142 hgf143 hgf144 hgf145 hgf146) r3_149))
  refine own_l3 o0 b140 b148 b_149 bs bv (0 : Int32) (gs 1) z gs gv hw hx hZ hby hml hown hz hval fr148 r0_149 neo0_148 neo0_149 nebs_148 nebs_149 nebv_148 nebv_149 neb148_149 (by unfold own_In; decide) rfl (own_mon0 hm).2.1 (((gs 1).toInt - (gs ((0 : Int32)).toNatClampNeg).toInt).toNat) (fun _ => 0) g_149 (gs ((0 : Int32)).toNatClampNeg) X151 e151 N149 Z0149 Ex149_o0 F149_o0_starts F149_o0_values V149_bs V149_bv V149_b148 r2_149 (own_seg (own_mon0 hm).1 (own_mon0 hm).2.2.1 (own_mon0 hm).2.2.2) J3i152 ?_
  intro T152 locs152 h152 gI152 gF152 i6152 X152 e152 N152 K152 V3152 V4152 J152
  subst e152
  have Z0152 : n0 ≤ T152.heap.size := Nat.le_trans Z0149 K152.1
  have V152_bs := own_AFkeep V149_bs K152 (ninS nebs_148 (ninS nebs_149 nin0))
  have V152_bv := own_AFkeep V149_bv K152 (ninS nebv_148 (ninS nebv_149 nin0))
  have V152_b140 := own_AFkeep V149_b140 K152 (ninS neb140_148 (ninS neb140_149 nin0))
  have Xa152_b148 := Xa149_b148.keep K152
  have Ex152_o0 := Ex149_o0.keep K152
  have F152_o0_starts := F149_o0_starts.keep K152 (ninS neo0_148 (ninS neo0_149 nin0))
  have F152_o0_values := F149_o0_values.keep K152 (ninS neo0_148 (ninS neo0_149 nin0))
  have KK152 : Keep h T152.heap [] := KK149.trans K152 (allS (Or.inr sz148) (allS (Or.inr sz149) all0))
  show own_Fin p e below s Q 4 23 (T152.setTop (mkF m 149 #[.val (.ref o0), .val (.int (4 : Int32)), .val (.ref b140), .val (.ref b148), .val (.ref b_149), .val (.int (0 : Int32)), .val (.int i6152)] []))
  refine own_step (fun t k => XS.iinc X152.here hx rfl (hb hby d18_149) rfl (l' := #[.val (.ref o0), .val (.int (4 : Int32)), .val (.ref b140), .val (.ref b148), .val (.ref b_149), .val (.int (1 : Int32)), .val (.int i6152)]) rfl k) ?_
  show own_Fin p e below s Q 4 23 (T152.setTop (mkF m 152 #[.val (.ref o0), .val (.int (4 : Int32)), .val (.ref b140), .val (.ref b148), .val (.ref b_149), .val (.int (1 : Int32)), .val (.int i6152)] []))
  refine own_step (fun t k => XS.goto X152.here hx rfl (pc0 := 152) (pc' := 89) rfl (hb hby d18_152) (by decide) (by decide) k) ?_
  show own_Fin p e below s Q 4 23 (T152.setTop (mkF m 89 #[.val (.ref o0), .val (.int (4 : Int32)), .val (.ref b140), .val (.ref b148), .val (.ref b_149), .val (.int (1 : Int32)), .val (.int i6152)] []))
  refine own_step (fun t k => XS.iload X152.here hx rfl (hb hby d18_89) rfl  k) ?_
  show own_Fin p e below s Q 4 23 (T152.setTop (mkF m 91 #[.val (.ref o0), .val (.int (4 : Int32)), .val (.ref b140), .val (.ref b148), .val (.ref b_149), .val (.int (1 : Int32)), .val (.int i6152)] [(.int (1 : Int32))]))
  refine own_step (fun t k => XS.iconst X152.here hx rfl (hb hby d18_91) k) ?_
  show own_Fin p e below s Q 4 23 (T152.setTop (mkF m 92 #[.val (.ref o0), .val (.int (4 : Int32)), .val (.ref b140), .val (.ref b148), .val (.ref b_149), .val (.int (1 : Int32)), .val (.int i6152)] [(.int (1 : Int32)), (.int (1 : Int32))]))
  refine own_step (fun t k => XS.iadd X152.here hx rfl (hb hby d18_92) rfl k) ?_
  show own_Fin p e below s Q 4 23 (T152.setTop (mkF m 93 #[.val (.ref o0), .val (.int (4 : Int32)), .val (.ref b140), .val (.ref b148), .val (.ref b_149), .val (.int (1 : Int32)), .val (.int i6152)] [(.int (2 : Int32))]))
  refine own_step (fun t k => XS.aloadN X152.here hx rfl (hb hby d18_93) rfl rfl k) ?_
  show own_Fin p e below s Q 4 23 (T152.setTop (mkF m 94 #[.val (.ref o0), .val (.int (4 : Int32)), .val (.ref b140), .val (.ref b148), .val (.ref b_149), .val (.int (1 : Int32)), .val (.int i6152)] [(.ref o0), (.int (2 : Int32))]))
  obtain ⟨T153, X153, e153, st153⟩ := getF X152 hx hZ hown (host := "") (Or.inl (hw _ (List.mem_of_getElem? (i := 88) rfl))) Via.refl rfl F152_o0_starts (g := (mkF m 94 #[.val (.ref o0), .val (.int (4 : Int32)), .val (.ref b140), .val (.ref b148), .val (.ref b_149), .val (.int (1 : Int32)), .val (.int i6152)] [(.ref o0), (.int (2 : Int32))])) rfl rfl (hb hby d18_94)
  refine own_step st153 ?_
  show own_Fin p e below s Q 4 23 (T153.setTop (mkF m 97 #[.val (.ref o0), .val (.int (4 : Int32)), .val (.ref b140), .val (.ref b148), .val (.ref b_149), .val (.int (1 : Int32)), .val (.int i6152)] [(.ref bs), (.int (2 : Int32))]))
  obtain ⟨ca97, Ar97, Sz97, Ht97⟩ := id V152_bs
  refine own_step (X153.arraylength hx (by rw [e153]; exact Ar97.1) (State.isArrayOf_alike hZ.alike Ar97.2.1) (g := (mkF m 97 #[.val (.ref o0), .val (.int (4 : Int32)), .val (.ref b140), .val (.ref b148), .val (.ref b_149), .val (.int (1 : Int32)), .val (.int i6152)] [(.ref bs), (.int (2 : Int32))])) rfl rfl (hb hby d18_97)) ?_
  rw [Sz97]
  show own_Fin p e below s Q 4 23 (T153.setTop (mkF m 98 #[.val (.ref o0), .val (.int (4 : Int32)), .val (.ref b140), .val (.ref b148), .val (.ref b_149), .val (.int (1 : Int32)), .val (.int i6152)] [(.int (5 : Int32)), (.int (2 : Int32))]))
  refine own_step (fun t k => XS.icmpNo X153.here hx rfl (hb hby d18_98) rfl (tlt (by decide : (2 : Int32) < (5 : Int32))).2.1 k) ?_
  show own_Fin p e below s Q 4 23 (T153.setTop (mkF m 101 #[.val (.ref o0), .val (.int (4 : Int32)), .val (.ref b140), .val (.ref b148), .val (.ref b_149), .val (.int (1 : Int32)), .val (.int i6152)] []))
  refine own_step (fun t k => XS.aloadN X153.here hx rfl (hb hby d18_101) rfl rfl k) ?_
  show own_Fin p e below s Q 4 23 (T153.setTop (mkF m 102 #[.val (.ref o0), .val (.int (4 : Int32)), .val (.ref b140), .val (.ref b148), .val (.ref b_149), .val (.int (1 : Int32)), .val (.int i6152)] [(.ref o0)]))
  obtain ⟨T154, X154, e154, st154⟩ := getF X153 hx hZ hown (host := "") (Or.inl (hw _ (List.mem_of_getElem? (i := 88) rfl))) Via.refl e153 F152_o0_starts (g := (mkF m 102 #[.val (.ref o0), .val (.int (4 : Int32)), .val (.ref b140), .val (.ref b148), .val (.ref b_149), .val (.int (1 : Int32)), .val (.int i6152)] [(.ref o0)])) rfl rfl (hb hby d18_102)
  refine own_step st154 ?_
  show own_Fin p e below s Q 4 23 (T154.setTop (mkF m 105 #[.val (.ref o0), .val (.int (4 : Int32)), .val (.ref b140), .val (.ref b148), .val (.ref b_149), .val (.int (1 : Int32)), .val (.int i6152)] [(.ref bs)]))
  refine own_step (fun t k => XS.iload X154.here hx rfl (hb hby d18_105) rfl  k) ?_
  show own_Fin p e below s Q 4 23 (T154.setTop (mkF m 107 #[.val (.ref o0), .val (.int (4 : Int32)), .val (.ref b140), .val (.ref b148), .val (.ref b_149), .val (.int (1 : Int32)), .val (.int i6152)] [(.int (1 : Int32)), (.ref bs)]))
  obtain ⟨ca107, Ar107, Sz107, Ht107⟩ := id V152_bs
  have hin107 : ¬ ((1 : Int32) < 0 ∨ ca107.slots.size ≤ ((1 : Int32)).toNatClampNeg) := by rw [Sz107]; exact (by decide)
  refine own_step (X154.iaload hx (j := (1 : Int32)) (v := (.int (gs ((1 : Int32)).toNatClampNeg))) (by rw [e154]; exact Ar107.1) (State.isArrayOf_alike hZ.alike Ar107.2.1) Ar107.2.2 hin107 (Ht107 _ (by have hq := Nat.lt_of_not_le (fun y => hin107 (Or.inr y)); rw [Sz107] at hq; exact hq)) (g := (mkF m 107 #[.val (.ref o0), .val (.int (4 : Int32)), .val (.ref b140), .val (.ref b148), .val (.ref b_149), .val (.int (1 : Int32)), .val (.int i6152)] [(.int (1 : Int32)), (.ref bs)])) rfl rfl (hb hby d18_107)) ?_
  show own_Fin p e below s Q 4 23 (T154.setTop (mkF m 108 #[.val (.ref o0), .val (.int (4 : Int32)), .val (.ref b140), .val (.ref b148), .val (.ref b_149), .val (.int (1 : Int32)), .val (.int i6152)] [(.int (gs ((1 : Int32)).toNatClampNeg))]))
  refine own_step (fun t k => XS.istore X154.here hx rfl (hb hby d18_108) rfl (l' := #[.val (.ref o0), .val (.int (4 : Int32)), .val (.ref b140), .val (.ref b148), .val (.ref b_149), .val (.int (1 : Int32)), .val (.int (gs ((1 : Int32)).toNatClampNeg))]) rfl k) ?_
  show own_Fin p e below s Q 4 23 (T154.setTop (mkF m 110 #[.val (.ref o0), .val (.int (4 : Int32)), .val (.ref b140), .val (.ref b148), .val (.ref b_149), .val (.int (1 : Int32)), .val (.int (gs ((1 : Int32)).toNatClampNeg))] []))
  have J3i155 : own_J3 gv gF152 z ((gs ((1 : Int32)).toNatClampNeg)).toNatClampNeg := J152
  refine own_l3 o0 b140 b148 b_149 bs bv (1 : Int32) (gs 2) z gs gv hw hx hZ hby hml hown hz hval fr148 r0_149 neo0_148 neo0_149 nebs_148 nebs_149 nebv_148 nebv_149 neb148_149 (by unfold own_In; decide) rfl (own_mon1 hm).2.1 (((gs 2).toInt - (gs ((1 : Int32)).toNatClampNeg).toInt).toNat) gI152 gF152 (gs ((1 : Int32)).toNatClampNeg) X154 e154 N152 Z0152 Ex152_o0 F152_o0_starts F152_o0_values V152_bs V152_bv V3152 V4152 (own_seg (own_mon1 hm).1 (own_mon1 hm).2.2.1 (own_mon1 hm).2.2.2) J3i155 ?_
  intro T155 locs155 h155 gI155 gF155 i6155 X155 e155 N155 K155 V3155 V4155 J155
  subst e155
  have Z0155 : n0 ≤ T155.heap.size := Nat.le_trans Z0152 K155.1
  have V155_bs := own_AFkeep V152_bs K155 (ninS nebs_148 (ninS nebs_149 nin0))
  have V155_bv := own_AFkeep V152_bv K155 (ninS nebv_148 (ninS nebv_149 nin0))
  have V155_b140 := own_AFkeep V152_b140 K155 (ninS neb140_148 (ninS neb140_149 nin0))
  have Xa155_b148 := Xa152_b148.keep K155
  have Ex155_o0 := Ex152_o0.keep K155
  have F155_o0_starts := F152_o0_starts.keep K155 (ninS neo0_148 (ninS neo0_149 nin0))
  have F155_o0_values := F152_o0_values.keep K155 (ninS neo0_148 (ninS neo0_149 nin0))
  have KK155 : Keep h T155.heap [] := KK152.trans K155 (allS (Or.inr sz148) (allS (Or.inr sz149) all0))
  show own_Fin p e below s Q 4 23 (T155.setTop (mkF m 149 #[.val (.ref o0), .val (.int (4 : Int32)), .val (.ref b140), .val (.ref b148), .val (.ref b_149), .val (.int (1 : Int32)), .val (.int i6155)] []))
  refine own_step (fun t k => XS.iinc X155.here hx rfl (hb hby d18_149) rfl (l' := #[.val (.ref o0), .val (.int (4 : Int32)), .val (.ref b140), .val (.ref b148), .val (.ref b_149), .val (.int (2 : Int32)), .val (.int i6155)]) rfl k) ?_
  show own_Fin p e below s Q 4 23 (T155.setTop (mkF m 152 #[.val (.ref o0), .val (.int (4 : Int32)), .val (.ref b140), .val (.ref b148), .val (.ref b_149), .val (.int (2 : Int32)), .val (.int i6155)] []))
  refine own_step (fun t k => XS.goto X155.here hx rfl (pc0 := 152) (pc' := 89) rfl (hb hby d18_152) (by decide) (by decide) k) ?_
  show own_Fin p e below s Q 4 23 (T155.setTop (mkF m 89 #[.val (.ref o0), .val (.int (4 : Int32)), .val (.ref b140), .val (.ref b148), .val (.ref b_149), .val (.int (2 : Int32)), .val (.int i6155)] []))
  refine own_step (fun t k => XS.iload X155.here hx rfl (hb hby d18_89) rfl  k) ?_
  show own_Fin p e below s Q 4 23 (T155.setTop (mkF m 91 #[.val (.ref o0), .val (.int (4 : Int32)), .val (.ref b140), .val (.ref b148), .val (.ref b_149), .val (.int (2 : Int32)), .val (.int i6155)] [(.int (2 : Int32))]))
  refine own_step (fun t k => XS.iconst X155.here hx rfl (hb hby d18_91) k) ?_
  show own_Fin p e below s Q 4 23 (T155.setTop (mkF m 92 #[.val (.ref o0), .val (.int (4 : Int32)), .val (.ref b140), .val (.ref b148), .val (.ref b_149), .val (.int (2 : Int32)), .val (.int i6155)] [(.int (1 : Int32)), (.int (2 : Int32))]))
  refine own_step (fun t k => XS.iadd X155.here hx rfl (hb hby d18_92) rfl k) ?_
  show own_Fin p e below s Q 4 23 (T155.setTop (mkF m 93 #[.val (.ref o0), .val (.int (4 : Int32)), .val (.ref b140), .val (.ref b148), .val (.ref b_149), .val (.int (2 : Int32)), .val (.int i6155)] [(.int (3 : Int32))]))
  refine own_step (fun t k => XS.aloadN X155.here hx rfl (hb hby d18_93) rfl rfl k) ?_
  show own_Fin p e below s Q 4 23 (T155.setTop (mkF m 94 #[.val (.ref o0), .val (.int (4 : Int32)), .val (.ref b140), .val (.ref b148), .val (.ref b_149), .val (.int (2 : Int32)), .val (.int i6155)] [(.ref o0), (.int (3 : Int32))]))
  obtain ⟨T156, X156, e156, st156⟩ := getF X155 hx hZ hown (host := "") (Or.inl (hw _ (List.mem_of_getElem? (i := 88) rfl))) Via.refl rfl F155_o0_starts (g := (mkF m 94 #[.val (.ref o0), .val (.int (4 : Int32)), .val (.ref b140), .val (.ref b148), .val (.ref b_149), .val (.int (2 : Int32)), .val (.int i6155)] [(.ref o0), (.int (3 : Int32))])) rfl rfl (hb hby d18_94)
  refine own_step st156 ?_
  show own_Fin p e below s Q 4 23 (T156.setTop (mkF m 97 #[.val (.ref o0), .val (.int (4 : Int32)), .val (.ref b140), .val (.ref b148), .val (.ref b_149), .val (.int (2 : Int32)), .val (.int i6155)] [(.ref bs), (.int (3 : Int32))]))
  obtain ⟨ca97, Ar97, Sz97, Ht97⟩ := id V155_bs
  refine own_step (X156.arraylength hx (by rw [e156]; exact Ar97.1) (State.isArrayOf_alike hZ.alike Ar97.2.1) (g := (mkF m 97 #[.val (.ref o0), .val (.int (4 : Int32)), .val (.ref b140), .val (.ref b148), .val (.ref b_149), .val (.int (2 : Int32)), .val (.int i6155)] [(.ref bs), (.int (3 : Int32))])) rfl rfl (hb hby d18_97)) ?_
  rw [Sz97]
  show own_Fin p e below s Q 4 23 (T156.setTop (mkF m 98 #[.val (.ref o0), .val (.int (4 : Int32)), .val (.ref b140), .val (.ref b148), .val (.ref b_149), .val (.int (2 : Int32)), .val (.int i6155)] [(.int (5 : Int32)), (.int (3 : Int32))]))
  refine own_step (fun t k => XS.icmpNo X156.here hx rfl (hb hby d18_98) rfl (tlt (by decide : (3 : Int32) < (5 : Int32))).2.1 k) ?_
  show own_Fin p e below s Q 4 23 (T156.setTop (mkF m 101 #[.val (.ref o0), .val (.int (4 : Int32)), .val (.ref b140), .val (.ref b148), .val (.ref b_149), .val (.int (2 : Int32)), .val (.int i6155)] []))
  refine own_step (fun t k => XS.aloadN X156.here hx rfl (hb hby d18_101) rfl rfl k) ?_
  show own_Fin p e below s Q 4 23 (T156.setTop (mkF m 102 #[.val (.ref o0), .val (.int (4 : Int32)), .val (.ref b140), .val (.ref b148), .val (.ref b_149), .val (.int (2 : Int32)), .val (.int i6155)] [(.ref o0)]))
  obtain ⟨T157, X157, e157, st157⟩ := getF X156 hx hZ hown (host := "") (Or.inl (hw _ (List.mem_of_getElem? (i := 88) rfl))) Via.refl e156 F155_o0_starts (g := (mkF m 102 #[.val (.ref o0), .val (.int (4 : Int32)), .val (.ref b140), .val (.ref b148), .val (.ref b_149), .val (.int (2 : Int32)), .val (.int i6155)] [(.ref o0)])) rfl rfl (hb hby d18_102)
  refine own_step st157 ?_
  show own_Fin p e below s Q 4 23 (T157.setTop (mkF m 105 #[.val (.ref o0), .val (.int (4 : Int32)), .val (.ref b140), .val (.ref b148), .val (.ref b_149), .val (.int (2 : Int32)), .val (.int i6155)] [(.ref bs)]))
  refine own_step (fun t k => XS.iload X157.here hx rfl (hb hby d18_105) rfl  k) ?_
  show own_Fin p e below s Q 4 23 (T157.setTop (mkF m 107 #[.val (.ref o0), .val (.int (4 : Int32)), .val (.ref b140), .val (.ref b148), .val (.ref b_149), .val (.int (2 : Int32)), .val (.int i6155)] [(.int (2 : Int32)), (.ref bs)]))
  obtain ⟨ca107, Ar107, Sz107, Ht107⟩ := id V155_bs
  have hin107 : ¬ ((2 : Int32) < 0 ∨ ca107.slots.size ≤ ((2 : Int32)).toNatClampNeg) := by rw [Sz107]; exact (by decide)
  refine own_step (X157.iaload hx (j := (2 : Int32)) (v := (.int (gs ((2 : Int32)).toNatClampNeg))) (by rw [e157]; exact Ar107.1) (State.isArrayOf_alike hZ.alike Ar107.2.1) Ar107.2.2 hin107 (Ht107 _ (by have hq := Nat.lt_of_not_le (fun y => hin107 (Or.inr y)); rw [Sz107] at hq; exact hq)) (g := (mkF m 107 #[.val (.ref o0), .val (.int (4 : Int32)), .val (.ref b140), .val (.ref b148), .val (.ref b_149), .val (.int (2 : Int32)), .val (.int i6155)] [(.int (2 : Int32)), (.ref bs)])) rfl rfl (hb hby d18_107)) ?_
  show own_Fin p e below s Q 4 23 (T157.setTop (mkF m 108 #[.val (.ref o0), .val (.int (4 : Int32)), .val (.ref b140), .val (.ref b148), .val (.ref b_149), .val (.int (2 : Int32)), .val (.int i6155)] [(.int (gs ((2 : Int32)).toNatClampNeg))]))
  refine own_step (fun t k => XS.istore X157.here hx rfl (hb hby d18_108) rfl (l' := #[.val (.ref o0), .val (.int (4 : Int32)), .val (.ref b140), .val (.ref b148), .val (.ref b_149), .val (.int (2 : Int32)), .val (.int (gs ((2 : Int32)).toNatClampNeg))]) rfl k) ?_
  show own_Fin p e below s Q 4 23 (T157.setTop (mkF m 110 #[.val (.ref o0), .val (.int (4 : Int32)), .val (.ref b140), .val (.ref b148), .val (.ref b_149), .val (.int (2 : Int32)), .val (.int (gs ((2 : Int32)).toNatClampNeg))] []))
  have J3i158 : own_J3 gv gF155 z ((gs ((2 : Int32)).toNatClampNeg)).toNatClampNeg := J155
  refine own_l3 o0 b140 b148 b_149 bs bv (2 : Int32) (gs 3) z gs gv hw hx hZ hby hml hown hz hval fr148 r0_149 neo0_148 neo0_149 nebs_148 nebs_149 nebv_148 nebv_149 neb148_149 (by unfold own_In; decide) rfl (own_mon2 hm).2.1 (((gs 3).toInt - (gs ((2 : Int32)).toNatClampNeg).toInt).toNat) gI155 gF155 (gs ((2 : Int32)).toNatClampNeg) X157 e157 N155 Z0155 Ex155_o0 F155_o0_starts F155_o0_values V155_bs V155_bv V3155 V4155 (own_seg (own_mon2 hm).1 (own_mon2 hm).2.2.1 (own_mon2 hm).2.2.2) J3i158 ?_
  intro T158 locs158 h158 gI158 gF158 i6158 X158 e158 N158 K158 V3158 V4158 J158
  subst e158
  have Z0158 : n0 ≤ T158.heap.size := Nat.le_trans Z0155 K158.1
  have V158_bs := own_AFkeep V155_bs K158 (ninS nebs_148 (ninS nebs_149 nin0))
  have V158_bv := own_AFkeep V155_bv K158 (ninS nebv_148 (ninS nebv_149 nin0))
  have V158_b140 := own_AFkeep V155_b140 K158 (ninS neb140_148 (ninS neb140_149 nin0))
  have Xa158_b148 := Xa155_b148.keep K158
  have Ex158_o0 := Ex155_o0.keep K158
  have F158_o0_starts := F155_o0_starts.keep K158 (ninS neo0_148 (ninS neo0_149 nin0))
  have F158_o0_values := F155_o0_values.keep K158 (ninS neo0_148 (ninS neo0_149 nin0))
  have KK158 : Keep h T158.heap [] := KK155.trans K158 (allS (Or.inr sz148) (allS (Or.inr sz149) all0))
  show own_Fin p e below s Q 4 23 (T158.setTop (mkF m 149 #[.val (.ref o0), .val (.int (4 : Int32)), .val (.ref b140), .val (.ref b148), .val (.ref b_149), .val (.int (2 : Int32)), .val (.int i6158)] []))
  refine own_step (fun t k => XS.iinc X158.here hx rfl (hb hby d18_149) rfl (l' := #[.val (.ref o0), .val (.int (4 : Int32)), .val (.ref b140), .val (.ref b148), .val (.ref b_149), .val (.int (3 : Int32)), .val (.int i6158)]) rfl k) ?_
  show own_Fin p e below s Q 4 23 (T158.setTop (mkF m 152 #[.val (.ref o0), .val (.int (4 : Int32)), .val (.ref b140), .val (.ref b148), .val (.ref b_149), .val (.int (3 : Int32)), .val (.int i6158)] []))
  refine own_step (fun t k => XS.goto X158.here hx rfl (pc0 := 152) (pc' := 89) rfl (hb hby d18_152) (by decide) (by decide) k) ?_
  show own_Fin p e below s Q 4 23 (T158.setTop (mkF m 89 #[.val (.ref o0), .val (.int (4 : Int32)), .val (.ref b140), .val (.ref b148), .val (.ref b_149), .val (.int (3 : Int32)), .val (.int i6158)] []))
  refine own_step (fun t k => XS.iload X158.here hx rfl (hb hby d18_89) rfl  k) ?_
  show own_Fin p e below s Q 4 23 (T158.setTop (mkF m 91 #[.val (.ref o0), .val (.int (4 : Int32)), .val (.ref b140), .val (.ref b148), .val (.ref b_149), .val (.int (3 : Int32)), .val (.int i6158)] [(.int (3 : Int32))]))
  refine own_step (fun t k => XS.iconst X158.here hx rfl (hb hby d18_91) k) ?_
  show own_Fin p e below s Q 4 23 (T158.setTop (mkF m 92 #[.val (.ref o0), .val (.int (4 : Int32)), .val (.ref b140), .val (.ref b148), .val (.ref b_149), .val (.int (3 : Int32)), .val (.int i6158)] [(.int (1 : Int32)), (.int (3 : Int32))]))
  refine own_step (fun t k => XS.iadd X158.here hx rfl (hb hby d18_92) rfl k) ?_
  show own_Fin p e below s Q 4 23 (T158.setTop (mkF m 93 #[.val (.ref o0), .val (.int (4 : Int32)), .val (.ref b140), .val (.ref b148), .val (.ref b_149), .val (.int (3 : Int32)), .val (.int i6158)] [(.int (4 : Int32))]))
  refine own_step (fun t k => XS.aloadN X158.here hx rfl (hb hby d18_93) rfl rfl k) ?_
  show own_Fin p e below s Q 4 23 (T158.setTop (mkF m 94 #[.val (.ref o0), .val (.int (4 : Int32)), .val (.ref b140), .val (.ref b148), .val (.ref b_149), .val (.int (3 : Int32)), .val (.int i6158)] [(.ref o0), (.int (4 : Int32))]))
  obtain ⟨T159, X159, e159, st159⟩ := getF X158 hx hZ hown (host := "") (Or.inl (hw _ (List.mem_of_getElem? (i := 88) rfl))) Via.refl rfl F158_o0_starts (g := (mkF m 94 #[.val (.ref o0), .val (.int (4 : Int32)), .val (.ref b140), .val (.ref b148), .val (.ref b_149), .val (.int (3 : Int32)), .val (.int i6158)] [(.ref o0), (.int (4 : Int32))])) rfl rfl (hb hby d18_94)
  refine own_step st159 ?_
  show own_Fin p e below s Q 4 23 (T159.setTop (mkF m 97 #[.val (.ref o0), .val (.int (4 : Int32)), .val (.ref b140), .val (.ref b148), .val (.ref b_149), .val (.int (3 : Int32)), .val (.int i6158)] [(.ref bs), (.int (4 : Int32))]))
  obtain ⟨ca97, Ar97, Sz97, Ht97⟩ := id V158_bs
  refine own_step (X159.arraylength hx (by rw [e159]; exact Ar97.1) (State.isArrayOf_alike hZ.alike Ar97.2.1) (g := (mkF m 97 #[.val (.ref o0), .val (.int (4 : Int32)), .val (.ref b140), .val (.ref b148), .val (.ref b_149), .val (.int (3 : Int32)), .val (.int i6158)] [(.ref bs), (.int (4 : Int32))])) rfl rfl (hb hby d18_97)) ?_
  rw [Sz97]
  show own_Fin p e below s Q 4 23 (T159.setTop (mkF m 98 #[.val (.ref o0), .val (.int (4 : Int32)), .val (.ref b140), .val (.ref b148), .val (.ref b_149), .val (.int (3 : Int32)), .val (.int i6158)] [(.int (5 : Int32)), (.int (4 : Int32))]))
  refine own_step (fun t k => XS.icmpNo X159.here hx rfl (hb hby d18_98) rfl (tlt (by decide : (4 : Int32) < (5 : Int32))).2.1 k) ?_
  show own_Fin p e below s Q 4 23 (T159.setTop (mkF m 101 #[.val (.ref o0), .val (.int (4 : Int32)), .val (.ref b140), .val (.ref b148), .val (.ref b_149), .val (.int (3 : Int32)), .val (.int i6158)] []))
  refine own_step (fun t k => XS.aloadN X159.here hx rfl (hb hby d18_101) rfl rfl k) ?_
  show own_Fin p e below s Q 4 23 (T159.setTop (mkF m 102 #[.val (.ref o0), .val (.int (4 : Int32)), .val (.ref b140), .val (.ref b148), .val (.ref b_149), .val (.int (3 : Int32)), .val (.int i6158)] [(.ref o0)]))
  obtain ⟨T160, X160, e160, st160⟩ := getF X159 hx hZ hown (host := "") (Or.inl (hw _ (List.mem_of_getElem? (i := 88) rfl))) Via.refl e159 F158_o0_starts (g := (mkF m 102 #[.val (.ref o0), .val (.int (4 : Int32)), .val (.ref b140), .val (.ref b148), .val (.ref b_149), .val (.int (3 : Int32)), .val (.int i6158)] [(.ref o0)])) rfl rfl (hb hby d18_102)
  refine own_step st160 ?_
  show own_Fin p e below s Q 4 23 (T160.setTop (mkF m 105 #[.val (.ref o0), .val (.int (4 : Int32)), .val (.ref b140), .val (.ref b148), .val (.ref b_149), .val (.int (3 : Int32)), .val (.int i6158)] [(.ref bs)]))
  refine own_step (fun t k => XS.iload X160.here hx rfl (hb hby d18_105) rfl  k) ?_
  show own_Fin p e below s Q 4 23 (T160.setTop (mkF m 107 #[.val (.ref o0), .val (.int (4 : Int32)), .val (.ref b140), .val (.ref b148), .val (.ref b_149), .val (.int (3 : Int32)), .val (.int i6158)] [(.int (3 : Int32)), (.ref bs)]))
  obtain ⟨ca107, Ar107, Sz107, Ht107⟩ := id V158_bs
  have hin107 : ¬ ((3 : Int32) < 0 ∨ ca107.slots.size ≤ ((3 : Int32)).toNatClampNeg) := by rw [Sz107]; exact (by decide)
  refine own_step (X160.iaload hx (j := (3 : Int32)) (v := (.int (gs ((3 : Int32)).toNatClampNeg))) (by rw [e160]; exact Ar107.1) (State.isArrayOf_alike hZ.alike Ar107.2.1) Ar107.2.2 hin107 (Ht107 _ (by have hq := Nat.lt_of_not_le (fun y => hin107 (Or.inr y)); rw [Sz107] at hq; exact hq)) (g := (mkF m 107 #[.val (.ref o0), .val (.int (4 : Int32)), .val (.ref b140), .val (.ref b148), .val (.ref b_149), .val (.int (3 : Int32)), .val (.int i6158)] [(.int (3 : Int32)), (.ref bs)])) rfl rfl (hb hby d18_107)) ?_
  show own_Fin p e below s Q 4 23 (T160.setTop (mkF m 108 #[.val (.ref o0), .val (.int (4 : Int32)), .val (.ref b140), .val (.ref b148), .val (.ref b_149), .val (.int (3 : Int32)), .val (.int i6158)] [(.int (gs ((3 : Int32)).toNatClampNeg))]))
  refine own_step (fun t k => XS.istore X160.here hx rfl (hb hby d18_108) rfl (l' := #[.val (.ref o0), .val (.int (4 : Int32)), .val (.ref b140), .val (.ref b148), .val (.ref b_149), .val (.int (3 : Int32)), .val (.int (gs ((3 : Int32)).toNatClampNeg))]) rfl k) ?_
  show own_Fin p e below s Q 4 23 (T160.setTop (mkF m 110 #[.val (.ref o0), .val (.int (4 : Int32)), .val (.ref b140), .val (.ref b148), .val (.ref b_149), .val (.int (3 : Int32)), .val (.int (gs ((3 : Int32)).toNatClampNeg))] []))
  have J3i161 : own_J3 gv gF158 z ((gs ((3 : Int32)).toNatClampNeg)).toNatClampNeg := J158
  refine own_l3 o0 b140 b148 b_149 bs bv (3 : Int32) (gs 4) z gs gv hw hx hZ hby hml hown hz hval fr148 r0_149 neo0_148 neo0_149 nebs_148 nebs_149 nebv_148 nebv_149 neb148_149 (by unfold own_In; decide) rfl (own_mon3 hm).2.1 (((gs 4).toInt - (gs ((3 : Int32)).toNatClampNeg).toInt).toNat) gI158 gF158 (gs ((3 : Int32)).toNatClampNeg) X160 e160 N158 Z0158 Ex158_o0 F158_o0_starts F158_o0_values V158_bs V158_bv V3158 V4158 (own_seg (own_mon3 hm).1 (own_mon3 hm).2.2.1 (own_mon3 hm).2.2.2) J3i161 ?_
  intro T161 locs161 h161 gI161 gF161 i6161 X161 e161 N161 K161 V3161 V4161 J161
  subst e161
  have Z0161 : n0 ≤ T161.heap.size := Nat.le_trans Z0158 K161.1
  have V161_bs := own_AFkeep V158_bs K161 (ninS nebs_148 (ninS nebs_149 nin0))
  have V161_bv := own_AFkeep V158_bv K161 (ninS nebv_148 (ninS nebv_149 nin0))
  have V161_b140 := own_AFkeep V158_b140 K161 (ninS neb140_148 (ninS neb140_149 nin0))
  have Xa161_b148 := Xa158_b148.keep K161
  have Ex161_o0 := Ex158_o0.keep K161
  have F161_o0_starts := F158_o0_starts.keep K161 (ninS neo0_148 (ninS neo0_149 nin0))
  have F161_o0_values := F158_o0_values.keep K161 (ninS neo0_148 (ninS neo0_149 nin0))
  have KK161 : Keep h T161.heap [] := KK158.trans K161 (allS (Or.inr sz148) (allS (Or.inr sz149) all0))
  show own_Fin p e below s Q 4 23 (T161.setTop (mkF m 149 #[.val (.ref o0), .val (.int (4 : Int32)), .val (.ref b140), .val (.ref b148), .val (.ref b_149), .val (.int (3 : Int32)), .val (.int i6161)] []))
  refine own_step (fun t k => XS.iinc X161.here hx rfl (hb hby d18_149) rfl (l' := #[.val (.ref o0), .val (.int (4 : Int32)), .val (.ref b140), .val (.ref b148), .val (.ref b_149), .val (.int (4 : Int32)), .val (.int i6161)]) rfl k) ?_
  show own_Fin p e below s Q 4 23 (T161.setTop (mkF m 152 #[.val (.ref o0), .val (.int (4 : Int32)), .val (.ref b140), .val (.ref b148), .val (.ref b_149), .val (.int (4 : Int32)), .val (.int i6161)] []))
  refine own_step (fun t k => XS.goto X161.here hx rfl (pc0 := 152) (pc' := 89) rfl (hb hby d18_152) (by decide) (by decide) k) ?_
  show own_Fin p e below s Q 4 23 (T161.setTop (mkF m 89 #[.val (.ref o0), .val (.int (4 : Int32)), .val (.ref b140), .val (.ref b148), .val (.ref b_149), .val (.int (4 : Int32)), .val (.int i6161)] []))
  refine own_step (fun t k => XS.iload X161.here hx rfl (hb hby d18_89) rfl  k) ?_
  show own_Fin p e below s Q 4 23 (T161.setTop (mkF m 91 #[.val (.ref o0), .val (.int (4 : Int32)), .val (.ref b140), .val (.ref b148), .val (.ref b_149), .val (.int (4 : Int32)), .val (.int i6161)] [(.int (4 : Int32))]))
  refine own_step (fun t k => XS.iconst X161.here hx rfl (hb hby d18_91) k) ?_
  show own_Fin p e below s Q 4 23 (T161.setTop (mkF m 92 #[.val (.ref o0), .val (.int (4 : Int32)), .val (.ref b140), .val (.ref b148), .val (.ref b_149), .val (.int (4 : Int32)), .val (.int i6161)] [(.int (1 : Int32)), (.int (4 : Int32))]))
  refine own_step (fun t k => XS.iadd X161.here hx rfl (hb hby d18_92) rfl k) ?_
  show own_Fin p e below s Q 4 23 (T161.setTop (mkF m 93 #[.val (.ref o0), .val (.int (4 : Int32)), .val (.ref b140), .val (.ref b148), .val (.ref b_149), .val (.int (4 : Int32)), .val (.int i6161)] [(.int (5 : Int32))]))
  refine own_step (fun t k => XS.aloadN X161.here hx rfl (hb hby d18_93) rfl rfl k) ?_
  show own_Fin p e below s Q 4 23 (T161.setTop (mkF m 94 #[.val (.ref o0), .val (.int (4 : Int32)), .val (.ref b140), .val (.ref b148), .val (.ref b_149), .val (.int (4 : Int32)), .val (.int i6161)] [(.ref o0), (.int (5 : Int32))]))
  obtain ⟨T162, X162, e162, st162⟩ := getF X161 hx hZ hown (host := "") (Or.inl (hw _ (List.mem_of_getElem? (i := 88) rfl))) Via.refl rfl F161_o0_starts (g := (mkF m 94 #[.val (.ref o0), .val (.int (4 : Int32)), .val (.ref b140), .val (.ref b148), .val (.ref b_149), .val (.int (4 : Int32)), .val (.int i6161)] [(.ref o0), (.int (5 : Int32))])) rfl rfl (hb hby d18_94)
  refine own_step st162 ?_
  show own_Fin p e below s Q 4 23 (T162.setTop (mkF m 97 #[.val (.ref o0), .val (.int (4 : Int32)), .val (.ref b140), .val (.ref b148), .val (.ref b_149), .val (.int (4 : Int32)), .val (.int i6161)] [(.ref bs), (.int (5 : Int32))]))
  obtain ⟨ca97, Ar97, Sz97, Ht97⟩ := id V161_bs
  refine own_step (X162.arraylength hx (by rw [e162]; exact Ar97.1) (State.isArrayOf_alike hZ.alike Ar97.2.1) (g := (mkF m 97 #[.val (.ref o0), .val (.int (4 : Int32)), .val (.ref b140), .val (.ref b148), .val (.ref b_149), .val (.int (4 : Int32)), .val (.int i6161)] [(.ref bs), (.int (5 : Int32))])) rfl rfl (hb hby d18_97)) ?_
  rw [Sz97]
  show own_Fin p e below s Q 4 23 (T162.setTop (mkF m 98 #[.val (.ref o0), .val (.int (4 : Int32)), .val (.ref b140), .val (.ref b148), .val (.ref b_149), .val (.int (4 : Int32)), .val (.int i6161)] [(.int (5 : Int32)), (.int (5 : Int32))]))
  refine own_step (fun t k => XS.icmpYes X162.here hx rfl (pc0 := 98) (pc' := 155) rfl (hb hby d18_98) rfl (flt (by decide : ¬ ((5 : Int32) < (5 : Int32)))).2.1 (by decide) (by decide) k) ?_
  show own_Fin p e below s Q 4 23 (T162.setTop (mkF m 155 #[.val (.ref o0), .val (.int (4 : Int32)), .val (.ref b140), .val (.ref b148), .val (.ref b_149), .val (.int (4 : Int32)), .val (.int i6161)] []))
  obtain ⟨T163, h163, X163, e163, E163, A163, D163, -, st163⟩ := newO X162 hx hZ hown (hw _ (List.mem_of_getElem? (i := 137) rfl)) (hw _ (List.mem_of_getElem? (i := 74) rfl)) (hw _ (List.mem_of_getElem? (i := 75) rfl)) e162 (g := (mkF m 155 #[.val (.ref o0), .val (.int (4 : Int32)), .val (.ref b140), .val (.ref b148), .val (.ref b_149), .val (.int (4 : Int32)), .val (.int i6161)] [])) rfl (hb hby d18_155) (show cells + 1 + 1 + 1 + 1 ≤ 4 from (Nat.le_trans (Nat.add_le_add_right hc 4) (by decide))) (show slots + 5 + 12 + 4 + 2 ≤ 23 from (Nat.le_trans (Nat.add_le_add_right hs 23) (by decide)))
  obtain ⟨b163, gg163⟩ : ∃ z, z = T161.heap.size := ⟨_, rfl⟩
  rw [← gg163] at A163 D163 st163
  have F163_starts : Fld Z h163 b163 "com/example/libentitle/libentitle/role/Rows" "starts" "[I" .null := D163 (Or.inr (hw _ (List.mem_of_getElem? (i := 89) rfl))) (ty := (.array .int)) (by decide)
  have F163_values : Fld Z h163 b163 "com/example/libentitle/libentitle/role/Rows" "values" "[I" .null := D163 (Or.inr (hw _ (List.mem_of_getElem? (i := 114) rfl))) (ty := (.array .int)) (by decide)
  have fr163 : n0 ≤ b163 := Nat.le_trans Z0161 (Nat.le_of_eq gg163.symm)
  have Z0163 : n0 ≤ h163.size := Nat.le_trans Z0161 E163.1
  have nebs_163 : bs ≠ b163 := Nat.ne_of_lt (Nat.lt_of_lt_of_le V161_bs.lt (Nat.le_of_eq gg163.symm))
  have nebv_163 : bv ≠ b163 := Nat.ne_of_lt (Nat.lt_of_lt_of_le V161_bv.lt (Nat.le_of_eq gg163.symm))
  have neb140_163 : b140 ≠ b163 := Nat.ne_of_lt (Nat.lt_of_lt_of_le V161_b140.lt (Nat.le_of_eq gg163.symm))
  have neb148_163 : b148 ≠ b163 := Nat.ne_of_lt (Nat.lt_of_lt_of_le V3161.lt (Nat.le_of_eq gg163.symm))
  have neb_149_163 : b_149 ≠ b163 := Nat.ne_of_lt (Nat.lt_of_lt_of_le V4161.lt (Nat.le_of_eq gg163.symm))
  have neo0_163 : o0 ≠ b163 := Nat.ne_of_lt (Nat.lt_of_lt_of_le Ex161_o0.lt (Nat.le_of_eq gg163.symm))
  have sz163 : h.size ≤ b163 := Nat.le_trans KK161.1 (Nat.le_of_eq gg163.symm)
  have V163_bs := own_AFext V161_bs E163
  have V163_bv := own_AFext V161_bv E163
  have V163_b140 := own_AFext V161_b140 E163
  have V163_b148 := own_AFext V3161 E163
  have V163_b_149 := own_AFext V4161 E163
  have Ex163_o0 := Ex161_o0.ext E163
  have F163_o0_starts := F161_o0_starts.ext E163
  have F163_o0_values := F161_o0_values.ext E163
  have Xa163_b148 := Xa161_b148.ext E163
  have K163 : Keep h h163 [] := KK161.ext E163
  refine own_step st163 ?_
  show own_Fin p e below s Q 4 23 (T163.setTop (mkF m 158 #[.val (.ref o0), .val (.int (4 : Int32)), .val (.ref b140), .val (.ref b148), .val (.ref b_149), .val (.int (4 : Int32)), .val (.int i6161)] [(.ref b163)]))
  refine own_step (fun t k => XS.dup X163.here hx rfl (hb hby d18_158) rfl rfl k) ?_
  show own_Fin p e below s Q 4 23 (T163.setTop (mkF m 159 #[.val (.ref o0), .val (.int (4 : Int32)), .val (.ref b140), .val (.ref b148), .val (.ref b_149), .val (.int (4 : Int32)), .val (.int i6161)] [(.ref b163), (.ref b163)]))
  refine own_step (fun t k => XS.aloadN X163.here hx rfl (hb hby d18_159) rfl rfl k) ?_
  show own_Fin p e below s Q 4 23 (T163.setTop (mkF m 160 #[.val (.ref o0), .val (.int (4 : Int32)), .val (.ref b140), .val (.ref b148), .val (.ref b_149), .val (.int (4 : Int32)), .val (.int i6161)] [(.ref b140), (.ref b163), (.ref b163)]))
  refine own_step (fun t k => XS.aloadN X163.here hx rfl (hb hby d18_160) rfl rfl k) ?_
  show own_Fin p e below s Q 4 23 (T163.setTop (mkF m 161 #[.val (.ref o0), .val (.int (4 : Int32)), .val (.ref b140), .val (.ref b148), .val (.ref b_149), .val (.int (4 : Int32)), .val (.int i6161)] [(.ref b148), (.ref b140), (.ref b163), (.ref b163)]))
  obtain ⟨_, _, ⟨T164, L164, k164, n164⟩, -, X164, ⟨Lc164, hQ164, l164, y164, z164⟩, st164⟩ := X163.specialBack hx (y := (⟨"com/example/libentitle/libentitle/role/Rows", "<init>", "([I[I)V"⟩ : MethodName)) rfl hown (mvT hZ (hw _ (List.mem_of_getElem? (i := 138) rfl))) (mvT hZ (hw _ (List.mem_of_getElem? (i := 139) rfl))) (mvT hZ (hw _ (List.mem_of_getElem? (i := 140) rfl))) (by decide) (backOf (W := 1) (rm21 l Z a0 hw [] b163 b140 b148 .null .null h163 n0 Z0163 A163 F163_starts fr163 F163_values) hZ (hw _ (List.mem_of_getElem? (i := 140) rfl)) (hw _ (List.mem_of_getElem? (i := 75) rfl)) (by decide) (by decide)) (g := (mkF m 161 #[.val (.ref o0), .val (.int (4 : Int32)), .val (.ref b140), .val (.ref b148), .val (.ref b_149), .val (.int (4 : Int32)), .val (.int i6161)] [(.ref b148), (.ref b140), (.ref b163), (.ref b163)])) rfl (by rw [hml]; rfl) (Steps.refl _) (a := b163) (argsL := [(.ref b140), (.ref b148)]) (rest := [(.ref b163)]) (lenOf pdm_12 rfl) rfl (by show 2 * 0 + _ ≤ _; exact Nat.le_of_eq rfl) (hb hby d18_161) (fun _ _ => ⟨rfl, e163, (show cells + 1 + 1 + 1 + 1 + 0 ≤ 4 from (Nat.le_trans (Nat.add_le_add_right hc 4) (by decide))), (show slots + 5 + 12 + 4 + 2 + 0 ≤ 23 from (Nat.le_trans (Nat.add_le_add_right hs 23) (by decide)))⟩)
  dsimp only [Pt.U, Pt.locs, Pt.cells, Pt.slots] at X164 l164 y164 z164 st164 hQ164
  have yy164 : k164 = cells + 1 + 1 + 1 + 1 + 0 := y164
  have zz164 : n164 = slots + 5 + 12 + 4 + 2 + 0 := z164
  rw [yy164, zz164, l164] at X164
  obtain ⟨rfl, N164q, K164, Ex164, F164_starts, F164_values⟩ := hQ164
  have N164 := Fr.app N161 N164q
  have Z0164 : n0 ≤ T164.heap.size := Nat.le_trans Z0163 K164.1
  have V164_bs := own_AFkeep V163_bs K164 (ninS nebs_163 nin0)
  have V164_bv := own_AFkeep V163_bv K164 (ninS nebv_163 nin0)
  have V164_b140 := own_AFkeep V163_b140 K164 (ninS neb140_163 nin0)
  have V164_b148 := own_AFkeep V163_b148 K164 (ninS neb148_163 nin0)
  have Xa164_b148 := Xa163_b148.keep K164
  have V164_b_149 := own_AFkeep V163_b_149 K164 (ninS neb_149_163 nin0)
  have Ex164_o0 := Ex163_o0.keep K164
  have F164_o0_starts := F163_o0_starts.keep K164 (ninS neo0_163 nin0)
  have F164_o0_values := F163_o0_values.keep K164 (ninS neo0_163 nin0)
  have KK164 : Keep h T164.heap [] := K163.trans K164 (allS (Or.inr sz163) all0)
  refine own_step (fun t k => st164.trans k) ?_
  show own_Fin p e below s Q 4 23 (T164.setTop (mkF m 164 #[.val (.ref o0), .val (.int (4 : Int32)), .val (.ref b140), .val (.ref b148), .val (.ref b_149), .val (.int (4 : Int32)), .val (.int i6161)] [(.ref b163)]))
  refine own_retA X164 hx hlk hret rfl (hb hby d18_164) (Nat.le_trans (Nat.add_le_add_right hc 4) (by decide)) (Nat.le_trans (Nat.add_le_add_right hs 23) (by decide)) rfl ?_
  exact hQ _ _ b163 N164 KK164 fr163
theorem pdm_13 : parseMethodDescriptor "(I)Lcom/example/libentitle/libentitle/role/Rows;" = some ⟨[.int], some (.object "com/example/libentitle/libentitle/role/Rows")⟩ := by decide +kernel
theorem ef_18 (m : MethodId) (o0 : Addr) : entryFrame m #[(.ref o0), (.int (4 : Int32))] 7 = (mkF m 0 #[.val (.ref o0), .val (.int (4 : Int32)), .unset, .unset, .unset, .unset, .unset] []) := by first | (simp [entryFrame, mkF, argsToLocals, Value.category]; done) | rfl
def Q18 (Z : State) (o0 : Addr) (bs : Addr) (bv : Addr) (gs : Nat → Int32) (gv : Nat → Int32) (z : Nat) (h0 : Heap) (n0 : Nat) (v : Option Value) (h : Heap) (L : List Loc) : Prop := ∃ (b : Addr), v = some (.ref b) ∧ Fr n0 L ∧ Keep h0 h [] ∧ (n0 ≤ b)
set_option maxRecDepth 65536 in
set_option maxHeartbeats 4000000 in
theorem rm18 (l : Launch) (Z : State) (a0 : Array Value) (hw : ∀ d ∈ tables_1, d.before a0 Z = true) (ws : List Jvm.Cond) (o0 : Addr) (bs : Addr) (bv : Addr) (gs : Nat → Int32) (gv : Nat → Int32) (z : Nat) (h0 : Heap) (n0 : Nat) (Z0 : n0 ≤ h0.size) (E0 : Exa Z h0 o0 "com/example/libentitle/libentitle/role/Rows") (Fst : Fld Z h0 o0 "com/example/libentitle/libentitle/role/Rows" "starts" "[I" (.ref bs)) (Fva : Fld Z h0 o0 "com/example/libentitle/libentitle/role/Rows" "values" "[I" (.ref bv)) (As : own_AF Z h0 bs .int 5 gs) (Av : own_AF Z h0 bv .int z gv) (hz : z ≤ 12) (hval : ∀ i, i < z → own_val (gv i)) (hm : own_Mon gs z) :
    MetFree l (⟨"com/example/libentitle/libentitle/role/Rows", "inverse", "(I)Lcom/example/libentitle/libentitle/role/Rows;"⟩ : MethodName) (head1 (Jvm.Cond.code (⟨"com/example/libentitle/libentitle/role/Rows", "inverse", "(I)Lcom/example/libentitle/libentitle/role/Rows;"⟩ : MethodName) prog_61_method_4_code 7 (some (.object "com/example/libentitle/libentitle/role/Rows")) :: ws) ({ frames := 3, cells := 4, slots := 23, locals := 100 } : Room)) (fun a U => a = #[(.ref o0), (.int (4 : Int32))] ∧ Z.Warmed39 U.vm ∧ U.heap = h0) (fun _ _ _ _ _ => True) (fun _ U o U' => ∃ v L, o = .returned v ∧ Q18 Z o0 bs bv gs gv z h0 n0 v U'.heap L ∧ FrameEnd U o U' L ({ frames := 3, cells := 4, slots := 23, locals := 100 } : Room).cells ({ frames := 3, cells := 4, slots := 23, locals := 100 } : Room).slots) := by
  refine MetFree.of_bodySF (plainFor_of_name pnm_5) hisR ?_
  intro p e s m args below meth c s₁ Bd hml0 hP hK
  obtain ⟨rfl, hZ, hh⟩ := hP
  have hx := Bd.exec
  have hby := Bd.bytes
  have hml : c.maxLocals = 7 := hml0
  have hown : s.vm.findClass "com/example/libentitle/libentitle/role/Rows" = some m.cls := findClass_of_methodNamed Bd.named
  have X0 : Stand p l e ({ frames := 3, cells := 4, slots := 23, locals := 100 } : Room) s m #[(.ref o0), (.int (4 : Int32))] below meth c s₁ [] 0 0 := Stand.of_body Bd
  have e0 : s₁.heap = h0 := by rw [← hh, Bd.state]; rfl
  have fin := b18_0 o0 bs bv gs gv z (Q := Q18 Z o0 bs bv gs gv z h0 n0) hw X0 hx hZ hby hml hown Bd.returns (BodyLoose.notSynchronized Bd) e0 (Fr.nil n0) (Nat.zero_le _) (Nat.zero_le _) Z0 E0 Fst Fva As Av hz hval hm (fun H' L' b n' k' r0 => ⟨b, rfl, n', k', r0⟩)
  exact own_step (fun t k => castTop (ef_18 m o0) k) fin
theorem d23_0 : decode prog_61_method_10_code 0 = .ok (.aload_n 0, 1) := by decide +kernel
theorem d23_1 : decode prog_61_method_10_code 1 = .ok (.getfield 13, 3) := by decide +kernel
theorem d23_4 : decode prog_61_method_10_code 4 = .ok (.iload_n 1, 1) := by decide +kernel
theorem d23_5 : decode prog_61_method_10_code 5 = .ok (.iconst 1, 1) := by decide +kernel
theorem d23_6 : decode prog_61_method_10_code 6 = .ok (.iadd, 1) := by decide +kernel
theorem d23_7 : decode prog_61_method_10_code 7 = .ok (.iaload, 1) := by decide +kernel
theorem d23_8 : decode prog_61_method_10_code 8 = .ok (.aload_n 0, 1) := by decide +kernel
theorem d23_9 : decode prog_61_method_10_code 9 = .ok (.getfield 13, 3) := by decide +kernel
theorem d23_12 : decode prog_61_method_10_code 12 = .ok (.iload_n 1, 1) := by decide +kernel
theorem d23_13 : decode prog_61_method_10_code 13 = .ok (.iaload, 1) := by decide +kernel
theorem d23_14 : decode prog_61_method_10_code 14 = .ok (.isub, 1) := by decide +kernel
theorem d23_15 : decode prog_61_method_10_code 15 = .ok (.ireturn, 1) := by decide +kernel
def f23_0 (i1 : Int32) (gn : Nat → Int32) (zn : Nat) : Int32 := ((gn ((i1 + (1 : Int32))).toNatClampNeg) - (gn (i1).toNatClampNeg))
set_option maxRecDepth 65536 in
set_option maxHeartbeats 40000000 in
theorem b23_0 {p : Program} {l : Launch} {e : Env} {s : State} {m : MethodId} {args : Array Value} {below : List Frame} {meth : Method} {c : Code} {T : State} {locs : List Loc} {cells slots : Nat} {Z : State} {a0 : Array Value} {h : Heap} {n0 : Nat} {Q : Option Value → Heap → List Loc → Prop} (o0 : Addr) (i1 : Int32) (nm : Addr) (gn : Nat → Int32) (zn : Nat) (hw : ∀ d ∈ tables_1, d.before a0 Z = true) (X : Stand p l e ({ frames := 0, cells := 0, slots := 0, locals := 0 } : Room) s m args below meth c T locs cells slots) (hx : p.tables.exec = Jvm.exec) (hZ : Z.Warmed39 s.vm) (hby : c.code = prog_61_method_10_code) (hml : c.maxLocals = 2) (hown : s.vm.findClass "com/example/libentitle/libentitle/role/Rows" = some m.cls) (hret : meth.sig.returnType = some .int) (hlk : meth.locks = false) (eT : T.heap = h) (N : Fr n0 locs) (hc : cells ≤ 0) (hs : slots ≤ 0) (F1 : Fld Z h o0 "com/example/libentitle/libentitle/role/Rows" "starts" "[I" (.ref nm)) (An : own_AF Z h nm .int zn gn) (h1 : own_In zn i1) (h2 : own_In zn (i1 + (1 : Int32))) (v : Int32) (hv : v = f23_0 i1 gn zn) (hQ : ∀ L', Fr n0 L' → Q (some (.int v)) h L') :
    own_Fin p e below s Q 0 0 (T.setTop (mkF m 0 #[.val (.ref o0), .val (.int i1)] [])) := by
  refine own_step (fun t k => XS.aloadN X.here hx rfl (hb hby d23_0) rfl rfl k) ?_
  show own_Fin p e below s Q 0 0 (T.setTop (mkF m 1 #[.val (.ref o0), .val (.int i1)] [(.ref o0)]))
  obtain ⟨T165, X165, e165, st165⟩ := getF X hx hZ hown (host := "") (Or.inl (hw _ (List.mem_of_getElem? (i := 88) rfl))) Via.refl eT F1 (g := (mkF m 1 #[.val (.ref o0), .val (.int i1)] [(.ref o0)])) rfl rfl (hb hby d23_1)
  refine own_step st165 ?_
  show own_Fin p e below s Q 0 0 (T165.setTop (mkF m 4 #[.val (.ref o0), .val (.int i1)] [(.ref nm)]))
  refine own_step (fun t k => XS.iloadN X165.here hx rfl (hb hby d23_4) rfl  k) ?_
  show own_Fin p e below s Q 0 0 (T165.setTop (mkF m 5 #[.val (.ref o0), .val (.int i1)] [(.int i1), (.ref nm)]))
  refine own_step (fun t k => XS.iconst X165.here hx rfl (hb hby d23_5) k) ?_
  show own_Fin p e below s Q 0 0 (T165.setTop (mkF m 6 #[.val (.ref o0), .val (.int i1)] [(.int (1 : Int32)), (.int i1), (.ref nm)]))
  refine own_step (fun t k => XS.iadd X165.here hx rfl (hb hby d23_6) rfl k) ?_
  show own_Fin p e below s Q 0 0 (T165.setTop (mkF m 7 #[.val (.ref o0), .val (.int i1)] [(.int (i1 + (1 : Int32))), (.ref nm)]))
  obtain ⟨ca7, Ar7, Sz7, Ht7⟩ := id An
  have hin7 : ¬ ((i1 + (1 : Int32)) < 0 ∨ ca7.slots.size ≤ ((i1 + (1 : Int32))).toNatClampNeg) := by rw [Sz7]; exact h2
  refine own_step (X165.iaload hx (j := (i1 + (1 : Int32))) (v := (.int (gn ((i1 + (1 : Int32))).toNatClampNeg))) (by rw [e165]; exact Ar7.1) (State.isArrayOf_alike hZ.alike Ar7.2.1) Ar7.2.2 hin7 (Ht7 _ (by have hq := Nat.lt_of_not_le (fun y => hin7 (Or.inr y)); rw [Sz7] at hq; exact hq)) (g := (mkF m 7 #[.val (.ref o0), .val (.int i1)] [(.int (i1 + (1 : Int32))), (.ref nm)])) rfl rfl (hb hby d23_7)) ?_
  show own_Fin p e below s Q 0 0 (T165.setTop (mkF m 8 #[.val (.ref o0), .val (.int i1)] [(.int (gn ((i1 + (1 : Int32))).toNatClampNeg))]))
  refine own_step (fun t k => XS.aloadN X165.here hx rfl (hb hby d23_8) rfl rfl k) ?_
  show own_Fin p e below s Q 0 0 (T165.setTop (mkF m 9 #[.val (.ref o0), .val (.int i1)] [(.ref o0), (.int (gn ((i1 + (1 : Int32))).toNatClampNeg))]))
  obtain ⟨T166, X166, e166, st166⟩ := getF X165 hx hZ hown (host := "") (Or.inl (hw _ (List.mem_of_getElem? (i := 88) rfl))) Via.refl e165 F1 (g := (mkF m 9 #[.val (.ref o0), .val (.int i1)] [(.ref o0), (.int (gn ((i1 + (1 : Int32))).toNatClampNeg))])) rfl rfl (hb hby d23_9)
  refine own_step st166 ?_
  show own_Fin p e below s Q 0 0 (T166.setTop (mkF m 12 #[.val (.ref o0), .val (.int i1)] [(.ref nm), (.int (gn ((i1 + (1 : Int32))).toNatClampNeg))]))
  refine own_step (fun t k => XS.iloadN X166.here hx rfl (hb hby d23_12) rfl  k) ?_
  show own_Fin p e below s Q 0 0 (T166.setTop (mkF m 13 #[.val (.ref o0), .val (.int i1)] [(.int i1), (.ref nm), (.int (gn ((i1 + (1 : Int32))).toNatClampNeg))]))
  obtain ⟨ca13, Ar13, Sz13, Ht13⟩ := id An
  have hin13 : ¬ (i1 < 0 ∨ ca13.slots.size ≤ (i1).toNatClampNeg) := by rw [Sz13]; exact h1
  refine own_step (X166.iaload hx (j := i1) (v := (.int (gn (i1).toNatClampNeg))) (by rw [e166]; exact Ar13.1) (State.isArrayOf_alike hZ.alike Ar13.2.1) Ar13.2.2 hin13 (Ht13 _ (by have hq := Nat.lt_of_not_le (fun y => hin13 (Or.inr y)); rw [Sz13] at hq; exact hq)) (g := (mkF m 13 #[.val (.ref o0), .val (.int i1)] [(.int i1), (.ref nm), (.int (gn ((i1 + (1 : Int32))).toNatClampNeg))])) rfl rfl (hb hby d23_13)) ?_
  show own_Fin p e below s Q 0 0 (T166.setTop (mkF m 14 #[.val (.ref o0), .val (.int i1)] [(.int (gn (i1).toNatClampNeg)), (.int (gn ((i1 + (1 : Int32))).toNatClampNeg))]))
  refine own_step (fun t k => XS.isub X166.here hx rfl (hb hby d23_14) rfl k) ?_
  show own_Fin p e below s Q 0 0 (T166.setTop (mkF m 15 #[.val (.ref o0), .val (.int i1)] [(.int ((gn ((i1 + (1 : Int32))).toNatClampNeg) - (gn (i1).toNatClampNeg)))]))
  exact own_retI X166 hx hlk hret (hb hby d23_15) (Nat.le_trans (Nat.add_le_add_right hc 0) (by decide)) (Nat.le_trans (Nat.add_le_add_right hs 0) (by decide)) e166 N hQ (hv)
theorem pdm_14 : parseMethodDescriptor "(I)I" = some ⟨[.int], some .int⟩ := by decide +kernel
theorem ef_23 (m : MethodId) (o0 : Addr) (i1 : Int32) : entryFrame m #[(.ref o0), (.int i1)] 2 = (mkF m 0 #[.val (.ref o0), .val (.int i1)] []) := by first | (simp [entryFrame, mkF, argsToLocals, Value.category]; done) | rfl
def Q23 (o0 : Addr) (i1 : Int32) (nm : Addr) (gn : Nat → Int32) (zn : Nat) (h0 : Heap) (n0 : Nat) (v : Option Value) (h : Heap) (L : List Loc) : Prop := v = some (.int (f23_0 i1 gn zn)) ∧ Fr n0 L ∧ h = h0
set_option maxRecDepth 65536 in
set_option maxHeartbeats 4000000 in
theorem rm23 (l : Launch) (Z : State) (a0 : Array Value) (hw : ∀ d ∈ tables_1, d.before a0 Z = true) (ws : List Jvm.Cond) (o0 : Addr) (i1 : Int32) (nm : Addr) (gn : Nat → Int32) (zn : Nat) (h0 : Heap) (n0 : Nat) (F1 : Fld Z h0 o0 "com/example/libentitle/libentitle/role/Rows" "starts" "[I" (.ref nm)) (An : own_AF Z h0 nm .int zn gn) (h1 : own_In zn i1) (h2 : own_In zn (i1 + (1 : Int32))) :
    MetFree l (⟨"com/example/libentitle/libentitle/role/Rows", "length", "(I)I"⟩ : MethodName) (head1 (Jvm.Cond.code (⟨"com/example/libentitle/libentitle/role/Rows", "length", "(I)I"⟩ : MethodName) prog_61_method_10_code 2 (some .int) :: ws) ({ frames := 0, cells := 0, slots := 0, locals := 0 } : Room)) (fun a U => a = #[(.ref o0), (.int i1)] ∧ Z.Warmed39 U.vm ∧ U.heap = h0) (fun _ _ _ _ _ => True) (fun _ U o U' => ∃ v L, o = .returned v ∧ Q23 o0 i1 nm gn zn h0 n0 v U'.heap L ∧ FrameEnd U o U' L ({ frames := 0, cells := 0, slots := 0, locals := 0 } : Room).cells ({ frames := 0, cells := 0, slots := 0, locals := 0 } : Room).slots) := by
  refine MetFree.of_bodySF (plainFor_of_name pnm_5) hisR ?_
  intro p e s m args below meth c s₁ Bd hml0 hP hK
  obtain ⟨rfl, hZ, hh⟩ := hP
  have hx := Bd.exec
  have hby := Bd.bytes
  have hml : c.maxLocals = 2 := hml0
  have hown : s.vm.findClass "com/example/libentitle/libentitle/role/Rows" = some m.cls := findClass_of_methodNamed Bd.named
  have X0 : Stand p l e ({ frames := 0, cells := 0, slots := 0, locals := 0 } : Room) s m #[(.ref o0), (.int i1)] below meth c s₁ [] 0 0 := Stand.of_body Bd
  have e0 : s₁.heap = h0 := by rw [← hh, Bd.state]; rfl
  have fin := b23_0 o0 i1 nm gn zn (Q := Q23 o0 i1 nm gn zn h0 n0) hw X0 hx hZ hby hml hown Bd.returns (BodyLoose.notSynchronized Bd) e0 (Fr.nil n0) (Nat.zero_le _) (Nat.zero_le _) F1 An h1 h2 _ rfl (fun L' n' => ⟨rfl, n', rfl⟩)
  exact own_step (fun t k => castTop (ef_23 m o0 i1) k) fin
theorem own_monS {g : Nat → Int32} {z0 z1 z2 z3 : Nat} (hz0 : z0 ≤ 3) (hz1 : z1 ≤ 3) (hz2 : z2 ≤ 3) (hz3 : z3 ≤ 3) (e0 : g 0 = (0 : Int32)) (e1 : g 1 = ((0 : Int32) + (z0.toInt32))) (e2 : g 2 = (((0 : Int32) + (z0.toInt32)) + (z1.toInt32))) (e3 : g 3 = ((((0 : Int32) + (z0.toInt32)) + (z1.toInt32)) + (z2.toInt32))) (e4 : g 4 = (((((0 : Int32) + (z0.toInt32)) + (z1.toInt32)) + (z2.toInt32)) + (z3.toInt32))) : own_Mon g (0 + z0 + z1 + z2 + z3) := by
  have a0 := own_s0 z0 z1 z2 z3 hz0 hz1 hz2 hz3
  have a1 := own_s1 z0 z1 z2 z3 hz0 hz1 hz2 hz3
  have a2 := own_s2 z0 z1 z2 z3 hz0 hz1 hz2 hz3
  have a3 := own_s3 z0 z1 z2 z3 hz0 hz1 hz2 hz3
  have a4 := own_s4 z0 z1 z2 z3 hz0 hz1 hz2 hz3
  unfold own_Mon
  rw [e0, e1, e2, e3, e4]
  refine ⟨?_, ?_, ?_, ?_, ?_, ?_⟩ <;> omega
theorem d11_0 : decode prog_47_method_2_code 0 = .ok (.aload_n 0, 1) := by decide +kernel
theorem d11_1 : decode prog_47_method_2_code 1 = .ok (.invokespecial 23, 3) := by decide +kernel
theorem d11_4 : decode prog_47_method_2_code 4 = .ok (.aload_n 0, 1) := by decide +kernel
theorem d11_5 : decode prog_47_method_2_code 5 = .ok (.new 28, 3) := by decide +kernel
theorem d11_8 : decode prog_47_method_2_code 8 = .ok (.dup, 1) := by decide +kernel
theorem d11_9 : decode prog_47_method_2_code 9 = .ok (.aload_n 1, 1) := by decide +kernel
theorem d11_10 : decode prog_47_method_2_code 10 = .ok (.invokespecial 30, 3) := by decide +kernel
theorem d11_13 : decode prog_47_method_2_code 13 = .ok (.putfield 33, 3) := by decide +kernel
theorem d11_16 : decode prog_47_method_2_code 16 = .ok (.aload_n 0, 1) := by decide +kernel
theorem d11_17 : decode prog_47_method_2_code 17 = .ok (.new 28, 3) := by decide +kernel
theorem d11_20 : decode prog_47_method_2_code 20 = .ok (.dup, 1) := by decide +kernel
theorem d11_21 : decode prog_47_method_2_code 21 = .ok (.aload_n 2, 1) := by decide +kernel
theorem d11_22 : decode prog_47_method_2_code 22 = .ok (.invokespecial 30, 3) := by decide +kernel
theorem d11_25 : decode prog_47_method_2_code 25 = .ok (.putfield 37, 3) := by decide +kernel
theorem d11_28 : decode prog_47_method_2_code 28 = .ok (.aload_n 0, 1) := by decide +kernel
theorem d11_29 : decode prog_47_method_2_code 29 = .ok (.aload_n 0, 1) := by decide +kernel
theorem d11_30 : decode prog_47_method_2_code 30 = .ok (.getfield 33, 3) := by decide +kernel
theorem d11_33 : decode prog_47_method_2_code 33 = .ok (.aload_n 1, 1) := by decide +kernel
theorem d11_34 : decode prog_47_method_2_code 34 = .ok (.invokeinterface 1 1, 5) := by decide +kernel
theorem d11_39 : decode prog_47_method_2_code 39 = .ok (.invokevirtual 40, 3) := by decide +kernel
theorem d11_42 : decode prog_47_method_2_code 42 = .ok (.putfield 44, 3) := by decide +kernel
theorem d11_45 : decode prog_47_method_2_code 45 = .ok (.aload_n 0, 1) := by decide +kernel
theorem d11_46 : decode prog_47_method_2_code 46 = .ok (.aload_n 0, 1) := by decide +kernel
theorem d11_47 : decode prog_47_method_2_code 47 = .ok (.getfield 37, 3) := by decide +kernel
theorem d11_50 : decode prog_47_method_2_code 50 = .ok (.aload_n 1, 1) := by decide +kernel
theorem d11_51 : decode prog_47_method_2_code 51 = .ok (.invokeinterface 1 1, 5) := by decide +kernel
theorem d11_56 : decode prog_47_method_2_code 56 = .ok (.invokevirtual 40, 3) := by decide +kernel
theorem d11_59 : decode prog_47_method_2_code 59 = .ok (.putfield 47, 3) := by decide +kernel
theorem d11_62 : decode prog_47_method_2_code 62 = .ok (.return_, 1) := by decide +kernel
set_option maxRecDepth 65536 in
set_option maxHeartbeats 40000000 in
theorem b11_0 {p : Program} {l : Launch} {e : Env} {s : State} {m : MethodId} {args : Array Value} {below : List Frame} {meth : Method} {c : Code} {T : State} {locs : List Loc} {cells slots : Nat} {Z : State} {a0 : Array Value} {h : Heap} {n0 : Nat} {Q : Option Value → Heap → List Loc → Prop} (o0 : Addr) (o1 : Addr) (o2 : Addr) (u1 : Value) (u2 : Value) (u3 : Value) (u4 : Value) (um1 : Value) (um2 : Value) (ea : Addr) (eb : Addr) (gE : Nat → Value) (gB : Nat → Value) (r0 : Addr) (x0 : Nat) (g0 : Nat → Int32) (r1 : Addr) (x1 : Nat) (g1 : Nat → Int32) (r2 : Addr) (x2 : Nat) (g2 : Nat → Int32) (r3 : Addr) (x3 : Nat) (g3 : Nat → Int32) (c0 : Addr) (y0 : Nat) (k0 : Nat → Int32) (c1 : Addr) (y1 : Nat) (k1 : Nat → Int32) (c2 : Addr) (y2 : Nat) (k2 : Nat → Int32) (c3 : Addr) (y3 : Nat) (k3 : Nat → Int32) (hw : ∀ d ∈ tables_1, d.before a0 Z = true) (X : Stand p l e ({ frames := 4, cells := 14, slots := 84, locals := 140 } : Room) s m args below meth c T locs cells slots) (hx : p.tables.exec = Jvm.exec) (hZ : Z.Warmed39 s.vm) (hby : c.code = prog_47_method_2_code) (hml : c.maxLocals = 3) (hown : s.vm.findClass "com/example/libentitle/libentitle/role/Graph" = some m.cls) (hret : meth.sig.returnType = none) (hlk : meth.locks = false) (hnm : meth.name = "<init>") (eT : T.heap = h) (N : Fr n0 locs) (hc : cells ≤ 0) (hs : slots ≤ 0) (Z0 : n0 ≤ h.size) (fr0 : n0 ≤ o0) (Eg : Exa Z h o0 "com/example/libentitle/libentitle/role/Graph") (Fg0 : Fld Z h o0 "com/example/libentitle/libentitle/role/Graph" "next" "Lcom/example/libentitle/libentitle/role/Rows;" u1) (Fg1 : Fld Z h o0 "com/example/libentitle/libentitle/role/Graph" "guardedNext" "Lcom/example/libentitle/libentitle/role/Rows;" u2) (Fg2 : Fld Z h o0 "com/example/libentitle/libentitle/role/Graph" "previous" "Lcom/example/libentitle/libentitle/role/Rows;" u3) (Fg3 : Fld Z h o0 "com/example/libentitle/libentitle/role/Graph" "guardedPrevious" "Lcom/example/libentitle/libentitle/role/Rows;" u4) (E01 : Exa Z h o1 "java/util/ArrayList") (Fm1 : Fld Z h o1 "java/util/AbstractList" "modCount" "I" um1) (Fe1 : Fld Z h o1 "java/util/ArrayList" "elementData" "[Ljava/lang/Object;" (.ref ea)) (Fs1 : Fld Z h o1 "java/util/ArrayList" "size" "I" (.int (4 : Int32))) (Re1 : own_RF Z h ea "java/lang/Object" 10 gE) (A10 : own_AF Z h r0 .int x0 g0) (X10 : Exa Z h r0 "[I") (hg10 : gE 0 = .ref r0) (hz10 : x0 ≤ 3) (hv10 : ∀ i, i < x0 → own_val (g0 i)) (A11 : own_AF Z h r1 .int x1 g1) (X11 : Exa Z h r1 "[I") (hg11 : gE 1 = .ref r1) (hz11 : x1 ≤ 3) (hv11 : ∀ i, i < x1 → own_val (g1 i)) (A12 : own_AF Z h r2 .int x2 g2) (X12 : Exa Z h r2 "[I") (hg12 : gE 2 = .ref r2) (hz12 : x2 ≤ 3) (hv12 : ∀ i, i < x2 → own_val (g2 i)) (A13 : own_AF Z h r3 .int x3 g3) (X13 : Exa Z h r3 "[I") (hg13 : gE 3 = .ref r3) (hz13 : x3 ≤ 3) (hv13 : ∀ i, i < x3 → own_val (g3 i)) (E02 : Exa Z h o2 "java/util/ArrayList") (Fm2 : Fld Z h o2 "java/util/AbstractList" "modCount" "I" um2) (Fe2 : Fld Z h o2 "java/util/ArrayList" "elementData" "[Ljava/lang/Object;" (.ref eb)) (Fs2 : Fld Z h o2 "java/util/ArrayList" "size" "I" (.int (4 : Int32))) (Re2 : own_RF Z h eb "java/lang/Object" 10 gB) (A20 : own_AF Z h c0 .int y0 k0) (X20 : Exa Z h c0 "[I") (hg20 : gB 0 = .ref c0) (hz20 : y0 ≤ 3) (hv20 : ∀ i, i < y0 → own_val (k0 i)) (A21 : own_AF Z h c1 .int y1 k1) (X21 : Exa Z h c1 "[I") (hg21 : gB 1 = .ref c1) (hz21 : y1 ≤ 3) (hv21 : ∀ i, i < y1 → own_val (k1 i)) (A22 : own_AF Z h c2 .int y2 k2) (X22 : Exa Z h c2 "[I") (hg22 : gB 2 = .ref c2) (hz22 : y2 ≤ 3) (hv22 : ∀ i, i < y2 → own_val (k2 i)) (A23 : own_AF Z h c3 .int y3 k3) (X23 : Exa Z h c3 "[I") (hg23 : gB 3 = .ref c3) (hz23 : y3 ≤ 3) (hv23 : ∀ i, i < y3 → own_val (k3 i)) (neo1 : o1 ≠ o0) (neo2 : o2 ≠ o0) (neea : ea ≠ o0) (neeb : eb ≠ o0) (ner0 : r0 ≠ o0) (ner1 : r1 ≠ o0) (ner2 : r2 ≠ o0) (ner3 : r3 ≠ o0) (nec0 : c0 ≠ o0) (nec1 : c1 ≠ o0) (nec2 : c2 ≠ o0) (nec3 : c3 ≠ o0) (hQ : ∀ (H' : Heap) (L' : List Loc) (n1 : Addr) (n2 : Addr) (s1 : Addr) (s2 : Addr) (q1 : Nat → Int32) (q2 : Nat → Int32), Fr n0 L' → Keep h H' [o0] → (Exa Z H' o0 "com/example/libentitle/libentitle/role/Graph") → (Fld Z H' o0 "com/example/libentitle/libentitle/role/Graph" "next" "Lcom/example/libentitle/libentitle/role/Rows;" (.ref n1)) → (Fld Z H' o0 "com/example/libentitle/libentitle/role/Graph" "guardedNext" "Lcom/example/libentitle/libentitle/role/Rows;" (.ref n2)) → (Exa Z H' n1 "com/example/libentitle/libentitle/role/Rows") → (Fld Z H' n1 "com/example/libentitle/libentitle/role/Rows" "starts" "[I" (.ref s1)) → (own_AF Z H' s1 .int 5 q1) → (q1 0 = (0 : Int32)) → (q1 1 = ((0 : Int32) + (x0.toInt32))) → (q1 2 = (((0 : Int32) + (x0.toInt32)) + (x1.toInt32))) → (q1 3 = ((((0 : Int32) + (x0.toInt32)) + (x1.toInt32)) + (x2.toInt32))) → (q1 4 = (((((0 : Int32) + (x0.toInt32)) + (x1.toInt32)) + (x2.toInt32)) + (x3.toInt32))) → (Exa Z H' n2 "com/example/libentitle/libentitle/role/Rows") → (Fld Z H' n2 "com/example/libentitle/libentitle/role/Rows" "starts" "[I" (.ref s2)) → (own_AF Z H' s2 .int 5 q2) → (q2 0 = (0 : Int32)) → (q2 1 = ((0 : Int32) + (y0.toInt32))) → (q2 2 = (((0 : Int32) + (y0.toInt32)) + (y1.toInt32))) → (q2 3 = ((((0 : Int32) + (y0.toInt32)) + (y1.toInt32)) + (y2.toInt32))) → (q2 4 = (((((0 : Int32) + (y0.toInt32)) + (y1.toInt32)) + (y2.toInt32)) + (y3.toInt32))) → Q none H' L') :
    own_Fin p e below s Q 14 84 (T.setTop (mkF m 0 #[.val (.ref o0), .val (.ref o1), .val (.ref o2)] [])) := by
  refine own_step (fun t k => XS.aloadN X.here hx rfl (hb hby d11_0) rfl rfl k) ?_
  show own_Fin p e below s Q 14 84 (T.setTop (mkF m 1 #[.val (.ref o0), .val (.ref o1), .val (.ref o2)] [(.ref o0)]))
  obtain ⟨T167, X167, e167, st167⟩ := initO X hx hZ hown (hw _ (List.mem_of_getElem? (i := 72) rfl)) (hw _ (List.mem_of_getElem? (i := 19) rfl)) (hw _ (List.mem_of_getElem? (i := 20) rfl)) eT (g := (mkF m 1 #[.val (.ref o0), .val (.ref o1), .val (.ref o2)] [(.ref o0)])) rfl (by rw [hml]; rfl) rfl (hb hby d11_1) (by decide) (W := 0) (by show 2 * 0 + _ ≤ _; exact Nat.le_of_eq rfl) (by decide)
  refine own_step st167 ?_
  show own_Fin p e below s Q 14 84 (T167.setTop (mkF m 4 #[.val (.ref o0), .val (.ref o1), .val (.ref o2)] []))
  refine own_step (fun t k => XS.aloadN X167.here hx rfl (hb hby d11_4) rfl rfl k) ?_
  show own_Fin p e below s Q 14 84 (T167.setTop (mkF m 5 #[.val (.ref o0), .val (.ref o1), .val (.ref o2)] [(.ref o0)]))
  obtain ⟨T168, h168, X168, e168, E168, A168, D168, -, st168⟩ := newO X167 hx hZ hown (hw _ (List.mem_of_getElem? (i := 73) rfl)) (hw _ (List.mem_of_getElem? (i := 74) rfl)) (hw _ (List.mem_of_getElem? (i := 75) rfl)) e167 (g := (mkF m 5 #[.val (.ref o0), .val (.ref o1), .val (.ref o2)] [(.ref o0)])) rfl (hb hby d11_5) (show cells + 1 ≤ 14 from (Nat.le_trans (Nat.add_le_add_right hc 1) (by decide))) (show slots + 2 ≤ 84 from (Nat.le_trans (Nat.add_le_add_right hs 2) (by decide)))
  obtain ⟨b168, gg168⟩ : ∃ z, z = h.size := ⟨_, rfl⟩
  rw [← gg168] at A168 D168 st168
  have F168_starts : Fld Z h168 b168 "com/example/libentitle/libentitle/role/Rows" "starts" "[I" .null := D168 (Or.inr (hw _ (List.mem_of_getElem? (i := 89) rfl))) (ty := (.array .int)) (by decide)
  have F168_values : Fld Z h168 b168 "com/example/libentitle/libentitle/role/Rows" "values" "[I" .null := D168 (Or.inr (hw _ (List.mem_of_getElem? (i := 114) rfl))) (ty := (.array .int)) (by decide)
  have fr168 : n0 ≤ b168 := Nat.le_trans Z0 (Nat.le_of_eq gg168.symm)
  have Z0168 : n0 ≤ h168.size := Nat.le_trans Z0 E168.1
  have ner0_168 : r0 ≠ b168 := Nat.ne_of_lt (Nat.lt_of_lt_of_le A10.lt (Nat.le_of_eq gg168.symm))
  have nec0_168 : c0 ≠ b168 := Nat.ne_of_lt (Nat.lt_of_lt_of_le A20.lt (Nat.le_of_eq gg168.symm))
  have ner1_168 : r1 ≠ b168 := Nat.ne_of_lt (Nat.lt_of_lt_of_le A11.lt (Nat.le_of_eq gg168.symm))
  have nec1_168 : c1 ≠ b168 := Nat.ne_of_lt (Nat.lt_of_lt_of_le A21.lt (Nat.le_of_eq gg168.symm))
  have ner2_168 : r2 ≠ b168 := Nat.ne_of_lt (Nat.lt_of_lt_of_le A12.lt (Nat.le_of_eq gg168.symm))
  have nec2_168 : c2 ≠ b168 := Nat.ne_of_lt (Nat.lt_of_lt_of_le A22.lt (Nat.le_of_eq gg168.symm))
  have ner3_168 : r3 ≠ b168 := Nat.ne_of_lt (Nat.lt_of_lt_of_le A13.lt (Nat.le_of_eq gg168.symm))
  have nec3_168 : c3 ≠ b168 := Nat.ne_of_lt (Nat.lt_of_lt_of_le A23.lt (Nat.le_of_eq gg168.symm))
  have neo0_168 : o0 ≠ b168 := Nat.ne_of_lt (Nat.lt_of_lt_of_le Eg.lt (Nat.le_of_eq gg168.symm))
  have neo1_168 : o1 ≠ b168 := Nat.ne_of_lt (Nat.lt_of_lt_of_le E01.lt (Nat.le_of_eq gg168.symm))
  have neo2_168 : o2 ≠ b168 := Nat.ne_of_lt (Nat.lt_of_lt_of_le E02.lt (Nat.le_of_eq gg168.symm))
  have sz168 : h.size ≤ b168 := Nat.le_trans (Keep.refl h [o0]).1 (Nat.le_of_eq gg168.symm)
  have neea_168 : ea ≠ b168 := Nat.ne_of_lt (Nat.lt_of_lt_of_le Re1.lt (Nat.le_of_eq gg168.symm))
  have neeb_168 : eb ≠ b168 := Nat.ne_of_lt (Nat.lt_of_lt_of_le Re2.lt (Nat.le_of_eq gg168.symm))
  have V168_r0 := own_AFext A10 E168
  have V168_c0 := own_AFext A20 E168
  have V168_r1 := own_AFext A11 E168
  have V168_c1 := own_AFext A21 E168
  have V168_r2 := own_AFext A12 E168
  have V168_c2 := own_AFext A22 E168
  have V168_r3 := own_AFext A13 E168
  have V168_c3 := own_AFext A23 E168
  have Ex168_o0 := Eg.ext E168
  have F168_o0_next := Fg0.ext E168
  have F168_o0_guardedNext := Fg1.ext E168
  have F168_o0_previous := Fg2.ext E168
  have F168_o0_guardedPrevious := Fg3.ext E168
  have Ex168_o1 := E01.ext E168
  have F168_o1_modCount := Fm1.ext E168
  have F168_o1_elementData := Fe1.ext E168
  have F168_o1_size := Fs1.ext E168
  have Ex168_o2 := E02.ext E168
  have F168_o2_modCount := Fm2.ext E168
  have F168_o2_elementData := Fe2.ext E168
  have F168_o2_size := Fs2.ext E168
  have Xa168_r0 := X10.ext E168
  have Xa168_c0 := X20.ext E168
  have Xa168_r1 := X11.ext E168
  have Xa168_c1 := X21.ext E168
  have Xa168_r2 := X12.ext E168
  have Xa168_c2 := X22.ext E168
  have Xa168_r3 := X13.ext E168
  have Xa168_c3 := X23.ext E168
  have R168_ea := own_RFext Re1 E168
  have R168_eb := own_RFext Re2 E168
  have K168 : Keep h h168 [o0] := (Keep.refl h [o0]).ext E168
  refine own_step st168 ?_
  show own_Fin p e below s Q 14 84 (T168.setTop (mkF m 8 #[.val (.ref o0), .val (.ref o1), .val (.ref o2)] [(.ref b168), (.ref o0)]))
  refine own_step (fun t k => XS.dup X168.here hx rfl (hb hby d11_8) rfl rfl k) ?_
  show own_Fin p e below s Q 14 84 (T168.setTop (mkF m 9 #[.val (.ref o0), .val (.ref o1), .val (.ref o2)] [(.ref b168), (.ref b168), (.ref o0)]))
  refine own_step (fun t k => XS.aloadN X168.here hx rfl (hb hby d11_9) rfl rfl k) ?_
  show own_Fin p e below s Q 14 84 (T168.setTop (mkF m 10 #[.val (.ref o0), .val (.ref o1), .val (.ref o2)] [(.ref o1), (.ref b168), (.ref b168), (.ref o0)]))
  obtain ⟨_, _, ⟨T169, L169, k169, n169⟩, -, X169, ⟨Lc169, hQ169, l169, y169, z169⟩, st169⟩ := X168.specialBack hx (y := (⟨"com/example/libentitle/libentitle/role/Rows", "<init>", "(Ljava/util/List;)V"⟩ : MethodName)) rfl hown (mvT hZ (hw _ (List.mem_of_getElem? (i := 76) rfl))) (mvT hZ (hw _ (List.mem_of_getElem? (i := 77) rfl))) (mvT hZ (hw _ (List.mem_of_getElem? (i := 78) rfl))) (by decide) (backOf (W := 2) (rm12 l Z a0 hw [] b168 o1 .null .null um1 ea gE r0 x0 g0 r1 x1 g1 r2 x2 g2 r3 x3 g3 h168 n0 Z0168 fr168 A168 F168_starts F168_values Ex168_o1 F168_o1_modCount F168_o1_elementData F168_o1_size R168_ea V168_r0 Xa168_r0 hg10 hz10 V168_r1 Xa168_r1 hg11 hz11 V168_r2 Xa168_r2 hg12 hz12 V168_r3 Xa168_r3 hg13 hz13 neo1_168 neea_168 ner0_168 ner1_168 ner2_168 ner3_168 hv10 hv11 hv12 hv13) hZ (hw _ (List.mem_of_getElem? (i := 78) rfl)) (hw _ (List.mem_of_getElem? (i := 75) rfl)) (by decide) (by decide)) (g := (mkF m 10 #[.val (.ref o0), .val (.ref o1), .val (.ref o2)] [(.ref o1), (.ref b168), (.ref b168), (.ref o0)])) rfl (by rw [hml]; rfl) (Steps.refl _) (a := b168) (argsL := [(.ref o1)]) (rest := [(.ref b168), (.ref o0)]) (lenOf pdm_9 rfl) rfl (by show 2 * 0 + _ ≤ _; exact Nat.le_of_eq rfl) (hb hby d11_10) (fun _ _ => ⟨rfl, e168, (show cells + 1 + 2 ≤ 14 from (Nat.le_trans (Nat.add_le_add_right hc 3) (by decide))), (show slots + 2 + 17 ≤ 84 from (Nat.le_trans (Nat.add_le_add_right hs 19) (by decide)))⟩)
  dsimp only [Pt.U, Pt.locs, Pt.cells, Pt.slots] at X169 l169 y169 z169 st169 hQ169
  have yy169 : k169 = cells + 1 + 2 := y169
  have zz169 : n169 = slots + 2 + 17 := z169
  rw [yy169, zz169, l169] at X169
  obtain ⟨bs_169, bv_169, gs_169, gv_169, rfl, N169q, K169, r0_169, r1_169, r2_169, r3_169, r4_169, r5_169, r6_169, r7_169, r8_169, r9_169, r10_169, r11_169, r12_169, r13_169, r14_169, r15_169⟩ := hQ169
  have N169 := Fr.app N N169q
  have Z0169 : n0 ≤ T169.heap.size := Nat.le_trans Z0168 K169.1
  have V169_r0 := own_AFkeep V168_r0 K169 (ninS ner0_168 nin0)
  have Xa169_r0 := Xa168_r0.keep K169
  have V169_c0 := own_AFkeep V168_c0 K169 (ninS nec0_168 nin0)
  have Xa169_c0 := Xa168_c0.keep K169
  have V169_r1 := own_AFkeep V168_r1 K169 (ninS ner1_168 nin0)
  have Xa169_r1 := Xa168_r1.keep K169
  have V169_c1 := own_AFkeep V168_c1 K169 (ninS nec1_168 nin0)
  have Xa169_c1 := Xa168_c1.keep K169
  have V169_r2 := own_AFkeep V168_r2 K169 (ninS ner2_168 nin0)
  have Xa169_r2 := Xa168_r2.keep K169
  have V169_c2 := own_AFkeep V168_c2 K169 (ninS nec2_168 nin0)
  have Xa169_c2 := Xa168_c2.keep K169
  have V169_r3 := own_AFkeep V168_r3 K169 (ninS ner3_168 nin0)
  have Xa169_r3 := Xa168_r3.keep K169
  have V169_c3 := own_AFkeep V168_c3 K169 (ninS nec3_168 nin0)
  have Xa169_c3 := Xa168_c3.keep K169
  have R169_ea := own_RFkeep R168_ea K169 (ninS neea_168 nin0)
  have R169_eb := own_RFkeep R168_eb K169 (ninS neeb_168 nin0)
  have Ex169_o0 := Ex168_o0.keep K169
  have F169_o0_next := F168_o0_next.keep K169 (ninS neo0_168 nin0)
  have F169_o0_guardedNext := F168_o0_guardedNext.keep K169 (ninS neo0_168 nin0)
  have F169_o0_previous := F168_o0_previous.keep K169 (ninS neo0_168 nin0)
  have F169_o0_guardedPrevious := F168_o0_guardedPrevious.keep K169 (ninS neo0_168 nin0)
  have Ex169_o1 := Ex168_o1.keep K169
  have F169_o1_modCount := F168_o1_modCount.keep K169 (ninS neo1_168 nin0)
  have F169_o1_elementData := F168_o1_elementData.keep K169 (ninS neo1_168 nin0)
  have F169_o1_size := F168_o1_size.keep K169 (ninS neo1_168 nin0)
  have Ex169_o2 := Ex168_o2.keep K169
  have F169_o2_modCount := F168_o2_modCount.keep K169 (ninS neo2_168 nin0)
  have F169_o2_elementData := F168_o2_elementData.keep K169 (ninS neo2_168 nin0)
  have F169_o2_size := F168_o2_size.keep K169 (ninS neo2_168 nin0)
  have KK169 : Keep h T169.heap [o0] := K168.trans K169 (allS (Or.inr sz168) all0)
  have ner0_169s : r0 ≠ bs_169 := Nat.ne_of_lt (Nat.lt_of_lt_of_le V168_r0.lt r1_169)
  have nec0_169s : c0 ≠ bs_169 := Nat.ne_of_lt (Nat.lt_of_lt_of_le V168_c0.lt r1_169)
  have ner1_169s : r1 ≠ bs_169 := Nat.ne_of_lt (Nat.lt_of_lt_of_le V168_r1.lt r1_169)
  have nec1_169s : c1 ≠ bs_169 := Nat.ne_of_lt (Nat.lt_of_lt_of_le V168_c1.lt r1_169)
  have ner2_169s : r2 ≠ bs_169 := Nat.ne_of_lt (Nat.lt_of_lt_of_le V168_r2.lt r1_169)
  have nec2_169s : c2 ≠ bs_169 := Nat.ne_of_lt (Nat.lt_of_lt_of_le V168_c2.lt r1_169)
  have ner3_169s : r3 ≠ bs_169 := Nat.ne_of_lt (Nat.lt_of_lt_of_le V168_r3.lt r1_169)
  have nec3_169s : c3 ≠ bs_169 := Nat.ne_of_lt (Nat.lt_of_lt_of_le V168_c3.lt r1_169)
  have neo0_169s : o0 ≠ bs_169 := Nat.ne_of_lt (Nat.lt_of_lt_of_le Ex168_o0.lt r1_169)
  have neo1_169s : o1 ≠ bs_169 := Nat.ne_of_lt (Nat.lt_of_lt_of_le Ex168_o1.lt r1_169)
  have neo2_169s : o2 ≠ bs_169 := Nat.ne_of_lt (Nat.lt_of_lt_of_le Ex168_o2.lt r1_169)
  have neb168_169s : b168 ≠ bs_169 := Nat.ne_of_lt (Nat.lt_of_lt_of_le A168.lt r1_169)
  have neea_169s : ea ≠ bs_169 := Nat.ne_of_lt (Nat.lt_of_lt_of_le R168_ea.lt r1_169)
  have neeb_169s : eb ≠ bs_169 := Nat.ne_of_lt (Nat.lt_of_lt_of_le R168_eb.lt r1_169)
  have sz169s : h.size ≤ bs_169 := Nat.le_trans K168.1 r1_169
  have ner0_169v : r0 ≠ bv_169 := Nat.ne_of_lt (Nat.lt_of_lt_of_le V168_r0.lt r3_169)
  have nec0_169v : c0 ≠ bv_169 := Nat.ne_of_lt (Nat.lt_of_lt_of_le V168_c0.lt r3_169)
  have ner1_169v : r1 ≠ bv_169 := Nat.ne_of_lt (Nat.lt_of_lt_of_le V168_r1.lt r3_169)
  have nec1_169v : c1 ≠ bv_169 := Nat.ne_of_lt (Nat.lt_of_lt_of_le V168_c1.lt r3_169)
  have ner2_169v : r2 ≠ bv_169 := Nat.ne_of_lt (Nat.lt_of_lt_of_le V168_r2.lt r3_169)
  have nec2_169v : c2 ≠ bv_169 := Nat.ne_of_lt (Nat.lt_of_lt_of_le V168_c2.lt r3_169)
  have ner3_169v : r3 ≠ bv_169 := Nat.ne_of_lt (Nat.lt_of_lt_of_le V168_r3.lt r3_169)
  have nec3_169v : c3 ≠ bv_169 := Nat.ne_of_lt (Nat.lt_of_lt_of_le V168_c3.lt r3_169)
  have neo0_169v : o0 ≠ bv_169 := Nat.ne_of_lt (Nat.lt_of_lt_of_le Ex168_o0.lt r3_169)
  have neo1_169v : o1 ≠ bv_169 := Nat.ne_of_lt (Nat.lt_of_lt_of_le Ex168_o1.lt r3_169)
  have neo2_169v : o2 ≠ bv_169 := Nat.ne_of_lt (Nat.lt_of_lt_of_le Ex168_o2.lt r3_169)
  have neb168_169v : b168 ≠ bv_169 := Nat.ne_of_lt (Nat.lt_of_lt_of_le A168.lt r3_169)
  have neea_169v : ea ≠ bv_169 := Nat.ne_of_lt (Nat.lt_of_lt_of_le R168_ea.lt r3_169)
  have neeb_169v : eb ≠ bv_169 := Nat.ne_of_lt (Nat.lt_of_lt_of_le R168_eb.lt r3_169)
  have sz169v : h.size ≤ bv_169 := Nat.le_trans K168.1 r3_169
  refine own_step (fun t k => st169.trans k) ?_
  show own_Fin p e below s Q 14 84 (T169.setTop (mkF m 13 #[.val (.ref o0), .val (.ref o1), .val (.ref o2)] [(.ref b168), (.ref o0)]))
  obtain ⟨T170, h170, X170, e170, W170, st170⟩ := putF X169 hx hZ hown (host := "") (Or.inl (hw _ (List.mem_of_getElem? (i := 119) rfl))) Via.refl rfl F169_o0_next Ex169_o0 (Or.inr ⟨(hw _ (List.mem_of_getElem? (i := 120) rfl)), rfl, hnm⟩) (hw _ (List.mem_of_getElem? (i := 67) rfl)) (ty := (.object "com/example/libentitle/libentitle/role/Rows")) (by decide) rfl rfl (g := (mkF m 13 #[.val (.ref o0), .val (.ref o1), .val (.ref o2)] [(.ref b168), (.ref o0)])) rfl rfl (hb hby d11_13)
  have N170 := Fr.snoc X170 N169 fr0
  have Z0170 : n0 ≤ h170.size := Nat.le_trans Z0169 (Nat.le_of_eq W170.size.symm)
  have V170_r0 := own_AFoth V169_r0 W170 ner0
  have V170_c0 := own_AFoth V169_c0 W170 nec0
  have V170_r1 := own_AFoth V169_r1 W170 ner1
  have V170_c1 := own_AFoth V169_c1 W170 nec1
  have V170_r2 := own_AFoth V169_r2 W170 ner2
  have V170_c2 := own_AFoth V169_c2 W170 nec2
  have V170_r3 := own_AFoth V169_r3 W170 ner3
  have V170_c3 := own_AFoth V169_c3 W170 nec3
  have V170_bs_169 := own_AFoth r5_169 W170 (Ne.symm neo0_169s)
  have V170_bv_169 := own_AFoth r6_169 W170 (Ne.symm neo0_169v)
  have Ex170_o1 := Ex169_o1.wr W170
  have F170_o1_modCount := F169_o1_modCount.other W170 (Or.inl neo1)
  have F170_o1_elementData := F169_o1_elementData.other W170 (Or.inl neo1)
  have F170_o1_size := F169_o1_size.other W170 (Or.inl neo1)
  have Ex170_o2 := Ex169_o2.wr W170
  have F170_o2_modCount := F169_o2_modCount.other W170 (Or.inl neo2)
  have F170_o2_elementData := F169_o2_elementData.other W170 (Or.inl neo2)
  have F170_o2_size := F169_o2_size.other W170 (Or.inl neo2)
  have Ex170_b168 := r13_169.wr W170
  have F170_b168_starts := r14_169.other W170 (Or.inl (Ne.symm neo0_168))
  have F170_b168_values := r15_169.other W170 (Or.inl (Ne.symm neo0_168))
  have Xa170_r0 := Xa169_r0.wr W170
  have Xa170_c0 := Xa169_c0.wr W170
  have Xa170_r1 := Xa169_r1.wr W170
  have Xa170_c1 := Xa169_c1.wr W170
  have Xa170_r2 := Xa169_r2.wr W170
  have Xa170_c2 := Xa169_c2.wr W170
  have Xa170_r3 := Xa169_r3.wr W170
  have Xa170_c3 := Xa169_c3.wr W170
  have R170_ea := own_RFoth R169_ea W170 neea
  have R170_eb := own_RFoth R169_eb W170 neeb
  have K170 : Keep h h170 [o0] := KK169.wr W170 (Or.inl (List.mem_of_getElem? (i := 0) rfl))
  have Ex170_o0 := Ex169_o0.wr W170
  have F170_o0_next := F169_o0_next.same W170
  have F170_o0_guardedNext := F169_o0_guardedNext.other W170 (Or.inr (slot_ne (Or.inr (hw _ (List.mem_of_getElem? (i := 122) rfl))) (Or.inr (hw _ (List.mem_of_getElem? (i := 120) rfl))) (by decide) (t := (.object "com/example/libentitle/libentitle/role/Rows")) (t' := (.object "com/example/libentitle/libentitle/role/Rows")) (by decide) (by decide)))
  have F170_o0_previous := F169_o0_previous.other W170 (Or.inr (slot_ne (Or.inr (hw _ (List.mem_of_getElem? (i := 142) rfl))) (Or.inr (hw _ (List.mem_of_getElem? (i := 120) rfl))) (by decide) (t := (.object "com/example/libentitle/libentitle/role/Rows")) (t' := (.object "com/example/libentitle/libentitle/role/Rows")) (by decide) (by decide)))
  have F170_o0_guardedPrevious := F169_o0_guardedPrevious.other W170 (Or.inr (slot_ne (Or.inr (hw _ (List.mem_of_getElem? (i := 144) rfl))) (Or.inr (hw _ (List.mem_of_getElem? (i := 120) rfl))) (by decide) (t := (.object "com/example/libentitle/libentitle/role/Rows")) (t' := (.object "com/example/libentitle/libentitle/role/Rows")) (by decide) (by decide)))
  refine own_step st170 ?_
  show own_Fin p e below s Q 14 84 (T170.setTop (mkF m 16 #[.val (.ref o0), .val (.ref o1), .val (.ref o2)] []))
  refine own_step (fun t k => XS.aloadN X170.here hx rfl (hb hby d11_16) rfl rfl k) ?_
  show own_Fin p e below s Q 14 84 (T170.setTop (mkF m 17 #[.val (.ref o0), .val (.ref o1), .val (.ref o2)] [(.ref o0)]))
  obtain ⟨T171, h171, X171, e171, E171, A171, D171, -, st171⟩ := newO X170 hx hZ hown (hw _ (List.mem_of_getElem? (i := 73) rfl)) (hw _ (List.mem_of_getElem? (i := 74) rfl)) (hw _ (List.mem_of_getElem? (i := 75) rfl)) e170 (g := (mkF m 17 #[.val (.ref o0), .val (.ref o1), .val (.ref o2)] [(.ref o0)])) rfl (hb hby d11_17) (show cells + 1 + 2 + 1 ≤ 14 from (Nat.le_trans (Nat.add_le_add_right hc 4) (by decide))) (show slots + 2 + 17 + 2 ≤ 84 from (Nat.le_trans (Nat.add_le_add_right hs 21) (by decide)))
  obtain ⟨b171, gg171⟩ : ∃ z, z = h170.size := ⟨_, rfl⟩
  rw [← gg171] at A171 D171 st171
  have F171_starts : Fld Z h171 b171 "com/example/libentitle/libentitle/role/Rows" "starts" "[I" .null := D171 (Or.inr (hw _ (List.mem_of_getElem? (i := 89) rfl))) (ty := (.array .int)) (by decide)
  have F171_values : Fld Z h171 b171 "com/example/libentitle/libentitle/role/Rows" "values" "[I" .null := D171 (Or.inr (hw _ (List.mem_of_getElem? (i := 114) rfl))) (ty := (.array .int)) (by decide)
  have fr171 : n0 ≤ b171 := Nat.le_trans Z0170 (Nat.le_of_eq gg171.symm)
  have Z0171 : n0 ≤ h171.size := Nat.le_trans Z0170 E171.1
  have ner0_171 : r0 ≠ b171 := Nat.ne_of_lt (Nat.lt_of_lt_of_le V170_r0.lt (Nat.le_of_eq gg171.symm))
  have nec0_171 : c0 ≠ b171 := Nat.ne_of_lt (Nat.lt_of_lt_of_le V170_c0.lt (Nat.le_of_eq gg171.symm))
  have ner1_171 : r1 ≠ b171 := Nat.ne_of_lt (Nat.lt_of_lt_of_le V170_r1.lt (Nat.le_of_eq gg171.symm))
  have nec1_171 : c1 ≠ b171 := Nat.ne_of_lt (Nat.lt_of_lt_of_le V170_c1.lt (Nat.le_of_eq gg171.symm))
  have ner2_171 : r2 ≠ b171 := Nat.ne_of_lt (Nat.lt_of_lt_of_le V170_r2.lt (Nat.le_of_eq gg171.symm))
  have nec2_171 : c2 ≠ b171 := Nat.ne_of_lt (Nat.lt_of_lt_of_le V170_c2.lt (Nat.le_of_eq gg171.symm))
  have ner3_171 : r3 ≠ b171 := Nat.ne_of_lt (Nat.lt_of_lt_of_le V170_r3.lt (Nat.le_of_eq gg171.symm))
  have nec3_171 : c3 ≠ b171 := Nat.ne_of_lt (Nat.lt_of_lt_of_le V170_c3.lt (Nat.le_of_eq gg171.symm))
  have nebs_169_171 : bs_169 ≠ b171 := Nat.ne_of_lt (Nat.lt_of_lt_of_le V170_bs_169.lt (Nat.le_of_eq gg171.symm))
  have nebv_169_171 : bv_169 ≠ b171 := Nat.ne_of_lt (Nat.lt_of_lt_of_le V170_bv_169.lt (Nat.le_of_eq gg171.symm))
  have neo1_171 : o1 ≠ b171 := Nat.ne_of_lt (Nat.lt_of_lt_of_le Ex170_o1.lt (Nat.le_of_eq gg171.symm))
  have neo2_171 : o2 ≠ b171 := Nat.ne_of_lt (Nat.lt_of_lt_of_le Ex170_o2.lt (Nat.le_of_eq gg171.symm))
  have neb168_171 : b168 ≠ b171 := Nat.ne_of_lt (Nat.lt_of_lt_of_le Ex170_b168.lt (Nat.le_of_eq gg171.symm))
  have neo0_171 : o0 ≠ b171 := Nat.ne_of_lt (Nat.lt_of_lt_of_le Ex170_o0.lt (Nat.le_of_eq gg171.symm))
  have sz171 : h.size ≤ b171 := Nat.le_trans K170.1 (Nat.le_of_eq gg171.symm)
  have neea_171 : ea ≠ b171 := Nat.ne_of_lt (Nat.lt_of_lt_of_le R170_ea.lt (Nat.le_of_eq gg171.symm))
  have neeb_171 : eb ≠ b171 := Nat.ne_of_lt (Nat.lt_of_lt_of_le R170_eb.lt (Nat.le_of_eq gg171.symm))
  have V171_r0 := own_AFext V170_r0 E171
  have V171_c0 := own_AFext V170_c0 E171
  have V171_r1 := own_AFext V170_r1 E171
  have V171_c1 := own_AFext V170_c1 E171
  have V171_r2 := own_AFext V170_r2 E171
  have V171_c2 := own_AFext V170_c2 E171
  have V171_r3 := own_AFext V170_r3 E171
  have V171_c3 := own_AFext V170_c3 E171
  have V171_bs_169 := own_AFext V170_bs_169 E171
  have V171_bv_169 := own_AFext V170_bv_169 E171
  have Ex171_o1 := Ex170_o1.ext E171
  have F171_o1_modCount := F170_o1_modCount.ext E171
  have F171_o1_elementData := F170_o1_elementData.ext E171
  have F171_o1_size := F170_o1_size.ext E171
  have Ex171_o2 := Ex170_o2.ext E171
  have F171_o2_modCount := F170_o2_modCount.ext E171
  have F171_o2_elementData := F170_o2_elementData.ext E171
  have F171_o2_size := F170_o2_size.ext E171
  have Ex171_b168 := Ex170_b168.ext E171
  have F171_b168_starts := F170_b168_starts.ext E171
  have F171_b168_values := F170_b168_values.ext E171
  have Ex171_o0 := Ex170_o0.ext E171
  have F171_o0_next := F170_o0_next.ext E171
  have F171_o0_guardedNext := F170_o0_guardedNext.ext E171
  have F171_o0_previous := F170_o0_previous.ext E171
  have F171_o0_guardedPrevious := F170_o0_guardedPrevious.ext E171
  have Xa171_r0 := Xa170_r0.ext E171
  have Xa171_c0 := Xa170_c0.ext E171
  have Xa171_r1 := Xa170_r1.ext E171
  have Xa171_c1 := Xa170_c1.ext E171
  have Xa171_r2 := Xa170_r2.ext E171
  have Xa171_c2 := Xa170_c2.ext E171
  have Xa171_r3 := Xa170_r3.ext E171
  have Xa171_c3 := Xa170_c3.ext E171
  have R171_ea := own_RFext R170_ea E171
  have R171_eb := own_RFext R170_eb E171
  have K171 : Keep h h171 [o0] := K170.ext E171
  refine own_step st171 ?_
  show own_Fin p e below s Q 14 84 (T171.setTop (mkF m 20 #[.val (.ref o0), .val (.ref o1), .val (.ref o2)] [(.ref b171), (.ref o0)]))
  refine own_step (fun t k => XS.dup X171.here hx rfl (hb hby d11_20) rfl rfl k) ?_
  show own_Fin p e below s Q 14 84 (T171.setTop (mkF m 21 #[.val (.ref o0), .val (.ref o1), .val (.ref o2)] [(.ref b171), (.ref b171), (.ref o0)]))
  refine own_step (fun t k => XS.aloadN X171.here hx rfl (hb hby d11_21) rfl rfl k) ?_
  show own_Fin p e below s Q 14 84 (T171.setTop (mkF m 22 #[.val (.ref o0), .val (.ref o1), .val (.ref o2)] [(.ref o2), (.ref b171), (.ref b171), (.ref o0)]))
  obtain ⟨_, _, ⟨T172, L172, k172, n172⟩, -, X172, ⟨Lc172, hQ172, l172, y172, z172⟩, st172⟩ := X171.specialBack hx (y := (⟨"com/example/libentitle/libentitle/role/Rows", "<init>", "(Ljava/util/List;)V"⟩ : MethodName)) rfl hown (mvT hZ (hw _ (List.mem_of_getElem? (i := 76) rfl))) (mvT hZ (hw _ (List.mem_of_getElem? (i := 77) rfl))) (mvT hZ (hw _ (List.mem_of_getElem? (i := 78) rfl))) (by decide) (backOf (W := 2) (rm12 l Z a0 hw [] b171 o2 .null .null um2 eb gB c0 y0 k0 c1 y1 k1 c2 y2 k2 c3 y3 k3 h171 n0 Z0171 fr171 A171 F171_starts F171_values Ex171_o2 F171_o2_modCount F171_o2_elementData F171_o2_size R171_eb V171_c0 Xa171_c0 hg20 hz20 V171_c1 Xa171_c1 hg21 hz21 V171_c2 Xa171_c2 hg22 hz22 V171_c3 Xa171_c3 hg23 hz23 neo2_171 neeb_171 nec0_171 nec1_171 nec2_171 nec3_171 hv20 hv21 hv22 hv23) hZ (hw _ (List.mem_of_getElem? (i := 78) rfl)) (hw _ (List.mem_of_getElem? (i := 75) rfl)) (by decide) (by decide)) (g := (mkF m 22 #[.val (.ref o0), .val (.ref o1), .val (.ref o2)] [(.ref o2), (.ref b171), (.ref b171), (.ref o0)])) rfl (by rw [hml]; rfl) (Steps.refl _) (a := b171) (argsL := [(.ref o2)]) (rest := [(.ref b171), (.ref o0)]) (lenOf pdm_9 rfl) rfl (by show 2 * 0 + _ ≤ _; exact Nat.le_of_eq rfl) (hb hby d11_22) (fun _ _ => ⟨rfl, e171, (show cells + 1 + 2 + 1 + 2 ≤ 14 from (Nat.le_trans (Nat.add_le_add_right hc 6) (by decide))), (show slots + 2 + 17 + 2 + 17 ≤ 84 from (Nat.le_trans (Nat.add_le_add_right hs 38) (by decide)))⟩)
  dsimp only [Pt.U, Pt.locs, Pt.cells, Pt.slots] at X172 l172 y172 z172 st172 hQ172
  have yy172 : k172 = cells + 1 + 2 + 1 + 2 := y172
  have zz172 : n172 = slots + 2 + 17 + 2 + 17 := z172
  rw [yy172, zz172, l172] at X172
  obtain ⟨bs_172, bv_172, gs_172, gv_172, rfl, N172q, K172, r0_172, r1_172, r2_172, r3_172, r4_172, r5_172, r6_172, r7_172, r8_172, r9_172, r10_172, r11_172, r12_172, r13_172, r14_172, r15_172⟩ := hQ172
  have N172 := Fr.app N170 N172q
  have Z0172 : n0 ≤ T172.heap.size := Nat.le_trans Z0171 K172.1
  have V172_r0 := own_AFkeep V171_r0 K172 (ninS ner0_171 nin0)
  have Xa172_r0 := Xa171_r0.keep K172
  have V172_c0 := own_AFkeep V171_c0 K172 (ninS nec0_171 nin0)
  have Xa172_c0 := Xa171_c0.keep K172
  have V172_r1 := own_AFkeep V171_r1 K172 (ninS ner1_171 nin0)
  have Xa172_r1 := Xa171_r1.keep K172
  have V172_c1 := own_AFkeep V171_c1 K172 (ninS nec1_171 nin0)
  have Xa172_c1 := Xa171_c1.keep K172
  have V172_r2 := own_AFkeep V171_r2 K172 (ninS ner2_171 nin0)
  have Xa172_r2 := Xa171_r2.keep K172
  have V172_c2 := own_AFkeep V171_c2 K172 (ninS nec2_171 nin0)
  have Xa172_c2 := Xa171_c2.keep K172
  have V172_r3 := own_AFkeep V171_r3 K172 (ninS ner3_171 nin0)
  have Xa172_r3 := Xa171_r3.keep K172
  have V172_c3 := own_AFkeep V171_c3 K172 (ninS nec3_171 nin0)
  have Xa172_c3 := Xa171_c3.keep K172
  have V172_bs_169 := own_AFkeep V171_bs_169 K172 (ninS nebs_169_171 nin0)
  have V172_bv_169 := own_AFkeep V171_bv_169 K172 (ninS nebv_169_171 nin0)
  have R172_ea := own_RFkeep R171_ea K172 (ninS neea_171 nin0)
  have R172_eb := own_RFkeep R171_eb K172 (ninS neeb_171 nin0)
  have Ex172_o1 := Ex171_o1.keep K172
  have F172_o1_modCount := F171_o1_modCount.keep K172 (ninS neo1_171 nin0)
  have F172_o1_elementData := F171_o1_elementData.keep K172 (ninS neo1_171 nin0)
  have F172_o1_size := F171_o1_size.keep K172 (ninS neo1_171 nin0)
  have Ex172_o2 := Ex171_o2.keep K172
  have F172_o2_modCount := F171_o2_modCount.keep K172 (ninS neo2_171 nin0)
  have F172_o2_elementData := F171_o2_elementData.keep K172 (ninS neo2_171 nin0)
  have F172_o2_size := F171_o2_size.keep K172 (ninS neo2_171 nin0)
  have Ex172_b168 := Ex171_b168.keep K172
  have F172_b168_starts := F171_b168_starts.keep K172 (ninS neb168_171 nin0)
  have F172_b168_values := F171_b168_values.keep K172 (ninS neb168_171 nin0)
  have Ex172_o0 := Ex171_o0.keep K172
  have F172_o0_next := F171_o0_next.keep K172 (ninS neo0_171 nin0)
  have F172_o0_guardedNext := F171_o0_guardedNext.keep K172 (ninS neo0_171 nin0)
  have F172_o0_previous := F171_o0_previous.keep K172 (ninS neo0_171 nin0)
  have F172_o0_guardedPrevious := F171_o0_guardedPrevious.keep K172 (ninS neo0_171 nin0)
  have KK172 : Keep h T172.heap [o0] := K171.trans K172 (allS (Or.inr sz171) all0)
  have ner0_172s : r0 ≠ bs_172 := Nat.ne_of_lt (Nat.lt_of_lt_of_le V171_r0.lt r1_172)
  have nec0_172s : c0 ≠ bs_172 := Nat.ne_of_lt (Nat.lt_of_lt_of_le V171_c0.lt r1_172)
  have ner1_172s : r1 ≠ bs_172 := Nat.ne_of_lt (Nat.lt_of_lt_of_le V171_r1.lt r1_172)
  have nec1_172s : c1 ≠ bs_172 := Nat.ne_of_lt (Nat.lt_of_lt_of_le V171_c1.lt r1_172)
  have ner2_172s : r2 ≠ bs_172 := Nat.ne_of_lt (Nat.lt_of_lt_of_le V171_r2.lt r1_172)
  have nec2_172s : c2 ≠ bs_172 := Nat.ne_of_lt (Nat.lt_of_lt_of_le V171_c2.lt r1_172)
  have ner3_172s : r3 ≠ bs_172 := Nat.ne_of_lt (Nat.lt_of_lt_of_le V171_r3.lt r1_172)
  have nec3_172s : c3 ≠ bs_172 := Nat.ne_of_lt (Nat.lt_of_lt_of_le V171_c3.lt r1_172)
  have nebs_169_172s : bs_169 ≠ bs_172 := Nat.ne_of_lt (Nat.lt_of_lt_of_le V171_bs_169.lt r1_172)
  have nebv_169_172s : bv_169 ≠ bs_172 := Nat.ne_of_lt (Nat.lt_of_lt_of_le V171_bv_169.lt r1_172)
  have neo1_172s : o1 ≠ bs_172 := Nat.ne_of_lt (Nat.lt_of_lt_of_le Ex171_o1.lt r1_172)
  have neo2_172s : o2 ≠ bs_172 := Nat.ne_of_lt (Nat.lt_of_lt_of_le Ex171_o2.lt r1_172)
  have neb168_172s : b168 ≠ bs_172 := Nat.ne_of_lt (Nat.lt_of_lt_of_le Ex171_b168.lt r1_172)
  have neo0_172s : o0 ≠ bs_172 := Nat.ne_of_lt (Nat.lt_of_lt_of_le Ex171_o0.lt r1_172)
  have neb171_172s : b171 ≠ bs_172 := Nat.ne_of_lt (Nat.lt_of_lt_of_le A171.lt r1_172)
  have neea_172s : ea ≠ bs_172 := Nat.ne_of_lt (Nat.lt_of_lt_of_le R171_ea.lt r1_172)
  have neeb_172s : eb ≠ bs_172 := Nat.ne_of_lt (Nat.lt_of_lt_of_le R171_eb.lt r1_172)
  have sz172s : h.size ≤ bs_172 := Nat.le_trans K171.1 r1_172
  have ner0_172v : r0 ≠ bv_172 := Nat.ne_of_lt (Nat.lt_of_lt_of_le V171_r0.lt r3_172)
  have nec0_172v : c0 ≠ bv_172 := Nat.ne_of_lt (Nat.lt_of_lt_of_le V171_c0.lt r3_172)
  have ner1_172v : r1 ≠ bv_172 := Nat.ne_of_lt (Nat.lt_of_lt_of_le V171_r1.lt r3_172)
  have nec1_172v : c1 ≠ bv_172 := Nat.ne_of_lt (Nat.lt_of_lt_of_le V171_c1.lt r3_172)
  have ner2_172v : r2 ≠ bv_172 := Nat.ne_of_lt (Nat.lt_of_lt_of_le V171_r2.lt r3_172)
  have nec2_172v : c2 ≠ bv_172 := Nat.ne_of_lt (Nat.lt_of_lt_of_le V171_c2.lt r3_172)
  have ner3_172v : r3 ≠ bv_172 := Nat.ne_of_lt (Nat.lt_of_lt_of_le V171_r3.lt r3_172)
  have nec3_172v : c3 ≠ bv_172 := Nat.ne_of_lt (Nat.lt_of_lt_of_le V171_c3.lt r3_172)
  have nebs_169_172v : bs_169 ≠ bv_172 := Nat.ne_of_lt (Nat.lt_of_lt_of_le V171_bs_169.lt r3_172)
  have nebv_169_172v : bv_169 ≠ bv_172 := Nat.ne_of_lt (Nat.lt_of_lt_of_le V171_bv_169.lt r3_172)
  have neo1_172v : o1 ≠ bv_172 := Nat.ne_of_lt (Nat.lt_of_lt_of_le Ex171_o1.lt r3_172)
  have neo2_172v : o2 ≠ bv_172 := Nat.ne_of_lt (Nat.lt_of_lt_of_le Ex171_o2.lt r3_172)
  have neb168_172v : b168 ≠ bv_172 := Nat.ne_of_lt (Nat.lt_of_lt_of_le Ex171_b168.lt r3_172)
  have neo0_172v : o0 ≠ bv_172 := Nat.ne_of_lt (Nat.lt_of_lt_of_le Ex171_o0.lt r3_172)
  have neb171_172v : b171 ≠ bv_172 := Nat.ne_of_lt (Nat.lt_of_lt_of_le A171.lt r3_172)
  have neea_172v : ea ≠ bv_172 := Nat.ne_of_lt (Nat.lt_of_lt_of_le R171_ea.lt r3_172)
  have neeb_172v : eb ≠ bv_172 := Nat.ne_of_lt (Nat.lt_of_lt_of_le R171_eb.lt r3_172)
  have sz172v : h.size ≤ bv_172 := Nat.le_trans K171.1 r3_172
  refine own_step (fun t k => st172.trans k) ?_
  show own_Fin p e below s Q 14 84 (T172.setTop (mkF m 25 #[.val (.ref o0), .val (.ref o1), .val (.ref o2)] [(.ref b171), (.ref o0)]))
  obtain ⟨T173, h173, X173, e173, W173, st173⟩ := putF X172 hx hZ hown (host := "") (Or.inl (hw _ (List.mem_of_getElem? (i := 121) rfl))) Via.refl rfl F172_o0_guardedNext Ex172_o0 (Or.inr ⟨(hw _ (List.mem_of_getElem? (i := 122) rfl)), rfl, hnm⟩) (hw _ (List.mem_of_getElem? (i := 67) rfl)) (ty := (.object "com/example/libentitle/libentitle/role/Rows")) (by decide) rfl rfl (g := (mkF m 25 #[.val (.ref o0), .val (.ref o1), .val (.ref o2)] [(.ref b171), (.ref o0)])) rfl rfl (hb hby d11_25)
  have N173 := Fr.snoc X173 N172 fr0
  have Z0173 : n0 ≤ h173.size := Nat.le_trans Z0172 (Nat.le_of_eq W173.size.symm)
  have V173_r0 := own_AFoth V172_r0 W173 ner0
  have V173_c0 := own_AFoth V172_c0 W173 nec0
  have V173_r1 := own_AFoth V172_r1 W173 ner1
  have V173_c1 := own_AFoth V172_c1 W173 nec1
  have V173_r2 := own_AFoth V172_r2 W173 ner2
  have V173_c2 := own_AFoth V172_c2 W173 nec2
  have V173_r3 := own_AFoth V172_r3 W173 ner3
  have V173_c3 := own_AFoth V172_c3 W173 nec3
  have V173_bs_169 := own_AFoth V172_bs_169 W173 (Ne.symm neo0_169s)
  have V173_bv_169 := own_AFoth V172_bv_169 W173 (Ne.symm neo0_169v)
  have V173_bs_172 := own_AFoth r5_172 W173 (Ne.symm neo0_172s)
  have V173_bv_172 := own_AFoth r6_172 W173 (Ne.symm neo0_172v)
  have Ex173_o1 := Ex172_o1.wr W173
  have F173_o1_modCount := F172_o1_modCount.other W173 (Or.inl neo1)
  have F173_o1_elementData := F172_o1_elementData.other W173 (Or.inl neo1)
  have F173_o1_size := F172_o1_size.other W173 (Or.inl neo1)
  have Ex173_o2 := Ex172_o2.wr W173
  have F173_o2_modCount := F172_o2_modCount.other W173 (Or.inl neo2)
  have F173_o2_elementData := F172_o2_elementData.other W173 (Or.inl neo2)
  have F173_o2_size := F172_o2_size.other W173 (Or.inl neo2)
  have Ex173_b168 := Ex172_b168.wr W173
  have F173_b168_starts := F172_b168_starts.other W173 (Or.inl (Ne.symm neo0_168))
  have F173_b168_values := F172_b168_values.other W173 (Or.inl (Ne.symm neo0_168))
  have Ex173_b171 := r13_172.wr W173
  have F173_b171_starts := r14_172.other W173 (Or.inl (Ne.symm neo0_171))
  have F173_b171_values := r15_172.other W173 (Or.inl (Ne.symm neo0_171))
  have Xa173_r0 := Xa172_r0.wr W173
  have Xa173_c0 := Xa172_c0.wr W173
  have Xa173_r1 := Xa172_r1.wr W173
  have Xa173_c1 := Xa172_c1.wr W173
  have Xa173_r2 := Xa172_r2.wr W173
  have Xa173_c2 := Xa172_c2.wr W173
  have Xa173_r3 := Xa172_r3.wr W173
  have Xa173_c3 := Xa172_c3.wr W173
  have R173_ea := own_RFoth R172_ea W173 neea
  have R173_eb := own_RFoth R172_eb W173 neeb
  have K173 : Keep h h173 [o0] := KK172.wr W173 (Or.inl (List.mem_of_getElem? (i := 0) rfl))
  have Ex173_o0 := Ex172_o0.wr W173
  have F173_o0_next := F172_o0_next.other W173 (Or.inr (slot_ne (Or.inr (hw _ (List.mem_of_getElem? (i := 120) rfl))) (Or.inr (hw _ (List.mem_of_getElem? (i := 122) rfl))) (by decide) (t := (.object "com/example/libentitle/libentitle/role/Rows")) (t' := (.object "com/example/libentitle/libentitle/role/Rows")) (by decide) (by decide)))
  have F173_o0_guardedNext := F172_o0_guardedNext.same W173
  have F173_o0_previous := F172_o0_previous.other W173 (Or.inr (slot_ne (Or.inr (hw _ (List.mem_of_getElem? (i := 142) rfl))) (Or.inr (hw _ (List.mem_of_getElem? (i := 122) rfl))) (by decide) (t := (.object "com/example/libentitle/libentitle/role/Rows")) (t' := (.object "com/example/libentitle/libentitle/role/Rows")) (by decide) (by decide)))
  have F173_o0_guardedPrevious := F172_o0_guardedPrevious.other W173 (Or.inr (slot_ne (Or.inr (hw _ (List.mem_of_getElem? (i := 144) rfl))) (Or.inr (hw _ (List.mem_of_getElem? (i := 122) rfl))) (by decide) (t := (.object "com/example/libentitle/libentitle/role/Rows")) (t' := (.object "com/example/libentitle/libentitle/role/Rows")) (by decide) (by decide)))
  refine own_step st173 ?_
  show own_Fin p e below s Q 14 84 (T173.setTop (mkF m 28 #[.val (.ref o0), .val (.ref o1), .val (.ref o2)] []))
  refine own_step (fun t k => XS.aloadN X173.here hx rfl (hb hby d11_28) rfl rfl k) ?_
  show own_Fin p e below s Q 14 84 (T173.setTop (mkF m 29 #[.val (.ref o0), .val (.ref o1), .val (.ref o2)] [(.ref o0)]))
  refine own_step (fun t k => XS.aloadN X173.here hx rfl (hb hby d11_29) rfl rfl k) ?_
  show own_Fin p e below s Q 14 84 (T173.setTop (mkF m 30 #[.val (.ref o0), .val (.ref o1), .val (.ref o2)] [(.ref o0), (.ref o0)]))
  obtain ⟨T174, X174, e174, st174⟩ := getF X173 hx hZ hown (host := "") (Or.inl (hw _ (List.mem_of_getElem? (i := 119) rfl))) Via.refl e173 F173_o0_next (g := (mkF m 30 #[.val (.ref o0), .val (.ref o1), .val (.ref o2)] [(.ref o0), (.ref o0)])) rfl rfl (hb hby d11_30)
  refine own_step st174 ?_
  show own_Fin p e below s Q 14 84 (T174.setTop (mkF m 33 #[.val (.ref o0), .val (.ref o1), .val (.ref o2)] [(.ref b168), (.ref o0)]))
  refine own_step (fun t k => XS.aloadN X174.here hx rfl (hb hby d11_33) rfl rfl k) ?_
  show own_Fin p e below s Q 14 84 (T174.setTop (mkF m 34 #[.val (.ref o0), .val (.ref o1), .val (.ref o2)] [(.ref o1), (.ref b168), (.ref o0)]))
  obtain ⟨cq175, kq175, q175a, q175b, q175c⟩ := isOf hZ e174 Ex173_o1
  obtain ⟨_, _, ⟨T175, L175, k175, n175⟩, -, X175, ⟨Lc175, hQ175, l175, y175, z175⟩, st175⟩ := X174.interfaceBack hx (xi := (⟨"java/util/List", "size", "()I"⟩ : MethodName)) (y := (⟨"java/util/ArrayList", "size", "()I"⟩ : MethodName)) hown (mvT hZ (hw _ (List.mem_of_getElem? (i := 123) rfl))) (mvT hZ (hw _ (List.mem_of_getElem? (i := 81) rfl))) (mvT hZ (hw _ (List.mem_of_getElem? (i := 82) rfl))) (mvT hZ (hw _ (List.mem_of_getElem? (i := 83) rfl))) (mvT hZ (hw _ (List.mem_of_getElem? (i := 84) rfl))) (mvT hZ (hw _ (List.mem_of_getElem? (i := 85) rfl))) (mvT hZ (hw _ (List.mem_of_getElem? (i := 86) rfl))) (mvT hZ (hw _ (List.mem_of_getElem? (i := 38) rfl))) (by decide) (backOf (W := 2) (rm13 l Z a0 hw [] o1 (4 : Int32) h173 n0 F173_o1_size) hZ (hw _ (List.mem_of_getElem? (i := 87) rfl)) (hw _ (List.mem_of_getElem? (i := 2) rfl)) (by decide) (by decide)) q175a q175b q175c (g := (mkF m 34 #[.val (.ref o0), .val (.ref o1), .val (.ref o2)] [(.ref o1), (.ref b168), (.ref o0)])) rfl (by rw [hml]; rfl) (Steps.refl _) (argsL := []) (rest := [(.ref b168), (.ref o0)]) (lenOf pdm_6 rfl) rfl (by show 2 * 0 + _ ≤ _; exact Nat.le_of_eq rfl) (hb hby d11_34) (fun _ _ => ⟨rfl, e174, (show cells + 1 + 2 + 1 + 2 + 0 ≤ 14 from (Nat.le_trans (Nat.add_le_add_right hc 6) (by decide))), (show slots + 2 + 17 + 2 + 17 + 0 ≤ 84 from (Nat.le_trans (Nat.add_le_add_right hs 38) (by decide)))⟩)
  dsimp only [Pt.U, Pt.locs, Pt.cells, Pt.slots] at X175 l175 y175 z175 st175 hQ175
  have yy175 : k175 = cells + 1 + 2 + 1 + 2 + 0 := y175
  have zz175 : n175 = slots + 2 + 17 + 2 + 17 + 0 := z175
  rw [yy175, zz175, l175] at X175
  obtain ⟨rfl, N175q, e175⟩ := hQ175
  have N175 := Fr.app N173 N175q
  refine own_step (fun t k => st175.trans k) ?_
  show own_Fin p e below s Q 14 84 (T175.setTop (mkF m 39 #[.val (.ref o0), .val (.ref o1), .val (.ref o2)] [(.int (4 : Int32)), (.ref b168), (.ref o0)]))
  obtain ⟨cq176, kq176, q176a, q176b, q176c⟩ := isOf hZ e175 Ex173_b168
  obtain ⟨_, _, ⟨T176, L176, k176, n176⟩, -, X176, ⟨Lc176, hQ176, l176, y176, z176⟩, st176⟩ := X175.virtualBack hx (y := (⟨"com/example/libentitle/libentitle/role/Rows", "inverse", "(I)Lcom/example/libentitle/libentitle/role/Rows;"⟩ : MethodName)) (z := (⟨"com/example/libentitle/libentitle/role/Rows", "inverse", "(I)Lcom/example/libentitle/libentitle/role/Rows;"⟩ : MethodName)) hown (mvT hZ (hw _ (List.mem_of_getElem? (i := 124) rfl))) (mvT hZ (hw _ (List.mem_of_getElem? (i := 125) rfl))) (notFace_of_selects (args := #[]) (mvT hZ (hw _ (List.mem_of_getElem? (i := 127) rfl)))) (mvT hZ (hw _ (List.mem_of_getElem? (i := 127) rfl))) (mvT hZ (hw _ (List.mem_of_getElem? (i := 126) rfl))) (by decide) (backOf (W := 1) (rm18 l Z a0 hw [] b168 bs_169 bv_169 gs_169 gv_169 (0 + x0 + x1 + x2 + x3) h173 n0 Z0173 Ex173_b168 F173_b168_starts F173_b168_values V173_bs_169 V173_bv_169 (by omega) r12_169 (own_monS hz10 hz11 hz12 hz13 r7_169 r8_169 r9_169 r10_169 r11_169)) hZ (hw _ (List.mem_of_getElem? (i := 128) rfl)) (hw _ (List.mem_of_getElem? (i := 75) rfl)) (by decide) (by decide)) q176a q176c (g := (mkF m 39 #[.val (.ref o0), .val (.ref o1), .val (.ref o2)] [(.int (4 : Int32)), (.ref b168), (.ref o0)])) rfl (by rw [hml]; rfl) (Steps.refl _) (argsL := [(.int (4 : Int32))]) (rest := [(.ref o0)]) (lenOf pdm_13 rfl) rfl (by show 2 * 0 + _ ≤ _; exact Nat.le_of_eq rfl) (hb hby d11_39) (fun _ _ => ⟨rfl, e175, (show cells + 1 + 2 + 1 + 2 + 0 + 4 ≤ 14 from (Nat.le_trans (Nat.add_le_add_right hc 10) (by decide))), (show slots + 2 + 17 + 2 + 17 + 0 + 23 ≤ 84 from (Nat.le_trans (Nat.add_le_add_right hs 61) (by decide)))⟩)
  dsimp only [Pt.U, Pt.locs, Pt.cells, Pt.slots] at X176 l176 y176 z176 st176 hQ176
  have yy176 : k176 = cells + 1 + 2 + 1 + 2 + 0 + 4 := y176
  have zz176 : n176 = slots + 2 + 17 + 2 + 17 + 0 + 23 := z176
  rw [yy176, zz176, l176] at X176
  obtain ⟨b_176, rfl, N176q, K176, r0_176⟩ := hQ176
  have N176 := Fr.app N175 N176q
  have Z0176 : n0 ≤ T176.heap.size := Nat.le_trans Z0173 K176.1
  have V176_r0 := own_AFkeep V173_r0 K176 nin0
  have Xa176_r0 := Xa173_r0.keep K176
  have V176_c0 := own_AFkeep V173_c0 K176 nin0
  have Xa176_c0 := Xa173_c0.keep K176
  have V176_r1 := own_AFkeep V173_r1 K176 nin0
  have Xa176_r1 := Xa173_r1.keep K176
  have V176_c1 := own_AFkeep V173_c1 K176 nin0
  have Xa176_c1 := Xa173_c1.keep K176
  have V176_r2 := own_AFkeep V173_r2 K176 nin0
  have Xa176_r2 := Xa173_r2.keep K176
  have V176_c2 := own_AFkeep V173_c2 K176 nin0
  have Xa176_c2 := Xa173_c2.keep K176
  have V176_r3 := own_AFkeep V173_r3 K176 nin0
  have Xa176_r3 := Xa173_r3.keep K176
  have V176_c3 := own_AFkeep V173_c3 K176 nin0
  have Xa176_c3 := Xa173_c3.keep K176
  have V176_bs_169 := own_AFkeep V173_bs_169 K176 nin0
  have V176_bv_169 := own_AFkeep V173_bv_169 K176 nin0
  have V176_bs_172 := own_AFkeep V173_bs_172 K176 nin0
  have V176_bv_172 := own_AFkeep V173_bv_172 K176 nin0
  have R176_ea := own_RFkeep R173_ea K176 nin0
  have R176_eb := own_RFkeep R173_eb K176 nin0
  have Ex176_o1 := Ex173_o1.keep K176
  have F176_o1_modCount := F173_o1_modCount.keep K176 nin0
  have F176_o1_elementData := F173_o1_elementData.keep K176 nin0
  have F176_o1_size := F173_o1_size.keep K176 nin0
  have Ex176_o2 := Ex173_o2.keep K176
  have F176_o2_modCount := F173_o2_modCount.keep K176 nin0
  have F176_o2_elementData := F173_o2_elementData.keep K176 nin0
  have F176_o2_size := F173_o2_size.keep K176 nin0
  have Ex176_b168 := Ex173_b168.keep K176
  have F176_b168_starts := F173_b168_starts.keep K176 nin0
  have F176_b168_values := F173_b168_values.keep K176 nin0
  have Ex176_b171 := Ex173_b171.keep K176
  have F176_b171_starts := F173_b171_starts.keep K176 nin0
  have F176_b171_values := F173_b171_values.keep K176 nin0
  have Ex176_o0 := Ex173_o0.keep K176
  have F176_o0_next := F173_o0_next.keep K176 nin0
  have F176_o0_guardedNext := F173_o0_guardedNext.keep K176 nin0
  have F176_o0_previous := F173_o0_previous.keep K176 nin0
  have F176_o0_guardedPrevious := F173_o0_guardedPrevious.keep K176 nin0
  have KK176 : Keep h T176.heap [o0] := K173.trans K176 all0
  refine own_step (fun t k => st176.trans k) ?_
  show own_Fin p e below s Q 14 84 (T176.setTop (mkF m 42 #[.val (.ref o0), .val (.ref o1), .val (.ref o2)] [(.ref b_176), (.ref o0)]))
  obtain ⟨T177, h177, X177, e177, W177, st177⟩ := putF X176 hx hZ hown (host := "") (Or.inl (hw _ (List.mem_of_getElem? (i := 141) rfl))) Via.refl rfl F176_o0_previous Ex176_o0 (Or.inr ⟨(hw _ (List.mem_of_getElem? (i := 142) rfl)), rfl, hnm⟩) (hw _ (List.mem_of_getElem? (i := 67) rfl)) (ty := (.object "com/example/libentitle/libentitle/role/Rows")) (by decide) rfl rfl (g := (mkF m 42 #[.val (.ref o0), .val (.ref o1), .val (.ref o2)] [(.ref b_176), (.ref o0)])) rfl rfl (hb hby d11_42)
  have N177 := Fr.snoc X177 N176 fr0
  have Z0177 : n0 ≤ h177.size := Nat.le_trans Z0176 (Nat.le_of_eq W177.size.symm)
  have V177_r0 := own_AFoth V176_r0 W177 ner0
  have V177_c0 := own_AFoth V176_c0 W177 nec0
  have V177_r1 := own_AFoth V176_r1 W177 ner1
  have V177_c1 := own_AFoth V176_c1 W177 nec1
  have V177_r2 := own_AFoth V176_r2 W177 ner2
  have V177_c2 := own_AFoth V176_c2 W177 nec2
  have V177_r3 := own_AFoth V176_r3 W177 ner3
  have V177_c3 := own_AFoth V176_c3 W177 nec3
  have V177_bs_169 := own_AFoth V176_bs_169 W177 (Ne.symm neo0_169s)
  have V177_bv_169 := own_AFoth V176_bv_169 W177 (Ne.symm neo0_169v)
  have V177_bs_172 := own_AFoth V176_bs_172 W177 (Ne.symm neo0_172s)
  have V177_bv_172 := own_AFoth V176_bv_172 W177 (Ne.symm neo0_172v)
  have Ex177_o1 := Ex176_o1.wr W177
  have F177_o1_modCount := F176_o1_modCount.other W177 (Or.inl neo1)
  have F177_o1_elementData := F176_o1_elementData.other W177 (Or.inl neo1)
  have F177_o1_size := F176_o1_size.other W177 (Or.inl neo1)
  have Ex177_o2 := Ex176_o2.wr W177
  have F177_o2_modCount := F176_o2_modCount.other W177 (Or.inl neo2)
  have F177_o2_elementData := F176_o2_elementData.other W177 (Or.inl neo2)
  have F177_o2_size := F176_o2_size.other W177 (Or.inl neo2)
  have Ex177_b168 := Ex176_b168.wr W177
  have F177_b168_starts := F176_b168_starts.other W177 (Or.inl (Ne.symm neo0_168))
  have F177_b168_values := F176_b168_values.other W177 (Or.inl (Ne.symm neo0_168))
  have Ex177_b171 := Ex176_b171.wr W177
  have F177_b171_starts := F176_b171_starts.other W177 (Or.inl (Ne.symm neo0_171))
  have F177_b171_values := F176_b171_values.other W177 (Or.inl (Ne.symm neo0_171))
  have Xa177_r0 := Xa176_r0.wr W177
  have Xa177_c0 := Xa176_c0.wr W177
  have Xa177_r1 := Xa176_r1.wr W177
  have Xa177_c1 := Xa176_c1.wr W177
  have Xa177_r2 := Xa176_r2.wr W177
  have Xa177_c2 := Xa176_c2.wr W177
  have Xa177_r3 := Xa176_r3.wr W177
  have Xa177_c3 := Xa176_c3.wr W177
  have R177_ea := own_RFoth R176_ea W177 neea
  have R177_eb := own_RFoth R176_eb W177 neeb
  have K177 : Keep h h177 [o0] := KK176.wr W177 (Or.inl (List.mem_of_getElem? (i := 0) rfl))
  have Ex177_o0 := Ex176_o0.wr W177
  have F177_o0_next := F176_o0_next.other W177 (Or.inr (slot_ne (Or.inr (hw _ (List.mem_of_getElem? (i := 120) rfl))) (Or.inr (hw _ (List.mem_of_getElem? (i := 142) rfl))) (by decide) (t := (.object "com/example/libentitle/libentitle/role/Rows")) (t' := (.object "com/example/libentitle/libentitle/role/Rows")) (by decide) (by decide)))
  have F177_o0_guardedNext := F176_o0_guardedNext.other W177 (Or.inr (slot_ne (Or.inr (hw _ (List.mem_of_getElem? (i := 122) rfl))) (Or.inr (hw _ (List.mem_of_getElem? (i := 142) rfl))) (by decide) (t := (.object "com/example/libentitle/libentitle/role/Rows")) (t' := (.object "com/example/libentitle/libentitle/role/Rows")) (by decide) (by decide)))
  have F177_o0_previous := F176_o0_previous.same W177
  have F177_o0_guardedPrevious := F176_o0_guardedPrevious.other W177 (Or.inr (slot_ne (Or.inr (hw _ (List.mem_of_getElem? (i := 144) rfl))) (Or.inr (hw _ (List.mem_of_getElem? (i := 142) rfl))) (by decide) (t := (.object "com/example/libentitle/libentitle/role/Rows")) (t' := (.object "com/example/libentitle/libentitle/role/Rows")) (by decide) (by decide)))
  refine own_step st177 ?_
  show own_Fin p e below s Q 14 84 (T177.setTop (mkF m 45 #[.val (.ref o0), .val (.ref o1), .val (.ref o2)] []))
  refine own_step (fun t k => XS.aloadN X177.here hx rfl (hb hby d11_45) rfl rfl k) ?_
  show own_Fin p e below s Q 14 84 (T177.setTop (mkF m 46 #[.val (.ref o0), .val (.ref o1), .val (.ref o2)] [(.ref o0)]))
  refine own_step (fun t k => XS.aloadN X177.here hx rfl (hb hby d11_46) rfl rfl k) ?_
  show own_Fin p e below s Q 14 84 (T177.setTop (mkF m 47 #[.val (.ref o0), .val (.ref o1), .val (.ref o2)] [(.ref o0), (.ref o0)]))
  obtain ⟨T178, X178, e178, st178⟩ := getF X177 hx hZ hown (host := "") (Or.inl (hw _ (List.mem_of_getElem? (i := 121) rfl))) Via.refl e177 F177_o0_guardedNext (g := (mkF m 47 #[.val (.ref o0), .val (.ref o1), .val (.ref o2)] [(.ref o0), (.ref o0)])) rfl rfl (hb hby d11_47)
  refine own_step st178 ?_
  show own_Fin p e below s Q 14 84 (T178.setTop (mkF m 50 #[.val (.ref o0), .val (.ref o1), .val (.ref o2)] [(.ref b171), (.ref o0)]))
  refine own_step (fun t k => XS.aloadN X178.here hx rfl (hb hby d11_50) rfl rfl k) ?_
  show own_Fin p e below s Q 14 84 (T178.setTop (mkF m 51 #[.val (.ref o0), .val (.ref o1), .val (.ref o2)] [(.ref o1), (.ref b171), (.ref o0)]))
  obtain ⟨cq179, kq179, q179a, q179b, q179c⟩ := isOf hZ e178 Ex177_o1
  obtain ⟨_, _, ⟨T179, L179, k179, n179⟩, -, X179, ⟨Lc179, hQ179, l179, y179, z179⟩, st179⟩ := X178.interfaceBack hx (xi := (⟨"java/util/List", "size", "()I"⟩ : MethodName)) (y := (⟨"java/util/ArrayList", "size", "()I"⟩ : MethodName)) hown (mvT hZ (hw _ (List.mem_of_getElem? (i := 123) rfl))) (mvT hZ (hw _ (List.mem_of_getElem? (i := 81) rfl))) (mvT hZ (hw _ (List.mem_of_getElem? (i := 82) rfl))) (mvT hZ (hw _ (List.mem_of_getElem? (i := 83) rfl))) (mvT hZ (hw _ (List.mem_of_getElem? (i := 84) rfl))) (mvT hZ (hw _ (List.mem_of_getElem? (i := 85) rfl))) (mvT hZ (hw _ (List.mem_of_getElem? (i := 86) rfl))) (mvT hZ (hw _ (List.mem_of_getElem? (i := 38) rfl))) (by decide) (backOf (W := 2) (rm13 l Z a0 hw [] o1 (4 : Int32) h177 n0 F177_o1_size) hZ (hw _ (List.mem_of_getElem? (i := 87) rfl)) (hw _ (List.mem_of_getElem? (i := 2) rfl)) (by decide) (by decide)) q179a q179b q179c (g := (mkF m 51 #[.val (.ref o0), .val (.ref o1), .val (.ref o2)] [(.ref o1), (.ref b171), (.ref o0)])) rfl (by rw [hml]; rfl) (Steps.refl _) (argsL := []) (rest := [(.ref b171), (.ref o0)]) (lenOf pdm_6 rfl) rfl (by show 2 * 0 + _ ≤ _; exact Nat.le_of_eq rfl) (hb hby d11_51) (fun _ _ => ⟨rfl, e178, (show cells + 1 + 2 + 1 + 2 + 0 + 4 + 0 ≤ 14 from (Nat.le_trans (Nat.add_le_add_right hc 10) (by decide))), (show slots + 2 + 17 + 2 + 17 + 0 + 23 + 0 ≤ 84 from (Nat.le_trans (Nat.add_le_add_right hs 61) (by decide)))⟩)
  dsimp only [Pt.U, Pt.locs, Pt.cells, Pt.slots] at X179 l179 y179 z179 st179 hQ179
  have yy179 : k179 = cells + 1 + 2 + 1 + 2 + 0 + 4 + 0 := y179
  have zz179 : n179 = slots + 2 + 17 + 2 + 17 + 0 + 23 + 0 := z179
  rw [yy179, zz179, l179] at X179
  obtain ⟨rfl, N179q, e179⟩ := hQ179
  have N179 := Fr.app N177 N179q
  refine own_step (fun t k => st179.trans k) ?_
  show own_Fin p e below s Q 14 84 (T179.setTop (mkF m 56 #[.val (.ref o0), .val (.ref o1), .val (.ref o2)] [(.int (4 : Int32)), (.ref b171), (.ref o0)]))
  obtain ⟨cq180, kq180, q180a, q180b, q180c⟩ := isOf hZ e179 Ex177_b171
  obtain ⟨_, _, ⟨T180, L180, k180, n180⟩, -, X180, ⟨Lc180, hQ180, l180, y180, z180⟩, st180⟩ := X179.virtualBack hx (y := (⟨"com/example/libentitle/libentitle/role/Rows", "inverse", "(I)Lcom/example/libentitle/libentitle/role/Rows;"⟩ : MethodName)) (z := (⟨"com/example/libentitle/libentitle/role/Rows", "inverse", "(I)Lcom/example/libentitle/libentitle/role/Rows;"⟩ : MethodName)) hown (mvT hZ (hw _ (List.mem_of_getElem? (i := 124) rfl))) (mvT hZ (hw _ (List.mem_of_getElem? (i := 125) rfl))) (notFace_of_selects (args := #[]) (mvT hZ (hw _ (List.mem_of_getElem? (i := 127) rfl)))) (mvT hZ (hw _ (List.mem_of_getElem? (i := 127) rfl))) (mvT hZ (hw _ (List.mem_of_getElem? (i := 126) rfl))) (by decide) (backOf (W := 1) (rm18 l Z a0 hw [] b171 bs_172 bv_172 gs_172 gv_172 (0 + y0 + y1 + y2 + y3) h177 n0 Z0177 Ex177_b171 F177_b171_starts F177_b171_values V177_bs_172 V177_bv_172 (by omega) r12_172 (own_monS hz20 hz21 hz22 hz23 r7_172 r8_172 r9_172 r10_172 r11_172)) hZ (hw _ (List.mem_of_getElem? (i := 128) rfl)) (hw _ (List.mem_of_getElem? (i := 75) rfl)) (by decide) (by decide)) q180a q180c (g := (mkF m 56 #[.val (.ref o0), .val (.ref o1), .val (.ref o2)] [(.int (4 : Int32)), (.ref b171), (.ref o0)])) rfl (by rw [hml]; rfl) (Steps.refl _) (argsL := [(.int (4 : Int32))]) (rest := [(.ref o0)]) (lenOf pdm_13 rfl) rfl (by show 2 * 0 + _ ≤ _; exact Nat.le_of_eq rfl) (hb hby d11_56) (fun _ _ => ⟨rfl, e179, (show cells + 1 + 2 + 1 + 2 + 0 + 4 + 0 + 4 ≤ 14 from (Nat.le_trans (Nat.add_le_add_right hc 14) (by decide))), (show slots + 2 + 17 + 2 + 17 + 0 + 23 + 0 + 23 ≤ 84 from (Nat.le_trans (Nat.add_le_add_right hs 84) (by decide)))⟩)
  dsimp only [Pt.U, Pt.locs, Pt.cells, Pt.slots] at X180 l180 y180 z180 st180 hQ180
  have yy180 : k180 = cells + 1 + 2 + 1 + 2 + 0 + 4 + 0 + 4 := y180
  have zz180 : n180 = slots + 2 + 17 + 2 + 17 + 0 + 23 + 0 + 23 := z180
  rw [yy180, zz180, l180] at X180
  obtain ⟨b_180, rfl, N180q, K180, r0_180⟩ := hQ180
  have N180 := Fr.app N179 N180q
  have Z0180 : n0 ≤ T180.heap.size := Nat.le_trans Z0177 K180.1
  have V180_r0 := own_AFkeep V177_r0 K180 nin0
  have Xa180_r0 := Xa177_r0.keep K180
  have V180_c0 := own_AFkeep V177_c0 K180 nin0
  have Xa180_c0 := Xa177_c0.keep K180
  have V180_r1 := own_AFkeep V177_r1 K180 nin0
  have Xa180_r1 := Xa177_r1.keep K180
  have V180_c1 := own_AFkeep V177_c1 K180 nin0
  have Xa180_c1 := Xa177_c1.keep K180
  have V180_r2 := own_AFkeep V177_r2 K180 nin0
  have Xa180_r2 := Xa177_r2.keep K180
  have V180_c2 := own_AFkeep V177_c2 K180 nin0
  have Xa180_c2 := Xa177_c2.keep K180
  have V180_r3 := own_AFkeep V177_r3 K180 nin0
  have Xa180_r3 := Xa177_r3.keep K180
  have V180_c3 := own_AFkeep V177_c3 K180 nin0
  have Xa180_c3 := Xa177_c3.keep K180
  have V180_bs_169 := own_AFkeep V177_bs_169 K180 nin0
  have V180_bv_169 := own_AFkeep V177_bv_169 K180 nin0
  have V180_bs_172 := own_AFkeep V177_bs_172 K180 nin0
  have V180_bv_172 := own_AFkeep V177_bv_172 K180 nin0
  have R180_ea := own_RFkeep R177_ea K180 nin0
  have R180_eb := own_RFkeep R177_eb K180 nin0
  have Ex180_o1 := Ex177_o1.keep K180
  have F180_o1_modCount := F177_o1_modCount.keep K180 nin0
  have F180_o1_elementData := F177_o1_elementData.keep K180 nin0
  have F180_o1_size := F177_o1_size.keep K180 nin0
  have Ex180_o2 := Ex177_o2.keep K180
  have F180_o2_modCount := F177_o2_modCount.keep K180 nin0
  have F180_o2_elementData := F177_o2_elementData.keep K180 nin0
  have F180_o2_size := F177_o2_size.keep K180 nin0
  have Ex180_b168 := Ex177_b168.keep K180
  have F180_b168_starts := F177_b168_starts.keep K180 nin0
  have F180_b168_values := F177_b168_values.keep K180 nin0
  have Ex180_b171 := Ex177_b171.keep K180
  have F180_b171_starts := F177_b171_starts.keep K180 nin0
  have F180_b171_values := F177_b171_values.keep K180 nin0
  have Ex180_o0 := Ex177_o0.keep K180
  have F180_o0_next := F177_o0_next.keep K180 nin0
  have F180_o0_guardedNext := F177_o0_guardedNext.keep K180 nin0
  have F180_o0_previous := F177_o0_previous.keep K180 nin0
  have F180_o0_guardedPrevious := F177_o0_guardedPrevious.keep K180 nin0
  have KK180 : Keep h T180.heap [o0] := K177.trans K180 all0
  refine own_step (fun t k => st180.trans k) ?_
  show own_Fin p e below s Q 14 84 (T180.setTop (mkF m 59 #[.val (.ref o0), .val (.ref o1), .val (.ref o2)] [(.ref b_180), (.ref o0)]))
  obtain ⟨T181, h181, X181, e181, W181, st181⟩ := putF X180 hx hZ hown (host := "") (Or.inl (hw _ (List.mem_of_getElem? (i := 143) rfl))) Via.refl rfl F180_o0_guardedPrevious Ex180_o0 (Or.inr ⟨(hw _ (List.mem_of_getElem? (i := 144) rfl)), rfl, hnm⟩) (hw _ (List.mem_of_getElem? (i := 67) rfl)) (ty := (.object "com/example/libentitle/libentitle/role/Rows")) (by decide) rfl rfl (g := (mkF m 59 #[.val (.ref o0), .val (.ref o1), .val (.ref o2)] [(.ref b_180), (.ref o0)])) rfl rfl (hb hby d11_59)
  have N181 := Fr.snoc X181 N180 fr0
  have Z0181 : n0 ≤ h181.size := Nat.le_trans Z0180 (Nat.le_of_eq W181.size.symm)
  have V181_r0 := own_AFoth V180_r0 W181 ner0
  have V181_c0 := own_AFoth V180_c0 W181 nec0
  have V181_r1 := own_AFoth V180_r1 W181 ner1
  have V181_c1 := own_AFoth V180_c1 W181 nec1
  have V181_r2 := own_AFoth V180_r2 W181 ner2
  have V181_c2 := own_AFoth V180_c2 W181 nec2
  have V181_r3 := own_AFoth V180_r3 W181 ner3
  have V181_c3 := own_AFoth V180_c3 W181 nec3
  have V181_bs_169 := own_AFoth V180_bs_169 W181 (Ne.symm neo0_169s)
  have V181_bv_169 := own_AFoth V180_bv_169 W181 (Ne.symm neo0_169v)
  have V181_bs_172 := own_AFoth V180_bs_172 W181 (Ne.symm neo0_172s)
  have V181_bv_172 := own_AFoth V180_bv_172 W181 (Ne.symm neo0_172v)
  have Ex181_o1 := Ex180_o1.wr W181
  have F181_o1_modCount := F180_o1_modCount.other W181 (Or.inl neo1)
  have F181_o1_elementData := F180_o1_elementData.other W181 (Or.inl neo1)
  have F181_o1_size := F180_o1_size.other W181 (Or.inl neo1)
  have Ex181_o2 := Ex180_o2.wr W181
  have F181_o2_modCount := F180_o2_modCount.other W181 (Or.inl neo2)
  have F181_o2_elementData := F180_o2_elementData.other W181 (Or.inl neo2)
  have F181_o2_size := F180_o2_size.other W181 (Or.inl neo2)
  have Ex181_b168 := Ex180_b168.wr W181
  have F181_b168_starts := F180_b168_starts.other W181 (Or.inl (Ne.symm neo0_168))
  have F181_b168_values := F180_b168_values.other W181 (Or.inl (Ne.symm neo0_168))
  have Ex181_b171 := Ex180_b171.wr W181
  have F181_b171_starts := F180_b171_starts.other W181 (Or.inl (Ne.symm neo0_171))
  have F181_b171_values := F180_b171_values.other W181 (Or.inl (Ne.symm neo0_171))
  have Xa181_r0 := Xa180_r0.wr W181
  have Xa181_c0 := Xa180_c0.wr W181
  have Xa181_r1 := Xa180_r1.wr W181
  have Xa181_c1 := Xa180_c1.wr W181
  have Xa181_r2 := Xa180_r2.wr W181
  have Xa181_c2 := Xa180_c2.wr W181
  have Xa181_r3 := Xa180_r3.wr W181
  have Xa181_c3 := Xa180_c3.wr W181
  have R181_ea := own_RFoth R180_ea W181 neea
  have R181_eb := own_RFoth R180_eb W181 neeb
  have K181 : Keep h h181 [o0] := KK180.wr W181 (Or.inl (List.mem_of_getElem? (i := 0) rfl))
  have Ex181_o0 := Ex180_o0.wr W181
  have F181_o0_next := F180_o0_next.other W181 (Or.inr (slot_ne (Or.inr (hw _ (List.mem_of_getElem? (i := 120) rfl))) (Or.inr (hw _ (List.mem_of_getElem? (i := 144) rfl))) (by decide) (t := (.object "com/example/libentitle/libentitle/role/Rows")) (t' := (.object "com/example/libentitle/libentitle/role/Rows")) (by decide) (by decide)))
  have F181_o0_guardedNext := F180_o0_guardedNext.other W181 (Or.inr (slot_ne (Or.inr (hw _ (List.mem_of_getElem? (i := 122) rfl))) (Or.inr (hw _ (List.mem_of_getElem? (i := 144) rfl))) (by decide) (t := (.object "com/example/libentitle/libentitle/role/Rows")) (t' := (.object "com/example/libentitle/libentitle/role/Rows")) (by decide) (by decide)))
  have F181_o0_previous := F180_o0_previous.other W181 (Or.inr (slot_ne (Or.inr (hw _ (List.mem_of_getElem? (i := 142) rfl))) (Or.inr (hw _ (List.mem_of_getElem? (i := 144) rfl))) (by decide) (t := (.object "com/example/libentitle/libentitle/role/Rows")) (t' := (.object "com/example/libentitle/libentitle/role/Rows")) (by decide) (by decide)))
  have F181_o0_guardedPrevious := F180_o0_guardedPrevious.same W181
  refine own_step st181 ?_
  show own_Fin p e below s Q 14 84 (T181.setTop (mkF m 62 #[.val (.ref o0), .val (.ref o1), .val (.ref o2)] []))
  refine own_ret0 X181 hx hlk hret (hb hby d11_62) (Nat.le_trans (Nat.add_le_add_right hc 14) (by decide)) (Nat.le_trans (Nat.add_le_add_right hs 84) (by decide)) e181 ?_
  exact hQ _ _ b168 b171 bs_169 bs_172 gs_169 gs_172 N181 K181 Ex181_o0 F181_o0_next F181_o0_guardedNext Ex181_b168 F181_b168_starts V181_bs_169 r7_169 r8_169 r9_169 r10_169 r11_169 Ex181_b171 F181_b171_starts V181_bs_172 r7_172 r8_172 r9_172 r10_172 r11_172
theorem pnm_8 : plainName "com/example/libentitle/libentitle/role/Graph" = true := by first | (simp [plainName, overriddenIn]; done) | decide +kernel
theorem pdm_15 : parseMethodDescriptor "(Ljava/util/List;Ljava/util/List;)V" = some ⟨[(.object "java/util/List"), (.object "java/util/List")], none⟩ := by decide +kernel
theorem ef_11 (m : MethodId) (o0 : Addr) (o1 : Addr) (o2 : Addr) : entryFrame m #[(.ref o0), (.ref o1), (.ref o2)] 3 = (mkF m 0 #[.val (.ref o0), .val (.ref o1), .val (.ref o2)] []) := by first | (simp [entryFrame, mkF, argsToLocals, Value.category]; done) | rfl
def Q11 (Z : State) (o0 : Addr) (o1 : Addr) (o2 : Addr) (u1 : Value) (u2 : Value) (u3 : Value) (u4 : Value) (um1 : Value) (um2 : Value) (ea : Addr) (eb : Addr) (gE : Nat → Value) (gB : Nat → Value) (r0 : Addr) (x0 : Nat) (g0 : Nat → Int32) (r1 : Addr) (x1 : Nat) (g1 : Nat → Int32) (r2 : Addr) (x2 : Nat) (g2 : Nat → Int32) (r3 : Addr) (x3 : Nat) (g3 : Nat → Int32) (c0 : Addr) (y0 : Nat) (k0 : Nat → Int32) (c1 : Addr) (y1 : Nat) (k1 : Nat → Int32) (c2 : Addr) (y2 : Nat) (k2 : Nat → Int32) (c3 : Addr) (y3 : Nat) (k3 : Nat → Int32) (h0 : Heap) (n0 : Nat) (v : Option Value) (h : Heap) (L : List Loc) : Prop := ∃ (n1 : Addr) (n2 : Addr) (s1 : Addr) (s2 : Addr) (q1 : Nat → Int32) (q2 : Nat → Int32), v = none ∧ Fr n0 L ∧ Keep h0 h [o0] ∧ (Exa Z h o0 "com/example/libentitle/libentitle/role/Graph") ∧ (Fld Z h o0 "com/example/libentitle/libentitle/role/Graph" "next" "Lcom/example/libentitle/libentitle/role/Rows;" (.ref n1)) ∧ (Fld Z h o0 "com/example/libentitle/libentitle/role/Graph" "guardedNext" "Lcom/example/libentitle/libentitle/role/Rows;" (.ref n2)) ∧ (Exa Z h n1 "com/example/libentitle/libentitle/role/Rows") ∧ (Fld Z h n1 "com/example/libentitle/libentitle/role/Rows" "starts" "[I" (.ref s1)) ∧ (own_AF Z h s1 .int 5 q1) ∧ (q1 0 = (0 : Int32)) ∧ (q1 1 = ((0 : Int32) + (x0.toInt32))) ∧ (q1 2 = (((0 : Int32) + (x0.toInt32)) + (x1.toInt32))) ∧ (q1 3 = ((((0 : Int32) + (x0.toInt32)) + (x1.toInt32)) + (x2.toInt32))) ∧ (q1 4 = (((((0 : Int32) + (x0.toInt32)) + (x1.toInt32)) + (x2.toInt32)) + (x3.toInt32))) ∧ (Exa Z h n2 "com/example/libentitle/libentitle/role/Rows") ∧ (Fld Z h n2 "com/example/libentitle/libentitle/role/Rows" "starts" "[I" (.ref s2)) ∧ (own_AF Z h s2 .int 5 q2) ∧ (q2 0 = (0 : Int32)) ∧ (q2 1 = ((0 : Int32) + (y0.toInt32))) ∧ (q2 2 = (((0 : Int32) + (y0.toInt32)) + (y1.toInt32))) ∧ (q2 3 = ((((0 : Int32) + (y0.toInt32)) + (y1.toInt32)) + (y2.toInt32))) ∧ (q2 4 = (((((0 : Int32) + (y0.toInt32)) + (y1.toInt32)) + (y2.toInt32)) + (y3.toInt32)))
set_option maxRecDepth 65536 in
set_option maxHeartbeats 4000000 in
theorem rm11 (l : Launch) (Z : State) (a0 : Array Value) (hw : ∀ d ∈ tables_1, d.before a0 Z = true) (ws : List Jvm.Cond) (o0 : Addr) (o1 : Addr) (o2 : Addr) (u1 : Value) (u2 : Value) (u3 : Value) (u4 : Value) (um1 : Value) (um2 : Value) (ea : Addr) (eb : Addr) (gE : Nat → Value) (gB : Nat → Value) (r0 : Addr) (x0 : Nat) (g0 : Nat → Int32) (r1 : Addr) (x1 : Nat) (g1 : Nat → Int32) (r2 : Addr) (x2 : Nat) (g2 : Nat → Int32) (r3 : Addr) (x3 : Nat) (g3 : Nat → Int32) (c0 : Addr) (y0 : Nat) (k0 : Nat → Int32) (c1 : Addr) (y1 : Nat) (k1 : Nat → Int32) (c2 : Addr) (y2 : Nat) (k2 : Nat → Int32) (c3 : Addr) (y3 : Nat) (k3 : Nat → Int32) (h0 : Heap) (n0 : Nat) (Z0 : n0 ≤ h0.size) (fr0 : n0 ≤ o0) (Eg : Exa Z h0 o0 "com/example/libentitle/libentitle/role/Graph") (Fg0 : Fld Z h0 o0 "com/example/libentitle/libentitle/role/Graph" "next" "Lcom/example/libentitle/libentitle/role/Rows;" u1) (Fg1 : Fld Z h0 o0 "com/example/libentitle/libentitle/role/Graph" "guardedNext" "Lcom/example/libentitle/libentitle/role/Rows;" u2) (Fg2 : Fld Z h0 o0 "com/example/libentitle/libentitle/role/Graph" "previous" "Lcom/example/libentitle/libentitle/role/Rows;" u3) (Fg3 : Fld Z h0 o0 "com/example/libentitle/libentitle/role/Graph" "guardedPrevious" "Lcom/example/libentitle/libentitle/role/Rows;" u4) (E01 : Exa Z h0 o1 "java/util/ArrayList") (Fm1 : Fld Z h0 o1 "java/util/AbstractList" "modCount" "I" um1) (Fe1 : Fld Z h0 o1 "java/util/ArrayList" "elementData" "[Ljava/lang/Object;" (.ref ea)) (Fs1 : Fld Z h0 o1 "java/util/ArrayList" "size" "I" (.int (4 : Int32))) (Re1 : own_RF Z h0 ea "java/lang/Object" 10 gE) (A10 : own_AF Z h0 r0 .int x0 g0) (X10 : Exa Z h0 r0 "[I") (hg10 : gE 0 = .ref r0) (hz10 : x0 ≤ 3) (hv10 : ∀ i, i < x0 → own_val (g0 i)) (A11 : own_AF Z h0 r1 .int x1 g1) (X11 : Exa Z h0 r1 "[I") (hg11 : gE 1 = .ref r1) (hz11 : x1 ≤ 3) (hv11 : ∀ i, i < x1 → own_val (g1 i)) (A12 : own_AF Z h0 r2 .int x2 g2) (X12 : Exa Z h0 r2 "[I") (hg12 : gE 2 = .ref r2) (hz12 : x2 ≤ 3) (hv12 : ∀ i, i < x2 → own_val (g2 i)) (A13 : own_AF Z h0 r3 .int x3 g3) (X13 : Exa Z h0 r3 "[I") (hg13 : gE 3 = .ref r3) (hz13 : x3 ≤ 3) (hv13 : ∀ i, i < x3 → own_val (g3 i)) (E02 : Exa Z h0 o2 "java/util/ArrayList") (Fm2 : Fld Z h0 o2 "java/util/AbstractList" "modCount" "I" um2) (Fe2 : Fld Z h0 o2 "java/util/ArrayList" "elementData" "[Ljava/lang/Object;" (.ref eb)) (Fs2 : Fld Z h0 o2 "java/util/ArrayList" "size" "I" (.int (4 : Int32))) (Re2 : own_RF Z h0 eb "java/lang/Object" 10 gB) (A20 : own_AF Z h0 c0 .int y0 k0) (X20 : Exa Z h0 c0 "[I") (hg20 : gB 0 = .ref c0) (hz20 : y0 ≤ 3) (hv20 : ∀ i, i < y0 → own_val (k0 i)) (A21 : own_AF Z h0 c1 .int y1 k1) (X21 : Exa Z h0 c1 "[I") (hg21 : gB 1 = .ref c1) (hz21 : y1 ≤ 3) (hv21 : ∀ i, i < y1 → own_val (k1 i)) (A22 : own_AF Z h0 c2 .int y2 k2) (X22 : Exa Z h0 c2 "[I") (hg22 : gB 2 = .ref c2) (hz22 : y2 ≤ 3) (hv22 : ∀ i, i < y2 → own_val (k2 i)) (A23 : own_AF Z h0 c3 .int y3 k3) (X23 : Exa Z h0 c3 "[I") (hg23 : gB 3 = .ref c3) (hz23 : y3 ≤ 3) (hv23 : ∀ i, i < y3 → own_val (k3 i)) (neo1 : o1 ≠ o0) (neo2 : o2 ≠ o0) (neea : ea ≠ o0) (neeb : eb ≠ o0) (ner0 : r0 ≠ o0) (ner1 : r1 ≠ o0) (ner2 : r2 ≠ o0) (ner3 : r3 ≠ o0) (nec0 : c0 ≠ o0) (nec1 : c1 ≠ o0) (nec2 : c2 ≠ o0) (nec3 : c3 ≠ o0) :
    MetFree l (⟨"com/example/libentitle/libentitle/role/Graph", "<init>", "(Ljava/util/List;Ljava/util/List;)V"⟩ : MethodName) (head1 (Jvm.Cond.code (⟨"com/example/libentitle/libentitle/role/Graph", "<init>", "(Ljava/util/List;Ljava/util/List;)V"⟩ : MethodName) prog_47_method_2_code 3 none :: ws) ({ frames := 4, cells := 14, slots := 84, locals := 140 } : Room)) (fun a U => a = #[(.ref o0), (.ref o1), (.ref o2)] ∧ Z.Warmed39 U.vm ∧ U.heap = h0) (fun _ _ _ _ _ => True) (fun _ U o U' => ∃ v L, o = .returned v ∧ Q11 Z o0 o1 o2 u1 u2 u3 u4 um1 um2 ea eb gE gB r0 x0 g0 r1 x1 g1 r2 x2 g2 r3 x3 g3 c0 y0 k0 c1 y1 k1 c2 y2 k2 c3 y3 k3 h0 n0 v U'.heap L ∧ FrameEnd U o U' L ({ frames := 4, cells := 14, slots := 84, locals := 140 } : Room).cells ({ frames := 4, cells := 14, slots := 84, locals := 140 } : Room).slots) := by
  refine MetFree.of_bodySF (plainFor_of_name pnm_8) hisR ?_
  intro p e s m args below meth c s₁ Bd hml0 hP hK
  obtain ⟨rfl, hZ, hh⟩ := hP
  have hx := Bd.exec
  have hby := Bd.bytes
  have hml : c.maxLocals = 3 := hml0
  have hown : s.vm.findClass "com/example/libentitle/libentitle/role/Graph" = some m.cls := findClass_of_methodNamed Bd.named
  have X0 : Stand p l e ({ frames := 4, cells := 14, slots := 84, locals := 140 } : Room) s m #[(.ref o0), (.ref o1), (.ref o2)] below meth c s₁ [] 0 0 := Stand.of_body Bd
  have e0 : s₁.heap = h0 := by rw [← hh, Bd.state]; rfl
  have fin := b11_0 o0 o1 o2 u1 u2 u3 u4 um1 um2 ea eb gE gB r0 x0 g0 r1 x1 g1 r2 x2 g2 r3 x3 g3 c0 y0 k0 c1 y1 k1 c2 y2 k2 c3 y3 k3 (Q := Q11 Z o0 o1 o2 u1 u2 u3 u4 um1 um2 ea eb gE gB r0 x0 g0 r1 x1 g1 r2 x2 g2 r3 x3 g3 c0 y0 k0 c1 y1 k1 c2 y2 k2 c3 y3 k3 h0 n0) hw X0 hx hZ hby hml hown Bd.returns (BodyLoose.notSynchronized Bd) (name_of_methodNamed Bd.named Bd.method).1 e0 (Fr.nil n0) (Nat.zero_le _) (Nat.zero_le _) Z0 fr0 Eg Fg0 Fg1 Fg2 Fg3 E01 Fm1 Fe1 Fs1 Re1 A10 X10 hg10 hz10 hv10 A11 X11 hg11 hz11 hv11 A12 X12 hg12 hz12 hv12 A13 X13 hg13 hz13 hv13 E02 Fm2 Fe2 Fs2 Re2 A20 X20 hg20 hz20 hv20 A21 X21 hg21 hz21 hv21 A22 X22 hg22 hz22 hv22 A23 X23 hg23 hz23 hv23 neo1 neo2 neea neeb ner0 ner1 ner2 ner3 nec0 nec1 nec2 nec3 (fun H' L' n1 n2 s1 s2 q1 q2 n' k' r0 r1 r2 r3 r4 r5 r6 r7 r8 r9 r10 r11 r12 r13 r14 r15 r16 r17 r18 => ⟨n1, n2, s1, s2, q1, q2, rfl, n', k', r0, r1, r2, r3, r4, r5, r6, r7, r8, r9, r10, r11, r12, r13, r14, r15, r16, r17, r18⟩)
  exact own_step (fun t k => castTop (ef_11 m o0 o1 o2) k) fin
theorem d22_0 : decode prog_47_method_4_code 0 = .ok (.aload_n 0, 1) := by decide +kernel
theorem d22_1 : decode prog_47_method_4_code 1 = .ok (.getfield 33, 3) := by decide +kernel
theorem d22_4 : decode prog_47_method_4_code 4 = .ok (.iload_n 1, 1) := by decide +kernel
theorem d22_5 : decode prog_47_method_4_code 5 = .ok (.invokevirtual 50, 3) := by decide +kernel
theorem d22_8 : decode prog_47_method_4_code 8 = .ok (.ifCond .gt 14, 3) := by decide +kernel
theorem d22_11 : decode prog_47_method_4_code 11 = .ok (.aload_n 0, 1) := by decide +kernel
theorem d22_12 : decode prog_47_method_4_code 12 = .ok (.getfield 37, 3) := by decide +kernel
theorem d22_15 : decode prog_47_method_4_code 15 = .ok (.iload_n 1, 1) := by decide +kernel
theorem d22_16 : decode prog_47_method_4_code 16 = .ok (.invokevirtual 50, 3) := by decide +kernel
theorem d22_19 : decode prog_47_method_4_code 19 = .ok (.ifCond .le 7, 3) := by decide +kernel
theorem d22_22 : decode prog_47_method_4_code 22 = .ok (.iconst 1, 1) := by decide +kernel
theorem d22_23 : decode prog_47_method_4_code 23 = .ok (.goto 4, 3) := by decide +kernel
theorem d22_26 : decode prog_47_method_4_code 26 = .ok (.iconst 0, 1) := by decide +kernel
theorem d22_27 : decode prog_47_method_4_code 27 = .ok (.ireturn, 1) := by decide +kernel
def f22_0 (i1 : Int32) (q1 : Nat → Int32) (q2 : Nat → Int32) : Int32 := if (0 : Int32) < (f23_0 i1 q1 5) then (1 : Int32) else (if (0 : Int32) < (f23_0 i1 q2 5) then (1 : Int32) else (0 : Int32))
set_option maxRecDepth 65536 in
set_option maxHeartbeats 40000000 in
theorem b22_0 {p : Program} {l : Launch} {e : Env} {s : State} {m : MethodId} {args : Array Value} {below : List Frame} {meth : Method} {c : Code} {T : State} {locs : List Loc} {cells slots : Nat} {Z : State} {a0 : Array Value} {h : Heap} {n0 : Nat} {Q : Option Value → Heap → List Loc → Prop} (o0 : Addr) (i1 : Int32) (nx : Addr) (gx : Addr) (s1 : Addr) (s2 : Addr) (q1 : Nat → Int32) (q2 : Nat → Int32) (hw : ∀ d ∈ tables_1, d.before a0 Z = true) (X : Stand p l e ({ frames := 1, cells := 0, slots := 0, locals := 20 } : Room) s m args below meth c T locs cells slots) (hx : p.tables.exec = Jvm.exec) (hZ : Z.Warmed39 s.vm) (hby : c.code = prog_47_method_4_code) (hml : c.maxLocals = 2) (hown : s.vm.findClass "com/example/libentitle/libentitle/role/Graph" = some m.cls) (hret : meth.sig.returnType = some .boolean) (hlk : meth.locks = false) (eT : T.heap = h) (N : Fr n0 locs) (hc : cells ≤ 0) (hs : slots ≤ 0) (F1 : Fld Z h o0 "com/example/libentitle/libentitle/role/Graph" "next" "Lcom/example/libentitle/libentitle/role/Rows;" (.ref nx)) (F2 : Fld Z h o0 "com/example/libentitle/libentitle/role/Graph" "guardedNext" "Lcom/example/libentitle/libentitle/role/Rows;" (.ref gx)) (En : Exa Z h nx "com/example/libentitle/libentitle/role/Rows") (Fn : Fld Z h nx "com/example/libentitle/libentitle/role/Rows" "starts" "[I" (.ref s1)) (An : own_AF Z h s1 .int 5 q1) (Eh : Exa Z h gx "com/example/libentitle/libentitle/role/Rows") (Fh : Fld Z h gx "com/example/libentitle/libentitle/role/Rows" "starts" "[I" (.ref s2)) (Ah : own_AF Z h s2 .int 5 q2) (h1 : own_In 5 i1) (h2 : own_In 5 (i1 + (1 : Int32))) (v : Int32) (hv : v = f22_0 i1 q1 q2) (hQ : ∀ L', Fr n0 L' → Q (some (.int v)) h L') :
    own_Fin p e below s Q 0 0 (T.setTop (mkF m 0 #[.val (.ref o0), .val (.int i1)] [])) := by
  refine own_step (fun t k => XS.aloadN X.here hx rfl (hb hby d22_0) rfl rfl k) ?_
  show own_Fin p e below s Q 0 0 (T.setTop (mkF m 1 #[.val (.ref o0), .val (.int i1)] [(.ref o0)]))
  obtain ⟨T182, X182, e182, st182⟩ := getF X hx hZ hown (host := "") (Or.inl (hw _ (List.mem_of_getElem? (i := 119) rfl))) Via.refl eT F1 (g := (mkF m 1 #[.val (.ref o0), .val (.int i1)] [(.ref o0)])) rfl rfl (hb hby d22_1)
  refine own_step st182 ?_
  show own_Fin p e below s Q 0 0 (T182.setTop (mkF m 4 #[.val (.ref o0), .val (.int i1)] [(.ref nx)]))
  refine own_step (fun t k => XS.iloadN X182.here hx rfl (hb hby d22_4) rfl  k) ?_
  show own_Fin p e below s Q 0 0 (T182.setTop (mkF m 5 #[.val (.ref o0), .val (.int i1)] [(.int i1), (.ref nx)]))
  obtain ⟨cq183, kq183, q183a, q183b, q183c⟩ := isOf hZ e182 En
  obtain ⟨_, _, ⟨T183, L183, k183, n183⟩, -, X183, ⟨Lc183, hQ183, l183, y183, z183⟩, st183⟩ := X182.virtualBack hx (y := (⟨"com/example/libentitle/libentitle/role/Rows", "length", "(I)I"⟩ : MethodName)) (z := (⟨"com/example/libentitle/libentitle/role/Rows", "length", "(I)I"⟩ : MethodName)) hown (mvT hZ (hw _ (List.mem_of_getElem? (i := 150) rfl))) (mvT hZ (hw _ (List.mem_of_getElem? (i := 151) rfl))) (notFace_of_selects (args := #[]) (mvT hZ (hw _ (List.mem_of_getElem? (i := 153) rfl)))) (mvT hZ (hw _ (List.mem_of_getElem? (i := 153) rfl))) (mvT hZ (hw _ (List.mem_of_getElem? (i := 152) rfl))) (by decide) (backOf (W := 0) (rm23 l Z a0 hw [] nx i1 s1 q1 5 h n0 Fn An h1 h2) hZ (hw _ (List.mem_of_getElem? (i := 154) rfl)) (hw _ (List.mem_of_getElem? (i := 75) rfl)) (by decide) (by decide)) q183a q183c (g := (mkF m 5 #[.val (.ref o0), .val (.int i1)] [(.int i1), (.ref nx)])) rfl (by rw [hml]; rfl) (Steps.refl _) (argsL := [(.int i1)]) (rest := []) (lenOf pdm_14 rfl) rfl (by show 2 * 0 + _ ≤ _; exact Nat.le_of_eq rfl) (hb hby d22_5) (fun _ _ => ⟨rfl, e182, (show cells + 0 ≤ 0 from (Nat.le_trans (Nat.add_le_add_right hc 0) (by decide))), (show slots + 0 ≤ 0 from (Nat.le_trans (Nat.add_le_add_right hs 0) (by decide)))⟩)
  dsimp only [Pt.U, Pt.locs, Pt.cells, Pt.slots] at X183 l183 y183 z183 st183 hQ183
  have yy183 : k183 = cells + 0 := y183
  have zz183 : n183 = slots + 0 := z183
  rw [yy183, zz183, l183] at X183
  obtain ⟨rfl, N183q, e183⟩ := hQ183
  have N183 := Fr.app N N183q
  refine own_step (fun t k => st183.trans k) ?_
  show own_Fin p e below s Q 0 0 (T183.setTop (mkF m 8 #[.val (.ref o0), .val (.int i1)] [(.int (f23_0 i1 q1 5))]))
  by_cases hB8_184 : (0 : Int32) < (f23_0 i1 q1 5)
  · refine own_step (fun t k => XS.ifYes X183.here hx rfl (pc0 := 8) (pc' := 22) rfl (hb hby d22_8) rfl ((if0 _ _).trans (tlt hB8_184).2.2.1) (by decide) (by decide) k) ?_
    have hvhB8_184 : v = (1 : Int32) := hv.trans (if_pos hB8_184)
    show own_Fin p e below s Q 0 0 (T183.setTop (mkF m 22 #[.val (.ref o0), .val (.int i1)] []))
    refine own_step (fun t k => XS.iconst X183.here hx rfl (hb hby d22_22) k) ?_
    show own_Fin p e below s Q 0 0 (T183.setTop (mkF m 23 #[.val (.ref o0), .val (.int i1)] [(.int (1 : Int32))]))
    refine own_step (fun t k => XS.goto X183.here hx rfl (pc0 := 23) (pc' := 27) rfl (hb hby d22_23) (by decide) (by decide) k) ?_
    show own_Fin p e below s Q 0 0 (T183.setTop (mkF m 27 #[.val (.ref o0), .val (.int i1)] [(.int (1 : Int32))]))
    exact own_retN X183 hx hlk hret (by simp) (hb hby d22_27) (Nat.le_trans (Nat.add_le_add_right hc 0) (by decide)) (Nat.le_trans (Nat.add_le_add_right hs 0) (by decide)) e183 N183 hQ (hvhB8_184)
  · refine own_step (fun t k => XS.ifNo X183.here hx rfl (hb hby d22_8) rfl ((if0 _ _).trans (flt hB8_184).2.2.1) k) ?_
    have hvhB8_184 : v = (if (0 : Int32) < (f23_0 i1 q2 5) then (1 : Int32) else (0 : Int32)) := hv.trans (if_neg hB8_184)
    show own_Fin p e below s Q 0 0 (T183.setTop (mkF m 11 #[.val (.ref o0), .val (.int i1)] []))
    refine own_step (fun t k => XS.aloadN X183.here hx rfl (hb hby d22_11) rfl rfl k) ?_
    show own_Fin p e below s Q 0 0 (T183.setTop (mkF m 12 #[.val (.ref o0), .val (.int i1)] [(.ref o0)]))
    obtain ⟨T187, X187, e187, st187⟩ := getF X183 hx hZ hown (host := "") (Or.inl (hw _ (List.mem_of_getElem? (i := 121) rfl))) Via.refl e183 F2 (g := (mkF m 12 #[.val (.ref o0), .val (.int i1)] [(.ref o0)])) rfl rfl (hb hby d22_12)
    refine own_step st187 ?_
    show own_Fin p e below s Q 0 0 (T187.setTop (mkF m 15 #[.val (.ref o0), .val (.int i1)] [(.ref gx)]))
    refine own_step (fun t k => XS.iloadN X187.here hx rfl (hb hby d22_15) rfl  k) ?_
    show own_Fin p e below s Q 0 0 (T187.setTop (mkF m 16 #[.val (.ref o0), .val (.int i1)] [(.int i1), (.ref gx)]))
    obtain ⟨cq188, kq188, q188a, q188b, q188c⟩ := isOf hZ e187 Eh
    obtain ⟨_, _, ⟨T188, L188, k188, n188⟩, -, X188, ⟨Lc188, hQ188, l188, y188, z188⟩, st188⟩ := X187.virtualBack hx (y := (⟨"com/example/libentitle/libentitle/role/Rows", "length", "(I)I"⟩ : MethodName)) (z := (⟨"com/example/libentitle/libentitle/role/Rows", "length", "(I)I"⟩ : MethodName)) hown (mvT hZ (hw _ (List.mem_of_getElem? (i := 150) rfl))) (mvT hZ (hw _ (List.mem_of_getElem? (i := 151) rfl))) (notFace_of_selects (args := #[]) (mvT hZ (hw _ (List.mem_of_getElem? (i := 153) rfl)))) (mvT hZ (hw _ (List.mem_of_getElem? (i := 153) rfl))) (mvT hZ (hw _ (List.mem_of_getElem? (i := 152) rfl))) (by decide) (backOf (W := 0) (rm23 l Z a0 hw [] gx i1 s2 q2 5 h n0 Fh Ah h1 h2) hZ (hw _ (List.mem_of_getElem? (i := 154) rfl)) (hw _ (List.mem_of_getElem? (i := 75) rfl)) (by decide) (by decide)) q188a q188c (g := (mkF m 16 #[.val (.ref o0), .val (.int i1)] [(.int i1), (.ref gx)])) rfl (by rw [hml]; rfl) (Steps.refl _) (argsL := [(.int i1)]) (rest := []) (lenOf pdm_14 rfl) rfl (by show 2 * 0 + _ ≤ _; exact Nat.le_of_eq rfl) (hb hby d22_16) (fun _ _ => ⟨rfl, e187, (show cells + 0 + 0 ≤ 0 from (Nat.le_trans (Nat.add_le_add_right hc 0) (by decide))), (show slots + 0 + 0 ≤ 0 from (Nat.le_trans (Nat.add_le_add_right hs 0) (by decide)))⟩)
    dsimp only [Pt.U, Pt.locs, Pt.cells, Pt.slots] at X188 l188 y188 z188 st188 hQ188
    have yy188 : k188 = cells + 0 + 0 := y188
    have zz188 : n188 = slots + 0 + 0 := z188
    rw [yy188, zz188, l188] at X188
    obtain ⟨rfl, N188q, e188⟩ := hQ188
    have N188 := Fr.app N183 N188q
    refine own_step (fun t k => st188.trans k) ?_
    show own_Fin p e below s Q 0 0 (T188.setTop (mkF m 19 #[.val (.ref o0), .val (.int i1)] [(.int (f23_0 i1 q2 5))]))
    by_cases hB19_189 : (0 : Int32) < (f23_0 i1 q2 5)
    · refine own_step (fun t k => XS.ifNo X188.here hx rfl (hb hby d22_19) rfl ((if0 _ _).trans (tlt hB19_189).2.2.2) k) ?_
      have hvhB19_189 : v = (1 : Int32) := hvhB8_184.trans (if_pos hB19_189)
      show own_Fin p e below s Q 0 0 (T188.setTop (mkF m 22 #[.val (.ref o0), .val (.int i1)] []))
      refine own_step (fun t k => XS.iconst X188.here hx rfl (hb hby d22_22) k) ?_
      show own_Fin p e below s Q 0 0 (T188.setTop (mkF m 23 #[.val (.ref o0), .val (.int i1)] [(.int (1 : Int32))]))
      refine own_step (fun t k => XS.goto X188.here hx rfl (pc0 := 23) (pc' := 27) rfl (hb hby d22_23) (by decide) (by decide) k) ?_
      show own_Fin p e below s Q 0 0 (T188.setTop (mkF m 27 #[.val (.ref o0), .val (.int i1)] [(.int (1 : Int32))]))
      exact own_retN X188 hx hlk hret (by simp) (hb hby d22_27) (Nat.le_trans (Nat.add_le_add_right hc 0) (by decide)) (Nat.le_trans (Nat.add_le_add_right hs 0) (by decide)) e188 N188 hQ (hvhB19_189)
    · refine own_step (fun t k => XS.ifYes X188.here hx rfl (pc0 := 19) (pc' := 26) rfl (hb hby d22_19) rfl ((if0 _ _).trans (flt hB19_189).2.2.2) (by decide) (by decide) k) ?_
      have hvhB19_189 : v = (0 : Int32) := hvhB8_184.trans (if_neg hB19_189)
      show own_Fin p e below s Q 0 0 (T188.setTop (mkF m 26 #[.val (.ref o0), .val (.int i1)] []))
      refine own_step (fun t k => XS.iconst X188.here hx rfl (hb hby d22_26) k) ?_
      show own_Fin p e below s Q 0 0 (T188.setTop (mkF m 27 #[.val (.ref o0), .val (.int i1)] [(.int (0 : Int32))]))
      exact own_retN X188 hx hlk hret (by simp) (hb hby d22_27) (Nat.le_trans (Nat.add_le_add_right hc 0) (by decide)) (Nat.le_trans (Nat.add_le_add_right hs 0) (by decide)) e188 N188 hQ (hvhB19_189)
theorem pdm_16 : parseMethodDescriptor "(I)Z" = some ⟨[.int], some .boolean⟩ := by decide +kernel
theorem ef_22 (m : MethodId) (o0 : Addr) (i1 : Int32) : entryFrame m #[(.ref o0), (.int i1)] 2 = (mkF m 0 #[.val (.ref o0), .val (.int i1)] []) := by first | (simp [entryFrame, mkF, argsToLocals, Value.category]; done) | rfl
def Q22 (o0 : Addr) (i1 : Int32) (nx : Addr) (gx : Addr) (s1 : Addr) (s2 : Addr) (q1 : Nat → Int32) (q2 : Nat → Int32) (h0 : Heap) (n0 : Nat) (v : Option Value) (h : Heap) (L : List Loc) : Prop := v = some (.int (f22_0 i1 q1 q2)) ∧ Fr n0 L ∧ h = h0
set_option maxRecDepth 65536 in
set_option maxHeartbeats 4000000 in
theorem rm22 (l : Launch) (Z : State) (a0 : Array Value) (hw : ∀ d ∈ tables_1, d.before a0 Z = true) (ws : List Jvm.Cond) (o0 : Addr) (i1 : Int32) (nx : Addr) (gx : Addr) (s1 : Addr) (s2 : Addr) (q1 : Nat → Int32) (q2 : Nat → Int32) (h0 : Heap) (n0 : Nat) (F1 : Fld Z h0 o0 "com/example/libentitle/libentitle/role/Graph" "next" "Lcom/example/libentitle/libentitle/role/Rows;" (.ref nx)) (F2 : Fld Z h0 o0 "com/example/libentitle/libentitle/role/Graph" "guardedNext" "Lcom/example/libentitle/libentitle/role/Rows;" (.ref gx)) (En : Exa Z h0 nx "com/example/libentitle/libentitle/role/Rows") (Fn : Fld Z h0 nx "com/example/libentitle/libentitle/role/Rows" "starts" "[I" (.ref s1)) (An : own_AF Z h0 s1 .int 5 q1) (Eh : Exa Z h0 gx "com/example/libentitle/libentitle/role/Rows") (Fh : Fld Z h0 gx "com/example/libentitle/libentitle/role/Rows" "starts" "[I" (.ref s2)) (Ah : own_AF Z h0 s2 .int 5 q2) (h1 : own_In 5 i1) (h2 : own_In 5 (i1 + (1 : Int32))) :
    MetFree l (⟨"com/example/libentitle/libentitle/role/Graph", "leads", "(I)Z"⟩ : MethodName) (head1 (Jvm.Cond.code (⟨"com/example/libentitle/libentitle/role/Graph", "leads", "(I)Z"⟩ : MethodName) prog_47_method_4_code 2 (some .boolean) :: ws) ({ frames := 1, cells := 0, slots := 0, locals := 20 } : Room)) (fun a U => a = #[(.ref o0), (.int i1)] ∧ Z.Warmed39 U.vm ∧ U.heap = h0) (fun _ _ _ _ _ => True) (fun _ U o U' => ∃ v L, o = .returned v ∧ Q22 o0 i1 nx gx s1 s2 q1 q2 h0 n0 v U'.heap L ∧ FrameEnd U o U' L ({ frames := 1, cells := 0, slots := 0, locals := 20 } : Room).cells ({ frames := 1, cells := 0, slots := 0, locals := 20 } : Room).slots) := by
  refine MetFree.of_bodySF (plainFor_of_name pnm_8) hisR ?_
  intro p e s m args below meth c s₁ Bd hml0 hP hK
  obtain ⟨rfl, hZ, hh⟩ := hP
  have hx := Bd.exec
  have hby := Bd.bytes
  have hml : c.maxLocals = 2 := hml0
  have hown : s.vm.findClass "com/example/libentitle/libentitle/role/Graph" = some m.cls := findClass_of_methodNamed Bd.named
  have X0 : Stand p l e ({ frames := 1, cells := 0, slots := 0, locals := 20 } : Room) s m #[(.ref o0), (.int i1)] below meth c s₁ [] 0 0 := Stand.of_body Bd
  have e0 : s₁.heap = h0 := by rw [← hh, Bd.state]; rfl
  have fin := b22_0 o0 i1 nx gx s1 s2 q1 q2 (Q := Q22 o0 i1 nx gx s1 s2 q1 q2 h0 n0) hw X0 hx hZ hby hml hown Bd.returns (BodyLoose.notSynchronized Bd) e0 (Fr.nil n0) (Nat.zero_le _) (Nat.zero_le _) F1 F2 En Fn An Eh Fh Ah h1 h2 _ rfl (fun L' n' => ⟨rfl, n', rfl⟩)
  exact own_step (fun t k => castTop (ef_22 m o0 i1) k) fin
theorem d24_0 : decode method_3_code 0 = .ok (.iload_n 0, 1) := by decide +kernel
theorem d24_1 : decode method_3_code 1 = .ok (.iconst 2, 1) := by decide +kernel
theorem d24_2 : decode method_3_code 2 = .ok (.iload_n 2, 1) := by decide +kernel
theorem d24_3 : decode method_3_code 3 = .ok (.imul, 1) := by decide +kernel
theorem d24_4 : decode method_3_code 4 = .ok (.iushr, 1) := by decide +kernel
theorem d24_5 : decode method_3_code 5 = .ok (.iconst 3, 1) := by decide +kernel
theorem d24_6 : decode method_3_code 6 = .ok (.iand, 1) := by decide +kernel
theorem d24_7 : decode method_3_code 7 = .ok (.istore_n 3, 1) := by decide +kernel
theorem d24_8 : decode method_3_code 8 = .ok (.iload_n 1, 1) := by decide +kernel
theorem d24_9 : decode method_3_code 9 = .ok (.iconst 2, 1) := by decide +kernel
theorem d24_10 : decode method_3_code 10 = .ok (.iload_n 2, 1) := by decide +kernel
theorem d24_11 : decode method_3_code 11 = .ok (.imul, 1) := by decide +kernel
theorem d24_12 : decode method_3_code 12 = .ok (.iushr, 1) := by decide +kernel
theorem d24_13 : decode method_3_code 13 = .ok (.iconst 3, 1) := by decide +kernel
theorem d24_14 : decode method_3_code 14 = .ok (.iand, 1) := by decide +kernel
theorem d24_15 : decode method_3_code 15 = .ok (.istore 4, 2) := by decide +kernel
theorem d24_17 : decode method_3_code 17 = .ok (.iload_n 3, 1) := by decide +kernel
theorem d24_18 : decode method_3_code 18 = .ok (.ifCond .ne 8, 3) := by decide +kernel
theorem d24_21 : decode method_3_code 21 = .ok (.iload 4, 2) := by decide +kernel
theorem d24_23 : decode method_3_code 23 = .ok (.ifCond .eq 7, 3) := by decide +kernel
theorem d24_26 : decode method_3_code 26 = .ok (.iconst 1, 1) := by decide +kernel
theorem d24_27 : decode method_3_code 27 = .ok (.goto 4, 3) := by decide +kernel
theorem d24_30 : decode method_3_code 30 = .ok (.iconst 0, 1) := by decide +kernel
theorem d24_31 : decode method_3_code 31 = .ok (.ireturn, 1) := by decide +kernel
def f24_0 (i0 : Int32) (i1 : Int32) (i2 : Int32) : Int32 := if (((i0.toUInt32 >>> (((2 : Int32) * i2) &&& 31).toUInt32).toInt32) &&& (3 : Int32)) = (0 : Int32) then (if (((i1.toUInt32 >>> (((2 : Int32) * i2) &&& 31).toUInt32).toInt32) &&& (3 : Int32)) = (0 : Int32) then (0 : Int32) else (1 : Int32)) else (1 : Int32)
set_option maxRecDepth 65536 in
set_option maxHeartbeats 40000000 in
theorem b24_0 {p : Program} {l : Launch} {e : Env} {s : State} {m : MethodId} {args : Array Value} {below : List Frame} {meth : Method} {c : Code} {T : State} {locs : List Loc} {cells slots : Nat} {Z : State} {a0 : Array Value} {h : Heap} {n0 : Nat} {Q : Option Value → Heap → List Loc → Prop} (i0 : Int32) (i1 : Int32) (i2 : Int32) (hw : ∀ d ∈ tables_1, d.before a0 Z = true) (X : Stand p l e ({ frames := 0, cells := 0, slots := 0, locals := 0 } : Room) s m args below meth c T locs cells slots) (hx : p.tables.exec = Jvm.exec) (hZ : Z.Warmed39 s.vm) (hby : c.code = method_3_code) (hml : c.maxLocals = 5) (hown : s.vm.findClass "com/example/libentitle/libentitle/role/GraphLeadsPinLaw" = some m.cls) (hret : meth.sig.returnType = some .boolean) (hlk : meth.locks = false) (eT : T.heap = h) (N : Fr n0 locs) (hc : cells ≤ 0) (hs : slots ≤ 0) (v : Int32) (hv : v = f24_0 i0 i1 i2) (hQ : ∀ L', Fr n0 L' → Q (some (.int v)) h L') :
    own_Fin p e below s Q 0 0 (T.setTop (mkF m 0 #[.val (.int i0), .val (.int i1), .val (.int i2), .unset, .unset] [])) := by
  refine own_step (fun t k => XS.iloadN X.here hx rfl (hb hby d24_0) rfl  k) ?_
  show own_Fin p e below s Q 0 0 (T.setTop (mkF m 1 #[.val (.int i0), .val (.int i1), .val (.int i2), .unset, .unset] [(.int i0)]))
  refine own_step (fun t k => XS.iconst X.here hx rfl (hb hby d24_1) k) ?_
  show own_Fin p e below s Q 0 0 (T.setTop (mkF m 2 #[.val (.int i0), .val (.int i1), .val (.int i2), .unset, .unset] [(.int (2 : Int32)), (.int i0)]))
  refine own_step (fun t k => XS.iloadN X.here hx rfl (hb hby d24_2) rfl  k) ?_
  show own_Fin p e below s Q 0 0 (T.setTop (mkF m 3 #[.val (.int i0), .val (.int i1), .val (.int i2), .unset, .unset] [(.int i2), (.int (2 : Int32)), (.int i0)]))
  refine own_step (fun t k => XS.imul X.here hx rfl (hb hby d24_3) rfl k) ?_
  show own_Fin p e below s Q 0 0 (T.setTop (mkF m 4 #[.val (.int i0), .val (.int i1), .val (.int i2), .unset, .unset] [(.int ((2 : Int32) * i2)), (.int i0)]))
  refine own_step (fun t k => XS.iushr X.here hx rfl (hb hby d24_4) rfl k) ?_
  show own_Fin p e below s Q 0 0 (T.setTop (mkF m 5 #[.val (.int i0), .val (.int i1), .val (.int i2), .unset, .unset] [(.int ((i0.toUInt32 >>> (((2 : Int32) * i2) &&& 31).toUInt32).toInt32))]))
  refine own_step (fun t k => XS.iconst X.here hx rfl (hb hby d24_5) k) ?_
  show own_Fin p e below s Q 0 0 (T.setTop (mkF m 6 #[.val (.int i0), .val (.int i1), .val (.int i2), .unset, .unset] [(.int (3 : Int32)), (.int ((i0.toUInt32 >>> (((2 : Int32) * i2) &&& 31).toUInt32).toInt32))]))
  refine own_step (fun t k => XS.iand X.here hx rfl (hb hby d24_6) rfl k) ?_
  show own_Fin p e below s Q 0 0 (T.setTop (mkF m 7 #[.val (.int i0), .val (.int i1), .val (.int i2), .unset, .unset] [(.int (((i0.toUInt32 >>> (((2 : Int32) * i2) &&& 31).toUInt32).toInt32) &&& (3 : Int32)))]))
  refine own_step (fun t k => XS.istoreN X.here hx rfl (hb hby d24_7) rfl (l' := #[.val (.int i0), .val (.int i1), .val (.int i2), .val (.int (((i0.toUInt32 >>> (((2 : Int32) * i2) &&& 31).toUInt32).toInt32) &&& (3 : Int32))), .unset]) rfl k) ?_
  show own_Fin p e below s Q 0 0 (T.setTop (mkF m 8 #[.val (.int i0), .val (.int i1), .val (.int i2), .val (.int (((i0.toUInt32 >>> (((2 : Int32) * i2) &&& 31).toUInt32).toInt32) &&& (3 : Int32))), .unset] []))
  refine own_step (fun t k => XS.iloadN X.here hx rfl (hb hby d24_8) rfl  k) ?_
  show own_Fin p e below s Q 0 0 (T.setTop (mkF m 9 #[.val (.int i0), .val (.int i1), .val (.int i2), .val (.int (((i0.toUInt32 >>> (((2 : Int32) * i2) &&& 31).toUInt32).toInt32) &&& (3 : Int32))), .unset] [(.int i1)]))
  refine own_step (fun t k => XS.iconst X.here hx rfl (hb hby d24_9) k) ?_
  show own_Fin p e below s Q 0 0 (T.setTop (mkF m 10 #[.val (.int i0), .val (.int i1), .val (.int i2), .val (.int (((i0.toUInt32 >>> (((2 : Int32) * i2) &&& 31).toUInt32).toInt32) &&& (3 : Int32))), .unset] [(.int (2 : Int32)), (.int i1)]))
  refine own_step (fun t k => XS.iloadN X.here hx rfl (hb hby d24_10) rfl  k) ?_
  show own_Fin p e below s Q 0 0 (T.setTop (mkF m 11 #[.val (.int i0), .val (.int i1), .val (.int i2), .val (.int (((i0.toUInt32 >>> (((2 : Int32) * i2) &&& 31).toUInt32).toInt32) &&& (3 : Int32))), .unset] [(.int i2), (.int (2 : Int32)), (.int i1)]))
  refine own_step (fun t k => XS.imul X.here hx rfl (hb hby d24_11) rfl k) ?_
  show own_Fin p e below s Q 0 0 (T.setTop (mkF m 12 #[.val (.int i0), .val (.int i1), .val (.int i2), .val (.int (((i0.toUInt32 >>> (((2 : Int32) * i2) &&& 31).toUInt32).toInt32) &&& (3 : Int32))), .unset] [(.int ((2 : Int32) * i2)), (.int i1)]))
  refine own_step (fun t k => XS.iushr X.here hx rfl (hb hby d24_12) rfl k) ?_
  show own_Fin p e below s Q 0 0 (T.setTop (mkF m 13 #[.val (.int i0), .val (.int i1), .val (.int i2), .val (.int (((i0.toUInt32 >>> (((2 : Int32) * i2) &&& 31).toUInt32).toInt32) &&& (3 : Int32))), .unset] [(.int ((i1.toUInt32 >>> (((2 : Int32) * i2) &&& 31).toUInt32).toInt32))]))
  refine own_step (fun t k => XS.iconst X.here hx rfl (hb hby d24_13) k) ?_
  show own_Fin p e below s Q 0 0 (T.setTop (mkF m 14 #[.val (.int i0), .val (.int i1), .val (.int i2), .val (.int (((i0.toUInt32 >>> (((2 : Int32) * i2) &&& 31).toUInt32).toInt32) &&& (3 : Int32))), .unset] [(.int (3 : Int32)), (.int ((i1.toUInt32 >>> (((2 : Int32) * i2) &&& 31).toUInt32).toInt32))]))
  refine own_step (fun t k => XS.iand X.here hx rfl (hb hby d24_14) rfl k) ?_
  show own_Fin p e below s Q 0 0 (T.setTop (mkF m 15 #[.val (.int i0), .val (.int i1), .val (.int i2), .val (.int (((i0.toUInt32 >>> (((2 : Int32) * i2) &&& 31).toUInt32).toInt32) &&& (3 : Int32))), .unset] [(.int (((i1.toUInt32 >>> (((2 : Int32) * i2) &&& 31).toUInt32).toInt32) &&& (3 : Int32)))]))
  refine own_step (fun t k => XS.istore X.here hx rfl (hb hby d24_15) rfl (l' := #[.val (.int i0), .val (.int i1), .val (.int i2), .val (.int (((i0.toUInt32 >>> (((2 : Int32) * i2) &&& 31).toUInt32).toInt32) &&& (3 : Int32))), .val (.int (((i1.toUInt32 >>> (((2 : Int32) * i2) &&& 31).toUInt32).toInt32) &&& (3 : Int32)))]) rfl k) ?_
  show own_Fin p e below s Q 0 0 (T.setTop (mkF m 17 #[.val (.int i0), .val (.int i1), .val (.int i2), .val (.int (((i0.toUInt32 >>> (((2 : Int32) * i2) &&& 31).toUInt32).toInt32) &&& (3 : Int32))), .val (.int (((i1.toUInt32 >>> (((2 : Int32) * i2) &&& 31).toUInt32).toInt32) &&& (3 : Int32)))] []))
  refine own_step (fun t k => XS.iloadN X.here hx rfl (hb hby d24_17) rfl  k) ?_
  show own_Fin p e below s Q 0 0 (T.setTop (mkF m 18 #[.val (.int i0), .val (.int i1), .val (.int i2), .val (.int (((i0.toUInt32 >>> (((2 : Int32) * i2) &&& 31).toUInt32).toInt32) &&& (3 : Int32))), .val (.int (((i1.toUInt32 >>> (((2 : Int32) * i2) &&& 31).toUInt32).toInt32) &&& (3 : Int32)))] [(.int (((i0.toUInt32 >>> (((2 : Int32) * i2) &&& 31).toUInt32).toInt32) &&& (3 : Int32)))]))
  by_cases hB18_192 : (((i0.toUInt32 >>> (((2 : Int32) * i2) &&& 31).toUInt32).toInt32) &&& (3 : Int32)) = (0 : Int32)
  · refine own_step (fun t k => XS.ifNo X.here hx rfl (hb hby d24_18) rfl ((if0 _ _).trans (teq hB18_192).2) k) ?_
    have hvhB18_192 : v = (if (((i1.toUInt32 >>> (((2 : Int32) * i2) &&& 31).toUInt32).toInt32) &&& (3 : Int32)) = (0 : Int32) then (0 : Int32) else (1 : Int32)) := hv.trans (if_pos hB18_192)
    show own_Fin p e below s Q 0 0 (T.setTop (mkF m 21 #[.val (.int i0), .val (.int i1), .val (.int i2), .val (.int (((i0.toUInt32 >>> (((2 : Int32) * i2) &&& 31).toUInt32).toInt32) &&& (3 : Int32))), .val (.int (((i1.toUInt32 >>> (((2 : Int32) * i2) &&& 31).toUInt32).toInt32) &&& (3 : Int32)))] []))
    refine own_step (fun t k => XS.iload X.here hx rfl (hb hby d24_21) rfl  k) ?_
    show own_Fin p e below s Q 0 0 (T.setTop (mkF m 23 #[.val (.int i0), .val (.int i1), .val (.int i2), .val (.int (((i0.toUInt32 >>> (((2 : Int32) * i2) &&& 31).toUInt32).toInt32) &&& (3 : Int32))), .val (.int (((i1.toUInt32 >>> (((2 : Int32) * i2) &&& 31).toUInt32).toInt32) &&& (3 : Int32)))] [(.int (((i1.toUInt32 >>> (((2 : Int32) * i2) &&& 31).toUInt32).toInt32) &&& (3 : Int32)))]))
    by_cases hB23_194 : (((i1.toUInt32 >>> (((2 : Int32) * i2) &&& 31).toUInt32).toInt32) &&& (3 : Int32)) = (0 : Int32)
    · refine own_step (fun t k => XS.ifYes X.here hx rfl (pc0 := 23) (pc' := 30) rfl (hb hby d24_23) rfl ((if0 _ _).trans (teq hB23_194).1) (by decide) (by decide) k) ?_
      have hvhB23_194 : v = (0 : Int32) := hvhB18_192.trans (if_pos hB23_194)
      show own_Fin p e below s Q 0 0 (T.setTop (mkF m 30 #[.val (.int i0), .val (.int i1), .val (.int i2), .val (.int (((i0.toUInt32 >>> (((2 : Int32) * i2) &&& 31).toUInt32).toInt32) &&& (3 : Int32))), .val (.int (((i1.toUInt32 >>> (((2 : Int32) * i2) &&& 31).toUInt32).toInt32) &&& (3 : Int32)))] []))
      refine own_step (fun t k => XS.iconst X.here hx rfl (hb hby d24_30) k) ?_
      show own_Fin p e below s Q 0 0 (T.setTop (mkF m 31 #[.val (.int i0), .val (.int i1), .val (.int i2), .val (.int (((i0.toUInt32 >>> (((2 : Int32) * i2) &&& 31).toUInt32).toInt32) &&& (3 : Int32))), .val (.int (((i1.toUInt32 >>> (((2 : Int32) * i2) &&& 31).toUInt32).toInt32) &&& (3 : Int32)))] [(.int (0 : Int32))]))
      exact own_retN X hx hlk hret (by simp) (hb hby d24_31) (Nat.le_trans (Nat.add_le_add_right hc 0) (by decide)) (Nat.le_trans (Nat.add_le_add_right hs 0) (by decide)) eT N hQ (hvhB23_194)
    · refine own_step (fun t k => XS.ifNo X.here hx rfl (hb hby d24_23) rfl ((if0 _ _).trans (feq hB23_194).1) k) ?_
      have hvhB23_194 : v = (1 : Int32) := hvhB18_192.trans (if_neg hB23_194)
      show own_Fin p e below s Q 0 0 (T.setTop (mkF m 26 #[.val (.int i0), .val (.int i1), .val (.int i2), .val (.int (((i0.toUInt32 >>> (((2 : Int32) * i2) &&& 31).toUInt32).toInt32) &&& (3 : Int32))), .val (.int (((i1.toUInt32 >>> (((2 : Int32) * i2) &&& 31).toUInt32).toInt32) &&& (3 : Int32)))] []))
      refine own_step (fun t k => XS.iconst X.here hx rfl (hb hby d24_26) k) ?_
      show own_Fin p e below s Q 0 0 (T.setTop (mkF m 27 #[.val (.int i0), .val (.int i1), .val (.int i2), .val (.int (((i0.toUInt32 >>> (((2 : Int32) * i2) &&& 31).toUInt32).toInt32) &&& (3 : Int32))), .val (.int (((i1.toUInt32 >>> (((2 : Int32) * i2) &&& 31).toUInt32).toInt32) &&& (3 : Int32)))] [(.int (1 : Int32))]))
      refine own_step (fun t k => XS.goto X.here hx rfl (pc0 := 27) (pc' := 31) rfl (hb hby d24_27) (by decide) (by decide) k) ?_
      show own_Fin p e below s Q 0 0 (T.setTop (mkF m 31 #[.val (.int i0), .val (.int i1), .val (.int i2), .val (.int (((i0.toUInt32 >>> (((2 : Int32) * i2) &&& 31).toUInt32).toInt32) &&& (3 : Int32))), .val (.int (((i1.toUInt32 >>> (((2 : Int32) * i2) &&& 31).toUInt32).toInt32) &&& (3 : Int32)))] [(.int (1 : Int32))]))
      exact own_retN X hx hlk hret (by simp) (hb hby d24_31) (Nat.le_trans (Nat.add_le_add_right hc 0) (by decide)) (Nat.le_trans (Nat.add_le_add_right hs 0) (by decide)) eT N hQ (hvhB23_194)
  · refine own_step (fun t k => XS.ifYes X.here hx rfl (pc0 := 18) (pc' := 26) rfl (hb hby d24_18) rfl ((if0 _ _).trans (feq hB18_192).2) (by decide) (by decide) k) ?_
    have hvhB18_192 : v = (1 : Int32) := hv.trans (if_neg hB18_192)
    show own_Fin p e below s Q 0 0 (T.setTop (mkF m 26 #[.val (.int i0), .val (.int i1), .val (.int i2), .val (.int (((i0.toUInt32 >>> (((2 : Int32) * i2) &&& 31).toUInt32).toInt32) &&& (3 : Int32))), .val (.int (((i1.toUInt32 >>> (((2 : Int32) * i2) &&& 31).toUInt32).toInt32) &&& (3 : Int32)))] []))
    refine own_step (fun t k => XS.iconst X.here hx rfl (hb hby d24_26) k) ?_
    show own_Fin p e below s Q 0 0 (T.setTop (mkF m 27 #[.val (.int i0), .val (.int i1), .val (.int i2), .val (.int (((i0.toUInt32 >>> (((2 : Int32) * i2) &&& 31).toUInt32).toInt32) &&& (3 : Int32))), .val (.int (((i1.toUInt32 >>> (((2 : Int32) * i2) &&& 31).toUInt32).toInt32) &&& (3 : Int32)))] [(.int (1 : Int32))]))
    refine own_step (fun t k => XS.goto X.here hx rfl (pc0 := 27) (pc' := 31) rfl (hb hby d24_27) (by decide) (by decide) k) ?_
    show own_Fin p e below s Q 0 0 (T.setTop (mkF m 31 #[.val (.int i0), .val (.int i1), .val (.int i2), .val (.int (((i0.toUInt32 >>> (((2 : Int32) * i2) &&& 31).toUInt32).toInt32) &&& (3 : Int32))), .val (.int (((i1.toUInt32 >>> (((2 : Int32) * i2) &&& 31).toUInt32).toInt32) &&& (3 : Int32)))] [(.int (1 : Int32))]))
    exact own_retN X hx hlk hret (by simp) (hb hby d24_31) (Nat.le_trans (Nat.add_le_add_right hc 0) (by decide)) (Nat.le_trans (Nat.add_le_add_right hs 0) (by decide)) eT N hQ (hvhB18_192)
theorem pdm_17 : parseMethodDescriptor "(III)Z" = some ⟨[.int, .int, .int], some .boolean⟩ := by decide +kernel
theorem ef_24 (m : MethodId) (i0 : Int32) (i1 : Int32) (i2 : Int32) : entryFrame m #[(.int i0), (.int i1), (.int i2)] 5 = (mkF m 0 #[.val (.int i0), .val (.int i1), .val (.int i2), .unset, .unset] []) := by first | (simp [entryFrame, mkF, argsToLocals, Value.category]; done) | rfl
def Q24 (i0 : Int32) (i1 : Int32) (i2 : Int32) (h0 : Heap) (n0 : Nat) (v : Option Value) (h : Heap) (L : List Loc) : Prop := v = some (.int (f24_0 i0 i1 i2)) ∧ Fr n0 L ∧ h = h0
set_option maxRecDepth 65536 in
set_option maxHeartbeats 4000000 in
theorem rm24 (l : Launch) (Z : State) (a0 : Array Value) (hw : ∀ d ∈ tables_1, d.before a0 Z = true) (ws : List Jvm.Cond) (i0 : Int32) (i1 : Int32) (i2 : Int32) (h0 : Heap) (n0 : Nat) :
    MetFree l (⟨"com/example/libentitle/libentitle/role/GraphLeadsPinLaw", "expected", "(III)Z"⟩ : MethodName) (head1 (Jvm.Cond.code (⟨"com/example/libentitle/libentitle/role/GraphLeadsPinLaw", "expected", "(III)Z"⟩ : MethodName) method_3_code 5 (some .boolean) :: ws) ({ frames := 0, cells := 0, slots := 0, locals := 0 } : Room)) (fun a U => a = #[(.int i0), (.int i1), (.int i2)] ∧ Z.Warmed39 U.vm ∧ U.heap = h0) (fun _ _ _ _ _ => True) (fun _ U o U' => ∃ v L, o = .returned v ∧ Q24 i0 i1 i2 h0 n0 v U'.heap L ∧ FrameEnd U o U' L ({ frames := 0, cells := 0, slots := 0, locals := 0 } : Room).cells ({ frames := 0, cells := 0, slots := 0, locals := 0 } : Room).slots) := by
  refine MetFree.of_bodySF (plainFor_of_name pnm_6) hisR ?_
  intro p e s m args below meth c s₁ Bd hml0 hP hK
  obtain ⟨rfl, hZ, hh⟩ := hP
  have hx := Bd.exec
  have hby := Bd.bytes
  have hml : c.maxLocals = 5 := hml0
  have hown : s.vm.findClass "com/example/libentitle/libentitle/role/GraphLeadsPinLaw" = some m.cls := findClass_of_methodNamed Bd.named
  have X0 : Stand p l e ({ frames := 0, cells := 0, slots := 0, locals := 0 } : Room) s m #[(.int i0), (.int i1), (.int i2)] below meth c s₁ [] 0 0 := Stand.of_body Bd
  have e0 : s₁.heap = h0 := by rw [← hh, Bd.state]; rfl
  have fin := b24_0 i0 i1 i2 (Q := Q24 i0 i1 i2 h0 n0) hw X0 hx hZ hby hml hown Bd.returns (BodyLoose.notSynchronized Bd) e0 (Fr.nil n0) (Nat.zero_le _) (Nat.zero_le _) _ rfl (fun L' n' => ⟨rfl, n', rfl⟩)
  exact own_step (fun t k => castTop (ef_24 m i0 i1 i2) k) fin
theorem own_seqi {t : Jvm.Term} {n : Int32} {args : Array Value} {s : State} (h : (Jvm.Cond.eq t (.int n)).before args s = true) : t.eval args s none [] s = some (.int n) := by
  simp only [Cond.before, Cond.holds, Cond.value] at h
  have hn : (Jvm.Term.int n).eval args s none [] s = some (.int n) := rfl
  rw [hn] at h
  cases hv : t.eval args s none [] s with
  | none => simp [hv] at h
  | some w => cases w <;> simp [hv] at h; rw [h]
theorem own_slen0 {t : Jvm.Term} {a1 : Array Value} {s : State} {D : Addr} {c : Cell} (ev : t.eval a1 s none [] s = some (.ref D)) (hat : s.arrayAt? D = some c) (hb : ¬ c.slots.size < 2 ^ 31) : (Jvm.Term.length t).eval a1 s none [] s = none := by
  simp [Jvm.Term.eval, ev, hat]
  omega
/-- the set AL-clinit: the static empty array -/
theorem own_statics (a1 : Array Value) (s : State) (hsets : ∀ d ∈ jdkStatics_1, d.before a1 s = true) (hini : (Jvm.Cond.initialized "java/util/ArrayList").before a1 s = true) :
    ∃ D : Addr, Sta s s.heap "java/util/ArrayList" "DEFAULTCAPACITY_EMPTY_ELEMENTDATA" "[Ljava/lang/Object;" (.ref D) ∧ own_D s D := by
  have ha := Cond.before_iff.mp (hsets _ (List.mem_of_getElem? (i := 6) rfl))
  have hl := Cond.before_iff.mp (hsets _ (List.mem_of_getElem? (i := 8) rfl))
  have he : ∃ D : Addr, (Jvm.Term.static "java/util/ArrayList" "DEFAULTCAPACITY_EMPTY_ELEMENTDATA" "[Ljava/lang/Object;").eval a1 s none [] s = some (.ref D) := by
    cases hq : (Jvm.Term.static "java/util/ArrayList" "DEFAULTCAPACITY_EMPTY_ELEMENTDATA" "[Ljava/lang/Object;").eval a1 s none [] s with
    | none => simp only [Cond.value, hq] at ha; split at ha <;> cases ha
    | some v =>
      cases v <;> first | exact ⟨_, rfl⟩ | (simp only [Cond.value, hq] at ha; split at ha <;> cases ha)
  obtain ⟨D, ev⟩ := he
  have S := Sta.start ev (Or.inr ⟨hini, hsets _ (List.mem_of_getElem? (i := 2) rfl)⟩)
  obtain ⟨c, A⟩ := Arr.start ev ha
  refine ⟨D, S, c, A, ?_⟩
  have hat : s.arrayAt? D = some c := A.fin (Vm.Alike.refl _)
  have e2 : (Jvm.Term.length (Jvm.Term.static "java/util/ArrayList" "DEFAULTCAPACITY_EMPTY_ELEMENTDATA" "[Ljava/lang/Object;")).eval a1 s none [] s = some (.int 0) := own_seqi (hsets _ (List.mem_of_getElem? (i := 8) rfl))
  by_cases hb : c.slots.size < 2 ^ 31
  · have e3 := len_f ev hat hb
    rw [e2] at e3
    have e4 : (0 : Int32) = c.slots.size.toInt32 := by injection e3 with e; injection e
    have e5 : (c.slots.size.toInt32).toInt = c.slots.size := by
      have : c.slots.size.toInt32 = Int32.ofNat c.slots.size := rfl
      rw [this]
      exact Int32.toInt_ofNat_of_lt (by omega)
    rw [← e4] at e5
    have e6 : (0 : Int32).toInt = 0 := by decide
    omega
  · exfalso
    rw [own_slen0 ev hat hb] at e2
    cases e2
theorem own_back {x : Int32} (h : own_val x) : (x.toNatClampNeg.toInt32) = x := by
  have a := own_t32 x.toNatClampNeg (by have := (own_vz h).1; omega)
  have b := nat_of (own_vz h).2
  exact Int32.toInt_inj.mp (by omega)
theorem own_df (a b : Int32) : (a + b) - a = b := by
  have e1 := c_iadd a b
  have e2 := c_isub (a + b) a
  have r1 := rng32 a
  have r2 := rng32 b
  have r3 := rng32 ((a + b) - a)
  have r4 := rng32 (a + b)
  exact Int32.toInt_inj.mp (by omega)
theorem own_len (g : Nat → Int32) (k : Int32) (j : Nat) (a x : Int32) (hk : (k).toNatClampNeg = j) (hk1 : (k + (1 : Int32)).toNatClampNeg = j + 1) (e0 : g j = a) (e1 : g (j + 1) = a + (x.toNatClampNeg.toInt32)) (hx : own_val x) (n : Nat) : f23_0 k g n = x := by
  show (g ((k + (1 : Int32))).toNatClampNeg) - (g (k).toNatClampNeg) = x
  rw [hk, hk1, e0, e1, own_back hx]
  exact own_df _ _
theorem own_pos {x : Int32} (h : own_val x) : (0 : Int32) < x ↔ ¬ x = 0 := by
  have z : (0 : Int32).toInt = 0 := by decide
  have e : x = 0 ↔ x.toInt = 0 := own_eqi (by decide)
  have := h.1
  constructor
  · intro q y
    have := Int32.lt_iff_toInt_lt.mp q
    have := e.mp y
    omega
  · intro q
    exact Int32.lt_iff_toInt_lt.mpr (by have : ¬ x.toInt = 0 := fun y => q (e.mpr y); omega)
theorem own_sh0 (x : Int32) : (x.toUInt32 >>> (((2 : Int32) * (0 : Int32)) &&& 31).toUInt32).toInt32 = x := by
  apply Int32.toBitVec_inj.mp
  show x.toBitVec >>> ((((2 : Int32) * (0 : Int32)) &&& 31).toBitVec.umod 32#32) = x.toBitVec
  have : ((((2 : Int32) * (0 : Int32)) &&& 31).toBitVec.umod 32#32) = 0#32 := by decide
  rw [this]
  exact BitVec.ushiftRight_zero _
theorem own_lead0 (q1 q2 : Nat → Int32) (p g a b : Int32) (e0 : q1 0 = a) (e1 : q1 1 = a + ((p &&& (3 : Int32)).toNatClampNeg.toInt32)) (e2 : q2 0 = b) (e3 : q2 1 = b + ((g &&& (3 : Int32)).toNatClampNeg.toInt32)) : f22_0 (0 : Int32) q1 q2 = f24_0 p g (0 : Int32) := by
  have l1 := own_len q1 (0 : Int32) 0 a (p &&& (3 : Int32)) (by decide) (by decide) e0 e1 (own_and3 _) 5
  have l2 := own_len q2 (0 : Int32) 0 b (g &&& (3 : Int32)) (by decide) (by decide) e2 e3 (own_and3 _) 5
  have h1 : (((p.toUInt32 >>> (((2 : Int32) * (0 : Int32)) &&& 31).toUInt32).toInt32) &&& (3 : Int32)) = (p &&& (3 : Int32)) := by rw [own_sh0]
  have h2 : (((g.toUInt32 >>> (((2 : Int32) * (0 : Int32)) &&& 31).toUInt32).toInt32) &&& (3 : Int32)) = (g &&& (3 : Int32)) := by rw [own_sh0]
  unfold f22_0 f24_0
  rw [l1, l2, h1, h2]
  have v1 := own_and3 (p)
  have v2 := own_and3 (g)
  generalize (p &&& (3 : Int32)) = x at v1 ⊢
  generalize (g &&& (3 : Int32)) = y at v2 ⊢
  have w1 := own_pos v1
  have w2 := own_pos v2
  by_cases c1 : (0 : Int32) < x
  · rw [if_pos c1, if_neg (w1.mp c1)]
  · have d1 : x = 0 := Decidable.byContradiction fun q => c1 (w1.mpr q)
    rw [if_neg c1, if_pos d1]
    by_cases c2 : (0 : Int32) < y
    · rw [if_pos c2, if_neg (w2.mp c2)]
    · have d2 : y = 0 := Decidable.byContradiction fun q => c2 (w2.mpr q)
      rw [if_neg c2, if_pos d2]
theorem own_lead1 (q1 q2 : Nat → Int32) (p g a b : Int32) (e0 : q1 1 = a) (e1 : q1 2 = a + ((((p.toUInt32 >>> ((2 : Int32) &&& 31).toUInt32).toInt32) &&& (3 : Int32)).toNatClampNeg.toInt32)) (e2 : q2 1 = b) (e3 : q2 2 = b + ((((g.toUInt32 >>> ((2 : Int32) &&& 31).toUInt32).toInt32) &&& (3 : Int32)).toNatClampNeg.toInt32)) : f22_0 (1 : Int32) q1 q2 = f24_0 p g (1 : Int32) := by
  have l1 := own_len q1 (1 : Int32) 1 a (((p.toUInt32 >>> ((2 : Int32) &&& 31).toUInt32).toInt32) &&& (3 : Int32)) (by decide) (by decide) e0 e1 (own_and3 _) 5
  have l2 := own_len q2 (1 : Int32) 1 b (((g.toUInt32 >>> ((2 : Int32) &&& 31).toUInt32).toInt32) &&& (3 : Int32)) (by decide) (by decide) e2 e3 (own_and3 _) 5
  have h1 : (((p.toUInt32 >>> (((2 : Int32) * (1 : Int32)) &&& 31).toUInt32).toInt32) &&& (3 : Int32)) = (((p.toUInt32 >>> ((2 : Int32) &&& 31).toUInt32).toInt32) &&& (3 : Int32)) := rfl
  have h2 : (((g.toUInt32 >>> (((2 : Int32) * (1 : Int32)) &&& 31).toUInt32).toInt32) &&& (3 : Int32)) = (((g.toUInt32 >>> ((2 : Int32) &&& 31).toUInt32).toInt32) &&& (3 : Int32)) := rfl
  unfold f22_0 f24_0
  rw [l1, l2, h1, h2]
  have v1 := own_and3 (((p.toUInt32 >>> ((2 : Int32) &&& 31).toUInt32).toInt32))
  have v2 := own_and3 (((g.toUInt32 >>> ((2 : Int32) &&& 31).toUInt32).toInt32))
  generalize (((p.toUInt32 >>> ((2 : Int32) &&& 31).toUInt32).toInt32) &&& (3 : Int32)) = x at v1 ⊢
  generalize (((g.toUInt32 >>> ((2 : Int32) &&& 31).toUInt32).toInt32) &&& (3 : Int32)) = y at v2 ⊢
  have w1 := own_pos v1
  have w2 := own_pos v2
  by_cases c1 : (0 : Int32) < x
  · rw [if_pos c1, if_neg (w1.mp c1)]
  · have d1 : x = 0 := Decidable.byContradiction fun q => c1 (w1.mpr q)
    rw [if_neg c1, if_pos d1]
    by_cases c2 : (0 : Int32) < y
    · rw [if_pos c2, if_neg (w2.mp c2)]
    · have d2 : y = 0 := Decidable.byContradiction fun q => c2 (w2.mpr q)
      rw [if_neg c2, if_pos d2]
theorem own_lead2 (q1 q2 : Nat → Int32) (p g a b : Int32) (e0 : q1 2 = a) (e1 : q1 3 = a + ((((p.toUInt32 >>> ((4 : Int32) &&& 31).toUInt32).toInt32) &&& (3 : Int32)).toNatClampNeg.toInt32)) (e2 : q2 2 = b) (e3 : q2 3 = b + ((((g.toUInt32 >>> ((4 : Int32) &&& 31).toUInt32).toInt32) &&& (3 : Int32)).toNatClampNeg.toInt32)) : f22_0 (2 : Int32) q1 q2 = f24_0 p g (2 : Int32) := by
  have l1 := own_len q1 (2 : Int32) 2 a (((p.toUInt32 >>> ((4 : Int32) &&& 31).toUInt32).toInt32) &&& (3 : Int32)) (by decide) (by decide) e0 e1 (own_and3 _) 5
  have l2 := own_len q2 (2 : Int32) 2 b (((g.toUInt32 >>> ((4 : Int32) &&& 31).toUInt32).toInt32) &&& (3 : Int32)) (by decide) (by decide) e2 e3 (own_and3 _) 5
  have h1 : (((p.toUInt32 >>> (((2 : Int32) * (2 : Int32)) &&& 31).toUInt32).toInt32) &&& (3 : Int32)) = (((p.toUInt32 >>> ((4 : Int32) &&& 31).toUInt32).toInt32) &&& (3 : Int32)) := rfl
  have h2 : (((g.toUInt32 >>> (((2 : Int32) * (2 : Int32)) &&& 31).toUInt32).toInt32) &&& (3 : Int32)) = (((g.toUInt32 >>> ((4 : Int32) &&& 31).toUInt32).toInt32) &&& (3 : Int32)) := rfl
  unfold f22_0 f24_0
  rw [l1, l2, h1, h2]
  have v1 := own_and3 (((p.toUInt32 >>> ((4 : Int32) &&& 31).toUInt32).toInt32))
  have v2 := own_and3 (((g.toUInt32 >>> ((4 : Int32) &&& 31).toUInt32).toInt32))
  generalize (((p.toUInt32 >>> ((4 : Int32) &&& 31).toUInt32).toInt32) &&& (3 : Int32)) = x at v1 ⊢
  generalize (((g.toUInt32 >>> ((4 : Int32) &&& 31).toUInt32).toInt32) &&& (3 : Int32)) = y at v2 ⊢
  have w1 := own_pos v1
  have w2 := own_pos v2
  by_cases c1 : (0 : Int32) < x
  · rw [if_pos c1, if_neg (w1.mp c1)]
  · have d1 : x = 0 := Decidable.byContradiction fun q => c1 (w1.mpr q)
    rw [if_neg c1, if_pos d1]
    by_cases c2 : (0 : Int32) < y
    · rw [if_pos c2, if_neg (w2.mp c2)]
    · have d2 : y = 0 := Decidable.byContradiction fun q => c2 (w2.mpr q)
      rw [if_neg c2, if_pos d2]
theorem own_lead3 (q1 q2 : Nat → Int32) (p g a b : Int32) (e0 : q1 3 = a) (e1 : q1 4 = a + ((((p.toUInt32 >>> ((6 : Int32) &&& 31).toUInt32).toInt32) &&& (3 : Int32)).toNatClampNeg.toInt32)) (e2 : q2 3 = b) (e3 : q2 4 = b + ((((g.toUInt32 >>> ((6 : Int32) &&& 31).toUInt32).toInt32) &&& (3 : Int32)).toNatClampNeg.toInt32)) : f22_0 (3 : Int32) q1 q2 = f24_0 p g (3 : Int32) := by
  have l1 := own_len q1 (3 : Int32) 3 a (((p.toUInt32 >>> ((6 : Int32) &&& 31).toUInt32).toInt32) &&& (3 : Int32)) (by decide) (by decide) e0 e1 (own_and3 _) 5
  have l2 := own_len q2 (3 : Int32) 3 b (((g.toUInt32 >>> ((6 : Int32) &&& 31).toUInt32).toInt32) &&& (3 : Int32)) (by decide) (by decide) e2 e3 (own_and3 _) 5
  have h1 : (((p.toUInt32 >>> (((2 : Int32) * (3 : Int32)) &&& 31).toUInt32).toInt32) &&& (3 : Int32)) = (((p.toUInt32 >>> ((6 : Int32) &&& 31).toUInt32).toInt32) &&& (3 : Int32)) := rfl
  have h2 : (((g.toUInt32 >>> (((2 : Int32) * (3 : Int32)) &&& 31).toUInt32).toInt32) &&& (3 : Int32)) = (((g.toUInt32 >>> ((6 : Int32) &&& 31).toUInt32).toInt32) &&& (3 : Int32)) := rfl
  unfold f22_0 f24_0
  rw [l1, l2, h1, h2]
  have v1 := own_and3 (((p.toUInt32 >>> ((6 : Int32) &&& 31).toUInt32).toInt32))
  have v2 := own_and3 (((g.toUInt32 >>> ((6 : Int32) &&& 31).toUInt32).toInt32))
  generalize (((p.toUInt32 >>> ((6 : Int32) &&& 31).toUInt32).toInt32) &&& (3 : Int32)) = x at v1 ⊢
  generalize (((g.toUInt32 >>> ((6 : Int32) &&& 31).toUInt32).toInt32) &&& (3 : Int32)) = y at v2 ⊢
  have w1 := own_pos v1
  have w2 := own_pos v2
  by_cases c1 : (0 : Int32) < x
  · rw [if_pos c1, if_neg (w1.mp c1)]
  · have d1 : x = 0 := Decidable.byContradiction fun q => c1 (w1.mpr q)
    rw [if_neg c1, if_pos d1]
    by_cases c2 : (0 : Int32) < y
    · rw [if_pos c2, if_neg (w2.mp c2)]
    · have d2 : y = 0 := Decidable.byContradiction fun q => c2 (w2.mpr q)
      rw [if_neg c2, if_pos d2]
set_option maxRecDepth 65536 in
set_option maxHeartbeats 40000000 in
theorem b0_0 {p : Program} {l : Launch} {e : Env} {s : State} {m : MethodId} {args : Array Value} {below : List Frame} {meth : Method} {c : Code} {T : State} {locs : List Loc} {cells slots : Nat} {Z : State} {a0 : Array Value} {h : Heap} {n0 : Nat} {Q : Option Value → Heap → List Loc → Prop} (i0 : Int32) (i1 : Int32) (i2 : Int32) (i3 : Int32) (hw : ∀ d ∈ tables_1, d.before a0 Z = true) (X : Stand p l e room_1 s m args below meth c T locs cells slots) (hx : p.tables.exec = Jvm.exec) (hZ : Z.Warmed39 s.vm) (hby : c.code = code) (hml : c.maxLocals = 11) (hown : s.vm.findClass "com/example/libentitle/libentitle/role/GraphLeadsPinLaw" = some m.cls) (hret : meth.sig.returnType = some .boolean) (hlk : meth.locks = false) (eT : T.heap = h) (N : Fr n0 locs) (hc : cells ≤ 0) (hs : slots ≤ 0) (D : Addr) (S0 : Sta Z Z.heap "java/util/ArrayList" "DEFAULTCAPACITY_EMPTY_ELEMENTDATA" "[Ljava/lang/Object;" (.ref D)) (DA : own_D Z D) (hO : Old Z n0 h) (Z0 : n0 ≤ h.size) (hQ : ∀ H' L', Fr n0 L' → Q (some (.int 1)) H' L') :
    own_Fin p e below s Q 64 384 (T.setTop (mkF m 0 #[.val (.int i0), .val (.int i1), .val (.int i2), .val (.int i3), .unset, .unset, .unset, .unset, .unset, .unset, .unset] [])) := by
  obtain ⟨T198, h198, X198, e198, E198, A198, D198, -, st198⟩ := newO X hx hZ hown (hw _ (List.mem_of_getElem? (i := 0) rfl)) (hw _ (List.mem_of_getElem? (i := 1) rfl)) (hw _ (List.mem_of_getElem? (i := 2) rfl)) eT (g := (mkF m 0 #[.val (.int i0), .val (.int i1), .val (.int i2), .val (.int i3), .unset, .unset, .unset, .unset, .unset, .unset, .unset] [])) rfl (hb hby at_0) (show cells + 1 ≤ 64 from (Nat.le_trans (Nat.add_le_add_right hc 1) (by decide))) (show slots + 3 ≤ 384 from (Nat.le_trans (Nat.add_le_add_right hs 3) (by decide)))
  obtain ⟨b198, gg198⟩ : ∃ z, z = h.size := ⟨_, rfl⟩
  rw [← gg198] at A198 D198 st198
  have F198_modCount : Fld Z h198 b198 "java/util/AbstractList" "modCount" "I" (.int (0 : Int32)) := D198 (Or.inl (hw _ (List.mem_of_getElem? (i := 22) rfl))) (ty := .int) (by decide)
  have F198_elementData : Fld Z h198 b198 "java/util/ArrayList" "elementData" "[Ljava/lang/Object;" .null := D198 (Or.inl (hw _ (List.mem_of_getElem? (i := 25) rfl))) (ty := (.array (.object "java/lang/Object"))) (by decide)
  have F198_size : Fld Z h198 b198 "java/util/ArrayList" "size" "I" (.int (0 : Int32)) := D198 (Or.inl (hw _ (List.mem_of_getElem? (i := 43) rfl))) (ty := .int) (by decide)
  have fr198 : n0 ≤ b198 := Nat.le_trans Z0 (Nat.le_of_eq gg198.symm)
  have Z0198 : n0 ≤ h198.size := Nat.le_trans Z0 E198.1
  have O198 := hO.ext E198
  refine own_step st198 ?_
  show own_Fin p e below s Q 64 384 (T198.setTop (mkF m 3 #[.val (.int i0), .val (.int i1), .val (.int i2), .val (.int i3), .unset, .unset, .unset, .unset, .unset, .unset, .unset] [(.ref b198)]))
  refine own_step (fun t k => XS.dup X198.here hx rfl (hb hby at_3) rfl rfl k) ?_
  show own_Fin p e below s Q 64 384 (T198.setTop (mkF m 4 #[.val (.int i0), .val (.int i1), .val (.int i2), .val (.int i3), .unset, .unset, .unset, .unset, .unset, .unset, .unset] [(.ref b198), (.ref b198)]))
  obtain ⟨_, _, ⟨T199, L199, k199, n199⟩, -, X199, ⟨Lc199, hQ199, l199, y199, z199⟩, st199⟩ := X198.specialBack hx (y := (⟨"java/util/ArrayList", "<init>", "()V"⟩ : MethodName)) rfl hown (mvT hZ (hw _ (List.mem_of_getElem? (i := 3) rfl))) (mvT hZ (hw _ (List.mem_of_getElem? (i := 4) rfl))) (mvT hZ (hw _ (List.mem_of_getElem? (i := 5) rfl))) (by decide) (backOf (W := 1) (rm1 l Z a0 hw [] b198 (.int (0 : Int32)) .null (.int (0 : Int32)) D h198 n0 Z0198 fr198 O198 S0 A198 F198_modCount F198_elementData F198_size) hZ (hw _ (List.mem_of_getElem? (i := 5) rfl)) (hw _ (List.mem_of_getElem? (i := 2) rfl)) (by decide) (by decide)) (g := (mkF m 4 #[.val (.int i0), .val (.int i1), .val (.int i2), .val (.int i3), .unset, .unset, .unset, .unset, .unset, .unset, .unset] [(.ref b198), (.ref b198)])) rfl (by rw [hml]; rfl) (Steps.refl _) (a := b198) (argsL := []) (rest := [(.ref b198)]) (lenOf pdm_1 rfl) rfl (by show 2 * 0 + _ ≤ _; exact Nat.le_of_eq rfl) (hb hby at_4) (fun _ _ => ⟨rfl, e198, (show cells + 1 + 0 ≤ 64 from (Nat.le_trans (Nat.add_le_add_right hc 1) (by decide))), (show slots + 3 + 0 ≤ 384 from (Nat.le_trans (Nat.add_le_add_right hs 3) (by decide)))⟩)
  dsimp only [Pt.U, Pt.locs, Pt.cells, Pt.slots] at X199 l199 y199 z199 st199 hQ199
  have yy199 : k199 = cells + 1 + 0 := y199
  have zz199 : n199 = slots + 3 + 0 := z199
  rw [yy199, zz199, l199] at X199
  obtain ⟨rfl, N199q, K199, r0_199, r1_199, r2_199, r3_199⟩ := hQ199
  have N199 := Fr.app N N199q
  have Z0199 : n0 ≤ T199.heap.size := Nat.le_trans Z0198 K199.1
  have O199 := O198.keep K199 (allS fr198 all0)
  refine own_step (fun t k => st199.trans k) ?_
  show own_Fin p e below s Q 64 384 (T199.setTop (mkF m 7 #[.val (.int i0), .val (.int i1), .val (.int i2), .val (.int i3), .unset, .unset, .unset, .unset, .unset, .unset, .unset] [(.ref b198)]))
  refine own_step (fun t k => XS.astore X199.here hx rfl (hb hby at_7) rfl rfl (l' := #[.val (.int i0), .val (.int i1), .val (.int i2), .val (.int i3), .val (.ref b198), .unset, .unset, .unset, .unset, .unset, .unset]) rfl k) ?_
  show own_Fin p e below s Q 64 384 (T199.setTop (mkF m 9 #[.val (.int i0), .val (.int i1), .val (.int i2), .val (.int i3), .val (.ref b198), .unset, .unset, .unset, .unset, .unset, .unset] []))
  obtain ⟨T200, h200, X200, e200, E200, A200, D200, -, st200⟩ := newO X199 hx hZ hown (hw _ (List.mem_of_getElem? (i := 0) rfl)) (hw _ (List.mem_of_getElem? (i := 1) rfl)) (hw _ (List.mem_of_getElem? (i := 2) rfl)) rfl (g := (mkF m 9 #[.val (.int i0), .val (.int i1), .val (.int i2), .val (.int i3), .val (.ref b198), .unset, .unset, .unset, .unset, .unset, .unset] [])) rfl (hb hby at_9) (show cells + 1 + 0 + 1 ≤ 64 from (Nat.le_trans (Nat.add_le_add_right hc 2) (by decide))) (show slots + 3 + 0 + 3 ≤ 384 from (Nat.le_trans (Nat.add_le_add_right hs 6) (by decide)))
  obtain ⟨b200, gg200⟩ : ∃ z, z = T199.heap.size := ⟨_, rfl⟩
  rw [← gg200] at A200 D200 st200
  have F200_modCount : Fld Z h200 b200 "java/util/AbstractList" "modCount" "I" (.int (0 : Int32)) := D200 (Or.inl (hw _ (List.mem_of_getElem? (i := 22) rfl))) (ty := .int) (by decide)
  have F200_elementData : Fld Z h200 b200 "java/util/ArrayList" "elementData" "[Ljava/lang/Object;" .null := D200 (Or.inl (hw _ (List.mem_of_getElem? (i := 25) rfl))) (ty := (.array (.object "java/lang/Object"))) (by decide)
  have F200_size : Fld Z h200 b200 "java/util/ArrayList" "size" "I" (.int (0 : Int32)) := D200 (Or.inl (hw _ (List.mem_of_getElem? (i := 43) rfl))) (ty := .int) (by decide)
  have fr200 : n0 ≤ b200 := Nat.le_trans Z0199 (Nat.le_of_eq gg200.symm)
  have Z0200 : n0 ≤ h200.size := Nat.le_trans Z0199 E200.1
  have neb198_200 : b198 ≠ b200 := Nat.ne_of_lt (Nat.lt_of_lt_of_le r0_199.lt (Nat.le_of_eq gg200.symm))
  have Ex200_b198 := r0_199.ext E200
  have F200_b198_modCount := r1_199.ext E200
  have F200_b198_elementData := r2_199.ext E200
  have F200_b198_size := r3_199.ext E200
  have O200 := O199.ext E200
  refine own_step st200 ?_
  show own_Fin p e below s Q 64 384 (T200.setTop (mkF m 12 #[.val (.int i0), .val (.int i1), .val (.int i2), .val (.int i3), .val (.ref b198), .unset, .unset, .unset, .unset, .unset, .unset] [(.ref b200)]))
  refine own_step (fun t k => XS.dup X200.here hx rfl (hb hby at_12) rfl rfl k) ?_
  show own_Fin p e below s Q 64 384 (T200.setTop (mkF m 13 #[.val (.int i0), .val (.int i1), .val (.int i2), .val (.int i3), .val (.ref b198), .unset, .unset, .unset, .unset, .unset, .unset] [(.ref b200), (.ref b200)]))
  obtain ⟨_, _, ⟨T201, L201, k201, n201⟩, -, X201, ⟨Lc201, hQ201, l201, y201, z201⟩, st201⟩ := X200.specialBack hx (y := (⟨"java/util/ArrayList", "<init>", "()V"⟩ : MethodName)) rfl hown (mvT hZ (hw _ (List.mem_of_getElem? (i := 3) rfl))) (mvT hZ (hw _ (List.mem_of_getElem? (i := 4) rfl))) (mvT hZ (hw _ (List.mem_of_getElem? (i := 5) rfl))) (by decide) (backOf (W := 1) (rm1 l Z a0 hw [] b200 (.int (0 : Int32)) .null (.int (0 : Int32)) D h200 n0 Z0200 fr200 O200 S0 A200 F200_modCount F200_elementData F200_size) hZ (hw _ (List.mem_of_getElem? (i := 5) rfl)) (hw _ (List.mem_of_getElem? (i := 2) rfl)) (by decide) (by decide)) (g := (mkF m 13 #[.val (.int i0), .val (.int i1), .val (.int i2), .val (.int i3), .val (.ref b198), .unset, .unset, .unset, .unset, .unset, .unset] [(.ref b200), (.ref b200)])) rfl (by rw [hml]; rfl) (Steps.refl _) (a := b200) (argsL := []) (rest := [(.ref b200)]) (lenOf pdm_1 rfl) rfl (by show 2 * 0 + _ ≤ _; exact Nat.le_of_eq rfl) (hb hby at_13) (fun _ _ => ⟨rfl, e200, (show cells + 1 + 0 + 1 + 0 ≤ 64 from (Nat.le_trans (Nat.add_le_add_right hc 2) (by decide))), (show slots + 3 + 0 + 3 + 0 ≤ 384 from (Nat.le_trans (Nat.add_le_add_right hs 6) (by decide)))⟩)
  dsimp only [Pt.U, Pt.locs, Pt.cells, Pt.slots] at X201 l201 y201 z201 st201 hQ201
  have yy201 : k201 = cells + 1 + 0 + 1 + 0 := y201
  have zz201 : n201 = slots + 3 + 0 + 3 + 0 := z201
  rw [yy201, zz201, l201] at X201
  obtain ⟨rfl, N201q, K201, r0_201, r1_201, r2_201, r3_201⟩ := hQ201
  have N201 := Fr.app N199 N201q
  have Z0201 : n0 ≤ T201.heap.size := Nat.le_trans Z0200 K201.1
  have Ex201_b198 := Ex200_b198.keep K201
  have F201_b198_modCount := F200_b198_modCount.keep K201 (ninS neb198_200 nin0)
  have F201_b198_elementData := F200_b198_elementData.keep K201 (ninS neb198_200 nin0)
  have F201_b198_size := F200_b198_size.keep K201 (ninS neb198_200 nin0)
  have O201 := O200.keep K201 (allS fr200 all0)
  refine own_step (fun t k => st201.trans k) ?_
  show own_Fin p e below s Q 64 384 (T201.setTop (mkF m 16 #[.val (.int i0), .val (.int i1), .val (.int i2), .val (.int i3), .val (.ref b198), .unset, .unset, .unset, .unset, .unset, .unset] [(.ref b200)]))
  refine own_step (fun t k => XS.astore X201.here hx rfl (hb hby at_16) rfl rfl (l' := #[.val (.int i0), .val (.int i1), .val (.int i2), .val (.int i3), .val (.ref b198), .val (.ref b200), .unset, .unset, .unset, .unset, .unset]) rfl k) ?_
  show own_Fin p e below s Q 64 384 (T201.setTop (mkF m 18 #[.val (.int i0), .val (.int i1), .val (.int i2), .val (.int i3), .val (.ref b198), .val (.ref b200), .unset, .unset, .unset, .unset, .unset] []))
  refine own_step (fun t k => XS.aload X201.here hx rfl (hb hby at_18) rfl rfl k) ?_
  show own_Fin p e below s Q 64 384 (T201.setTop (mkF m 20 #[.val (.int i0), .val (.int i1), .val (.int i2), .val (.int i3), .val (.ref b198), .val (.ref b200), .unset, .unset, .unset, .unset, .unset] [(.ref b198)]))
  refine own_step (fun t k => XS.iloadN X201.here hx rfl (hb hby at_20) rfl  k) ?_
  show own_Fin p e below s Q 64 384 (T201.setTop (mkF m 21 #[.val (.int i0), .val (.int i1), .val (.int i2), .val (.int i3), .val (.ref b198), .val (.ref b200), .unset, .unset, .unset, .unset, .unset] [(.int i0), (.ref b198)]))
  refine own_step (fun t k => XS.iconst X201.here hx rfl (hb hby at_21) k) ?_
  show own_Fin p e below s Q 64 384 (T201.setTop (mkF m 22 #[.val (.int i0), .val (.int i1), .val (.int i2), .val (.int i3), .val (.ref b198), .val (.ref b200), .unset, .unset, .unset, .unset, .unset] [(.int (3 : Int32)), (.int i0), (.ref b198)]))
  refine own_step (fun t k => XS.iand X201.here hx rfl (hb hby at_22) rfl k) ?_
  show own_Fin p e below s Q 64 384 (T201.setTop (mkF m 23 #[.val (.int i0), .val (.int i1), .val (.int i2), .val (.int i3), .val (.ref b198), .val (.ref b200), .unset, .unset, .unset, .unset, .unset] [(.int (i0 &&& (3 : Int32))), (.ref b198)]))
  refine own_step (fun t k => XS.iloadN X201.here hx rfl (hb hby at_23) rfl  k) ?_
  show own_Fin p e below s Q 64 384 (T201.setTop (mkF m 24 #[.val (.int i0), .val (.int i1), .val (.int i2), .val (.int i3), .val (.ref b198), .val (.ref b200), .unset, .unset, .unset, .unset, .unset] [(.int i2), (.int (i0 &&& (3 : Int32))), (.ref b198)]))
  obtain ⟨_, _, ⟨T202, L202, k202, n202⟩, -, X202, ⟨Lc202, hQ202, l202, y202, z202⟩, st202⟩ := Jvm.LawKit.callS X201 hx (y := (⟨"com/example/libentitle/libentitle/role/GraphLeadsPinLaw", "row", "(II)[I"⟩ : MethodName)) hown (mvT hZ (hw _ (List.mem_of_getElem? (i := 26) rfl))) (mvT hZ (hw _ (List.mem_of_getElem? (i := 27) rfl))) (mvT hZ (hw _ (List.mem_of_getElem? (i := 28) rfl))) (mvT hZ (hw _ (List.mem_of_getElem? (i := 29) rfl))) (by decide) (backOf (W := 1) (rm5 l Z a0 hw [] (i0 &&& (3 : Int32)) i2 T201.heap n0 Z0201 (own_and3 _)) hZ (hw _ (List.mem_of_getElem? (i := 29) rfl)) (hw _ (List.mem_of_getElem? (i := 28) rfl)) (by decide) (by decide)) (g := (mkF m 24 #[.val (.int i0), .val (.int i1), .val (.int i2), .val (.int i3), .val (.ref b198), .val (.ref b200), .unset, .unset, .unset, .unset, .unset] [(.int i2), (.int (i0 &&& (3 : Int32))), (.ref b198)])) rfl (by rw [hml]; rfl) (argsL := [(.int (i0 &&& (3 : Int32))), (.int i2)]) (rest := [(.ref b198)]) (lenOf pdm_10 rfl) rfl (by show 2 * 0 + _ ≤ _; exact Nat.le_of_eq rfl) (hb hby at_24) (fun _ _ => ⟨rfl, rfl, (show cells + 1 + 0 + 1 + 0 + 1 ≤ 64 from (Nat.le_trans (Nat.add_le_add_right hc 3) (by decide))), (show slots + 3 + 0 + 3 + 0 + 3 ≤ 384 from (Nat.le_trans (Nat.add_le_add_right hs 9) (by decide)))⟩)
  dsimp only [Pt.U, Pt.locs, Pt.cells, Pt.slots] at X202 l202 y202 z202 st202 hQ202
  have yy202 : k202 = cells + 1 + 0 + 1 + 0 + 1 := y202
  have zz202 : n202 = slots + 3 + 0 + 3 + 0 + 3 := z202
  rw [yy202, zz202, l202] at X202
  obtain ⟨b_202, g_202, rfl, N202q, K202, r0_202, r1_202, r2_202, r3_202, r4_202⟩ := hQ202
  have N202 := Fr.app N201 N202q
  have Z0202 : n0 ≤ T202.heap.size := Nat.le_trans Z0201 K202.1
  have Ex202_b198 := Ex201_b198.keep K202
  have F202_b198_modCount := F201_b198_modCount.keep K202 nin0
  have F202_b198_elementData := F201_b198_elementData.keep K202 nin0
  have F202_b198_size := F201_b198_size.keep K202 nin0
  have Ex202_b200 := r0_201.keep K202
  have F202_b200_modCount := r1_201.keep K202 nin0
  have F202_b200_elementData := r2_201.keep K202 nin0
  have F202_b200_size := r3_201.keep K202 nin0
  have O202 := O201.keep K202 all0
  have neb198_202 : b198 ≠ b_202 := Nat.ne_of_lt (Nat.lt_of_lt_of_le Ex201_b198.lt r1_202)
  have neb200_202 : b200 ≠ b_202 := Nat.ne_of_lt (Nat.lt_of_lt_of_le r0_201.lt r1_202)
  refine own_step st202 ?_
  show own_Fin p e below s Q 64 384 (T202.setTop (mkF m 27 #[.val (.int i0), .val (.int i1), .val (.int i2), .val (.int i3), .val (.ref b198), .val (.ref b200), .unset, .unset, .unset, .unset, .unset] [(.ref b_202), (.ref b198)]))
  obtain ⟨cq203, kq203, q203a, q203b, q203c⟩ := isOf hZ rfl Ex202_b198
  obtain ⟨_, _, ⟨T203, L203, k203, n203⟩, -, X203, ⟨Lc203, hQ203, l203, y203, z203⟩, st203⟩ := X202.interfaceBack hx (xi := (⟨"java/util/List", "add", "(Ljava/lang/Object;)Z"⟩ : MethodName)) (y := (⟨"java/util/ArrayList", "add", "(Ljava/lang/Object;)Z"⟩ : MethodName)) hown (mvT hZ (hw _ (List.mem_of_getElem? (i := 31) rfl))) (mvT hZ (hw _ (List.mem_of_getElem? (i := 32) rfl))) (mvT hZ (hw _ (List.mem_of_getElem? (i := 33) rfl))) (mvT hZ (hw _ (List.mem_of_getElem? (i := 34) rfl))) (mvT hZ (hw _ (List.mem_of_getElem? (i := 35) rfl))) (mvT hZ (hw _ (List.mem_of_getElem? (i := 36) rfl))) (mvT hZ (hw _ (List.mem_of_getElem? (i := 37) rfl))) (mvT hZ (hw _ (List.mem_of_getElem? (i := 38) rfl))) (by decide) (backOf (W := 0) (rm60 l Z a0 hw [] b198 b_202 (0 : Int32) D T202.heap n0 Z0202 fr198 O202 S0 DA (Ins.of_exa r3_202 (hw _ (List.mem_of_getElem? (i := 65) rfl))) Ex202_b198 F202_b198_modCount F202_b198_elementData F202_b198_size) hZ (hw _ (List.mem_of_getElem? (i := 39) rfl)) (hw _ (List.mem_of_getElem? (i := 2) rfl)) (by decide) (by decide)) q203a q203b q203c (g := (mkF m 27 #[.val (.int i0), .val (.int i1), .val (.int i2), .val (.int i3), .val (.ref b198), .val (.ref b200), .unset, .unset, .unset, .unset, .unset] [(.ref b_202), (.ref b198)])) rfl (by rw [hml]; rfl) (Steps.refl _) (argsL := [(.ref b_202)]) (rest := []) (lenOf pdm_5 rfl) rfl (by show 2 * 0 + _ ≤ _; exact Nat.le_of_eq rfl) (hb hby at_27) (fun _ _ => ⟨rfl, rfl, (show cells + 1 + 0 + 1 + 0 + 1 + 1 ≤ 64 from (Nat.le_trans (Nat.add_le_add_right hc 4) (by decide))), (show slots + 3 + 0 + 3 + 0 + 3 + 10 ≤ 384 from (Nat.le_trans (Nat.add_le_add_right hs 19) (by decide)))⟩)
  dsimp only [Pt.U, Pt.locs, Pt.cells, Pt.slots] at X203 l203 y203 z203 st203 hQ203
  have yy203 : k203 = cells + 1 + 0 + 1 + 0 + 1 + 1 := y203
  have zz203 : n203 = slots + 3 + 0 + 3 + 0 + 3 + 10 := z203
  rw [yy203, zz203, l203] at X203
  obtain ⟨b_203, rfl, N203q, K203, r0_203, r1_203, r2_203, r3_203, r4_203, r5_203, r6_203⟩ := hQ203
  have N203 := Fr.app N202 N203q
  have Z0203 : n0 ≤ T203.heap.size := Nat.le_trans Z0202 K203.1
  have V203_b_202 := own_AFkeep r2_202 K203 (ninS (Ne.symm neb198_202) nin0)
  have Xa203_b_202 := r3_202.keep K203
  have Ex203_b200 := Ex202_b200.keep K203
  have F203_b200_modCount := F202_b200_modCount.keep K203 (ninS (Ne.symm neb198_200) nin0)
  have F203_b200_elementData := F202_b200_elementData.keep K203 (ninS (Ne.symm neb198_200) nin0)
  have F203_b200_size := F202_b200_size.keep K203 (ninS (Ne.symm neb198_200) nin0)
  have O203 := O202.keep K203 (allS fr198 all0)
  have neb_202_203 : b_202 ≠ b_203 := Nat.ne_of_lt (Nat.lt_of_lt_of_le r2_202.lt r1_203)
  have neb198_203 : b198 ≠ b_203 := Nat.ne_of_lt (Nat.lt_of_lt_of_le Ex202_b198.lt r1_203)
  have neb200_203 : b200 ≠ b_203 := Nat.ne_of_lt (Nat.lt_of_lt_of_le Ex202_b200.lt r1_203)
  refine own_step (fun t k => st203.trans k) ?_
  show own_Fin p e below s Q 64 384 (T203.setTop (mkF m 32 #[.val (.int i0), .val (.int i1), .val (.int i2), .val (.int i3), .val (.ref b198), .val (.ref b200), .unset, .unset, .unset, .unset, .unset] [(.int (1 : Int32))]))
  refine own_step (fun t k => XS.pop X203.here hx rfl (hb hby at_32) rfl rfl k) ?_
  show own_Fin p e below s Q 64 384 (T203.setTop (mkF m 33 #[.val (.int i0), .val (.int i1), .val (.int i2), .val (.int i3), .val (.ref b198), .val (.ref b200), .unset, .unset, .unset, .unset, .unset] []))
  refine own_step (fun t k => XS.aload X203.here hx rfl (hb hby at_33) rfl rfl k) ?_
  show own_Fin p e below s Q 64 384 (T203.setTop (mkF m 35 #[.val (.int i0), .val (.int i1), .val (.int i2), .val (.int i3), .val (.ref b198), .val (.ref b200), .unset, .unset, .unset, .unset, .unset] [(.ref b198)]))
  refine own_step (fun t k => XS.iloadN X203.here hx rfl (hb hby at_35) rfl  k) ?_
  show own_Fin p e below s Q 64 384 (T203.setTop (mkF m 36 #[.val (.int i0), .val (.int i1), .val (.int i2), .val (.int i3), .val (.ref b198), .val (.ref b200), .unset, .unset, .unset, .unset, .unset] [(.int i0), (.ref b198)]))
  refine own_step (fun t k => XS.iconst X203.here hx rfl (hb hby at_36) k) ?_
  show own_Fin p e below s Q 64 384 (T203.setTop (mkF m 37 #[.val (.int i0), .val (.int i1), .val (.int i2), .val (.int i3), .val (.ref b198), .val (.ref b200), .unset, .unset, .unset, .unset, .unset] [(.int (2 : Int32)), (.int i0), (.ref b198)]))
  refine own_step (fun t k => XS.iushr X203.here hx rfl (hb hby at_37) rfl k) ?_
  show own_Fin p e below s Q 64 384 (T203.setTop (mkF m 38 #[.val (.int i0), .val (.int i1), .val (.int i2), .val (.int i3), .val (.ref b198), .val (.ref b200), .unset, .unset, .unset, .unset, .unset] [(.int ((i0.toUInt32 >>> ((2 : Int32) &&& 31).toUInt32).toInt32)), (.ref b198)]))
  refine own_step (fun t k => XS.iconst X203.here hx rfl (hb hby at_38) k) ?_
  show own_Fin p e below s Q 64 384 (T203.setTop (mkF m 39 #[.val (.int i0), .val (.int i1), .val (.int i2), .val (.int i3), .val (.ref b198), .val (.ref b200), .unset, .unset, .unset, .unset, .unset] [(.int (3 : Int32)), (.int ((i0.toUInt32 >>> ((2 : Int32) &&& 31).toUInt32).toInt32)), (.ref b198)]))
  refine own_step (fun t k => XS.iand X203.here hx rfl (hb hby at_39) rfl k) ?_
  show own_Fin p e below s Q 64 384 (T203.setTop (mkF m 40 #[.val (.int i0), .val (.int i1), .val (.int i2), .val (.int i3), .val (.ref b198), .val (.ref b200), .unset, .unset, .unset, .unset, .unset] [(.int (((i0.toUInt32 >>> ((2 : Int32) &&& 31).toUInt32).toInt32) &&& (3 : Int32))), (.ref b198)]))
  refine own_step (fun t k => XS.iloadN X203.here hx rfl (hb hby at_40) rfl  k) ?_
  show own_Fin p e below s Q 64 384 (T203.setTop (mkF m 41 #[.val (.int i0), .val (.int i1), .val (.int i2), .val (.int i3), .val (.ref b198), .val (.ref b200), .unset, .unset, .unset, .unset, .unset] [(.int i2), (.int (((i0.toUInt32 >>> ((2 : Int32) &&& 31).toUInt32).toInt32) &&& (3 : Int32))), (.ref b198)]))
  refine own_step (fun t k => XS.bipush X203.here hx rfl (hb hby at_41) k) ?_
  show own_Fin p e below s Q 64 384 (T203.setTop (mkF m 43 #[.val (.int i0), .val (.int i1), .val (.int i2), .val (.int i3), .val (.ref b198), .val (.ref b200), .unset, .unset, .unset, .unset, .unset] [(.int (6 : Int32)), (.int i2), (.int (((i0.toUInt32 >>> ((2 : Int32) &&& 31).toUInt32).toInt32) &&& (3 : Int32))), (.ref b198)]))
  refine own_step (fun t k => XS.iushr X203.here hx rfl (hb hby at_43) rfl k) ?_
  show own_Fin p e below s Q 64 384 (T203.setTop (mkF m 44 #[.val (.int i0), .val (.int i1), .val (.int i2), .val (.int i3), .val (.ref b198), .val (.ref b200), .unset, .unset, .unset, .unset, .unset] [(.int ((i2.toUInt32 >>> ((6 : Int32) &&& 31).toUInt32).toInt32)), (.int (((i0.toUInt32 >>> ((2 : Int32) &&& 31).toUInt32).toInt32) &&& (3 : Int32))), (.ref b198)]))
  obtain ⟨_, _, ⟨T204, L204, k204, n204⟩, -, X204, ⟨Lc204, hQ204, l204, y204, z204⟩, st204⟩ := Jvm.LawKit.callS X203 hx (y := (⟨"com/example/libentitle/libentitle/role/GraphLeadsPinLaw", "row", "(II)[I"⟩ : MethodName)) hown (mvT hZ (hw _ (List.mem_of_getElem? (i := 26) rfl))) (mvT hZ (hw _ (List.mem_of_getElem? (i := 27) rfl))) (mvT hZ (hw _ (List.mem_of_getElem? (i := 28) rfl))) (mvT hZ (hw _ (List.mem_of_getElem? (i := 29) rfl))) (by decide) (backOf (W := 1) (rm5 l Z a0 hw [] (((i0.toUInt32 >>> ((2 : Int32) &&& 31).toUInt32).toInt32) &&& (3 : Int32)) ((i2.toUInt32 >>> ((6 : Int32) &&& 31).toUInt32).toInt32) T203.heap n0 Z0203 (own_and3 _)) hZ (hw _ (List.mem_of_getElem? (i := 29) rfl)) (hw _ (List.mem_of_getElem? (i := 28) rfl)) (by decide) (by decide)) (g := (mkF m 44 #[.val (.int i0), .val (.int i1), .val (.int i2), .val (.int i3), .val (.ref b198), .val (.ref b200), .unset, .unset, .unset, .unset, .unset] [(.int ((i2.toUInt32 >>> ((6 : Int32) &&& 31).toUInt32).toInt32)), (.int (((i0.toUInt32 >>> ((2 : Int32) &&& 31).toUInt32).toInt32) &&& (3 : Int32))), (.ref b198)])) rfl (by rw [hml]; rfl) (argsL := [(.int (((i0.toUInt32 >>> ((2 : Int32) &&& 31).toUInt32).toInt32) &&& (3 : Int32))), (.int ((i2.toUInt32 >>> ((6 : Int32) &&& 31).toUInt32).toInt32))]) (rest := [(.ref b198)]) (lenOf pdm_10 rfl) rfl (by show 2 * 0 + _ ≤ _; exact Nat.le_of_eq rfl) (hb hby at_44) (fun _ _ => ⟨rfl, rfl, (show cells + 1 + 0 + 1 + 0 + 1 + 1 + 1 ≤ 64 from (Nat.le_trans (Nat.add_le_add_right hc 5) (by decide))), (show slots + 3 + 0 + 3 + 0 + 3 + 10 + 3 ≤ 384 from (Nat.le_trans (Nat.add_le_add_right hs 22) (by decide)))⟩)
  dsimp only [Pt.U, Pt.locs, Pt.cells, Pt.slots] at X204 l204 y204 z204 st204 hQ204
  have yy204 : k204 = cells + 1 + 0 + 1 + 0 + 1 + 1 + 1 := y204
  have zz204 : n204 = slots + 3 + 0 + 3 + 0 + 3 + 10 + 3 := z204
  rw [yy204, zz204, l204] at X204
  obtain ⟨b_204, g_204, rfl, N204q, K204, r0_204, r1_204, r2_204, r3_204, r4_204⟩ := hQ204
  have N204 := Fr.app N203 N204q
  have Z0204 : n0 ≤ T204.heap.size := Nat.le_trans Z0203 K204.1
  have V204_b_202 := own_AFkeep V203_b_202 K204 nin0
  have Xa204_b_202 := Xa203_b_202.keep K204
  have R204_b_203 := own_RFkeep r2_203 K204 nin0
  have Ex204_b198 := r3_203.keep K204
  have F204_b198_modCount := r4_203.keep K204 nin0
  have F204_b198_elementData := r5_203.keep K204 nin0
  have F204_b198_size := r6_203.keep K204 nin0
  have Ex204_b200 := Ex203_b200.keep K204
  have F204_b200_modCount := F203_b200_modCount.keep K204 nin0
  have F204_b200_elementData := F203_b200_elementData.keep K204 nin0
  have F204_b200_size := F203_b200_size.keep K204 nin0
  have O204 := O203.keep K204 all0
  have neb_202_204 : b_202 ≠ b_204 := Nat.ne_of_lt (Nat.lt_of_lt_of_le V203_b_202.lt r1_204)
  have neb198_204 : b198 ≠ b_204 := Nat.ne_of_lt (Nat.lt_of_lt_of_le r3_203.lt r1_204)
  have neb200_204 : b200 ≠ b_204 := Nat.ne_of_lt (Nat.lt_of_lt_of_le Ex203_b200.lt r1_204)
  have neb_203_204 : b_203 ≠ b_204 := Nat.ne_of_lt (Nat.lt_of_lt_of_le r2_203.lt r1_204)
  refine own_step st204 ?_
  show own_Fin p e below s Q 64 384 (T204.setTop (mkF m 47 #[.val (.int i0), .val (.int i1), .val (.int i2), .val (.int i3), .val (.ref b198), .val (.ref b200), .unset, .unset, .unset, .unset, .unset] [(.ref b_204), (.ref b198)]))
  obtain ⟨cq205, kq205, q205a, q205b, q205c⟩ := isOf hZ rfl Ex204_b198
  obtain ⟨_, _, ⟨T205, L205, k205, n205⟩, -, X205, ⟨Lc205, hQ205, l205, y205, z205⟩, st205⟩ := X204.interfaceBack hx (xi := (⟨"java/util/List", "add", "(Ljava/lang/Object;)Z"⟩ : MethodName)) (y := (⟨"java/util/ArrayList", "add", "(Ljava/lang/Object;)Z"⟩ : MethodName)) hown (mvT hZ (hw _ (List.mem_of_getElem? (i := 31) rfl))) (mvT hZ (hw _ (List.mem_of_getElem? (i := 32) rfl))) (mvT hZ (hw _ (List.mem_of_getElem? (i := 33) rfl))) (mvT hZ (hw _ (List.mem_of_getElem? (i := 34) rfl))) (mvT hZ (hw _ (List.mem_of_getElem? (i := 35) rfl))) (mvT hZ (hw _ (List.mem_of_getElem? (i := 36) rfl))) (mvT hZ (hw _ (List.mem_of_getElem? (i := 37) rfl))) (mvT hZ (hw _ (List.mem_of_getElem? (i := 38) rfl))) (by decide) (backOf (W := 0) (rm61 l Z a0 hw [] b198 b_204 ((0 : Int32) + (1 : Int32)) b_203 (fun i => if i = 0 then (.ref b_202) else (fun _ => .null) i) T204.heap n0 Z0204 fr198 r0_203 neb198_203 (Ins.of_exa r3_204 (hw _ (List.mem_of_getElem? (i := 65) rfl))) R204_b_203 Ex204_b198 F204_b198_modCount F204_b198_elementData F204_b198_size) hZ (hw _ (List.mem_of_getElem? (i := 39) rfl)) (hw _ (List.mem_of_getElem? (i := 2) rfl)) (by decide) (by decide)) q205a q205b q205c (g := (mkF m 47 #[.val (.int i0), .val (.int i1), .val (.int i2), .val (.int i3), .val (.ref b198), .val (.ref b200), .unset, .unset, .unset, .unset, .unset] [(.ref b_204), (.ref b198)])) rfl (by rw [hml]; rfl) (Steps.refl _) (argsL := [(.ref b_204)]) (rest := []) (lenOf pdm_5 rfl) rfl (by show 2 * 0 + _ ≤ _; exact Nat.le_of_eq rfl) (hb hby at_47) (fun _ _ => ⟨rfl, rfl, (show cells + 1 + 0 + 1 + 0 + 1 + 1 + 1 + 0 ≤ 64 from (Nat.le_trans (Nat.add_le_add_right hc 5) (by decide))), (show slots + 3 + 0 + 3 + 0 + 3 + 10 + 3 + 0 ≤ 384 from (Nat.le_trans (Nat.add_le_add_right hs 22) (by decide)))⟩)
  dsimp only [Pt.U, Pt.locs, Pt.cells, Pt.slots] at X205 l205 y205 z205 st205 hQ205
  have yy205 : k205 = cells + 1 + 0 + 1 + 0 + 1 + 1 + 1 + 0 := y205
  have zz205 : n205 = slots + 3 + 0 + 3 + 0 + 3 + 10 + 3 + 0 := z205
  rw [yy205, zz205, l205] at X205
  obtain ⟨rfl, N205q, K205, r0_205, r1_205, r2_205, r3_205, r4_205⟩ := hQ205
  have N205 := Fr.app N204 N205q
  have Z0205 : n0 ≤ T205.heap.size := Nat.le_trans Z0204 K205.1
  have V205_b_202 := own_AFkeep V204_b_202 K205 (ninS (Ne.symm neb198_202) (ninS neb_202_203 nin0))
  have Xa205_b_202 := Xa204_b_202.keep K205
  have V205_b_204 := own_AFkeep r2_204 K205 (ninS (Ne.symm neb198_204) (ninS (Ne.symm neb_203_204) nin0))
  have Xa205_b_204 := r3_204.keep K205
  have Ex205_b200 := Ex204_b200.keep K205
  have F205_b200_modCount := F204_b200_modCount.keep K205 (ninS (Ne.symm neb198_200) (ninS neb200_203 nin0))
  have F205_b200_elementData := F204_b200_elementData.keep K205 (ninS (Ne.symm neb198_200) (ninS neb200_203 nin0))
  have F205_b200_size := F204_b200_size.keep K205 (ninS (Ne.symm neb198_200) (ninS neb200_203 nin0))
  have O205 := O204.keep K205 (allS fr198 (allS r0_203 all0))
  refine own_step (fun t k => st205.trans k) ?_
  show own_Fin p e below s Q 64 384 (T205.setTop (mkF m 52 #[.val (.int i0), .val (.int i1), .val (.int i2), .val (.int i3), .val (.ref b198), .val (.ref b200), .unset, .unset, .unset, .unset, .unset] [(.int (1 : Int32))]))
  refine own_step (fun t k => XS.pop X205.here hx rfl (hb hby at_52) rfl rfl k) ?_
  show own_Fin p e below s Q 64 384 (T205.setTop (mkF m 53 #[.val (.int i0), .val (.int i1), .val (.int i2), .val (.int i3), .val (.ref b198), .val (.ref b200), .unset, .unset, .unset, .unset, .unset] []))
  refine own_step (fun t k => XS.aload X205.here hx rfl (hb hby at_53) rfl rfl k) ?_
  show own_Fin p e below s Q 64 384 (T205.setTop (mkF m 55 #[.val (.int i0), .val (.int i1), .val (.int i2), .val (.int i3), .val (.ref b198), .val (.ref b200), .unset, .unset, .unset, .unset, .unset] [(.ref b198)]))
  refine own_step (fun t k => XS.iloadN X205.here hx rfl (hb hby at_55) rfl  k) ?_
  show own_Fin p e below s Q 64 384 (T205.setTop (mkF m 56 #[.val (.int i0), .val (.int i1), .val (.int i2), .val (.int i3), .val (.ref b198), .val (.ref b200), .unset, .unset, .unset, .unset, .unset] [(.int i0), (.ref b198)]))
  refine own_step (fun t k => XS.iconst X205.here hx rfl (hb hby at_56) k) ?_
  show own_Fin p e below s Q 64 384 (T205.setTop (mkF m 57 #[.val (.int i0), .val (.int i1), .val (.int i2), .val (.int i3), .val (.ref b198), .val (.ref b200), .unset, .unset, .unset, .unset, .unset] [(.int (4 : Int32)), (.int i0), (.ref b198)]))
  refine own_step (fun t k => XS.iushr X205.here hx rfl (hb hby at_57) rfl k) ?_
  show own_Fin p e below s Q 64 384 (T205.setTop (mkF m 58 #[.val (.int i0), .val (.int i1), .val (.int i2), .val (.int i3), .val (.ref b198), .val (.ref b200), .unset, .unset, .unset, .unset, .unset] [(.int ((i0.toUInt32 >>> ((4 : Int32) &&& 31).toUInt32).toInt32)), (.ref b198)]))
  refine own_step (fun t k => XS.iconst X205.here hx rfl (hb hby at_58) k) ?_
  show own_Fin p e below s Q 64 384 (T205.setTop (mkF m 59 #[.val (.int i0), .val (.int i1), .val (.int i2), .val (.int i3), .val (.ref b198), .val (.ref b200), .unset, .unset, .unset, .unset, .unset] [(.int (3 : Int32)), (.int ((i0.toUInt32 >>> ((4 : Int32) &&& 31).toUInt32).toInt32)), (.ref b198)]))
  refine own_step (fun t k => XS.iand X205.here hx rfl (hb hby at_59) rfl k) ?_
  show own_Fin p e below s Q 64 384 (T205.setTop (mkF m 60 #[.val (.int i0), .val (.int i1), .val (.int i2), .val (.int i3), .val (.ref b198), .val (.ref b200), .unset, .unset, .unset, .unset, .unset] [(.int (((i0.toUInt32 >>> ((4 : Int32) &&& 31).toUInt32).toInt32) &&& (3 : Int32))), (.ref b198)]))
  refine own_step (fun t k => XS.iloadN X205.here hx rfl (hb hby at_60) rfl  k) ?_
  show own_Fin p e below s Q 64 384 (T205.setTop (mkF m 61 #[.val (.int i0), .val (.int i1), .val (.int i2), .val (.int i3), .val (.ref b198), .val (.ref b200), .unset, .unset, .unset, .unset, .unset] [(.int i2), (.int (((i0.toUInt32 >>> ((4 : Int32) &&& 31).toUInt32).toInt32) &&& (3 : Int32))), (.ref b198)]))
  refine own_step (fun t k => XS.bipush X205.here hx rfl (hb hby at_61) k) ?_
  show own_Fin p e below s Q 64 384 (T205.setTop (mkF m 63 #[.val (.int i0), .val (.int i1), .val (.int i2), .val (.int i3), .val (.ref b198), .val (.ref b200), .unset, .unset, .unset, .unset, .unset] [(.int (12 : Int32)), (.int i2), (.int (((i0.toUInt32 >>> ((4 : Int32) &&& 31).toUInt32).toInt32) &&& (3 : Int32))), (.ref b198)]))
  refine own_step (fun t k => XS.iushr X205.here hx rfl (hb hby at_63) rfl k) ?_
  show own_Fin p e below s Q 64 384 (T205.setTop (mkF m 64 #[.val (.int i0), .val (.int i1), .val (.int i2), .val (.int i3), .val (.ref b198), .val (.ref b200), .unset, .unset, .unset, .unset, .unset] [(.int ((i2.toUInt32 >>> ((12 : Int32) &&& 31).toUInt32).toInt32)), (.int (((i0.toUInt32 >>> ((4 : Int32) &&& 31).toUInt32).toInt32) &&& (3 : Int32))), (.ref b198)]))
  obtain ⟨_, _, ⟨T206, L206, k206, n206⟩, -, X206, ⟨Lc206, hQ206, l206, y206, z206⟩, st206⟩ := Jvm.LawKit.callS X205 hx (y := (⟨"com/example/libentitle/libentitle/role/GraphLeadsPinLaw", "row", "(II)[I"⟩ : MethodName)) hown (mvT hZ (hw _ (List.mem_of_getElem? (i := 26) rfl))) (mvT hZ (hw _ (List.mem_of_getElem? (i := 27) rfl))) (mvT hZ (hw _ (List.mem_of_getElem? (i := 28) rfl))) (mvT hZ (hw _ (List.mem_of_getElem? (i := 29) rfl))) (by decide) (backOf (W := 1) (rm5 l Z a0 hw [] (((i0.toUInt32 >>> ((4 : Int32) &&& 31).toUInt32).toInt32) &&& (3 : Int32)) ((i2.toUInt32 >>> ((12 : Int32) &&& 31).toUInt32).toInt32) T205.heap n0 Z0205 (own_and3 _)) hZ (hw _ (List.mem_of_getElem? (i := 29) rfl)) (hw _ (List.mem_of_getElem? (i := 28) rfl)) (by decide) (by decide)) (g := (mkF m 64 #[.val (.int i0), .val (.int i1), .val (.int i2), .val (.int i3), .val (.ref b198), .val (.ref b200), .unset, .unset, .unset, .unset, .unset] [(.int ((i2.toUInt32 >>> ((12 : Int32) &&& 31).toUInt32).toInt32)), (.int (((i0.toUInt32 >>> ((4 : Int32) &&& 31).toUInt32).toInt32) &&& (3 : Int32))), (.ref b198)])) rfl (by rw [hml]; rfl) (argsL := [(.int (((i0.toUInt32 >>> ((4 : Int32) &&& 31).toUInt32).toInt32) &&& (3 : Int32))), (.int ((i2.toUInt32 >>> ((12 : Int32) &&& 31).toUInt32).toInt32))]) (rest := [(.ref b198)]) (lenOf pdm_10 rfl) rfl (by show 2 * 0 + _ ≤ _; exact Nat.le_of_eq rfl) (hb hby at_64) (fun _ _ => ⟨rfl, rfl, (show cells + 1 + 0 + 1 + 0 + 1 + 1 + 1 + 0 + 1 ≤ 64 from (Nat.le_trans (Nat.add_le_add_right hc 6) (by decide))), (show slots + 3 + 0 + 3 + 0 + 3 + 10 + 3 + 0 + 3 ≤ 384 from (Nat.le_trans (Nat.add_le_add_right hs 25) (by decide)))⟩)
  dsimp only [Pt.U, Pt.locs, Pt.cells, Pt.slots] at X206 l206 y206 z206 st206 hQ206
  have yy206 : k206 = cells + 1 + 0 + 1 + 0 + 1 + 1 + 1 + 0 + 1 := y206
  have zz206 : n206 = slots + 3 + 0 + 3 + 0 + 3 + 10 + 3 + 0 + 3 := z206
  rw [yy206, zz206, l206] at X206
  obtain ⟨b_206, g_206, rfl, N206q, K206, r0_206, r1_206, r2_206, r3_206, r4_206⟩ := hQ206
  have N206 := Fr.app N205 N206q
  have Z0206 : n0 ≤ T206.heap.size := Nat.le_trans Z0205 K206.1
  have V206_b_202 := own_AFkeep V205_b_202 K206 nin0
  have Xa206_b_202 := Xa205_b_202.keep K206
  have V206_b_204 := own_AFkeep V205_b_204 K206 nin0
  have Xa206_b_204 := Xa205_b_204.keep K206
  have R206_b_203 := own_RFkeep r0_205 K206 nin0
  have Ex206_b198 := r1_205.keep K206
  have F206_b198_modCount := r2_205.keep K206 nin0
  have F206_b198_elementData := r3_205.keep K206 nin0
  have F206_b198_size := r4_205.keep K206 nin0
  have Ex206_b200 := Ex205_b200.keep K206
  have F206_b200_modCount := F205_b200_modCount.keep K206 nin0
  have F206_b200_elementData := F205_b200_elementData.keep K206 nin0
  have F206_b200_size := F205_b200_size.keep K206 nin0
  have O206 := O205.keep K206 all0
  have neb_202_206 : b_202 ≠ b_206 := Nat.ne_of_lt (Nat.lt_of_lt_of_le V205_b_202.lt r1_206)
  have neb_204_206 : b_204 ≠ b_206 := Nat.ne_of_lt (Nat.lt_of_lt_of_le V205_b_204.lt r1_206)
  have neb198_206 : b198 ≠ b_206 := Nat.ne_of_lt (Nat.lt_of_lt_of_le r1_205.lt r1_206)
  have neb200_206 : b200 ≠ b_206 := Nat.ne_of_lt (Nat.lt_of_lt_of_le Ex205_b200.lt r1_206)
  have neb_203_206 : b_203 ≠ b_206 := Nat.ne_of_lt (Nat.lt_of_lt_of_le r0_205.lt r1_206)
  refine own_step st206 ?_
  show own_Fin p e below s Q 64 384 (T206.setTop (mkF m 67 #[.val (.int i0), .val (.int i1), .val (.int i2), .val (.int i3), .val (.ref b198), .val (.ref b200), .unset, .unset, .unset, .unset, .unset] [(.ref b_206), (.ref b198)]))
  obtain ⟨cq207, kq207, q207a, q207b, q207c⟩ := isOf hZ rfl Ex206_b198
  obtain ⟨_, _, ⟨T207, L207, k207, n207⟩, -, X207, ⟨Lc207, hQ207, l207, y207, z207⟩, st207⟩ := X206.interfaceBack hx (xi := (⟨"java/util/List", "add", "(Ljava/lang/Object;)Z"⟩ : MethodName)) (y := (⟨"java/util/ArrayList", "add", "(Ljava/lang/Object;)Z"⟩ : MethodName)) hown (mvT hZ (hw _ (List.mem_of_getElem? (i := 31) rfl))) (mvT hZ (hw _ (List.mem_of_getElem? (i := 32) rfl))) (mvT hZ (hw _ (List.mem_of_getElem? (i := 33) rfl))) (mvT hZ (hw _ (List.mem_of_getElem? (i := 34) rfl))) (mvT hZ (hw _ (List.mem_of_getElem? (i := 35) rfl))) (mvT hZ (hw _ (List.mem_of_getElem? (i := 36) rfl))) (mvT hZ (hw _ (List.mem_of_getElem? (i := 37) rfl))) (mvT hZ (hw _ (List.mem_of_getElem? (i := 38) rfl))) (by decide) (backOf (W := 0) (rm62 l Z a0 hw [] b198 b_206 (((0 : Int32) + (1 : Int32)) + (1 : Int32)) b_203 (fun i => if i = 1 then (.ref b_204) else (fun i => if i = 0 then (.ref b_202) else (fun _ => .null) i) i) T206.heap n0 Z0206 fr198 r0_203 neb198_203 (Ins.of_exa r3_206 (hw _ (List.mem_of_getElem? (i := 65) rfl))) R206_b_203 Ex206_b198 F206_b198_modCount F206_b198_elementData F206_b198_size) hZ (hw _ (List.mem_of_getElem? (i := 39) rfl)) (hw _ (List.mem_of_getElem? (i := 2) rfl)) (by decide) (by decide)) q207a q207b q207c (g := (mkF m 67 #[.val (.int i0), .val (.int i1), .val (.int i2), .val (.int i3), .val (.ref b198), .val (.ref b200), .unset, .unset, .unset, .unset, .unset] [(.ref b_206), (.ref b198)])) rfl (by rw [hml]; rfl) (Steps.refl _) (argsL := [(.ref b_206)]) (rest := []) (lenOf pdm_5 rfl) rfl (by show 2 * 0 + _ ≤ _; exact Nat.le_of_eq rfl) (hb hby at_67) (fun _ _ => ⟨rfl, rfl, (show cells + 1 + 0 + 1 + 0 + 1 + 1 + 1 + 0 + 1 + 0 ≤ 64 from (Nat.le_trans (Nat.add_le_add_right hc 6) (by decide))), (show slots + 3 + 0 + 3 + 0 + 3 + 10 + 3 + 0 + 3 + 0 ≤ 384 from (Nat.le_trans (Nat.add_le_add_right hs 25) (by decide)))⟩)
  dsimp only [Pt.U, Pt.locs, Pt.cells, Pt.slots] at X207 l207 y207 z207 st207 hQ207
  have yy207 : k207 = cells + 1 + 0 + 1 + 0 + 1 + 1 + 1 + 0 + 1 + 0 := y207
  have zz207 : n207 = slots + 3 + 0 + 3 + 0 + 3 + 10 + 3 + 0 + 3 + 0 := z207
  rw [yy207, zz207, l207] at X207
  obtain ⟨rfl, N207q, K207, r0_207, r1_207, r2_207, r3_207, r4_207⟩ := hQ207
  have N207 := Fr.app N206 N207q
  have Z0207 : n0 ≤ T207.heap.size := Nat.le_trans Z0206 K207.1
  have V207_b_202 := own_AFkeep V206_b_202 K207 (ninS (Ne.symm neb198_202) (ninS neb_202_203 nin0))
  have Xa207_b_202 := Xa206_b_202.keep K207
  have V207_b_204 := own_AFkeep V206_b_204 K207 (ninS (Ne.symm neb198_204) (ninS (Ne.symm neb_203_204) nin0))
  have Xa207_b_204 := Xa206_b_204.keep K207
  have V207_b_206 := own_AFkeep r2_206 K207 (ninS (Ne.symm neb198_206) (ninS (Ne.symm neb_203_206) nin0))
  have Xa207_b_206 := r3_206.keep K207
  have Ex207_b200 := Ex206_b200.keep K207
  have F207_b200_modCount := F206_b200_modCount.keep K207 (ninS (Ne.symm neb198_200) (ninS neb200_203 nin0))
  have F207_b200_elementData := F206_b200_elementData.keep K207 (ninS (Ne.symm neb198_200) (ninS neb200_203 nin0))
  have F207_b200_size := F206_b200_size.keep K207 (ninS (Ne.symm neb198_200) (ninS neb200_203 nin0))
  have O207 := O206.keep K207 (allS fr198 (allS r0_203 all0))
  refine own_step (fun t k => st207.trans k) ?_
  show own_Fin p e below s Q 64 384 (T207.setTop (mkF m 72 #[.val (.int i0), .val (.int i1), .val (.int i2), .val (.int i3), .val (.ref b198), .val (.ref b200), .unset, .unset, .unset, .unset, .unset] [(.int (1 : Int32))]))
  refine own_step (fun t k => XS.pop X207.here hx rfl (hb hby at_72) rfl rfl k) ?_
  show own_Fin p e below s Q 64 384 (T207.setTop (mkF m 73 #[.val (.int i0), .val (.int i1), .val (.int i2), .val (.int i3), .val (.ref b198), .val (.ref b200), .unset, .unset, .unset, .unset, .unset] []))
  refine own_step (fun t k => XS.aload X207.here hx rfl (hb hby at_73) rfl rfl k) ?_
  show own_Fin p e below s Q 64 384 (T207.setTop (mkF m 75 #[.val (.int i0), .val (.int i1), .val (.int i2), .val (.int i3), .val (.ref b198), .val (.ref b200), .unset, .unset, .unset, .unset, .unset] [(.ref b198)]))
  refine own_step (fun t k => XS.iloadN X207.here hx rfl (hb hby at_75) rfl  k) ?_
  show own_Fin p e below s Q 64 384 (T207.setTop (mkF m 76 #[.val (.int i0), .val (.int i1), .val (.int i2), .val (.int i3), .val (.ref b198), .val (.ref b200), .unset, .unset, .unset, .unset, .unset] [(.int i0), (.ref b198)]))
  refine own_step (fun t k => XS.bipush X207.here hx rfl (hb hby at_76) k) ?_
  show own_Fin p e below s Q 64 384 (T207.setTop (mkF m 78 #[.val (.int i0), .val (.int i1), .val (.int i2), .val (.int i3), .val (.ref b198), .val (.ref b200), .unset, .unset, .unset, .unset, .unset] [(.int (6 : Int32)), (.int i0), (.ref b198)]))
  refine own_step (fun t k => XS.iushr X207.here hx rfl (hb hby at_78) rfl k) ?_
  show own_Fin p e below s Q 64 384 (T207.setTop (mkF m 79 #[.val (.int i0), .val (.int i1), .val (.int i2), .val (.int i3), .val (.ref b198), .val (.ref b200), .unset, .unset, .unset, .unset, .unset] [(.int ((i0.toUInt32 >>> ((6 : Int32) &&& 31).toUInt32).toInt32)), (.ref b198)]))
  refine own_step (fun t k => XS.iconst X207.here hx rfl (hb hby at_79) k) ?_
  show own_Fin p e below s Q 64 384 (T207.setTop (mkF m 80 #[.val (.int i0), .val (.int i1), .val (.int i2), .val (.int i3), .val (.ref b198), .val (.ref b200), .unset, .unset, .unset, .unset, .unset] [(.int (3 : Int32)), (.int ((i0.toUInt32 >>> ((6 : Int32) &&& 31).toUInt32).toInt32)), (.ref b198)]))
  refine own_step (fun t k => XS.iand X207.here hx rfl (hb hby at_80) rfl k) ?_
  show own_Fin p e below s Q 64 384 (T207.setTop (mkF m 81 #[.val (.int i0), .val (.int i1), .val (.int i2), .val (.int i3), .val (.ref b198), .val (.ref b200), .unset, .unset, .unset, .unset, .unset] [(.int (((i0.toUInt32 >>> ((6 : Int32) &&& 31).toUInt32).toInt32) &&& (3 : Int32))), (.ref b198)]))
  refine own_step (fun t k => XS.iloadN X207.here hx rfl (hb hby at_81) rfl  k) ?_
  show own_Fin p e below s Q 64 384 (T207.setTop (mkF m 82 #[.val (.int i0), .val (.int i1), .val (.int i2), .val (.int i3), .val (.ref b198), .val (.ref b200), .unset, .unset, .unset, .unset, .unset] [(.int i2), (.int (((i0.toUInt32 >>> ((6 : Int32) &&& 31).toUInt32).toInt32) &&& (3 : Int32))), (.ref b198)]))
  refine own_step (fun t k => XS.bipush X207.here hx rfl (hb hby at_82) k) ?_
  show own_Fin p e below s Q 64 384 (T207.setTop (mkF m 84 #[.val (.int i0), .val (.int i1), .val (.int i2), .val (.int i3), .val (.ref b198), .val (.ref b200), .unset, .unset, .unset, .unset, .unset] [(.int (18 : Int32)), (.int i2), (.int (((i0.toUInt32 >>> ((6 : Int32) &&& 31).toUInt32).toInt32) &&& (3 : Int32))), (.ref b198)]))
  refine own_step (fun t k => XS.iushr X207.here hx rfl (hb hby at_84) rfl k) ?_
  show own_Fin p e below s Q 64 384 (T207.setTop (mkF m 85 #[.val (.int i0), .val (.int i1), .val (.int i2), .val (.int i3), .val (.ref b198), .val (.ref b200), .unset, .unset, .unset, .unset, .unset] [(.int ((i2.toUInt32 >>> ((18 : Int32) &&& 31).toUInt32).toInt32)), (.int (((i0.toUInt32 >>> ((6 : Int32) &&& 31).toUInt32).toInt32) &&& (3 : Int32))), (.ref b198)]))
  obtain ⟨_, _, ⟨T208, L208, k208, n208⟩, -, X208, ⟨Lc208, hQ208, l208, y208, z208⟩, st208⟩ := Jvm.LawKit.callS X207 hx (y := (⟨"com/example/libentitle/libentitle/role/GraphLeadsPinLaw", "row", "(II)[I"⟩ : MethodName)) hown (mvT hZ (hw _ (List.mem_of_getElem? (i := 26) rfl))) (mvT hZ (hw _ (List.mem_of_getElem? (i := 27) rfl))) (mvT hZ (hw _ (List.mem_of_getElem? (i := 28) rfl))) (mvT hZ (hw _ (List.mem_of_getElem? (i := 29) rfl))) (by decide) (backOf (W := 1) (rm5 l Z a0 hw [] (((i0.toUInt32 >>> ((6 : Int32) &&& 31).toUInt32).toInt32) &&& (3 : Int32)) ((i2.toUInt32 >>> ((18 : Int32) &&& 31).toUInt32).toInt32) T207.heap n0 Z0207 (own_and3 _)) hZ (hw _ (List.mem_of_getElem? (i := 29) rfl)) (hw _ (List.mem_of_getElem? (i := 28) rfl)) (by decide) (by decide)) (g := (mkF m 85 #[.val (.int i0), .val (.int i1), .val (.int i2), .val (.int i3), .val (.ref b198), .val (.ref b200), .unset, .unset, .unset, .unset, .unset] [(.int ((i2.toUInt32 >>> ((18 : Int32) &&& 31).toUInt32).toInt32)), (.int (((i0.toUInt32 >>> ((6 : Int32) &&& 31).toUInt32).toInt32) &&& (3 : Int32))), (.ref b198)])) rfl (by rw [hml]; rfl) (argsL := [(.int (((i0.toUInt32 >>> ((6 : Int32) &&& 31).toUInt32).toInt32) &&& (3 : Int32))), (.int ((i2.toUInt32 >>> ((18 : Int32) &&& 31).toUInt32).toInt32))]) (rest := [(.ref b198)]) (lenOf pdm_10 rfl) rfl (by show 2 * 0 + _ ≤ _; exact Nat.le_of_eq rfl) (hb hby at_85) (fun _ _ => ⟨rfl, rfl, (show cells + 1 + 0 + 1 + 0 + 1 + 1 + 1 + 0 + 1 + 0 + 1 ≤ 64 from (Nat.le_trans (Nat.add_le_add_right hc 7) (by decide))), (show slots + 3 + 0 + 3 + 0 + 3 + 10 + 3 + 0 + 3 + 0 + 3 ≤ 384 from (Nat.le_trans (Nat.add_le_add_right hs 28) (by decide)))⟩)
  dsimp only [Pt.U, Pt.locs, Pt.cells, Pt.slots] at X208 l208 y208 z208 st208 hQ208
  have yy208 : k208 = cells + 1 + 0 + 1 + 0 + 1 + 1 + 1 + 0 + 1 + 0 + 1 := y208
  have zz208 : n208 = slots + 3 + 0 + 3 + 0 + 3 + 10 + 3 + 0 + 3 + 0 + 3 := z208
  rw [yy208, zz208, l208] at X208
  obtain ⟨b_208, g_208, rfl, N208q, K208, r0_208, r1_208, r2_208, r3_208, r4_208⟩ := hQ208
  have N208 := Fr.app N207 N208q
  have Z0208 : n0 ≤ T208.heap.size := Nat.le_trans Z0207 K208.1
  have V208_b_202 := own_AFkeep V207_b_202 K208 nin0
  have Xa208_b_202 := Xa207_b_202.keep K208
  have V208_b_204 := own_AFkeep V207_b_204 K208 nin0
  have Xa208_b_204 := Xa207_b_204.keep K208
  have V208_b_206 := own_AFkeep V207_b_206 K208 nin0
  have Xa208_b_206 := Xa207_b_206.keep K208
  have R208_b_203 := own_RFkeep r0_207 K208 nin0
  have Ex208_b198 := r1_207.keep K208
  have F208_b198_modCount := r2_207.keep K208 nin0
  have F208_b198_elementData := r3_207.keep K208 nin0
  have F208_b198_size := r4_207.keep K208 nin0
  have Ex208_b200 := Ex207_b200.keep K208
  have F208_b200_modCount := F207_b200_modCount.keep K208 nin0
  have F208_b200_elementData := F207_b200_elementData.keep K208 nin0
  have F208_b200_size := F207_b200_size.keep K208 nin0
  have O208 := O207.keep K208 all0
  have neb_202_208 : b_202 ≠ b_208 := Nat.ne_of_lt (Nat.lt_of_lt_of_le V207_b_202.lt r1_208)
  have neb_204_208 : b_204 ≠ b_208 := Nat.ne_of_lt (Nat.lt_of_lt_of_le V207_b_204.lt r1_208)
  have neb_206_208 : b_206 ≠ b_208 := Nat.ne_of_lt (Nat.lt_of_lt_of_le V207_b_206.lt r1_208)
  have neb198_208 : b198 ≠ b_208 := Nat.ne_of_lt (Nat.lt_of_lt_of_le r1_207.lt r1_208)
  have neb200_208 : b200 ≠ b_208 := Nat.ne_of_lt (Nat.lt_of_lt_of_le Ex207_b200.lt r1_208)
  have neb_203_208 : b_203 ≠ b_208 := Nat.ne_of_lt (Nat.lt_of_lt_of_le r0_207.lt r1_208)
  refine own_step st208 ?_
  show own_Fin p e below s Q 64 384 (T208.setTop (mkF m 88 #[.val (.int i0), .val (.int i1), .val (.int i2), .val (.int i3), .val (.ref b198), .val (.ref b200), .unset, .unset, .unset, .unset, .unset] [(.ref b_208), (.ref b198)]))
  obtain ⟨cq209, kq209, q209a, q209b, q209c⟩ := isOf hZ rfl Ex208_b198
  obtain ⟨_, _, ⟨T209, L209, k209, n209⟩, -, X209, ⟨Lc209, hQ209, l209, y209, z209⟩, st209⟩ := X208.interfaceBack hx (xi := (⟨"java/util/List", "add", "(Ljava/lang/Object;)Z"⟩ : MethodName)) (y := (⟨"java/util/ArrayList", "add", "(Ljava/lang/Object;)Z"⟩ : MethodName)) hown (mvT hZ (hw _ (List.mem_of_getElem? (i := 31) rfl))) (mvT hZ (hw _ (List.mem_of_getElem? (i := 32) rfl))) (mvT hZ (hw _ (List.mem_of_getElem? (i := 33) rfl))) (mvT hZ (hw _ (List.mem_of_getElem? (i := 34) rfl))) (mvT hZ (hw _ (List.mem_of_getElem? (i := 35) rfl))) (mvT hZ (hw _ (List.mem_of_getElem? (i := 36) rfl))) (mvT hZ (hw _ (List.mem_of_getElem? (i := 37) rfl))) (mvT hZ (hw _ (List.mem_of_getElem? (i := 38) rfl))) (by decide) (backOf (W := 0) (rm63 l Z a0 hw [] b198 b_208 ((((0 : Int32) + (1 : Int32)) + (1 : Int32)) + (1 : Int32)) b_203 (fun i => if i = 2 then (.ref b_206) else (fun i => if i = 1 then (.ref b_204) else (fun i => if i = 0 then (.ref b_202) else (fun _ => .null) i) i) i) T208.heap n0 Z0208 fr198 r0_203 neb198_203 (Ins.of_exa r3_208 (hw _ (List.mem_of_getElem? (i := 65) rfl))) R208_b_203 Ex208_b198 F208_b198_modCount F208_b198_elementData F208_b198_size) hZ (hw _ (List.mem_of_getElem? (i := 39) rfl)) (hw _ (List.mem_of_getElem? (i := 2) rfl)) (by decide) (by decide)) q209a q209b q209c (g := (mkF m 88 #[.val (.int i0), .val (.int i1), .val (.int i2), .val (.int i3), .val (.ref b198), .val (.ref b200), .unset, .unset, .unset, .unset, .unset] [(.ref b_208), (.ref b198)])) rfl (by rw [hml]; rfl) (Steps.refl _) (argsL := [(.ref b_208)]) (rest := []) (lenOf pdm_5 rfl) rfl (by show 2 * 0 + _ ≤ _; exact Nat.le_of_eq rfl) (hb hby at_88) (fun _ _ => ⟨rfl, rfl, (show cells + 1 + 0 + 1 + 0 + 1 + 1 + 1 + 0 + 1 + 0 + 1 + 0 ≤ 64 from (Nat.le_trans (Nat.add_le_add_right hc 7) (by decide))), (show slots + 3 + 0 + 3 + 0 + 3 + 10 + 3 + 0 + 3 + 0 + 3 + 0 ≤ 384 from (Nat.le_trans (Nat.add_le_add_right hs 28) (by decide)))⟩)
  dsimp only [Pt.U, Pt.locs, Pt.cells, Pt.slots] at X209 l209 y209 z209 st209 hQ209
  have yy209 : k209 = cells + 1 + 0 + 1 + 0 + 1 + 1 + 1 + 0 + 1 + 0 + 1 + 0 := y209
  have zz209 : n209 = slots + 3 + 0 + 3 + 0 + 3 + 10 + 3 + 0 + 3 + 0 + 3 + 0 := z209
  rw [yy209, zz209, l209] at X209
  obtain ⟨rfl, N209q, K209, r0_209, r1_209, r2_209, r3_209, r4_209⟩ := hQ209
  have N209 := Fr.app N208 N209q
  have Z0209 : n0 ≤ T209.heap.size := Nat.le_trans Z0208 K209.1
  have V209_b_202 := own_AFkeep V208_b_202 K209 (ninS (Ne.symm neb198_202) (ninS neb_202_203 nin0))
  have Xa209_b_202 := Xa208_b_202.keep K209
  have V209_b_204 := own_AFkeep V208_b_204 K209 (ninS (Ne.symm neb198_204) (ninS (Ne.symm neb_203_204) nin0))
  have Xa209_b_204 := Xa208_b_204.keep K209
  have V209_b_206 := own_AFkeep V208_b_206 K209 (ninS (Ne.symm neb198_206) (ninS (Ne.symm neb_203_206) nin0))
  have Xa209_b_206 := Xa208_b_206.keep K209
  have V209_b_208 := own_AFkeep r2_208 K209 (ninS (Ne.symm neb198_208) (ninS (Ne.symm neb_203_208) nin0))
  have Xa209_b_208 := r3_208.keep K209
  have Ex209_b200 := Ex208_b200.keep K209
  have F209_b200_modCount := F208_b200_modCount.keep K209 (ninS (Ne.symm neb198_200) (ninS neb200_203 nin0))
  have F209_b200_elementData := F208_b200_elementData.keep K209 (ninS (Ne.symm neb198_200) (ninS neb200_203 nin0))
  have F209_b200_size := F208_b200_size.keep K209 (ninS (Ne.symm neb198_200) (ninS neb200_203 nin0))
  have O209 := O208.keep K209 (allS fr198 (allS r0_203 all0))
  refine own_step (fun t k => st209.trans k) ?_
  show own_Fin p e below s Q 64 384 (T209.setTop (mkF m 93 #[.val (.int i0), .val (.int i1), .val (.int i2), .val (.int i3), .val (.ref b198), .val (.ref b200), .unset, .unset, .unset, .unset, .unset] [(.int (1 : Int32))]))
  refine own_step (fun t k => XS.pop X209.here hx rfl (hb hby at_93) rfl rfl k) ?_
  show own_Fin p e below s Q 64 384 (T209.setTop (mkF m 94 #[.val (.int i0), .val (.int i1), .val (.int i2), .val (.int i3), .val (.ref b198), .val (.ref b200), .unset, .unset, .unset, .unset, .unset] []))
  refine own_step (fun t k => XS.aload X209.here hx rfl (hb hby at_94) rfl rfl k) ?_
  show own_Fin p e below s Q 64 384 (T209.setTop (mkF m 96 #[.val (.int i0), .val (.int i1), .val (.int i2), .val (.int i3), .val (.ref b198), .val (.ref b200), .unset, .unset, .unset, .unset, .unset] [(.ref b200)]))
  refine own_step (fun t k => XS.iloadN X209.here hx rfl (hb hby at_96) rfl  k) ?_
  show own_Fin p e below s Q 64 384 (T209.setTop (mkF m 97 #[.val (.int i0), .val (.int i1), .val (.int i2), .val (.int i3), .val (.ref b198), .val (.ref b200), .unset, .unset, .unset, .unset, .unset] [(.int i1), (.ref b200)]))
  refine own_step (fun t k => XS.iconst X209.here hx rfl (hb hby at_97) k) ?_
  show own_Fin p e below s Q 64 384 (T209.setTop (mkF m 98 #[.val (.int i0), .val (.int i1), .val (.int i2), .val (.int i3), .val (.ref b198), .val (.ref b200), .unset, .unset, .unset, .unset, .unset] [(.int (3 : Int32)), (.int i1), (.ref b200)]))
  refine own_step (fun t k => XS.iand X209.here hx rfl (hb hby at_98) rfl k) ?_
  show own_Fin p e below s Q 64 384 (T209.setTop (mkF m 99 #[.val (.int i0), .val (.int i1), .val (.int i2), .val (.int i3), .val (.ref b198), .val (.ref b200), .unset, .unset, .unset, .unset, .unset] [(.int (i1 &&& (3 : Int32))), (.ref b200)]))
  refine own_step (fun t k => XS.iloadN X209.here hx rfl (hb hby at_99) rfl  k) ?_
  show own_Fin p e below s Q 64 384 (T209.setTop (mkF m 100 #[.val (.int i0), .val (.int i1), .val (.int i2), .val (.int i3), .val (.ref b198), .val (.ref b200), .unset, .unset, .unset, .unset, .unset] [(.int i3), (.int (i1 &&& (3 : Int32))), (.ref b200)]))
  obtain ⟨_, _, ⟨T210, L210, k210, n210⟩, -, X210, ⟨Lc210, hQ210, l210, y210, z210⟩, st210⟩ := Jvm.LawKit.callS X209 hx (y := (⟨"com/example/libentitle/libentitle/role/GraphLeadsPinLaw", "row", "(II)[I"⟩ : MethodName)) hown (mvT hZ (hw _ (List.mem_of_getElem? (i := 26) rfl))) (mvT hZ (hw _ (List.mem_of_getElem? (i := 27) rfl))) (mvT hZ (hw _ (List.mem_of_getElem? (i := 28) rfl))) (mvT hZ (hw _ (List.mem_of_getElem? (i := 29) rfl))) (by decide) (backOf (W := 1) (rm5 l Z a0 hw [] (i1 &&& (3 : Int32)) i3 T209.heap n0 Z0209 (own_and3 _)) hZ (hw _ (List.mem_of_getElem? (i := 29) rfl)) (hw _ (List.mem_of_getElem? (i := 28) rfl)) (by decide) (by decide)) (g := (mkF m 100 #[.val (.int i0), .val (.int i1), .val (.int i2), .val (.int i3), .val (.ref b198), .val (.ref b200), .unset, .unset, .unset, .unset, .unset] [(.int i3), (.int (i1 &&& (3 : Int32))), (.ref b200)])) rfl (by rw [hml]; rfl) (argsL := [(.int (i1 &&& (3 : Int32))), (.int i3)]) (rest := [(.ref b200)]) (lenOf pdm_10 rfl) rfl (by show 2 * 0 + _ ≤ _; exact Nat.le_of_eq rfl) (hb hby at_100) (fun _ _ => ⟨rfl, rfl, (show cells + 1 + 0 + 1 + 0 + 1 + 1 + 1 + 0 + 1 + 0 + 1 + 0 + 1 ≤ 64 from (Nat.le_trans (Nat.add_le_add_right hc 8) (by decide))), (show slots + 3 + 0 + 3 + 0 + 3 + 10 + 3 + 0 + 3 + 0 + 3 + 0 + 3 ≤ 384 from (Nat.le_trans (Nat.add_le_add_right hs 31) (by decide)))⟩)
  dsimp only [Pt.U, Pt.locs, Pt.cells, Pt.slots] at X210 l210 y210 z210 st210 hQ210
  have yy210 : k210 = cells + 1 + 0 + 1 + 0 + 1 + 1 + 1 + 0 + 1 + 0 + 1 + 0 + 1 := y210
  have zz210 : n210 = slots + 3 + 0 + 3 + 0 + 3 + 10 + 3 + 0 + 3 + 0 + 3 + 0 + 3 := z210
  rw [yy210, zz210, l210] at X210
  obtain ⟨b_210, g_210, rfl, N210q, K210, r0_210, r1_210, r2_210, r3_210, r4_210⟩ := hQ210
  have N210 := Fr.app N209 N210q
  have Z0210 : n0 ≤ T210.heap.size := Nat.le_trans Z0209 K210.1
  have V210_b_202 := own_AFkeep V209_b_202 K210 nin0
  have Xa210_b_202 := Xa209_b_202.keep K210
  have V210_b_204 := own_AFkeep V209_b_204 K210 nin0
  have Xa210_b_204 := Xa209_b_204.keep K210
  have V210_b_206 := own_AFkeep V209_b_206 K210 nin0
  have Xa210_b_206 := Xa209_b_206.keep K210
  have V210_b_208 := own_AFkeep V209_b_208 K210 nin0
  have Xa210_b_208 := Xa209_b_208.keep K210
  have R210_b_203 := own_RFkeep r0_209 K210 nin0
  have Ex210_b198 := r1_209.keep K210
  have F210_b198_modCount := r2_209.keep K210 nin0
  have F210_b198_elementData := r3_209.keep K210 nin0
  have F210_b198_size := r4_209.keep K210 nin0
  have Ex210_b200 := Ex209_b200.keep K210
  have F210_b200_modCount := F209_b200_modCount.keep K210 nin0
  have F210_b200_elementData := F209_b200_elementData.keep K210 nin0
  have F210_b200_size := F209_b200_size.keep K210 nin0
  have O210 := O209.keep K210 all0
  have neb_202_210 : b_202 ≠ b_210 := Nat.ne_of_lt (Nat.lt_of_lt_of_le V209_b_202.lt r1_210)
  have neb_204_210 : b_204 ≠ b_210 := Nat.ne_of_lt (Nat.lt_of_lt_of_le V209_b_204.lt r1_210)
  have neb_206_210 : b_206 ≠ b_210 := Nat.ne_of_lt (Nat.lt_of_lt_of_le V209_b_206.lt r1_210)
  have neb_208_210 : b_208 ≠ b_210 := Nat.ne_of_lt (Nat.lt_of_lt_of_le V209_b_208.lt r1_210)
  have neb198_210 : b198 ≠ b_210 := Nat.ne_of_lt (Nat.lt_of_lt_of_le r1_209.lt r1_210)
  have neb200_210 : b200 ≠ b_210 := Nat.ne_of_lt (Nat.lt_of_lt_of_le Ex209_b200.lt r1_210)
  have neb_203_210 : b_203 ≠ b_210 := Nat.ne_of_lt (Nat.lt_of_lt_of_le r0_209.lt r1_210)
  refine own_step st210 ?_
  show own_Fin p e below s Q 64 384 (T210.setTop (mkF m 103 #[.val (.int i0), .val (.int i1), .val (.int i2), .val (.int i3), .val (.ref b198), .val (.ref b200), .unset, .unset, .unset, .unset, .unset] [(.ref b_210), (.ref b200)]))
  obtain ⟨cq211, kq211, q211a, q211b, q211c⟩ := isOf hZ rfl Ex210_b200
  obtain ⟨_, _, ⟨T211, L211, k211, n211⟩, -, X211, ⟨Lc211, hQ211, l211, y211, z211⟩, st211⟩ := X210.interfaceBack hx (xi := (⟨"java/util/List", "add", "(Ljava/lang/Object;)Z"⟩ : MethodName)) (y := (⟨"java/util/ArrayList", "add", "(Ljava/lang/Object;)Z"⟩ : MethodName)) hown (mvT hZ (hw _ (List.mem_of_getElem? (i := 31) rfl))) (mvT hZ (hw _ (List.mem_of_getElem? (i := 32) rfl))) (mvT hZ (hw _ (List.mem_of_getElem? (i := 33) rfl))) (mvT hZ (hw _ (List.mem_of_getElem? (i := 34) rfl))) (mvT hZ (hw _ (List.mem_of_getElem? (i := 35) rfl))) (mvT hZ (hw _ (List.mem_of_getElem? (i := 36) rfl))) (mvT hZ (hw _ (List.mem_of_getElem? (i := 37) rfl))) (mvT hZ (hw _ (List.mem_of_getElem? (i := 38) rfl))) (by decide) (backOf (W := 0) (rm60 l Z a0 hw [] b200 b_210 (0 : Int32) D T210.heap n0 Z0210 fr200 O210 S0 DA (Ins.of_exa r3_210 (hw _ (List.mem_of_getElem? (i := 65) rfl))) Ex210_b200 F210_b200_modCount F210_b200_elementData F210_b200_size) hZ (hw _ (List.mem_of_getElem? (i := 39) rfl)) (hw _ (List.mem_of_getElem? (i := 2) rfl)) (by decide) (by decide)) q211a q211b q211c (g := (mkF m 103 #[.val (.int i0), .val (.int i1), .val (.int i2), .val (.int i3), .val (.ref b198), .val (.ref b200), .unset, .unset, .unset, .unset, .unset] [(.ref b_210), (.ref b200)])) rfl (by rw [hml]; rfl) (Steps.refl _) (argsL := [(.ref b_210)]) (rest := []) (lenOf pdm_5 rfl) rfl (by show 2 * 0 + _ ≤ _; exact Nat.le_of_eq rfl) (hb hby at_103) (fun _ _ => ⟨rfl, rfl, (show cells + 1 + 0 + 1 + 0 + 1 + 1 + 1 + 0 + 1 + 0 + 1 + 0 + 1 + 1 ≤ 64 from (Nat.le_trans (Nat.add_le_add_right hc 9) (by decide))), (show slots + 3 + 0 + 3 + 0 + 3 + 10 + 3 + 0 + 3 + 0 + 3 + 0 + 3 + 10 ≤ 384 from (Nat.le_trans (Nat.add_le_add_right hs 41) (by decide)))⟩)
  dsimp only [Pt.U, Pt.locs, Pt.cells, Pt.slots] at X211 l211 y211 z211 st211 hQ211
  have yy211 : k211 = cells + 1 + 0 + 1 + 0 + 1 + 1 + 1 + 0 + 1 + 0 + 1 + 0 + 1 + 1 := y211
  have zz211 : n211 = slots + 3 + 0 + 3 + 0 + 3 + 10 + 3 + 0 + 3 + 0 + 3 + 0 + 3 + 10 := z211
  rw [yy211, zz211, l211] at X211
  obtain ⟨b_211, rfl, N211q, K211, r0_211, r1_211, r2_211, r3_211, r4_211, r5_211, r6_211⟩ := hQ211
  have N211 := Fr.app N210 N211q
  have Z0211 : n0 ≤ T211.heap.size := Nat.le_trans Z0210 K211.1
  have V211_b_202 := own_AFkeep V210_b_202 K211 (ninS (Ne.symm neb200_202) nin0)
  have Xa211_b_202 := Xa210_b_202.keep K211
  have V211_b_204 := own_AFkeep V210_b_204 K211 (ninS (Ne.symm neb200_204) nin0)
  have Xa211_b_204 := Xa210_b_204.keep K211
  have V211_b_206 := own_AFkeep V210_b_206 K211 (ninS (Ne.symm neb200_206) nin0)
  have Xa211_b_206 := Xa210_b_206.keep K211
  have V211_b_208 := own_AFkeep V210_b_208 K211 (ninS (Ne.symm neb200_208) nin0)
  have Xa211_b_208 := Xa210_b_208.keep K211
  have V211_b_210 := own_AFkeep r2_210 K211 (ninS (Ne.symm neb200_210) nin0)
  have Xa211_b_210 := r3_210.keep K211
  have R211_b_203 := own_RFkeep R210_b_203 K211 (ninS (Ne.symm neb200_203) nin0)
  have Ex211_b198 := Ex210_b198.keep K211
  have F211_b198_modCount := F210_b198_modCount.keep K211 (ninS neb198_200 nin0)
  have F211_b198_elementData := F210_b198_elementData.keep K211 (ninS neb198_200 nin0)
  have F211_b198_size := F210_b198_size.keep K211 (ninS neb198_200 nin0)
  have O211 := O210.keep K211 (allS fr200 all0)
  have neb_202_211 : b_202 ≠ b_211 := Nat.ne_of_lt (Nat.lt_of_lt_of_le V210_b_202.lt r1_211)
  have neb_204_211 : b_204 ≠ b_211 := Nat.ne_of_lt (Nat.lt_of_lt_of_le V210_b_204.lt r1_211)
  have neb_206_211 : b_206 ≠ b_211 := Nat.ne_of_lt (Nat.lt_of_lt_of_le V210_b_206.lt r1_211)
  have neb_208_211 : b_208 ≠ b_211 := Nat.ne_of_lt (Nat.lt_of_lt_of_le V210_b_208.lt r1_211)
  have neb_210_211 : b_210 ≠ b_211 := Nat.ne_of_lt (Nat.lt_of_lt_of_le r2_210.lt r1_211)
  have neb198_211 : b198 ≠ b_211 := Nat.ne_of_lt (Nat.lt_of_lt_of_le Ex210_b198.lt r1_211)
  have neb200_211 : b200 ≠ b_211 := Nat.ne_of_lt (Nat.lt_of_lt_of_le Ex210_b200.lt r1_211)
  have neb_203_211 : b_203 ≠ b_211 := Nat.ne_of_lt (Nat.lt_of_lt_of_le R210_b_203.lt r1_211)
  refine own_step (fun t k => st211.trans k) ?_
  show own_Fin p e below s Q 64 384 (T211.setTop (mkF m 108 #[.val (.int i0), .val (.int i1), .val (.int i2), .val (.int i3), .val (.ref b198), .val (.ref b200), .unset, .unset, .unset, .unset, .unset] [(.int (1 : Int32))]))
  refine own_step (fun t k => XS.pop X211.here hx rfl (hb hby at_108) rfl rfl k) ?_
  show own_Fin p e below s Q 64 384 (T211.setTop (mkF m 109 #[.val (.int i0), .val (.int i1), .val (.int i2), .val (.int i3), .val (.ref b198), .val (.ref b200), .unset, .unset, .unset, .unset, .unset] []))
  refine own_step (fun t k => XS.aload X211.here hx rfl (hb hby at_109) rfl rfl k) ?_
  show own_Fin p e below s Q 64 384 (T211.setTop (mkF m 111 #[.val (.int i0), .val (.int i1), .val (.int i2), .val (.int i3), .val (.ref b198), .val (.ref b200), .unset, .unset, .unset, .unset, .unset] [(.ref b200)]))
  refine own_step (fun t k => XS.iloadN X211.here hx rfl (hb hby at_111) rfl  k) ?_
  show own_Fin p e below s Q 64 384 (T211.setTop (mkF m 112 #[.val (.int i0), .val (.int i1), .val (.int i2), .val (.int i3), .val (.ref b198), .val (.ref b200), .unset, .unset, .unset, .unset, .unset] [(.int i1), (.ref b200)]))
  refine own_step (fun t k => XS.iconst X211.here hx rfl (hb hby at_112) k) ?_
  show own_Fin p e below s Q 64 384 (T211.setTop (mkF m 113 #[.val (.int i0), .val (.int i1), .val (.int i2), .val (.int i3), .val (.ref b198), .val (.ref b200), .unset, .unset, .unset, .unset, .unset] [(.int (2 : Int32)), (.int i1), (.ref b200)]))
  refine own_step (fun t k => XS.iushr X211.here hx rfl (hb hby at_113) rfl k) ?_
  show own_Fin p e below s Q 64 384 (T211.setTop (mkF m 114 #[.val (.int i0), .val (.int i1), .val (.int i2), .val (.int i3), .val (.ref b198), .val (.ref b200), .unset, .unset, .unset, .unset, .unset] [(.int ((i1.toUInt32 >>> ((2 : Int32) &&& 31).toUInt32).toInt32)), (.ref b200)]))
  refine own_step (fun t k => XS.iconst X211.here hx rfl (hb hby at_114) k) ?_
  show own_Fin p e below s Q 64 384 (T211.setTop (mkF m 115 #[.val (.int i0), .val (.int i1), .val (.int i2), .val (.int i3), .val (.ref b198), .val (.ref b200), .unset, .unset, .unset, .unset, .unset] [(.int (3 : Int32)), (.int ((i1.toUInt32 >>> ((2 : Int32) &&& 31).toUInt32).toInt32)), (.ref b200)]))
  refine own_step (fun t k => XS.iand X211.here hx rfl (hb hby at_115) rfl k) ?_
  show own_Fin p e below s Q 64 384 (T211.setTop (mkF m 116 #[.val (.int i0), .val (.int i1), .val (.int i2), .val (.int i3), .val (.ref b198), .val (.ref b200), .unset, .unset, .unset, .unset, .unset] [(.int (((i1.toUInt32 >>> ((2 : Int32) &&& 31).toUInt32).toInt32) &&& (3 : Int32))), (.ref b200)]))
  refine own_step (fun t k => XS.iloadN X211.here hx rfl (hb hby at_116) rfl  k) ?_
  show own_Fin p e below s Q 64 384 (T211.setTop (mkF m 117 #[.val (.int i0), .val (.int i1), .val (.int i2), .val (.int i3), .val (.ref b198), .val (.ref b200), .unset, .unset, .unset, .unset, .unset] [(.int i3), (.int (((i1.toUInt32 >>> ((2 : Int32) &&& 31).toUInt32).toInt32) &&& (3 : Int32))), (.ref b200)]))
  refine own_step (fun t k => XS.bipush X211.here hx rfl (hb hby at_117) k) ?_
  show own_Fin p e below s Q 64 384 (T211.setTop (mkF m 119 #[.val (.int i0), .val (.int i1), .val (.int i2), .val (.int i3), .val (.ref b198), .val (.ref b200), .unset, .unset, .unset, .unset, .unset] [(.int (6 : Int32)), (.int i3), (.int (((i1.toUInt32 >>> ((2 : Int32) &&& 31).toUInt32).toInt32) &&& (3 : Int32))), (.ref b200)]))
  refine own_step (fun t k => XS.iushr X211.here hx rfl (hb hby at_119) rfl k) ?_
  show own_Fin p e below s Q 64 384 (T211.setTop (mkF m 120 #[.val (.int i0), .val (.int i1), .val (.int i2), .val (.int i3), .val (.ref b198), .val (.ref b200), .unset, .unset, .unset, .unset, .unset] [(.int ((i3.toUInt32 >>> ((6 : Int32) &&& 31).toUInt32).toInt32)), (.int (((i1.toUInt32 >>> ((2 : Int32) &&& 31).toUInt32).toInt32) &&& (3 : Int32))), (.ref b200)]))
  obtain ⟨_, _, ⟨T212, L212, k212, n212⟩, -, X212, ⟨Lc212, hQ212, l212, y212, z212⟩, st212⟩ := Jvm.LawKit.callS X211 hx (y := (⟨"com/example/libentitle/libentitle/role/GraphLeadsPinLaw", "row", "(II)[I"⟩ : MethodName)) hown (mvT hZ (hw _ (List.mem_of_getElem? (i := 26) rfl))) (mvT hZ (hw _ (List.mem_of_getElem? (i := 27) rfl))) (mvT hZ (hw _ (List.mem_of_getElem? (i := 28) rfl))) (mvT hZ (hw _ (List.mem_of_getElem? (i := 29) rfl))) (by decide) (backOf (W := 1) (rm5 l Z a0 hw [] (((i1.toUInt32 >>> ((2 : Int32) &&& 31).toUInt32).toInt32) &&& (3 : Int32)) ((i3.toUInt32 >>> ((6 : Int32) &&& 31).toUInt32).toInt32) T211.heap n0 Z0211 (own_and3 _)) hZ (hw _ (List.mem_of_getElem? (i := 29) rfl)) (hw _ (List.mem_of_getElem? (i := 28) rfl)) (by decide) (by decide)) (g := (mkF m 120 #[.val (.int i0), .val (.int i1), .val (.int i2), .val (.int i3), .val (.ref b198), .val (.ref b200), .unset, .unset, .unset, .unset, .unset] [(.int ((i3.toUInt32 >>> ((6 : Int32) &&& 31).toUInt32).toInt32)), (.int (((i1.toUInt32 >>> ((2 : Int32) &&& 31).toUInt32).toInt32) &&& (3 : Int32))), (.ref b200)])) rfl (by rw [hml]; rfl) (argsL := [(.int (((i1.toUInt32 >>> ((2 : Int32) &&& 31).toUInt32).toInt32) &&& (3 : Int32))), (.int ((i3.toUInt32 >>> ((6 : Int32) &&& 31).toUInt32).toInt32))]) (rest := [(.ref b200)]) (lenOf pdm_10 rfl) rfl (by show 2 * 0 + _ ≤ _; exact Nat.le_of_eq rfl) (hb hby at_120) (fun _ _ => ⟨rfl, rfl, (show cells + 1 + 0 + 1 + 0 + 1 + 1 + 1 + 0 + 1 + 0 + 1 + 0 + 1 + 1 + 1 ≤ 64 from (Nat.le_trans (Nat.add_le_add_right hc 10) (by decide))), (show slots + 3 + 0 + 3 + 0 + 3 + 10 + 3 + 0 + 3 + 0 + 3 + 0 + 3 + 10 + 3 ≤ 384 from (Nat.le_trans (Nat.add_le_add_right hs 44) (by decide)))⟩)
  dsimp only [Pt.U, Pt.locs, Pt.cells, Pt.slots] at X212 l212 y212 z212 st212 hQ212
  have yy212 : k212 = cells + 1 + 0 + 1 + 0 + 1 + 1 + 1 + 0 + 1 + 0 + 1 + 0 + 1 + 1 + 1 := y212
  have zz212 : n212 = slots + 3 + 0 + 3 + 0 + 3 + 10 + 3 + 0 + 3 + 0 + 3 + 0 + 3 + 10 + 3 := z212
  rw [yy212, zz212, l212] at X212
  obtain ⟨b_212, g_212, rfl, N212q, K212, r0_212, r1_212, r2_212, r3_212, r4_212⟩ := hQ212
  have N212 := Fr.app N211 N212q
  have Z0212 : n0 ≤ T212.heap.size := Nat.le_trans Z0211 K212.1
  have V212_b_202 := own_AFkeep V211_b_202 K212 nin0
  have Xa212_b_202 := Xa211_b_202.keep K212
  have V212_b_204 := own_AFkeep V211_b_204 K212 nin0
  have Xa212_b_204 := Xa211_b_204.keep K212
  have V212_b_206 := own_AFkeep V211_b_206 K212 nin0
  have Xa212_b_206 := Xa211_b_206.keep K212
  have V212_b_208 := own_AFkeep V211_b_208 K212 nin0
  have Xa212_b_208 := Xa211_b_208.keep K212
  have V212_b_210 := own_AFkeep V211_b_210 K212 nin0
  have Xa212_b_210 := Xa211_b_210.keep K212
  have R212_b_203 := own_RFkeep R211_b_203 K212 nin0
  have R212_b_211 := own_RFkeep r2_211 K212 nin0
  have Ex212_b198 := Ex211_b198.keep K212
  have F212_b198_modCount := F211_b198_modCount.keep K212 nin0
  have F212_b198_elementData := F211_b198_elementData.keep K212 nin0
  have F212_b198_size := F211_b198_size.keep K212 nin0
  have Ex212_b200 := r3_211.keep K212
  have F212_b200_modCount := r4_211.keep K212 nin0
  have F212_b200_elementData := r5_211.keep K212 nin0
  have F212_b200_size := r6_211.keep K212 nin0
  have O212 := O211.keep K212 all0
  have neb_202_212 : b_202 ≠ b_212 := Nat.ne_of_lt (Nat.lt_of_lt_of_le V211_b_202.lt r1_212)
  have neb_204_212 : b_204 ≠ b_212 := Nat.ne_of_lt (Nat.lt_of_lt_of_le V211_b_204.lt r1_212)
  have neb_206_212 : b_206 ≠ b_212 := Nat.ne_of_lt (Nat.lt_of_lt_of_le V211_b_206.lt r1_212)
  have neb_208_212 : b_208 ≠ b_212 := Nat.ne_of_lt (Nat.lt_of_lt_of_le V211_b_208.lt r1_212)
  have neb_210_212 : b_210 ≠ b_212 := Nat.ne_of_lt (Nat.lt_of_lt_of_le V211_b_210.lt r1_212)
  have neb198_212 : b198 ≠ b_212 := Nat.ne_of_lt (Nat.lt_of_lt_of_le Ex211_b198.lt r1_212)
  have neb200_212 : b200 ≠ b_212 := Nat.ne_of_lt (Nat.lt_of_lt_of_le r3_211.lt r1_212)
  have neb_203_212 : b_203 ≠ b_212 := Nat.ne_of_lt (Nat.lt_of_lt_of_le R211_b_203.lt r1_212)
  have neb_211_212 : b_211 ≠ b_212 := Nat.ne_of_lt (Nat.lt_of_lt_of_le r2_211.lt r1_212)
  refine own_step st212 ?_
  show own_Fin p e below s Q 64 384 (T212.setTop (mkF m 123 #[.val (.int i0), .val (.int i1), .val (.int i2), .val (.int i3), .val (.ref b198), .val (.ref b200), .unset, .unset, .unset, .unset, .unset] [(.ref b_212), (.ref b200)]))
  obtain ⟨cq213, kq213, q213a, q213b, q213c⟩ := isOf hZ rfl Ex212_b200
  obtain ⟨_, _, ⟨T213, L213, k213, n213⟩, -, X213, ⟨Lc213, hQ213, l213, y213, z213⟩, st213⟩ := X212.interfaceBack hx (xi := (⟨"java/util/List", "add", "(Ljava/lang/Object;)Z"⟩ : MethodName)) (y := (⟨"java/util/ArrayList", "add", "(Ljava/lang/Object;)Z"⟩ : MethodName)) hown (mvT hZ (hw _ (List.mem_of_getElem? (i := 31) rfl))) (mvT hZ (hw _ (List.mem_of_getElem? (i := 32) rfl))) (mvT hZ (hw _ (List.mem_of_getElem? (i := 33) rfl))) (mvT hZ (hw _ (List.mem_of_getElem? (i := 34) rfl))) (mvT hZ (hw _ (List.mem_of_getElem? (i := 35) rfl))) (mvT hZ (hw _ (List.mem_of_getElem? (i := 36) rfl))) (mvT hZ (hw _ (List.mem_of_getElem? (i := 37) rfl))) (mvT hZ (hw _ (List.mem_of_getElem? (i := 38) rfl))) (by decide) (backOf (W := 0) (rm61 l Z a0 hw [] b200 b_212 ((0 : Int32) + (1 : Int32)) b_211 (fun i => if i = 0 then (.ref b_210) else (fun _ => .null) i) T212.heap n0 Z0212 fr200 r0_211 neb200_211 (Ins.of_exa r3_212 (hw _ (List.mem_of_getElem? (i := 65) rfl))) R212_b_211 Ex212_b200 F212_b200_modCount F212_b200_elementData F212_b200_size) hZ (hw _ (List.mem_of_getElem? (i := 39) rfl)) (hw _ (List.mem_of_getElem? (i := 2) rfl)) (by decide) (by decide)) q213a q213b q213c (g := (mkF m 123 #[.val (.int i0), .val (.int i1), .val (.int i2), .val (.int i3), .val (.ref b198), .val (.ref b200), .unset, .unset, .unset, .unset, .unset] [(.ref b_212), (.ref b200)])) rfl (by rw [hml]; rfl) (Steps.refl _) (argsL := [(.ref b_212)]) (rest := []) (lenOf pdm_5 rfl) rfl (by show 2 * 0 + _ ≤ _; exact Nat.le_of_eq rfl) (hb hby at_123) (fun _ _ => ⟨rfl, rfl, (show cells + 1 + 0 + 1 + 0 + 1 + 1 + 1 + 0 + 1 + 0 + 1 + 0 + 1 + 1 + 1 + 0 ≤ 64 from (Nat.le_trans (Nat.add_le_add_right hc 10) (by decide))), (show slots + 3 + 0 + 3 + 0 + 3 + 10 + 3 + 0 + 3 + 0 + 3 + 0 + 3 + 10 + 3 + 0 ≤ 384 from (Nat.le_trans (Nat.add_le_add_right hs 44) (by decide)))⟩)
  dsimp only [Pt.U, Pt.locs, Pt.cells, Pt.slots] at X213 l213 y213 z213 st213 hQ213
  have yy213 : k213 = cells + 1 + 0 + 1 + 0 + 1 + 1 + 1 + 0 + 1 + 0 + 1 + 0 + 1 + 1 + 1 + 0 := y213
  have zz213 : n213 = slots + 3 + 0 + 3 + 0 + 3 + 10 + 3 + 0 + 3 + 0 + 3 + 0 + 3 + 10 + 3 + 0 := z213
  rw [yy213, zz213, l213] at X213
  obtain ⟨rfl, N213q, K213, r0_213, r1_213, r2_213, r3_213, r4_213⟩ := hQ213
  have N213 := Fr.app N212 N213q
  have Z0213 : n0 ≤ T213.heap.size := Nat.le_trans Z0212 K213.1
  have V213_b_202 := own_AFkeep V212_b_202 K213 (ninS (Ne.symm neb200_202) (ninS neb_202_211 nin0))
  have Xa213_b_202 := Xa212_b_202.keep K213
  have V213_b_204 := own_AFkeep V212_b_204 K213 (ninS (Ne.symm neb200_204) (ninS neb_204_211 nin0))
  have Xa213_b_204 := Xa212_b_204.keep K213
  have V213_b_206 := own_AFkeep V212_b_206 K213 (ninS (Ne.symm neb200_206) (ninS neb_206_211 nin0))
  have Xa213_b_206 := Xa212_b_206.keep K213
  have V213_b_208 := own_AFkeep V212_b_208 K213 (ninS (Ne.symm neb200_208) (ninS neb_208_211 nin0))
  have Xa213_b_208 := Xa212_b_208.keep K213
  have V213_b_210 := own_AFkeep V212_b_210 K213 (ninS (Ne.symm neb200_210) (ninS neb_210_211 nin0))
  have Xa213_b_210 := Xa212_b_210.keep K213
  have V213_b_212 := own_AFkeep r2_212 K213 (ninS (Ne.symm neb200_212) (ninS (Ne.symm neb_211_212) nin0))
  have Xa213_b_212 := r3_212.keep K213
  have R213_b_203 := own_RFkeep R212_b_203 K213 (ninS (Ne.symm neb200_203) (ninS neb_203_211 nin0))
  have Ex213_b198 := Ex212_b198.keep K213
  have F213_b198_modCount := F212_b198_modCount.keep K213 (ninS neb198_200 (ninS neb198_211 nin0))
  have F213_b198_elementData := F212_b198_elementData.keep K213 (ninS neb198_200 (ninS neb198_211 nin0))
  have F213_b198_size := F212_b198_size.keep K213 (ninS neb198_200 (ninS neb198_211 nin0))
  have O213 := O212.keep K213 (allS fr200 (allS r0_211 all0))
  refine own_step (fun t k => st213.trans k) ?_
  show own_Fin p e below s Q 64 384 (T213.setTop (mkF m 128 #[.val (.int i0), .val (.int i1), .val (.int i2), .val (.int i3), .val (.ref b198), .val (.ref b200), .unset, .unset, .unset, .unset, .unset] [(.int (1 : Int32))]))
  refine own_step (fun t k => XS.pop X213.here hx rfl (hb hby at_128) rfl rfl k) ?_
  show own_Fin p e below s Q 64 384 (T213.setTop (mkF m 129 #[.val (.int i0), .val (.int i1), .val (.int i2), .val (.int i3), .val (.ref b198), .val (.ref b200), .unset, .unset, .unset, .unset, .unset] []))
  refine own_step (fun t k => XS.aload X213.here hx rfl (hb hby at_129) rfl rfl k) ?_
  show own_Fin p e below s Q 64 384 (T213.setTop (mkF m 131 #[.val (.int i0), .val (.int i1), .val (.int i2), .val (.int i3), .val (.ref b198), .val (.ref b200), .unset, .unset, .unset, .unset, .unset] [(.ref b200)]))
  refine own_step (fun t k => XS.iloadN X213.here hx rfl (hb hby at_131) rfl  k) ?_
  show own_Fin p e below s Q 64 384 (T213.setTop (mkF m 132 #[.val (.int i0), .val (.int i1), .val (.int i2), .val (.int i3), .val (.ref b198), .val (.ref b200), .unset, .unset, .unset, .unset, .unset] [(.int i1), (.ref b200)]))
  refine own_step (fun t k => XS.iconst X213.here hx rfl (hb hby at_132) k) ?_
  show own_Fin p e below s Q 64 384 (T213.setTop (mkF m 133 #[.val (.int i0), .val (.int i1), .val (.int i2), .val (.int i3), .val (.ref b198), .val (.ref b200), .unset, .unset, .unset, .unset, .unset] [(.int (4 : Int32)), (.int i1), (.ref b200)]))
  refine own_step (fun t k => XS.iushr X213.here hx rfl (hb hby at_133) rfl k) ?_
  show own_Fin p e below s Q 64 384 (T213.setTop (mkF m 134 #[.val (.int i0), .val (.int i1), .val (.int i2), .val (.int i3), .val (.ref b198), .val (.ref b200), .unset, .unset, .unset, .unset, .unset] [(.int ((i1.toUInt32 >>> ((4 : Int32) &&& 31).toUInt32).toInt32)), (.ref b200)]))
  refine own_step (fun t k => XS.iconst X213.here hx rfl (hb hby at_134) k) ?_
  show own_Fin p e below s Q 64 384 (T213.setTop (mkF m 135 #[.val (.int i0), .val (.int i1), .val (.int i2), .val (.int i3), .val (.ref b198), .val (.ref b200), .unset, .unset, .unset, .unset, .unset] [(.int (3 : Int32)), (.int ((i1.toUInt32 >>> ((4 : Int32) &&& 31).toUInt32).toInt32)), (.ref b200)]))
  refine own_step (fun t k => XS.iand X213.here hx rfl (hb hby at_135) rfl k) ?_
  show own_Fin p e below s Q 64 384 (T213.setTop (mkF m 136 #[.val (.int i0), .val (.int i1), .val (.int i2), .val (.int i3), .val (.ref b198), .val (.ref b200), .unset, .unset, .unset, .unset, .unset] [(.int (((i1.toUInt32 >>> ((4 : Int32) &&& 31).toUInt32).toInt32) &&& (3 : Int32))), (.ref b200)]))
  refine own_step (fun t k => XS.iloadN X213.here hx rfl (hb hby at_136) rfl  k) ?_
  show own_Fin p e below s Q 64 384 (T213.setTop (mkF m 137 #[.val (.int i0), .val (.int i1), .val (.int i2), .val (.int i3), .val (.ref b198), .val (.ref b200), .unset, .unset, .unset, .unset, .unset] [(.int i3), (.int (((i1.toUInt32 >>> ((4 : Int32) &&& 31).toUInt32).toInt32) &&& (3 : Int32))), (.ref b200)]))
  refine own_step (fun t k => XS.bipush X213.here hx rfl (hb hby at_137) k) ?_
  show own_Fin p e below s Q 64 384 (T213.setTop (mkF m 139 #[.val (.int i0), .val (.int i1), .val (.int i2), .val (.int i3), .val (.ref b198), .val (.ref b200), .unset, .unset, .unset, .unset, .unset] [(.int (12 : Int32)), (.int i3), (.int (((i1.toUInt32 >>> ((4 : Int32) &&& 31).toUInt32).toInt32) &&& (3 : Int32))), (.ref b200)]))
  refine own_step (fun t k => XS.iushr X213.here hx rfl (hb hby at_139) rfl k) ?_
  show own_Fin p e below s Q 64 384 (T213.setTop (mkF m 140 #[.val (.int i0), .val (.int i1), .val (.int i2), .val (.int i3), .val (.ref b198), .val (.ref b200), .unset, .unset, .unset, .unset, .unset] [(.int ((i3.toUInt32 >>> ((12 : Int32) &&& 31).toUInt32).toInt32)), (.int (((i1.toUInt32 >>> ((4 : Int32) &&& 31).toUInt32).toInt32) &&& (3 : Int32))), (.ref b200)]))
  obtain ⟨_, _, ⟨T214, L214, k214, n214⟩, -, X214, ⟨Lc214, hQ214, l214, y214, z214⟩, st214⟩ := Jvm.LawKit.callS X213 hx (y := (⟨"com/example/libentitle/libentitle/role/GraphLeadsPinLaw", "row", "(II)[I"⟩ : MethodName)) hown (mvT hZ (hw _ (List.mem_of_getElem? (i := 26) rfl))) (mvT hZ (hw _ (List.mem_of_getElem? (i := 27) rfl))) (mvT hZ (hw _ (List.mem_of_getElem? (i := 28) rfl))) (mvT hZ (hw _ (List.mem_of_getElem? (i := 29) rfl))) (by decide) (backOf (W := 1) (rm5 l Z a0 hw [] (((i1.toUInt32 >>> ((4 : Int32) &&& 31).toUInt32).toInt32) &&& (3 : Int32)) ((i3.toUInt32 >>> ((12 : Int32) &&& 31).toUInt32).toInt32) T213.heap n0 Z0213 (own_and3 _)) hZ (hw _ (List.mem_of_getElem? (i := 29) rfl)) (hw _ (List.mem_of_getElem? (i := 28) rfl)) (by decide) (by decide)) (g := (mkF m 140 #[.val (.int i0), .val (.int i1), .val (.int i2), .val (.int i3), .val (.ref b198), .val (.ref b200), .unset, .unset, .unset, .unset, .unset] [(.int ((i3.toUInt32 >>> ((12 : Int32) &&& 31).toUInt32).toInt32)), (.int (((i1.toUInt32 >>> ((4 : Int32) &&& 31).toUInt32).toInt32) &&& (3 : Int32))), (.ref b200)])) rfl (by rw [hml]; rfl) (argsL := [(.int (((i1.toUInt32 >>> ((4 : Int32) &&& 31).toUInt32).toInt32) &&& (3 : Int32))), (.int ((i3.toUInt32 >>> ((12 : Int32) &&& 31).toUInt32).toInt32))]) (rest := [(.ref b200)]) (lenOf pdm_10 rfl) rfl (by show 2 * 0 + _ ≤ _; exact Nat.le_of_eq rfl) (hb hby at_140) (fun _ _ => ⟨rfl, rfl, (show cells + 1 + 0 + 1 + 0 + 1 + 1 + 1 + 0 + 1 + 0 + 1 + 0 + 1 + 1 + 1 + 0 + 1 ≤ 64 from (Nat.le_trans (Nat.add_le_add_right hc 11) (by decide))), (show slots + 3 + 0 + 3 + 0 + 3 + 10 + 3 + 0 + 3 + 0 + 3 + 0 + 3 + 10 + 3 + 0 + 3 ≤ 384 from (Nat.le_trans (Nat.add_le_add_right hs 47) (by decide)))⟩)
  dsimp only [Pt.U, Pt.locs, Pt.cells, Pt.slots] at X214 l214 y214 z214 st214 hQ214
  have yy214 : k214 = cells + 1 + 0 + 1 + 0 + 1 + 1 + 1 + 0 + 1 + 0 + 1 + 0 + 1 + 1 + 1 + 0 + 1 := y214
  have zz214 : n214 = slots + 3 + 0 + 3 + 0 + 3 + 10 + 3 + 0 + 3 + 0 + 3 + 0 + 3 + 10 + 3 + 0 + 3 := z214
  rw [yy214, zz214, l214] at X214
  obtain ⟨b_214, g_214, rfl, N214q, K214, r0_214, r1_214, r2_214, r3_214, r4_214⟩ := hQ214
  have N214 := Fr.app N213 N214q
  have Z0214 : n0 ≤ T214.heap.size := Nat.le_trans Z0213 K214.1
  have V214_b_202 := own_AFkeep V213_b_202 K214 nin0
  have Xa214_b_202 := Xa213_b_202.keep K214
  have V214_b_204 := own_AFkeep V213_b_204 K214 nin0
  have Xa214_b_204 := Xa213_b_204.keep K214
  have V214_b_206 := own_AFkeep V213_b_206 K214 nin0
  have Xa214_b_206 := Xa213_b_206.keep K214
  have V214_b_208 := own_AFkeep V213_b_208 K214 nin0
  have Xa214_b_208 := Xa213_b_208.keep K214
  have V214_b_210 := own_AFkeep V213_b_210 K214 nin0
  have Xa214_b_210 := Xa213_b_210.keep K214
  have V214_b_212 := own_AFkeep V213_b_212 K214 nin0
  have Xa214_b_212 := Xa213_b_212.keep K214
  have R214_b_203 := own_RFkeep R213_b_203 K214 nin0
  have R214_b_211 := own_RFkeep r0_213 K214 nin0
  have Ex214_b198 := Ex213_b198.keep K214
  have F214_b198_modCount := F213_b198_modCount.keep K214 nin0
  have F214_b198_elementData := F213_b198_elementData.keep K214 nin0
  have F214_b198_size := F213_b198_size.keep K214 nin0
  have Ex214_b200 := r1_213.keep K214
  have F214_b200_modCount := r2_213.keep K214 nin0
  have F214_b200_elementData := r3_213.keep K214 nin0
  have F214_b200_size := r4_213.keep K214 nin0
  have O214 := O213.keep K214 all0
  have neb_202_214 : b_202 ≠ b_214 := Nat.ne_of_lt (Nat.lt_of_lt_of_le V213_b_202.lt r1_214)
  have neb_204_214 : b_204 ≠ b_214 := Nat.ne_of_lt (Nat.lt_of_lt_of_le V213_b_204.lt r1_214)
  have neb_206_214 : b_206 ≠ b_214 := Nat.ne_of_lt (Nat.lt_of_lt_of_le V213_b_206.lt r1_214)
  have neb_208_214 : b_208 ≠ b_214 := Nat.ne_of_lt (Nat.lt_of_lt_of_le V213_b_208.lt r1_214)
  have neb_210_214 : b_210 ≠ b_214 := Nat.ne_of_lt (Nat.lt_of_lt_of_le V213_b_210.lt r1_214)
  have neb_212_214 : b_212 ≠ b_214 := Nat.ne_of_lt (Nat.lt_of_lt_of_le V213_b_212.lt r1_214)
  have neb198_214 : b198 ≠ b_214 := Nat.ne_of_lt (Nat.lt_of_lt_of_le Ex213_b198.lt r1_214)
  have neb200_214 : b200 ≠ b_214 := Nat.ne_of_lt (Nat.lt_of_lt_of_le r1_213.lt r1_214)
  have neb_203_214 : b_203 ≠ b_214 := Nat.ne_of_lt (Nat.lt_of_lt_of_le R213_b_203.lt r1_214)
  have neb_211_214 : b_211 ≠ b_214 := Nat.ne_of_lt (Nat.lt_of_lt_of_le r0_213.lt r1_214)
  refine own_step st214 ?_
  show own_Fin p e below s Q 64 384 (T214.setTop (mkF m 143 #[.val (.int i0), .val (.int i1), .val (.int i2), .val (.int i3), .val (.ref b198), .val (.ref b200), .unset, .unset, .unset, .unset, .unset] [(.ref b_214), (.ref b200)]))
  obtain ⟨cq215, kq215, q215a, q215b, q215c⟩ := isOf hZ rfl Ex214_b200
  obtain ⟨_, _, ⟨T215, L215, k215, n215⟩, -, X215, ⟨Lc215, hQ215, l215, y215, z215⟩, st215⟩ := X214.interfaceBack hx (xi := (⟨"java/util/List", "add", "(Ljava/lang/Object;)Z"⟩ : MethodName)) (y := (⟨"java/util/ArrayList", "add", "(Ljava/lang/Object;)Z"⟩ : MethodName)) hown (mvT hZ (hw _ (List.mem_of_getElem? (i := 31) rfl))) (mvT hZ (hw _ (List.mem_of_getElem? (i := 32) rfl))) (mvT hZ (hw _ (List.mem_of_getElem? (i := 33) rfl))) (mvT hZ (hw _ (List.mem_of_getElem? (i := 34) rfl))) (mvT hZ (hw _ (List.mem_of_getElem? (i := 35) rfl))) (mvT hZ (hw _ (List.mem_of_getElem? (i := 36) rfl))) (mvT hZ (hw _ (List.mem_of_getElem? (i := 37) rfl))) (mvT hZ (hw _ (List.mem_of_getElem? (i := 38) rfl))) (by decide) (backOf (W := 0) (rm62 l Z a0 hw [] b200 b_214 (((0 : Int32) + (1 : Int32)) + (1 : Int32)) b_211 (fun i => if i = 1 then (.ref b_212) else (fun i => if i = 0 then (.ref b_210) else (fun _ => .null) i) i) T214.heap n0 Z0214 fr200 r0_211 neb200_211 (Ins.of_exa r3_214 (hw _ (List.mem_of_getElem? (i := 65) rfl))) R214_b_211 Ex214_b200 F214_b200_modCount F214_b200_elementData F214_b200_size) hZ (hw _ (List.mem_of_getElem? (i := 39) rfl)) (hw _ (List.mem_of_getElem? (i := 2) rfl)) (by decide) (by decide)) q215a q215b q215c (g := (mkF m 143 #[.val (.int i0), .val (.int i1), .val (.int i2), .val (.int i3), .val (.ref b198), .val (.ref b200), .unset, .unset, .unset, .unset, .unset] [(.ref b_214), (.ref b200)])) rfl (by rw [hml]; rfl) (Steps.refl _) (argsL := [(.ref b_214)]) (rest := []) (lenOf pdm_5 rfl) rfl (by show 2 * 0 + _ ≤ _; exact Nat.le_of_eq rfl) (hb hby at_143) (fun _ _ => ⟨rfl, rfl, (show cells + 1 + 0 + 1 + 0 + 1 + 1 + 1 + 0 + 1 + 0 + 1 + 0 + 1 + 1 + 1 + 0 + 1 + 0 ≤ 64 from (Nat.le_trans (Nat.add_le_add_right hc 11) (by decide))), (show slots + 3 + 0 + 3 + 0 + 3 + 10 + 3 + 0 + 3 + 0 + 3 + 0 + 3 + 10 + 3 + 0 + 3 + 0 ≤ 384 from (Nat.le_trans (Nat.add_le_add_right hs 47) (by decide)))⟩)
  dsimp only [Pt.U, Pt.locs, Pt.cells, Pt.slots] at X215 l215 y215 z215 st215 hQ215
  have yy215 : k215 = cells + 1 + 0 + 1 + 0 + 1 + 1 + 1 + 0 + 1 + 0 + 1 + 0 + 1 + 1 + 1 + 0 + 1 + 0 := y215
  have zz215 : n215 = slots + 3 + 0 + 3 + 0 + 3 + 10 + 3 + 0 + 3 + 0 + 3 + 0 + 3 + 10 + 3 + 0 + 3 + 0 := z215
  rw [yy215, zz215, l215] at X215
  obtain ⟨rfl, N215q, K215, r0_215, r1_215, r2_215, r3_215, r4_215⟩ := hQ215
  have N215 := Fr.app N214 N215q
  have Z0215 : n0 ≤ T215.heap.size := Nat.le_trans Z0214 K215.1
  have V215_b_202 := own_AFkeep V214_b_202 K215 (ninS (Ne.symm neb200_202) (ninS neb_202_211 nin0))
  have Xa215_b_202 := Xa214_b_202.keep K215
  have V215_b_204 := own_AFkeep V214_b_204 K215 (ninS (Ne.symm neb200_204) (ninS neb_204_211 nin0))
  have Xa215_b_204 := Xa214_b_204.keep K215
  have V215_b_206 := own_AFkeep V214_b_206 K215 (ninS (Ne.symm neb200_206) (ninS neb_206_211 nin0))
  have Xa215_b_206 := Xa214_b_206.keep K215
  have V215_b_208 := own_AFkeep V214_b_208 K215 (ninS (Ne.symm neb200_208) (ninS neb_208_211 nin0))
  have Xa215_b_208 := Xa214_b_208.keep K215
  have V215_b_210 := own_AFkeep V214_b_210 K215 (ninS (Ne.symm neb200_210) (ninS neb_210_211 nin0))
  have Xa215_b_210 := Xa214_b_210.keep K215
  have V215_b_212 := own_AFkeep V214_b_212 K215 (ninS (Ne.symm neb200_212) (ninS (Ne.symm neb_211_212) nin0))
  have Xa215_b_212 := Xa214_b_212.keep K215
  have V215_b_214 := own_AFkeep r2_214 K215 (ninS (Ne.symm neb200_214) (ninS (Ne.symm neb_211_214) nin0))
  have Xa215_b_214 := r3_214.keep K215
  have R215_b_203 := own_RFkeep R214_b_203 K215 (ninS (Ne.symm neb200_203) (ninS neb_203_211 nin0))
  have Ex215_b198 := Ex214_b198.keep K215
  have F215_b198_modCount := F214_b198_modCount.keep K215 (ninS neb198_200 (ninS neb198_211 nin0))
  have F215_b198_elementData := F214_b198_elementData.keep K215 (ninS neb198_200 (ninS neb198_211 nin0))
  have F215_b198_size := F214_b198_size.keep K215 (ninS neb198_200 (ninS neb198_211 nin0))
  have O215 := O214.keep K215 (allS fr200 (allS r0_211 all0))
  refine own_step (fun t k => st215.trans k) ?_
  show own_Fin p e below s Q 64 384 (T215.setTop (mkF m 148 #[.val (.int i0), .val (.int i1), .val (.int i2), .val (.int i3), .val (.ref b198), .val (.ref b200), .unset, .unset, .unset, .unset, .unset] [(.int (1 : Int32))]))
  refine own_step (fun t k => XS.pop X215.here hx rfl (hb hby at_148) rfl rfl k) ?_
  show own_Fin p e below s Q 64 384 (T215.setTop (mkF m 149 #[.val (.int i0), .val (.int i1), .val (.int i2), .val (.int i3), .val (.ref b198), .val (.ref b200), .unset, .unset, .unset, .unset, .unset] []))
  refine own_step (fun t k => XS.aload X215.here hx rfl (hb hby at_149) rfl rfl k) ?_
  show own_Fin p e below s Q 64 384 (T215.setTop (mkF m 151 #[.val (.int i0), .val (.int i1), .val (.int i2), .val (.int i3), .val (.ref b198), .val (.ref b200), .unset, .unset, .unset, .unset, .unset] [(.ref b200)]))
  refine own_step (fun t k => XS.iloadN X215.here hx rfl (hb hby at_151) rfl  k) ?_
  show own_Fin p e below s Q 64 384 (T215.setTop (mkF m 152 #[.val (.int i0), .val (.int i1), .val (.int i2), .val (.int i3), .val (.ref b198), .val (.ref b200), .unset, .unset, .unset, .unset, .unset] [(.int i1), (.ref b200)]))
  refine own_step (fun t k => XS.bipush X215.here hx rfl (hb hby at_152) k) ?_
  show own_Fin p e below s Q 64 384 (T215.setTop (mkF m 154 #[.val (.int i0), .val (.int i1), .val (.int i2), .val (.int i3), .val (.ref b198), .val (.ref b200), .unset, .unset, .unset, .unset, .unset] [(.int (6 : Int32)), (.int i1), (.ref b200)]))
  refine own_step (fun t k => XS.iushr X215.here hx rfl (hb hby at_154) rfl k) ?_
  show own_Fin p e below s Q 64 384 (T215.setTop (mkF m 155 #[.val (.int i0), .val (.int i1), .val (.int i2), .val (.int i3), .val (.ref b198), .val (.ref b200), .unset, .unset, .unset, .unset, .unset] [(.int ((i1.toUInt32 >>> ((6 : Int32) &&& 31).toUInt32).toInt32)), (.ref b200)]))
  refine own_step (fun t k => XS.iconst X215.here hx rfl (hb hby at_155) k) ?_
  show own_Fin p e below s Q 64 384 (T215.setTop (mkF m 156 #[.val (.int i0), .val (.int i1), .val (.int i2), .val (.int i3), .val (.ref b198), .val (.ref b200), .unset, .unset, .unset, .unset, .unset] [(.int (3 : Int32)), (.int ((i1.toUInt32 >>> ((6 : Int32) &&& 31).toUInt32).toInt32)), (.ref b200)]))
  refine own_step (fun t k => XS.iand X215.here hx rfl (hb hby at_156) rfl k) ?_
  show own_Fin p e below s Q 64 384 (T215.setTop (mkF m 157 #[.val (.int i0), .val (.int i1), .val (.int i2), .val (.int i3), .val (.ref b198), .val (.ref b200), .unset, .unset, .unset, .unset, .unset] [(.int (((i1.toUInt32 >>> ((6 : Int32) &&& 31).toUInt32).toInt32) &&& (3 : Int32))), (.ref b200)]))
  refine own_step (fun t k => XS.iloadN X215.here hx rfl (hb hby at_157) rfl  k) ?_
  show own_Fin p e below s Q 64 384 (T215.setTop (mkF m 158 #[.val (.int i0), .val (.int i1), .val (.int i2), .val (.int i3), .val (.ref b198), .val (.ref b200), .unset, .unset, .unset, .unset, .unset] [(.int i3), (.int (((i1.toUInt32 >>> ((6 : Int32) &&& 31).toUInt32).toInt32) &&& (3 : Int32))), (.ref b200)]))
  refine own_step (fun t k => XS.bipush X215.here hx rfl (hb hby at_158) k) ?_
  show own_Fin p e below s Q 64 384 (T215.setTop (mkF m 160 #[.val (.int i0), .val (.int i1), .val (.int i2), .val (.int i3), .val (.ref b198), .val (.ref b200), .unset, .unset, .unset, .unset, .unset] [(.int (18 : Int32)), (.int i3), (.int (((i1.toUInt32 >>> ((6 : Int32) &&& 31).toUInt32).toInt32) &&& (3 : Int32))), (.ref b200)]))
  refine own_step (fun t k => XS.iushr X215.here hx rfl (hb hby at_160) rfl k) ?_
  show own_Fin p e below s Q 64 384 (T215.setTop (mkF m 161 #[.val (.int i0), .val (.int i1), .val (.int i2), .val (.int i3), .val (.ref b198), .val (.ref b200), .unset, .unset, .unset, .unset, .unset] [(.int ((i3.toUInt32 >>> ((18 : Int32) &&& 31).toUInt32).toInt32)), (.int (((i1.toUInt32 >>> ((6 : Int32) &&& 31).toUInt32).toInt32) &&& (3 : Int32))), (.ref b200)]))
  obtain ⟨_, _, ⟨T216, L216, k216, n216⟩, -, X216, ⟨Lc216, hQ216, l216, y216, z216⟩, st216⟩ := Jvm.LawKit.callS X215 hx (y := (⟨"com/example/libentitle/libentitle/role/GraphLeadsPinLaw", "row", "(II)[I"⟩ : MethodName)) hown (mvT hZ (hw _ (List.mem_of_getElem? (i := 26) rfl))) (mvT hZ (hw _ (List.mem_of_getElem? (i := 27) rfl))) (mvT hZ (hw _ (List.mem_of_getElem? (i := 28) rfl))) (mvT hZ (hw _ (List.mem_of_getElem? (i := 29) rfl))) (by decide) (backOf (W := 1) (rm5 l Z a0 hw [] (((i1.toUInt32 >>> ((6 : Int32) &&& 31).toUInt32).toInt32) &&& (3 : Int32)) ((i3.toUInt32 >>> ((18 : Int32) &&& 31).toUInt32).toInt32) T215.heap n0 Z0215 (own_and3 _)) hZ (hw _ (List.mem_of_getElem? (i := 29) rfl)) (hw _ (List.mem_of_getElem? (i := 28) rfl)) (by decide) (by decide)) (g := (mkF m 161 #[.val (.int i0), .val (.int i1), .val (.int i2), .val (.int i3), .val (.ref b198), .val (.ref b200), .unset, .unset, .unset, .unset, .unset] [(.int ((i3.toUInt32 >>> ((18 : Int32) &&& 31).toUInt32).toInt32)), (.int (((i1.toUInt32 >>> ((6 : Int32) &&& 31).toUInt32).toInt32) &&& (3 : Int32))), (.ref b200)])) rfl (by rw [hml]; rfl) (argsL := [(.int (((i1.toUInt32 >>> ((6 : Int32) &&& 31).toUInt32).toInt32) &&& (3 : Int32))), (.int ((i3.toUInt32 >>> ((18 : Int32) &&& 31).toUInt32).toInt32))]) (rest := [(.ref b200)]) (lenOf pdm_10 rfl) rfl (by show 2 * 0 + _ ≤ _; exact Nat.le_of_eq rfl) (hb hby at_161) (fun _ _ => ⟨rfl, rfl, (show cells + 1 + 0 + 1 + 0 + 1 + 1 + 1 + 0 + 1 + 0 + 1 + 0 + 1 + 1 + 1 + 0 + 1 + 0 + 1 ≤ 64 from (Nat.le_trans (Nat.add_le_add_right hc 12) (by decide))), (show slots + 3 + 0 + 3 + 0 + 3 + 10 + 3 + 0 + 3 + 0 + 3 + 0 + 3 + 10 + 3 + 0 + 3 + 0 + 3 ≤ 384 from (Nat.le_trans (Nat.add_le_add_right hs 50) (by decide)))⟩)
  dsimp only [Pt.U, Pt.locs, Pt.cells, Pt.slots] at X216 l216 y216 z216 st216 hQ216
  have yy216 : k216 = cells + 1 + 0 + 1 + 0 + 1 + 1 + 1 + 0 + 1 + 0 + 1 + 0 + 1 + 1 + 1 + 0 + 1 + 0 + 1 := y216
  have zz216 : n216 = slots + 3 + 0 + 3 + 0 + 3 + 10 + 3 + 0 + 3 + 0 + 3 + 0 + 3 + 10 + 3 + 0 + 3 + 0 + 3 := z216
  rw [yy216, zz216, l216] at X216
  obtain ⟨b_216, g_216, rfl, N216q, K216, r0_216, r1_216, r2_216, r3_216, r4_216⟩ := hQ216
  have N216 := Fr.app N215 N216q
  have Z0216 : n0 ≤ T216.heap.size := Nat.le_trans Z0215 K216.1
  have V216_b_202 := own_AFkeep V215_b_202 K216 nin0
  have Xa216_b_202 := Xa215_b_202.keep K216
  have V216_b_204 := own_AFkeep V215_b_204 K216 nin0
  have Xa216_b_204 := Xa215_b_204.keep K216
  have V216_b_206 := own_AFkeep V215_b_206 K216 nin0
  have Xa216_b_206 := Xa215_b_206.keep K216
  have V216_b_208 := own_AFkeep V215_b_208 K216 nin0
  have Xa216_b_208 := Xa215_b_208.keep K216
  have V216_b_210 := own_AFkeep V215_b_210 K216 nin0
  have Xa216_b_210 := Xa215_b_210.keep K216
  have V216_b_212 := own_AFkeep V215_b_212 K216 nin0
  have Xa216_b_212 := Xa215_b_212.keep K216
  have V216_b_214 := own_AFkeep V215_b_214 K216 nin0
  have Xa216_b_214 := Xa215_b_214.keep K216
  have R216_b_203 := own_RFkeep R215_b_203 K216 nin0
  have R216_b_211 := own_RFkeep r0_215 K216 nin0
  have Ex216_b198 := Ex215_b198.keep K216
  have F216_b198_modCount := F215_b198_modCount.keep K216 nin0
  have F216_b198_elementData := F215_b198_elementData.keep K216 nin0
  have F216_b198_size := F215_b198_size.keep K216 nin0
  have Ex216_b200 := r1_215.keep K216
  have F216_b200_modCount := r2_215.keep K216 nin0
  have F216_b200_elementData := r3_215.keep K216 nin0
  have F216_b200_size := r4_215.keep K216 nin0
  have O216 := O215.keep K216 all0
  have neb_202_216 : b_202 ≠ b_216 := Nat.ne_of_lt (Nat.lt_of_lt_of_le V215_b_202.lt r1_216)
  have neb_204_216 : b_204 ≠ b_216 := Nat.ne_of_lt (Nat.lt_of_lt_of_le V215_b_204.lt r1_216)
  have neb_206_216 : b_206 ≠ b_216 := Nat.ne_of_lt (Nat.lt_of_lt_of_le V215_b_206.lt r1_216)
  have neb_208_216 : b_208 ≠ b_216 := Nat.ne_of_lt (Nat.lt_of_lt_of_le V215_b_208.lt r1_216)
  have neb_210_216 : b_210 ≠ b_216 := Nat.ne_of_lt (Nat.lt_of_lt_of_le V215_b_210.lt r1_216)
  have neb_212_216 : b_212 ≠ b_216 := Nat.ne_of_lt (Nat.lt_of_lt_of_le V215_b_212.lt r1_216)
  have neb_214_216 : b_214 ≠ b_216 := Nat.ne_of_lt (Nat.lt_of_lt_of_le V215_b_214.lt r1_216)
  have neb198_216 : b198 ≠ b_216 := Nat.ne_of_lt (Nat.lt_of_lt_of_le Ex215_b198.lt r1_216)
  have neb200_216 : b200 ≠ b_216 := Nat.ne_of_lt (Nat.lt_of_lt_of_le r1_215.lt r1_216)
  have neb_203_216 : b_203 ≠ b_216 := Nat.ne_of_lt (Nat.lt_of_lt_of_le R215_b_203.lt r1_216)
  have neb_211_216 : b_211 ≠ b_216 := Nat.ne_of_lt (Nat.lt_of_lt_of_le r0_215.lt r1_216)
  refine own_step st216 ?_
  show own_Fin p e below s Q 64 384 (T216.setTop (mkF m 164 #[.val (.int i0), .val (.int i1), .val (.int i2), .val (.int i3), .val (.ref b198), .val (.ref b200), .unset, .unset, .unset, .unset, .unset] [(.ref b_216), (.ref b200)]))
  obtain ⟨cq217, kq217, q217a, q217b, q217c⟩ := isOf hZ rfl Ex216_b200
  obtain ⟨_, _, ⟨T217, L217, k217, n217⟩, -, X217, ⟨Lc217, hQ217, l217, y217, z217⟩, st217⟩ := X216.interfaceBack hx (xi := (⟨"java/util/List", "add", "(Ljava/lang/Object;)Z"⟩ : MethodName)) (y := (⟨"java/util/ArrayList", "add", "(Ljava/lang/Object;)Z"⟩ : MethodName)) hown (mvT hZ (hw _ (List.mem_of_getElem? (i := 31) rfl))) (mvT hZ (hw _ (List.mem_of_getElem? (i := 32) rfl))) (mvT hZ (hw _ (List.mem_of_getElem? (i := 33) rfl))) (mvT hZ (hw _ (List.mem_of_getElem? (i := 34) rfl))) (mvT hZ (hw _ (List.mem_of_getElem? (i := 35) rfl))) (mvT hZ (hw _ (List.mem_of_getElem? (i := 36) rfl))) (mvT hZ (hw _ (List.mem_of_getElem? (i := 37) rfl))) (mvT hZ (hw _ (List.mem_of_getElem? (i := 38) rfl))) (by decide) (backOf (W := 0) (rm63 l Z a0 hw [] b200 b_216 ((((0 : Int32) + (1 : Int32)) + (1 : Int32)) + (1 : Int32)) b_211 (fun i => if i = 2 then (.ref b_214) else (fun i => if i = 1 then (.ref b_212) else (fun i => if i = 0 then (.ref b_210) else (fun _ => .null) i) i) i) T216.heap n0 Z0216 fr200 r0_211 neb200_211 (Ins.of_exa r3_216 (hw _ (List.mem_of_getElem? (i := 65) rfl))) R216_b_211 Ex216_b200 F216_b200_modCount F216_b200_elementData F216_b200_size) hZ (hw _ (List.mem_of_getElem? (i := 39) rfl)) (hw _ (List.mem_of_getElem? (i := 2) rfl)) (by decide) (by decide)) q217a q217b q217c (g := (mkF m 164 #[.val (.int i0), .val (.int i1), .val (.int i2), .val (.int i3), .val (.ref b198), .val (.ref b200), .unset, .unset, .unset, .unset, .unset] [(.ref b_216), (.ref b200)])) rfl (by rw [hml]; rfl) (Steps.refl _) (argsL := [(.ref b_216)]) (rest := []) (lenOf pdm_5 rfl) rfl (by show 2 * 0 + _ ≤ _; exact Nat.le_of_eq rfl) (hb hby at_164) (fun _ _ => ⟨rfl, rfl, (show cells + 1 + 0 + 1 + 0 + 1 + 1 + 1 + 0 + 1 + 0 + 1 + 0 + 1 + 1 + 1 + 0 + 1 + 0 + 1 + 0 ≤ 64 from (Nat.le_trans (Nat.add_le_add_right hc 12) (by decide))), (show slots + 3 + 0 + 3 + 0 + 3 + 10 + 3 + 0 + 3 + 0 + 3 + 0 + 3 + 10 + 3 + 0 + 3 + 0 + 3 + 0 ≤ 384 from (Nat.le_trans (Nat.add_le_add_right hs 50) (by decide)))⟩)
  dsimp only [Pt.U, Pt.locs, Pt.cells, Pt.slots] at X217 l217 y217 z217 st217 hQ217
  have yy217 : k217 = cells + 1 + 0 + 1 + 0 + 1 + 1 + 1 + 0 + 1 + 0 + 1 + 0 + 1 + 1 + 1 + 0 + 1 + 0 + 1 + 0 := y217
  have zz217 : n217 = slots + 3 + 0 + 3 + 0 + 3 + 10 + 3 + 0 + 3 + 0 + 3 + 0 + 3 + 10 + 3 + 0 + 3 + 0 + 3 + 0 := z217
  rw [yy217, zz217, l217] at X217
  obtain ⟨rfl, N217q, K217, r0_217, r1_217, r2_217, r3_217, r4_217⟩ := hQ217
  have N217 := Fr.app N216 N217q
  have Z0217 : n0 ≤ T217.heap.size := Nat.le_trans Z0216 K217.1
  have V217_b_202 := own_AFkeep V216_b_202 K217 (ninS (Ne.symm neb200_202) (ninS neb_202_211 nin0))
  have Xa217_b_202 := Xa216_b_202.keep K217
  have V217_b_204 := own_AFkeep V216_b_204 K217 (ninS (Ne.symm neb200_204) (ninS neb_204_211 nin0))
  have Xa217_b_204 := Xa216_b_204.keep K217
  have V217_b_206 := own_AFkeep V216_b_206 K217 (ninS (Ne.symm neb200_206) (ninS neb_206_211 nin0))
  have Xa217_b_206 := Xa216_b_206.keep K217
  have V217_b_208 := own_AFkeep V216_b_208 K217 (ninS (Ne.symm neb200_208) (ninS neb_208_211 nin0))
  have Xa217_b_208 := Xa216_b_208.keep K217
  have V217_b_210 := own_AFkeep V216_b_210 K217 (ninS (Ne.symm neb200_210) (ninS neb_210_211 nin0))
  have Xa217_b_210 := Xa216_b_210.keep K217
  have V217_b_212 := own_AFkeep V216_b_212 K217 (ninS (Ne.symm neb200_212) (ninS (Ne.symm neb_211_212) nin0))
  have Xa217_b_212 := Xa216_b_212.keep K217
  have V217_b_214 := own_AFkeep V216_b_214 K217 (ninS (Ne.symm neb200_214) (ninS (Ne.symm neb_211_214) nin0))
  have Xa217_b_214 := Xa216_b_214.keep K217
  have V217_b_216 := own_AFkeep r2_216 K217 (ninS (Ne.symm neb200_216) (ninS (Ne.symm neb_211_216) nin0))
  have Xa217_b_216 := r3_216.keep K217
  have R217_b_203 := own_RFkeep R216_b_203 K217 (ninS (Ne.symm neb200_203) (ninS neb_203_211 nin0))
  have Ex217_b198 := Ex216_b198.keep K217
  have F217_b198_modCount := F216_b198_modCount.keep K217 (ninS neb198_200 (ninS neb198_211 nin0))
  have F217_b198_elementData := F216_b198_elementData.keep K217 (ninS neb198_200 (ninS neb198_211 nin0))
  have F217_b198_size := F216_b198_size.keep K217 (ninS neb198_200 (ninS neb198_211 nin0))
  have O217 := O216.keep K217 (allS fr200 (allS r0_211 all0))
  refine own_step (fun t k => st217.trans k) ?_
  show own_Fin p e below s Q 64 384 (T217.setTop (mkF m 169 #[.val (.int i0), .val (.int i1), .val (.int i2), .val (.int i3), .val (.ref b198), .val (.ref b200), .unset, .unset, .unset, .unset, .unset] [(.int (1 : Int32))]))
  refine own_step (fun t k => XS.pop X217.here hx rfl (hb hby at_169) rfl rfl k) ?_
  show own_Fin p e below s Q 64 384 (T217.setTop (mkF m 170 #[.val (.int i0), .val (.int i1), .val (.int i2), .val (.int i3), .val (.ref b198), .val (.ref b200), .unset, .unset, .unset, .unset, .unset] []))
  obtain ⟨T218, h218, X218, e218, E218, A218, D218, -, st218⟩ := newO X217 hx hZ hown (hw _ (List.mem_of_getElem? (i := 66) rfl)) (hw _ (List.mem_of_getElem? (i := 67) rfl)) (hw _ (List.mem_of_getElem? (i := 68) rfl)) rfl (g := (mkF m 170 #[.val (.int i0), .val (.int i1), .val (.int i2), .val (.int i3), .val (.ref b198), .val (.ref b200), .unset, .unset, .unset, .unset, .unset] [])) rfl (hb hby at_170) (show cells + 1 + 0 + 1 + 0 + 1 + 1 + 1 + 0 + 1 + 0 + 1 + 0 + 1 + 1 + 1 + 0 + 1 + 0 + 1 + 0 + 1 ≤ 64 from (Nat.le_trans (Nat.add_le_add_right hc 13) (by decide))) (show slots + 3 + 0 + 3 + 0 + 3 + 10 + 3 + 0 + 3 + 0 + 3 + 0 + 3 + 10 + 3 + 0 + 3 + 0 + 3 + 0 + 4 ≤ 384 from (Nat.le_trans (Nat.add_le_add_right hs 54) (by decide)))
  obtain ⟨b218, gg218⟩ : ∃ z, z = T217.heap.size := ⟨_, rfl⟩
  rw [← gg218] at A218 D218 st218
  have F218_next : Fld Z h218 b218 "com/example/libentitle/libentitle/role/Graph" "next" "Lcom/example/libentitle/libentitle/role/Rows;" .null := D218 (Or.inr (hw _ (List.mem_of_getElem? (i := 120) rfl))) (ty := (.object "com/example/libentitle/libentitle/role/Rows")) (by decide)
  have F218_guardedNext : Fld Z h218 b218 "com/example/libentitle/libentitle/role/Graph" "guardedNext" "Lcom/example/libentitle/libentitle/role/Rows;" .null := D218 (Or.inr (hw _ (List.mem_of_getElem? (i := 122) rfl))) (ty := (.object "com/example/libentitle/libentitle/role/Rows")) (by decide)
  have F218_previous : Fld Z h218 b218 "com/example/libentitle/libentitle/role/Graph" "previous" "Lcom/example/libentitle/libentitle/role/Rows;" .null := D218 (Or.inr (hw _ (List.mem_of_getElem? (i := 142) rfl))) (ty := (.object "com/example/libentitle/libentitle/role/Rows")) (by decide)
  have F218_guardedPrevious : Fld Z h218 b218 "com/example/libentitle/libentitle/role/Graph" "guardedPrevious" "Lcom/example/libentitle/libentitle/role/Rows;" .null := D218 (Or.inr (hw _ (List.mem_of_getElem? (i := 144) rfl))) (ty := (.object "com/example/libentitle/libentitle/role/Rows")) (by decide)
  have fr218 : n0 ≤ b218 := Nat.le_trans Z0217 (Nat.le_of_eq gg218.symm)
  have Z0218 : n0 ≤ h218.size := Nat.le_trans Z0217 E218.1
  have neb_202_218 : b_202 ≠ b218 := Nat.ne_of_lt (Nat.lt_of_lt_of_le V217_b_202.lt (Nat.le_of_eq gg218.symm))
  have neb_204_218 : b_204 ≠ b218 := Nat.ne_of_lt (Nat.lt_of_lt_of_le V217_b_204.lt (Nat.le_of_eq gg218.symm))
  have neb_206_218 : b_206 ≠ b218 := Nat.ne_of_lt (Nat.lt_of_lt_of_le V217_b_206.lt (Nat.le_of_eq gg218.symm))
  have neb_208_218 : b_208 ≠ b218 := Nat.ne_of_lt (Nat.lt_of_lt_of_le V217_b_208.lt (Nat.le_of_eq gg218.symm))
  have neb_210_218 : b_210 ≠ b218 := Nat.ne_of_lt (Nat.lt_of_lt_of_le V217_b_210.lt (Nat.le_of_eq gg218.symm))
  have neb_212_218 : b_212 ≠ b218 := Nat.ne_of_lt (Nat.lt_of_lt_of_le V217_b_212.lt (Nat.le_of_eq gg218.symm))
  have neb_214_218 : b_214 ≠ b218 := Nat.ne_of_lt (Nat.lt_of_lt_of_le V217_b_214.lt (Nat.le_of_eq gg218.symm))
  have neb_216_218 : b_216 ≠ b218 := Nat.ne_of_lt (Nat.lt_of_lt_of_le V217_b_216.lt (Nat.le_of_eq gg218.symm))
  have neb198_218 : b198 ≠ b218 := Nat.ne_of_lt (Nat.lt_of_lt_of_le Ex217_b198.lt (Nat.le_of_eq gg218.symm))
  have neb200_218 : b200 ≠ b218 := Nat.ne_of_lt (Nat.lt_of_lt_of_le r1_217.lt (Nat.le_of_eq gg218.symm))
  have neb_203_218 : b_203 ≠ b218 := Nat.ne_of_lt (Nat.lt_of_lt_of_le R217_b_203.lt (Nat.le_of_eq gg218.symm))
  have neb_211_218 : b_211 ≠ b218 := Nat.ne_of_lt (Nat.lt_of_lt_of_le r0_217.lt (Nat.le_of_eq gg218.symm))
  have V218_b_202 := own_AFext V217_b_202 E218
  have V218_b_204 := own_AFext V217_b_204 E218
  have V218_b_206 := own_AFext V217_b_206 E218
  have V218_b_208 := own_AFext V217_b_208 E218
  have V218_b_210 := own_AFext V217_b_210 E218
  have V218_b_212 := own_AFext V217_b_212 E218
  have V218_b_214 := own_AFext V217_b_214 E218
  have V218_b_216 := own_AFext V217_b_216 E218
  have Ex218_b198 := Ex217_b198.ext E218
  have F218_b198_modCount := F217_b198_modCount.ext E218
  have F218_b198_elementData := F217_b198_elementData.ext E218
  have F218_b198_size := F217_b198_size.ext E218
  have Ex218_b200 := r1_217.ext E218
  have F218_b200_modCount := r2_217.ext E218
  have F218_b200_elementData := r3_217.ext E218
  have F218_b200_size := r4_217.ext E218
  have Xa218_b_202 := Xa217_b_202.ext E218
  have Xa218_b_204 := Xa217_b_204.ext E218
  have Xa218_b_206 := Xa217_b_206.ext E218
  have Xa218_b_208 := Xa217_b_208.ext E218
  have Xa218_b_210 := Xa217_b_210.ext E218
  have Xa218_b_212 := Xa217_b_212.ext E218
  have Xa218_b_214 := Xa217_b_214.ext E218
  have Xa218_b_216 := Xa217_b_216.ext E218
  have R218_b_203 := own_RFext R217_b_203 E218
  have R218_b_211 := own_RFext r0_217 E218
  have O218 := O217.ext E218
  refine own_step st218 ?_
  show own_Fin p e below s Q 64 384 (T218.setTop (mkF m 173 #[.val (.int i0), .val (.int i1), .val (.int i2), .val (.int i3), .val (.ref b198), .val (.ref b200), .unset, .unset, .unset, .unset, .unset] [(.ref b218)]))
  refine own_step (fun t k => XS.dup X218.here hx rfl (hb hby at_173) rfl rfl k) ?_
  show own_Fin p e below s Q 64 384 (T218.setTop (mkF m 174 #[.val (.int i0), .val (.int i1), .val (.int i2), .val (.int i3), .val (.ref b198), .val (.ref b200), .unset, .unset, .unset, .unset, .unset] [(.ref b218), (.ref b218)]))
  refine own_step (fun t k => XS.aload X218.here hx rfl (hb hby at_174) rfl rfl k) ?_
  show own_Fin p e below s Q 64 384 (T218.setTop (mkF m 176 #[.val (.int i0), .val (.int i1), .val (.int i2), .val (.int i3), .val (.ref b198), .val (.ref b200), .unset, .unset, .unset, .unset, .unset] [(.ref b198), (.ref b218), (.ref b218)]))
  refine own_step (fun t k => XS.aload X218.here hx rfl (hb hby at_176) rfl rfl k) ?_
  show own_Fin p e below s Q 64 384 (T218.setTop (mkF m 178 #[.val (.int i0), .val (.int i1), .val (.int i2), .val (.int i3), .val (.ref b198), .val (.ref b200), .unset, .unset, .unset, .unset, .unset] [(.ref b200), (.ref b198), (.ref b218), (.ref b218)]))
  obtain ⟨_, _, ⟨T219, L219, k219, n219⟩, -, X219, ⟨Lc219, hQ219, l219, y219, z219⟩, st219⟩ := X218.specialBack hx (y := (⟨"com/example/libentitle/libentitle/role/Graph", "<init>", "(Ljava/util/List;Ljava/util/List;)V"⟩ : MethodName)) rfl hown (mvT hZ (hw _ (List.mem_of_getElem? (i := 69) rfl))) (mvT hZ (hw _ (List.mem_of_getElem? (i := 70) rfl))) (mvT hZ (hw _ (List.mem_of_getElem? (i := 71) rfl))) (by decide) (backOf (W := 1) (rm11 l Z a0 hw [] b218 b198 b200 .null .null .null .null (.int (((((0 : Int32) + (1 : Int32)) + (1 : Int32)) + (1 : Int32)) + (1 : Int32))) (.int (((((0 : Int32) + (1 : Int32)) + (1 : Int32)) + (1 : Int32)) + (1 : Int32))) b_203 b_211 (fun i => if i = 3 then (.ref b_208) else (fun i => if i = 2 then (.ref b_206) else (fun i => if i = 1 then (.ref b_204) else (fun i => if i = 0 then (.ref b_202) else (fun _ => .null) i) i) i) i) (fun i => if i = 3 then (.ref b_216) else (fun i => if i = 2 then (.ref b_214) else (fun i => if i = 1 then (.ref b_212) else (fun i => if i = 0 then (.ref b_210) else (fun _ => .null) i) i) i) i) b_202 (((i0 &&& (3 : Int32))).toNatClampNeg) g_202 b_204 (((((i0.toUInt32 >>> ((2 : Int32) &&& 31).toUInt32).toInt32) &&& (3 : Int32))).toNatClampNeg) g_204 b_206 (((((i0.toUInt32 >>> ((4 : Int32) &&& 31).toUInt32).toInt32) &&& (3 : Int32))).toNatClampNeg) g_206 b_208 (((((i0.toUInt32 >>> ((6 : Int32) &&& 31).toUInt32).toInt32) &&& (3 : Int32))).toNatClampNeg) g_208 b_210 (((i1 &&& (3 : Int32))).toNatClampNeg) g_210 b_212 (((((i1.toUInt32 >>> ((2 : Int32) &&& 31).toUInt32).toInt32) &&& (3 : Int32))).toNatClampNeg) g_212 b_214 (((((i1.toUInt32 >>> ((4 : Int32) &&& 31).toUInt32).toInt32) &&& (3 : Int32))).toNatClampNeg) g_214 b_216 (((((i1.toUInt32 >>> ((6 : Int32) &&& 31).toUInt32).toInt32) &&& (3 : Int32))).toNatClampNeg) g_216 h218 n0 Z0218 fr218 A218 F218_next F218_guardedNext F218_previous F218_guardedPrevious Ex218_b198 F218_b198_modCount F218_b198_elementData F218_b198_size R218_b_203 V218_b_202 Xa218_b_202 rfl ((own_vz (own_and3 _)).1) r4_202 V218_b_204 Xa218_b_204 rfl ((own_vz (own_and3 _)).1) r4_204 V218_b_206 Xa218_b_206 rfl ((own_vz (own_and3 _)).1) r4_206 V218_b_208 Xa218_b_208 rfl ((own_vz (own_and3 _)).1) r4_208 Ex218_b200 F218_b200_modCount F218_b200_elementData F218_b200_size R218_b_211 V218_b_210 Xa218_b_210 rfl ((own_vz (own_and3 _)).1) r4_210 V218_b_212 Xa218_b_212 rfl ((own_vz (own_and3 _)).1) r4_212 V218_b_214 Xa218_b_214 rfl ((own_vz (own_and3 _)).1) r4_214 V218_b_216 Xa218_b_216 rfl ((own_vz (own_and3 _)).1) r4_216 neb198_218 neb200_218 neb_203_218 neb_211_218 neb_202_218 neb_204_218 neb_206_218 neb_208_218 neb_210_218 neb_212_218 neb_214_218 neb_216_218) hZ (hw _ (List.mem_of_getElem? (i := 71) rfl)) (hw _ (List.mem_of_getElem? (i := 68) rfl)) (by decide) (by decide)) (g := (mkF m 178 #[.val (.int i0), .val (.int i1), .val (.int i2), .val (.int i3), .val (.ref b198), .val (.ref b200), .unset, .unset, .unset, .unset, .unset] [(.ref b200), (.ref b198), (.ref b218), (.ref b218)])) rfl (by rw [hml]; rfl) (Steps.refl _) (a := b218) (argsL := [(.ref b198), (.ref b200)]) (rest := [(.ref b218)]) (lenOf pdm_15 rfl) rfl (by show 2 * 0 + _ ≤ _; exact Nat.le_of_eq rfl) (hb hby at_178) (fun _ _ => ⟨rfl, e218, (show cells + 1 + 0 + 1 + 0 + 1 + 1 + 1 + 0 + 1 + 0 + 1 + 0 + 1 + 1 + 1 + 0 + 1 + 0 + 1 + 0 + 1 + 14 ≤ 64 from (Nat.le_trans (Nat.add_le_add_right hc 27) (by decide))), (show slots + 3 + 0 + 3 + 0 + 3 + 10 + 3 + 0 + 3 + 0 + 3 + 0 + 3 + 10 + 3 + 0 + 3 + 0 + 3 + 0 + 4 + 84 ≤ 384 from (Nat.le_trans (Nat.add_le_add_right hs 138) (by decide)))⟩)
  dsimp only [Pt.U, Pt.locs, Pt.cells, Pt.slots] at X219 l219 y219 z219 st219 hQ219
  have yy219 : k219 = cells + 1 + 0 + 1 + 0 + 1 + 1 + 1 + 0 + 1 + 0 + 1 + 0 + 1 + 1 + 1 + 0 + 1 + 0 + 1 + 0 + 1 + 14 := y219
  have zz219 : n219 = slots + 3 + 0 + 3 + 0 + 3 + 10 + 3 + 0 + 3 + 0 + 3 + 0 + 3 + 10 + 3 + 0 + 3 + 0 + 3 + 0 + 4 + 84 := z219
  rw [yy219, zz219, l219] at X219
  obtain ⟨n1_219, n2_219, s1_219, s2_219, q1_219, q2_219, rfl, N219q, K219, r0_219, r1_219, r2_219, r3_219, r4_219, r5_219, r6_219, r7_219, r8_219, r9_219, r10_219, r11_219, r12_219, r13_219, r14_219, r15_219, r16_219, r17_219, r18_219⟩ := hQ219
  have N219 := Fr.app N217 N219q
  have Z0219 : n0 ≤ T219.heap.size := Nat.le_trans Z0218 K219.1
  have V219_b_202 := own_AFkeep V218_b_202 K219 (ninS neb_202_218 nin0)
  have Xa219_b_202 := Xa218_b_202.keep K219
  have V219_b_204 := own_AFkeep V218_b_204 K219 (ninS neb_204_218 nin0)
  have Xa219_b_204 := Xa218_b_204.keep K219
  have V219_b_206 := own_AFkeep V218_b_206 K219 (ninS neb_206_218 nin0)
  have Xa219_b_206 := Xa218_b_206.keep K219
  have V219_b_208 := own_AFkeep V218_b_208 K219 (ninS neb_208_218 nin0)
  have Xa219_b_208 := Xa218_b_208.keep K219
  have V219_b_210 := own_AFkeep V218_b_210 K219 (ninS neb_210_218 nin0)
  have Xa219_b_210 := Xa218_b_210.keep K219
  have V219_b_212 := own_AFkeep V218_b_212 K219 (ninS neb_212_218 nin0)
  have Xa219_b_212 := Xa218_b_212.keep K219
  have V219_b_214 := own_AFkeep V218_b_214 K219 (ninS neb_214_218 nin0)
  have Xa219_b_214 := Xa218_b_214.keep K219
  have V219_b_216 := own_AFkeep V218_b_216 K219 (ninS neb_216_218 nin0)
  have Xa219_b_216 := Xa218_b_216.keep K219
  have R219_b_203 := own_RFkeep R218_b_203 K219 (ninS neb_203_218 nin0)
  have R219_b_211 := own_RFkeep R218_b_211 K219 (ninS neb_211_218 nin0)
  have Ex219_b198 := Ex218_b198.keep K219
  have F219_b198_modCount := F218_b198_modCount.keep K219 (ninS neb198_218 nin0)
  have F219_b198_elementData := F218_b198_elementData.keep K219 (ninS neb198_218 nin0)
  have F219_b198_size := F218_b198_size.keep K219 (ninS neb198_218 nin0)
  have Ex219_b200 := Ex218_b200.keep K219
  have F219_b200_modCount := F218_b200_modCount.keep K219 (ninS neb200_218 nin0)
  have F219_b200_elementData := F218_b200_elementData.keep K219 (ninS neb200_218 nin0)
  have F219_b200_size := F218_b200_size.keep K219 (ninS neb200_218 nin0)
  have O219 := O218.keep K219 (allS fr218 all0)
  refine own_step (fun t k => st219.trans k) ?_
  show own_Fin p e below s Q 64 384 (T219.setTop (mkF m 181 #[.val (.int i0), .val (.int i1), .val (.int i2), .val (.int i3), .val (.ref b198), .val (.ref b200), .unset, .unset, .unset, .unset, .unset] [(.ref b218)]))
  refine own_step (fun t k => XS.astore X219.here hx rfl (hb hby at_181) rfl rfl (l' := #[.val (.int i0), .val (.int i1), .val (.int i2), .val (.int i3), .val (.ref b198), .val (.ref b200), .val (.ref b218), .unset, .unset, .unset, .unset]) rfl k) ?_
  show own_Fin p e below s Q 64 384 (T219.setTop (mkF m 183 #[.val (.int i0), .val (.int i1), .val (.int i2), .val (.int i3), .val (.ref b198), .val (.ref b200), .val (.ref b218), .unset, .unset, .unset, .unset] []))
  refine own_step (fun t k => XS.aload X219.here hx rfl (hb hby at_183) rfl rfl k) ?_
  show own_Fin p e below s Q 64 384 (T219.setTop (mkF m 185 #[.val (.int i0), .val (.int i1), .val (.int i2), .val (.int i3), .val (.ref b198), .val (.ref b200), .val (.ref b218), .unset, .unset, .unset, .unset] [(.ref b218)]))
  refine own_step (fun t k => XS.iconst X219.here hx rfl (hb hby at_185) k) ?_
  show own_Fin p e below s Q 64 384 (T219.setTop (mkF m 186 #[.val (.int i0), .val (.int i1), .val (.int i2), .val (.int i3), .val (.ref b198), .val (.ref b200), .val (.ref b218), .unset, .unset, .unset, .unset] [(.int (0 : Int32)), (.ref b218)]))
  obtain ⟨cq220, kq220, q220a, q220b, q220c⟩ := isOf hZ rfl r0_219
  obtain ⟨_, _, ⟨T220, L220, k220, n220⟩, -, X220, ⟨Lc220, hQ220, l220, y220, z220⟩, st220⟩ := X219.virtualBack hx (y := (⟨"com/example/libentitle/libentitle/role/Graph", "leads", "(I)Z"⟩ : MethodName)) (z := (⟨"com/example/libentitle/libentitle/role/Graph", "leads", "(I)Z"⟩ : MethodName)) hown (mvT hZ (hw _ (List.mem_of_getElem? (i := 145) rfl))) (mvT hZ (hw _ (List.mem_of_getElem? (i := 146) rfl))) (notFace_of_selects (args := #[]) (mvT hZ (hw _ (List.mem_of_getElem? (i := 148) rfl)))) (mvT hZ (hw _ (List.mem_of_getElem? (i := 148) rfl))) (mvT hZ (hw _ (List.mem_of_getElem? (i := 147) rfl))) (by decide) (backOf (W := 0) (rm22 l Z a0 hw [] b218 (0 : Int32) n1_219 n2_219 s1_219 s2_219 q1_219 q2_219 T219.heap n0 r1_219 r2_219 r3_219 r4_219 r5_219 r11_219 r12_219 r13_219 (by unfold own_In; decide) (by unfold own_In; decide)) hZ (hw _ (List.mem_of_getElem? (i := 149) rfl)) (hw _ (List.mem_of_getElem? (i := 68) rfl)) (by decide) (by decide)) q220a q220c (g := (mkF m 186 #[.val (.int i0), .val (.int i1), .val (.int i2), .val (.int i3), .val (.ref b198), .val (.ref b200), .val (.ref b218), .unset, .unset, .unset, .unset] [(.int (0 : Int32)), (.ref b218)])) rfl (by rw [hml]; rfl) (Steps.refl _) (argsL := [(.int (0 : Int32))]) (rest := []) (lenOf pdm_16 rfl) rfl (by show 2 * 0 + _ ≤ _; exact Nat.le_of_eq rfl) (hb hby at_186) (fun _ _ => ⟨rfl, rfl, (show cells + 1 + 0 + 1 + 0 + 1 + 1 + 1 + 0 + 1 + 0 + 1 + 0 + 1 + 1 + 1 + 0 + 1 + 0 + 1 + 0 + 1 + 14 + 0 ≤ 64 from (Nat.le_trans (Nat.add_le_add_right hc 27) (by decide))), (show slots + 3 + 0 + 3 + 0 + 3 + 10 + 3 + 0 + 3 + 0 + 3 + 0 + 3 + 10 + 3 + 0 + 3 + 0 + 3 + 0 + 4 + 84 + 0 ≤ 384 from (Nat.le_trans (Nat.add_le_add_right hs 138) (by decide)))⟩)
  dsimp only [Pt.U, Pt.locs, Pt.cells, Pt.slots] at X220 l220 y220 z220 st220 hQ220
  have yy220 : k220 = cells + 1 + 0 + 1 + 0 + 1 + 1 + 1 + 0 + 1 + 0 + 1 + 0 + 1 + 1 + 1 + 0 + 1 + 0 + 1 + 0 + 1 + 14 + 0 := y220
  have zz220 : n220 = slots + 3 + 0 + 3 + 0 + 3 + 10 + 3 + 0 + 3 + 0 + 3 + 0 + 3 + 10 + 3 + 0 + 3 + 0 + 3 + 0 + 4 + 84 + 0 := z220
  rw [yy220, zz220, l220] at X220
  obtain ⟨rfl, N220q, e220⟩ := hQ220
  have N220 := Fr.app N219 N220q
  refine own_step (fun t k => st220.trans k) ?_
  show own_Fin p e below s Q 64 384 (T220.setTop (mkF m 189 #[.val (.int i0), .val (.int i1), .val (.int i2), .val (.int i3), .val (.ref b198), .val (.ref b200), .val (.ref b218), .unset, .unset, .unset, .unset] [(.int (f22_0 (0 : Int32) q1_219 q2_219))]))
  refine own_step (fun t k => XS.iloadN X220.here hx rfl (hb hby at_189) rfl  k) ?_
  show own_Fin p e below s Q 64 384 (T220.setTop (mkF m 190 #[.val (.int i0), .val (.int i1), .val (.int i2), .val (.int i3), .val (.ref b198), .val (.ref b200), .val (.ref b218), .unset, .unset, .unset, .unset] [(.int i0), (.int (f22_0 (0 : Int32) q1_219 q2_219))]))
  refine own_step (fun t k => XS.iloadN X220.here hx rfl (hb hby at_190) rfl  k) ?_
  show own_Fin p e below s Q 64 384 (T220.setTop (mkF m 191 #[.val (.int i0), .val (.int i1), .val (.int i2), .val (.int i3), .val (.ref b198), .val (.ref b200), .val (.ref b218), .unset, .unset, .unset, .unset] [(.int i1), (.int i0), (.int (f22_0 (0 : Int32) q1_219 q2_219))]))
  refine own_step (fun t k => XS.iconst X220.here hx rfl (hb hby at_191) k) ?_
  show own_Fin p e below s Q 64 384 (T220.setTop (mkF m 192 #[.val (.int i0), .val (.int i1), .val (.int i2), .val (.int i3), .val (.ref b198), .val (.ref b200), .val (.ref b218), .unset, .unset, .unset, .unset] [(.int (0 : Int32)), (.int i1), (.int i0), (.int (f22_0 (0 : Int32) q1_219 q2_219))]))
  obtain ⟨_, _, ⟨T221, L221, k221, n221⟩, -, X221, ⟨Lc221, hQ221, l221, y221, z221⟩, st221⟩ := Jvm.LawKit.callS X220 hx (y := (⟨"com/example/libentitle/libentitle/role/GraphLeadsPinLaw", "expected", "(III)Z"⟩ : MethodName)) hown (mvT hZ (hw _ (List.mem_of_getElem? (i := 155) rfl))) (mvT hZ (hw _ (List.mem_of_getElem? (i := 156) rfl))) (mvT hZ (hw _ (List.mem_of_getElem? (i := 28) rfl))) (mvT hZ (hw _ (List.mem_of_getElem? (i := 157) rfl))) (by decide) (backOf (W := 1) (rm24 l Z a0 hw [] i0 i1 (0 : Int32) T219.heap n0) hZ (hw _ (List.mem_of_getElem? (i := 157) rfl)) (hw _ (List.mem_of_getElem? (i := 28) rfl)) (by decide) (by decide)) (g := (mkF m 192 #[.val (.int i0), .val (.int i1), .val (.int i2), .val (.int i3), .val (.ref b198), .val (.ref b200), .val (.ref b218), .unset, .unset, .unset, .unset] [(.int (0 : Int32)), (.int i1), (.int i0), (.int (f22_0 (0 : Int32) q1_219 q2_219))])) rfl (by rw [hml]; rfl) (argsL := [(.int i0), (.int i1), (.int (0 : Int32))]) (rest := [(.int (f22_0 (0 : Int32) q1_219 q2_219))]) (lenOf pdm_17 rfl) rfl (by show 2 * 0 + _ ≤ _; exact Nat.le_of_eq rfl) (hb hby at_192) (fun _ _ => ⟨rfl, e220, (show cells + 1 + 0 + 1 + 0 + 1 + 1 + 1 + 0 + 1 + 0 + 1 + 0 + 1 + 1 + 1 + 0 + 1 + 0 + 1 + 0 + 1 + 14 + 0 + 0 ≤ 64 from (Nat.le_trans (Nat.add_le_add_right hc 27) (by decide))), (show slots + 3 + 0 + 3 + 0 + 3 + 10 + 3 + 0 + 3 + 0 + 3 + 0 + 3 + 10 + 3 + 0 + 3 + 0 + 3 + 0 + 4 + 84 + 0 + 0 ≤ 384 from (Nat.le_trans (Nat.add_le_add_right hs 138) (by decide)))⟩)
  dsimp only [Pt.U, Pt.locs, Pt.cells, Pt.slots] at X221 l221 y221 z221 st221 hQ221
  have yy221 : k221 = cells + 1 + 0 + 1 + 0 + 1 + 1 + 1 + 0 + 1 + 0 + 1 + 0 + 1 + 1 + 1 + 0 + 1 + 0 + 1 + 0 + 1 + 14 + 0 + 0 := y221
  have zz221 : n221 = slots + 3 + 0 + 3 + 0 + 3 + 10 + 3 + 0 + 3 + 0 + 3 + 0 + 3 + 10 + 3 + 0 + 3 + 0 + 3 + 0 + 4 + 84 + 0 + 0 := z221
  rw [yy221, zz221, l221] at X221
  obtain ⟨rfl, N221q, e221⟩ := hQ221
  have N221 := Fr.app N220 N221q
  refine own_step st221 ?_
  show own_Fin p e below s Q 64 384 (T221.setTop (mkF m 195 #[.val (.int i0), .val (.int i1), .val (.int i2), .val (.int i3), .val (.ref b198), .val (.ref b200), .val (.ref b218), .unset, .unset, .unset, .unset] [(.int (f24_0 i0 i1 (0 : Int32))), (.int (f22_0 (0 : Int32) q1_219 q2_219))]))
  refine own_step (fun t k => XS.icmpNo X221.here hx rfl (hb hby at_195) rfl (teq (own_lead0 _ _ i0 i1 _ _ r6_219 r7_219 r14_219 r15_219)).2 k) ?_
  show own_Fin p e below s Q 64 384 (T221.setTop (mkF m 198 #[.val (.int i0), .val (.int i1), .val (.int i2), .val (.int i3), .val (.ref b198), .val (.ref b200), .val (.ref b218), .unset, .unset, .unset, .unset] []))
  refine own_step (fun t k => XS.iconst X221.here hx rfl (hb hby at_198) k) ?_
  show own_Fin p e below s Q 64 384 (T221.setTop (mkF m 199 #[.val (.int i0), .val (.int i1), .val (.int i2), .val (.int i3), .val (.ref b198), .val (.ref b200), .val (.ref b218), .unset, .unset, .unset, .unset] [(.int (1 : Int32))]))
  refine own_step (fun t k => XS.goto X221.here hx rfl (pc0 := 199) (pc' := 203) rfl (hb hby at_199) (by decide) (by decide) k) ?_
  show own_Fin p e below s Q 64 384 (T221.setTop (mkF m 203 #[.val (.int i0), .val (.int i1), .val (.int i2), .val (.int i3), .val (.ref b198), .val (.ref b200), .val (.ref b218), .unset, .unset, .unset, .unset] [(.int (1 : Int32))]))
  refine own_step (fun t k => XS.istore X221.here hx rfl (hb hby at_203) rfl (l' := #[.val (.int i0), .val (.int i1), .val (.int i2), .val (.int i3), .val (.ref b198), .val (.ref b200), .val (.ref b218), .val (.int (1 : Int32)), .unset, .unset, .unset]) rfl k) ?_
  show own_Fin p e below s Q 64 384 (T221.setTop (mkF m 205 #[.val (.int i0), .val (.int i1), .val (.int i2), .val (.int i3), .val (.ref b198), .val (.ref b200), .val (.ref b218), .val (.int (1 : Int32)), .unset, .unset, .unset] []))
  refine own_step (fun t k => XS.aload X221.here hx rfl (hb hby at_205) rfl rfl k) ?_
  show own_Fin p e below s Q 64 384 (T221.setTop (mkF m 207 #[.val (.int i0), .val (.int i1), .val (.int i2), .val (.int i3), .val (.ref b198), .val (.ref b200), .val (.ref b218), .val (.int (1 : Int32)), .unset, .unset, .unset] [(.ref b218)]))
  refine own_step (fun t k => XS.iconst X221.here hx rfl (hb hby at_207) k) ?_
  show own_Fin p e below s Q 64 384 (T221.setTop (mkF m 208 #[.val (.int i0), .val (.int i1), .val (.int i2), .val (.int i3), .val (.ref b198), .val (.ref b200), .val (.ref b218), .val (.int (1 : Int32)), .unset, .unset, .unset] [(.int (1 : Int32)), (.ref b218)]))
  obtain ⟨cq222, kq222, q222a, q222b, q222c⟩ := isOf hZ e221 r0_219
  obtain ⟨_, _, ⟨T222, L222, k222, n222⟩, -, X222, ⟨Lc222, hQ222, l222, y222, z222⟩, st222⟩ := X221.virtualBack hx (y := (⟨"com/example/libentitle/libentitle/role/Graph", "leads", "(I)Z"⟩ : MethodName)) (z := (⟨"com/example/libentitle/libentitle/role/Graph", "leads", "(I)Z"⟩ : MethodName)) hown (mvT hZ (hw _ (List.mem_of_getElem? (i := 145) rfl))) (mvT hZ (hw _ (List.mem_of_getElem? (i := 146) rfl))) (notFace_of_selects (args := #[]) (mvT hZ (hw _ (List.mem_of_getElem? (i := 148) rfl)))) (mvT hZ (hw _ (List.mem_of_getElem? (i := 148) rfl))) (mvT hZ (hw _ (List.mem_of_getElem? (i := 147) rfl))) (by decide) (backOf (W := 0) (rm22 l Z a0 hw [] b218 (1 : Int32) n1_219 n2_219 s1_219 s2_219 q1_219 q2_219 T219.heap n0 r1_219 r2_219 r3_219 r4_219 r5_219 r11_219 r12_219 r13_219 (by unfold own_In; decide) (by unfold own_In; decide)) hZ (hw _ (List.mem_of_getElem? (i := 149) rfl)) (hw _ (List.mem_of_getElem? (i := 68) rfl)) (by decide) (by decide)) q222a q222c (g := (mkF m 208 #[.val (.int i0), .val (.int i1), .val (.int i2), .val (.int i3), .val (.ref b198), .val (.ref b200), .val (.ref b218), .val (.int (1 : Int32)), .unset, .unset, .unset] [(.int (1 : Int32)), (.ref b218)])) rfl (by rw [hml]; rfl) (Steps.refl _) (argsL := [(.int (1 : Int32))]) (rest := []) (lenOf pdm_16 rfl) rfl (by show 2 * 0 + _ ≤ _; exact Nat.le_of_eq rfl) (hb hby at_208) (fun _ _ => ⟨rfl, e221, (show cells + 1 + 0 + 1 + 0 + 1 + 1 + 1 + 0 + 1 + 0 + 1 + 0 + 1 + 1 + 1 + 0 + 1 + 0 + 1 + 0 + 1 + 14 + 0 + 0 + 0 ≤ 64 from (Nat.le_trans (Nat.add_le_add_right hc 27) (by decide))), (show slots + 3 + 0 + 3 + 0 + 3 + 10 + 3 + 0 + 3 + 0 + 3 + 0 + 3 + 10 + 3 + 0 + 3 + 0 + 3 + 0 + 4 + 84 + 0 + 0 + 0 ≤ 384 from (Nat.le_trans (Nat.add_le_add_right hs 138) (by decide)))⟩)
  dsimp only [Pt.U, Pt.locs, Pt.cells, Pt.slots] at X222 l222 y222 z222 st222 hQ222
  have yy222 : k222 = cells + 1 + 0 + 1 + 0 + 1 + 1 + 1 + 0 + 1 + 0 + 1 + 0 + 1 + 1 + 1 + 0 + 1 + 0 + 1 + 0 + 1 + 14 + 0 + 0 + 0 := y222
  have zz222 : n222 = slots + 3 + 0 + 3 + 0 + 3 + 10 + 3 + 0 + 3 + 0 + 3 + 0 + 3 + 10 + 3 + 0 + 3 + 0 + 3 + 0 + 4 + 84 + 0 + 0 + 0 := z222
  rw [yy222, zz222, l222] at X222
  obtain ⟨rfl, N222q, e222⟩ := hQ222
  have N222 := Fr.app N221 N222q
  refine own_step (fun t k => st222.trans k) ?_
  show own_Fin p e below s Q 64 384 (T222.setTop (mkF m 211 #[.val (.int i0), .val (.int i1), .val (.int i2), .val (.int i3), .val (.ref b198), .val (.ref b200), .val (.ref b218), .val (.int (1 : Int32)), .unset, .unset, .unset] [(.int (f22_0 (1 : Int32) q1_219 q2_219))]))
  refine own_step (fun t k => XS.iloadN X222.here hx rfl (hb hby at_211) rfl  k) ?_
  show own_Fin p e below s Q 64 384 (T222.setTop (mkF m 212 #[.val (.int i0), .val (.int i1), .val (.int i2), .val (.int i3), .val (.ref b198), .val (.ref b200), .val (.ref b218), .val (.int (1 : Int32)), .unset, .unset, .unset] [(.int i0), (.int (f22_0 (1 : Int32) q1_219 q2_219))]))
  refine own_step (fun t k => XS.iloadN X222.here hx rfl (hb hby at_212) rfl  k) ?_
  show own_Fin p e below s Q 64 384 (T222.setTop (mkF m 213 #[.val (.int i0), .val (.int i1), .val (.int i2), .val (.int i3), .val (.ref b198), .val (.ref b200), .val (.ref b218), .val (.int (1 : Int32)), .unset, .unset, .unset] [(.int i1), (.int i0), (.int (f22_0 (1 : Int32) q1_219 q2_219))]))
  refine own_step (fun t k => XS.iconst X222.here hx rfl (hb hby at_213) k) ?_
  show own_Fin p e below s Q 64 384 (T222.setTop (mkF m 214 #[.val (.int i0), .val (.int i1), .val (.int i2), .val (.int i3), .val (.ref b198), .val (.ref b200), .val (.ref b218), .val (.int (1 : Int32)), .unset, .unset, .unset] [(.int (1 : Int32)), (.int i1), (.int i0), (.int (f22_0 (1 : Int32) q1_219 q2_219))]))
  obtain ⟨_, _, ⟨T223, L223, k223, n223⟩, -, X223, ⟨Lc223, hQ223, l223, y223, z223⟩, st223⟩ := Jvm.LawKit.callS X222 hx (y := (⟨"com/example/libentitle/libentitle/role/GraphLeadsPinLaw", "expected", "(III)Z"⟩ : MethodName)) hown (mvT hZ (hw _ (List.mem_of_getElem? (i := 155) rfl))) (mvT hZ (hw _ (List.mem_of_getElem? (i := 156) rfl))) (mvT hZ (hw _ (List.mem_of_getElem? (i := 28) rfl))) (mvT hZ (hw _ (List.mem_of_getElem? (i := 157) rfl))) (by decide) (backOf (W := 1) (rm24 l Z a0 hw [] i0 i1 (1 : Int32) T219.heap n0) hZ (hw _ (List.mem_of_getElem? (i := 157) rfl)) (hw _ (List.mem_of_getElem? (i := 28) rfl)) (by decide) (by decide)) (g := (mkF m 214 #[.val (.int i0), .val (.int i1), .val (.int i2), .val (.int i3), .val (.ref b198), .val (.ref b200), .val (.ref b218), .val (.int (1 : Int32)), .unset, .unset, .unset] [(.int (1 : Int32)), (.int i1), (.int i0), (.int (f22_0 (1 : Int32) q1_219 q2_219))])) rfl (by rw [hml]; rfl) (argsL := [(.int i0), (.int i1), (.int (1 : Int32))]) (rest := [(.int (f22_0 (1 : Int32) q1_219 q2_219))]) (lenOf pdm_17 rfl) rfl (by show 2 * 0 + _ ≤ _; exact Nat.le_of_eq rfl) (hb hby at_214) (fun _ _ => ⟨rfl, e222, (show cells + 1 + 0 + 1 + 0 + 1 + 1 + 1 + 0 + 1 + 0 + 1 + 0 + 1 + 1 + 1 + 0 + 1 + 0 + 1 + 0 + 1 + 14 + 0 + 0 + 0 + 0 ≤ 64 from (Nat.le_trans (Nat.add_le_add_right hc 27) (by decide))), (show slots + 3 + 0 + 3 + 0 + 3 + 10 + 3 + 0 + 3 + 0 + 3 + 0 + 3 + 10 + 3 + 0 + 3 + 0 + 3 + 0 + 4 + 84 + 0 + 0 + 0 + 0 ≤ 384 from (Nat.le_trans (Nat.add_le_add_right hs 138) (by decide)))⟩)
  dsimp only [Pt.U, Pt.locs, Pt.cells, Pt.slots] at X223 l223 y223 z223 st223 hQ223
  have yy223 : k223 = cells + 1 + 0 + 1 + 0 + 1 + 1 + 1 + 0 + 1 + 0 + 1 + 0 + 1 + 1 + 1 + 0 + 1 + 0 + 1 + 0 + 1 + 14 + 0 + 0 + 0 + 0 := y223
  have zz223 : n223 = slots + 3 + 0 + 3 + 0 + 3 + 10 + 3 + 0 + 3 + 0 + 3 + 0 + 3 + 10 + 3 + 0 + 3 + 0 + 3 + 0 + 4 + 84 + 0 + 0 + 0 + 0 := z223
  rw [yy223, zz223, l223] at X223
  obtain ⟨rfl, N223q, e223⟩ := hQ223
  have N223 := Fr.app N222 N223q
  refine own_step st223 ?_
  show own_Fin p e below s Q 64 384 (T223.setTop (mkF m 217 #[.val (.int i0), .val (.int i1), .val (.int i2), .val (.int i3), .val (.ref b198), .val (.ref b200), .val (.ref b218), .val (.int (1 : Int32)), .unset, .unset, .unset] [(.int (f24_0 i0 i1 (1 : Int32))), (.int (f22_0 (1 : Int32) q1_219 q2_219))]))
  refine own_step (fun t k => XS.icmpNo X223.here hx rfl (hb hby at_217) rfl (teq (own_lead1 _ _ i0 i1 _ _ r7_219 r8_219 r15_219 r16_219)).2 k) ?_
  show own_Fin p e below s Q 64 384 (T223.setTop (mkF m 220 #[.val (.int i0), .val (.int i1), .val (.int i2), .val (.int i3), .val (.ref b198), .val (.ref b200), .val (.ref b218), .val (.int (1 : Int32)), .unset, .unset, .unset] []))
  refine own_step (fun t k => XS.iconst X223.here hx rfl (hb hby at_220) k) ?_
  show own_Fin p e below s Q 64 384 (T223.setTop (mkF m 221 #[.val (.int i0), .val (.int i1), .val (.int i2), .val (.int i3), .val (.ref b198), .val (.ref b200), .val (.ref b218), .val (.int (1 : Int32)), .unset, .unset, .unset] [(.int (1 : Int32))]))
  refine own_step (fun t k => XS.goto X223.here hx rfl (pc0 := 221) (pc' := 225) rfl (hb hby at_221) (by decide) (by decide) k) ?_
  show own_Fin p e below s Q 64 384 (T223.setTop (mkF m 225 #[.val (.int i0), .val (.int i1), .val (.int i2), .val (.int i3), .val (.ref b198), .val (.ref b200), .val (.ref b218), .val (.int (1 : Int32)), .unset, .unset, .unset] [(.int (1 : Int32))]))
  refine own_step (fun t k => XS.istore X223.here hx rfl (hb hby at_225) rfl (l' := #[.val (.int i0), .val (.int i1), .val (.int i2), .val (.int i3), .val (.ref b198), .val (.ref b200), .val (.ref b218), .val (.int (1 : Int32)), .val (.int (1 : Int32)), .unset, .unset]) rfl k) ?_
  show own_Fin p e below s Q 64 384 (T223.setTop (mkF m 227 #[.val (.int i0), .val (.int i1), .val (.int i2), .val (.int i3), .val (.ref b198), .val (.ref b200), .val (.ref b218), .val (.int (1 : Int32)), .val (.int (1 : Int32)), .unset, .unset] []))
  refine own_step (fun t k => XS.aload X223.here hx rfl (hb hby at_227) rfl rfl k) ?_
  show own_Fin p e below s Q 64 384 (T223.setTop (mkF m 229 #[.val (.int i0), .val (.int i1), .val (.int i2), .val (.int i3), .val (.ref b198), .val (.ref b200), .val (.ref b218), .val (.int (1 : Int32)), .val (.int (1 : Int32)), .unset, .unset] [(.ref b218)]))
  refine own_step (fun t k => XS.iconst X223.here hx rfl (hb hby at_229) k) ?_
  show own_Fin p e below s Q 64 384 (T223.setTop (mkF m 230 #[.val (.int i0), .val (.int i1), .val (.int i2), .val (.int i3), .val (.ref b198), .val (.ref b200), .val (.ref b218), .val (.int (1 : Int32)), .val (.int (1 : Int32)), .unset, .unset] [(.int (2 : Int32)), (.ref b218)]))
  obtain ⟨cq224, kq224, q224a, q224b, q224c⟩ := isOf hZ e223 r0_219
  obtain ⟨_, _, ⟨T224, L224, k224, n224⟩, -, X224, ⟨Lc224, hQ224, l224, y224, z224⟩, st224⟩ := X223.virtualBack hx (y := (⟨"com/example/libentitle/libentitle/role/Graph", "leads", "(I)Z"⟩ : MethodName)) (z := (⟨"com/example/libentitle/libentitle/role/Graph", "leads", "(I)Z"⟩ : MethodName)) hown (mvT hZ (hw _ (List.mem_of_getElem? (i := 145) rfl))) (mvT hZ (hw _ (List.mem_of_getElem? (i := 146) rfl))) (notFace_of_selects (args := #[]) (mvT hZ (hw _ (List.mem_of_getElem? (i := 148) rfl)))) (mvT hZ (hw _ (List.mem_of_getElem? (i := 148) rfl))) (mvT hZ (hw _ (List.mem_of_getElem? (i := 147) rfl))) (by decide) (backOf (W := 0) (rm22 l Z a0 hw [] b218 (2 : Int32) n1_219 n2_219 s1_219 s2_219 q1_219 q2_219 T219.heap n0 r1_219 r2_219 r3_219 r4_219 r5_219 r11_219 r12_219 r13_219 (by unfold own_In; decide) (by unfold own_In; decide)) hZ (hw _ (List.mem_of_getElem? (i := 149) rfl)) (hw _ (List.mem_of_getElem? (i := 68) rfl)) (by decide) (by decide)) q224a q224c (g := (mkF m 230 #[.val (.int i0), .val (.int i1), .val (.int i2), .val (.int i3), .val (.ref b198), .val (.ref b200), .val (.ref b218), .val (.int (1 : Int32)), .val (.int (1 : Int32)), .unset, .unset] [(.int (2 : Int32)), (.ref b218)])) rfl (by rw [hml]; rfl) (Steps.refl _) (argsL := [(.int (2 : Int32))]) (rest := []) (lenOf pdm_16 rfl) rfl (by show 2 * 0 + _ ≤ _; exact Nat.le_of_eq rfl) (hb hby at_230) (fun _ _ => ⟨rfl, e223, (show cells + 1 + 0 + 1 + 0 + 1 + 1 + 1 + 0 + 1 + 0 + 1 + 0 + 1 + 1 + 1 + 0 + 1 + 0 + 1 + 0 + 1 + 14 + 0 + 0 + 0 + 0 + 0 ≤ 64 from (Nat.le_trans (Nat.add_le_add_right hc 27) (by decide))), (show slots + 3 + 0 + 3 + 0 + 3 + 10 + 3 + 0 + 3 + 0 + 3 + 0 + 3 + 10 + 3 + 0 + 3 + 0 + 3 + 0 + 4 + 84 + 0 + 0 + 0 + 0 + 0 ≤ 384 from (Nat.le_trans (Nat.add_le_add_right hs 138) (by decide)))⟩)
  dsimp only [Pt.U, Pt.locs, Pt.cells, Pt.slots] at X224 l224 y224 z224 st224 hQ224
  have yy224 : k224 = cells + 1 + 0 + 1 + 0 + 1 + 1 + 1 + 0 + 1 + 0 + 1 + 0 + 1 + 1 + 1 + 0 + 1 + 0 + 1 + 0 + 1 + 14 + 0 + 0 + 0 + 0 + 0 := y224
  have zz224 : n224 = slots + 3 + 0 + 3 + 0 + 3 + 10 + 3 + 0 + 3 + 0 + 3 + 0 + 3 + 10 + 3 + 0 + 3 + 0 + 3 + 0 + 4 + 84 + 0 + 0 + 0 + 0 + 0 := z224
  rw [yy224, zz224, l224] at X224
  obtain ⟨rfl, N224q, e224⟩ := hQ224
  have N224 := Fr.app N223 N224q
  refine own_step (fun t k => st224.trans k) ?_
  show own_Fin p e below s Q 64 384 (T224.setTop (mkF m 233 #[.val (.int i0), .val (.int i1), .val (.int i2), .val (.int i3), .val (.ref b198), .val (.ref b200), .val (.ref b218), .val (.int (1 : Int32)), .val (.int (1 : Int32)), .unset, .unset] [(.int (f22_0 (2 : Int32) q1_219 q2_219))]))
  refine own_step (fun t k => XS.iloadN X224.here hx rfl (hb hby at_233) rfl  k) ?_
  show own_Fin p e below s Q 64 384 (T224.setTop (mkF m 234 #[.val (.int i0), .val (.int i1), .val (.int i2), .val (.int i3), .val (.ref b198), .val (.ref b200), .val (.ref b218), .val (.int (1 : Int32)), .val (.int (1 : Int32)), .unset, .unset] [(.int i0), (.int (f22_0 (2 : Int32) q1_219 q2_219))]))
  refine own_step (fun t k => XS.iloadN X224.here hx rfl (hb hby at_234) rfl  k) ?_
  show own_Fin p e below s Q 64 384 (T224.setTop (mkF m 235 #[.val (.int i0), .val (.int i1), .val (.int i2), .val (.int i3), .val (.ref b198), .val (.ref b200), .val (.ref b218), .val (.int (1 : Int32)), .val (.int (1 : Int32)), .unset, .unset] [(.int i1), (.int i0), (.int (f22_0 (2 : Int32) q1_219 q2_219))]))
  refine own_step (fun t k => XS.iconst X224.here hx rfl (hb hby at_235) k) ?_
  show own_Fin p e below s Q 64 384 (T224.setTop (mkF m 236 #[.val (.int i0), .val (.int i1), .val (.int i2), .val (.int i3), .val (.ref b198), .val (.ref b200), .val (.ref b218), .val (.int (1 : Int32)), .val (.int (1 : Int32)), .unset, .unset] [(.int (2 : Int32)), (.int i1), (.int i0), (.int (f22_0 (2 : Int32) q1_219 q2_219))]))
  obtain ⟨_, _, ⟨T225, L225, k225, n225⟩, -, X225, ⟨Lc225, hQ225, l225, y225, z225⟩, st225⟩ := Jvm.LawKit.callS X224 hx (y := (⟨"com/example/libentitle/libentitle/role/GraphLeadsPinLaw", "expected", "(III)Z"⟩ : MethodName)) hown (mvT hZ (hw _ (List.mem_of_getElem? (i := 155) rfl))) (mvT hZ (hw _ (List.mem_of_getElem? (i := 156) rfl))) (mvT hZ (hw _ (List.mem_of_getElem? (i := 28) rfl))) (mvT hZ (hw _ (List.mem_of_getElem? (i := 157) rfl))) (by decide) (backOf (W := 1) (rm24 l Z a0 hw [] i0 i1 (2 : Int32) T219.heap n0) hZ (hw _ (List.mem_of_getElem? (i := 157) rfl)) (hw _ (List.mem_of_getElem? (i := 28) rfl)) (by decide) (by decide)) (g := (mkF m 236 #[.val (.int i0), .val (.int i1), .val (.int i2), .val (.int i3), .val (.ref b198), .val (.ref b200), .val (.ref b218), .val (.int (1 : Int32)), .val (.int (1 : Int32)), .unset, .unset] [(.int (2 : Int32)), (.int i1), (.int i0), (.int (f22_0 (2 : Int32) q1_219 q2_219))])) rfl (by rw [hml]; rfl) (argsL := [(.int i0), (.int i1), (.int (2 : Int32))]) (rest := [(.int (f22_0 (2 : Int32) q1_219 q2_219))]) (lenOf pdm_17 rfl) rfl (by show 2 * 0 + _ ≤ _; exact Nat.le_of_eq rfl) (hb hby at_236) (fun _ _ => ⟨rfl, e224, (show cells + 1 + 0 + 1 + 0 + 1 + 1 + 1 + 0 + 1 + 0 + 1 + 0 + 1 + 1 + 1 + 0 + 1 + 0 + 1 + 0 + 1 + 14 + 0 + 0 + 0 + 0 + 0 + 0 ≤ 64 from (Nat.le_trans (Nat.add_le_add_right hc 27) (by decide))), (show slots + 3 + 0 + 3 + 0 + 3 + 10 + 3 + 0 + 3 + 0 + 3 + 0 + 3 + 10 + 3 + 0 + 3 + 0 + 3 + 0 + 4 + 84 + 0 + 0 + 0 + 0 + 0 + 0 ≤ 384 from (Nat.le_trans (Nat.add_le_add_right hs 138) (by decide)))⟩)
  dsimp only [Pt.U, Pt.locs, Pt.cells, Pt.slots] at X225 l225 y225 z225 st225 hQ225
  have yy225 : k225 = cells + 1 + 0 + 1 + 0 + 1 + 1 + 1 + 0 + 1 + 0 + 1 + 0 + 1 + 1 + 1 + 0 + 1 + 0 + 1 + 0 + 1 + 14 + 0 + 0 + 0 + 0 + 0 + 0 := y225
  have zz225 : n225 = slots + 3 + 0 + 3 + 0 + 3 + 10 + 3 + 0 + 3 + 0 + 3 + 0 + 3 + 10 + 3 + 0 + 3 + 0 + 3 + 0 + 4 + 84 + 0 + 0 + 0 + 0 + 0 + 0 := z225
  rw [yy225, zz225, l225] at X225
  obtain ⟨rfl, N225q, e225⟩ := hQ225
  have N225 := Fr.app N224 N225q
  refine own_step st225 ?_
  show own_Fin p e below s Q 64 384 (T225.setTop (mkF m 239 #[.val (.int i0), .val (.int i1), .val (.int i2), .val (.int i3), .val (.ref b198), .val (.ref b200), .val (.ref b218), .val (.int (1 : Int32)), .val (.int (1 : Int32)), .unset, .unset] [(.int (f24_0 i0 i1 (2 : Int32))), (.int (f22_0 (2 : Int32) q1_219 q2_219))]))
  refine own_step (fun t k => XS.icmpNo X225.here hx rfl (hb hby at_239) rfl (teq (own_lead2 _ _ i0 i1 _ _ r8_219 r9_219 r16_219 r17_219)).2 k) ?_
  show own_Fin p e below s Q 64 384 (T225.setTop (mkF m 242 #[.val (.int i0), .val (.int i1), .val (.int i2), .val (.int i3), .val (.ref b198), .val (.ref b200), .val (.ref b218), .val (.int (1 : Int32)), .val (.int (1 : Int32)), .unset, .unset] []))
  refine own_step (fun t k => XS.iconst X225.here hx rfl (hb hby at_242) k) ?_
  show own_Fin p e below s Q 64 384 (T225.setTop (mkF m 243 #[.val (.int i0), .val (.int i1), .val (.int i2), .val (.int i3), .val (.ref b198), .val (.ref b200), .val (.ref b218), .val (.int (1 : Int32)), .val (.int (1 : Int32)), .unset, .unset] [(.int (1 : Int32))]))
  refine own_step (fun t k => XS.goto X225.here hx rfl (pc0 := 243) (pc' := 247) rfl (hb hby at_243) (by decide) (by decide) k) ?_
  show own_Fin p e below s Q 64 384 (T225.setTop (mkF m 247 #[.val (.int i0), .val (.int i1), .val (.int i2), .val (.int i3), .val (.ref b198), .val (.ref b200), .val (.ref b218), .val (.int (1 : Int32)), .val (.int (1 : Int32)), .unset, .unset] [(.int (1 : Int32))]))
  refine own_step (fun t k => XS.istore X225.here hx rfl (hb hby at_247) rfl (l' := #[.val (.int i0), .val (.int i1), .val (.int i2), .val (.int i3), .val (.ref b198), .val (.ref b200), .val (.ref b218), .val (.int (1 : Int32)), .val (.int (1 : Int32)), .val (.int (1 : Int32)), .unset]) rfl k) ?_
  show own_Fin p e below s Q 64 384 (T225.setTop (mkF m 249 #[.val (.int i0), .val (.int i1), .val (.int i2), .val (.int i3), .val (.ref b198), .val (.ref b200), .val (.ref b218), .val (.int (1 : Int32)), .val (.int (1 : Int32)), .val (.int (1 : Int32)), .unset] []))
  refine own_step (fun t k => XS.aload X225.here hx rfl (hb hby at_249) rfl rfl k) ?_
  show own_Fin p e below s Q 64 384 (T225.setTop (mkF m 251 #[.val (.int i0), .val (.int i1), .val (.int i2), .val (.int i3), .val (.ref b198), .val (.ref b200), .val (.ref b218), .val (.int (1 : Int32)), .val (.int (1 : Int32)), .val (.int (1 : Int32)), .unset] [(.ref b218)]))
  refine own_step (fun t k => XS.iconst X225.here hx rfl (hb hby at_251) k) ?_
  show own_Fin p e below s Q 64 384 (T225.setTop (mkF m 252 #[.val (.int i0), .val (.int i1), .val (.int i2), .val (.int i3), .val (.ref b198), .val (.ref b200), .val (.ref b218), .val (.int (1 : Int32)), .val (.int (1 : Int32)), .val (.int (1 : Int32)), .unset] [(.int (3 : Int32)), (.ref b218)]))
  obtain ⟨cq226, kq226, q226a, q226b, q226c⟩ := isOf hZ e225 r0_219
  obtain ⟨_, _, ⟨T226, L226, k226, n226⟩, -, X226, ⟨Lc226, hQ226, l226, y226, z226⟩, st226⟩ := X225.virtualBack hx (y := (⟨"com/example/libentitle/libentitle/role/Graph", "leads", "(I)Z"⟩ : MethodName)) (z := (⟨"com/example/libentitle/libentitle/role/Graph", "leads", "(I)Z"⟩ : MethodName)) hown (mvT hZ (hw _ (List.mem_of_getElem? (i := 145) rfl))) (mvT hZ (hw _ (List.mem_of_getElem? (i := 146) rfl))) (notFace_of_selects (args := #[]) (mvT hZ (hw _ (List.mem_of_getElem? (i := 148) rfl)))) (mvT hZ (hw _ (List.mem_of_getElem? (i := 148) rfl))) (mvT hZ (hw _ (List.mem_of_getElem? (i := 147) rfl))) (by decide) (backOf (W := 0) (rm22 l Z a0 hw [] b218 (3 : Int32) n1_219 n2_219 s1_219 s2_219 q1_219 q2_219 T219.heap n0 r1_219 r2_219 r3_219 r4_219 r5_219 r11_219 r12_219 r13_219 (by unfold own_In; decide) (by unfold own_In; decide)) hZ (hw _ (List.mem_of_getElem? (i := 149) rfl)) (hw _ (List.mem_of_getElem? (i := 68) rfl)) (by decide) (by decide)) q226a q226c (g := (mkF m 252 #[.val (.int i0), .val (.int i1), .val (.int i2), .val (.int i3), .val (.ref b198), .val (.ref b200), .val (.ref b218), .val (.int (1 : Int32)), .val (.int (1 : Int32)), .val (.int (1 : Int32)), .unset] [(.int (3 : Int32)), (.ref b218)])) rfl (by rw [hml]; rfl) (Steps.refl _) (argsL := [(.int (3 : Int32))]) (rest := []) (lenOf pdm_16 rfl) rfl (by show 2 * 0 + _ ≤ _; exact Nat.le_of_eq rfl) (hb hby at_252) (fun _ _ => ⟨rfl, e225, (show cells + 1 + 0 + 1 + 0 + 1 + 1 + 1 + 0 + 1 + 0 + 1 + 0 + 1 + 1 + 1 + 0 + 1 + 0 + 1 + 0 + 1 + 14 + 0 + 0 + 0 + 0 + 0 + 0 + 0 ≤ 64 from (Nat.le_trans (Nat.add_le_add_right hc 27) (by decide))), (show slots + 3 + 0 + 3 + 0 + 3 + 10 + 3 + 0 + 3 + 0 + 3 + 0 + 3 + 10 + 3 + 0 + 3 + 0 + 3 + 0 + 4 + 84 + 0 + 0 + 0 + 0 + 0 + 0 + 0 ≤ 384 from (Nat.le_trans (Nat.add_le_add_right hs 138) (by decide)))⟩)
  dsimp only [Pt.U, Pt.locs, Pt.cells, Pt.slots] at X226 l226 y226 z226 st226 hQ226
  have yy226 : k226 = cells + 1 + 0 + 1 + 0 + 1 + 1 + 1 + 0 + 1 + 0 + 1 + 0 + 1 + 1 + 1 + 0 + 1 + 0 + 1 + 0 + 1 + 14 + 0 + 0 + 0 + 0 + 0 + 0 + 0 := y226
  have zz226 : n226 = slots + 3 + 0 + 3 + 0 + 3 + 10 + 3 + 0 + 3 + 0 + 3 + 0 + 3 + 10 + 3 + 0 + 3 + 0 + 3 + 0 + 4 + 84 + 0 + 0 + 0 + 0 + 0 + 0 + 0 := z226
  rw [yy226, zz226, l226] at X226
  obtain ⟨rfl, N226q, e226⟩ := hQ226
  have N226 := Fr.app N225 N226q
  refine own_step (fun t k => st226.trans k) ?_
  show own_Fin p e below s Q 64 384 (T226.setTop (mkF m 255 #[.val (.int i0), .val (.int i1), .val (.int i2), .val (.int i3), .val (.ref b198), .val (.ref b200), .val (.ref b218), .val (.int (1 : Int32)), .val (.int (1 : Int32)), .val (.int (1 : Int32)), .unset] [(.int (f22_0 (3 : Int32) q1_219 q2_219))]))
  refine own_step (fun t k => XS.iloadN X226.here hx rfl (hb hby at_255) rfl  k) ?_
  show own_Fin p e below s Q 64 384 (T226.setTop (mkF m 256 #[.val (.int i0), .val (.int i1), .val (.int i2), .val (.int i3), .val (.ref b198), .val (.ref b200), .val (.ref b218), .val (.int (1 : Int32)), .val (.int (1 : Int32)), .val (.int (1 : Int32)), .unset] [(.int i0), (.int (f22_0 (3 : Int32) q1_219 q2_219))]))
  refine own_step (fun t k => XS.iloadN X226.here hx rfl (hb hby at_256) rfl  k) ?_
  show own_Fin p e below s Q 64 384 (T226.setTop (mkF m 257 #[.val (.int i0), .val (.int i1), .val (.int i2), .val (.int i3), .val (.ref b198), .val (.ref b200), .val (.ref b218), .val (.int (1 : Int32)), .val (.int (1 : Int32)), .val (.int (1 : Int32)), .unset] [(.int i1), (.int i0), (.int (f22_0 (3 : Int32) q1_219 q2_219))]))
  refine own_step (fun t k => XS.iconst X226.here hx rfl (hb hby at_257) k) ?_
  show own_Fin p e below s Q 64 384 (T226.setTop (mkF m 258 #[.val (.int i0), .val (.int i1), .val (.int i2), .val (.int i3), .val (.ref b198), .val (.ref b200), .val (.ref b218), .val (.int (1 : Int32)), .val (.int (1 : Int32)), .val (.int (1 : Int32)), .unset] [(.int (3 : Int32)), (.int i1), (.int i0), (.int (f22_0 (3 : Int32) q1_219 q2_219))]))
  obtain ⟨_, _, ⟨T227, L227, k227, n227⟩, -, X227, ⟨Lc227, hQ227, l227, y227, z227⟩, st227⟩ := Jvm.LawKit.callS X226 hx (y := (⟨"com/example/libentitle/libentitle/role/GraphLeadsPinLaw", "expected", "(III)Z"⟩ : MethodName)) hown (mvT hZ (hw _ (List.mem_of_getElem? (i := 155) rfl))) (mvT hZ (hw _ (List.mem_of_getElem? (i := 156) rfl))) (mvT hZ (hw _ (List.mem_of_getElem? (i := 28) rfl))) (mvT hZ (hw _ (List.mem_of_getElem? (i := 157) rfl))) (by decide) (backOf (W := 1) (rm24 l Z a0 hw [] i0 i1 (3 : Int32) T219.heap n0) hZ (hw _ (List.mem_of_getElem? (i := 157) rfl)) (hw _ (List.mem_of_getElem? (i := 28) rfl)) (by decide) (by decide)) (g := (mkF m 258 #[.val (.int i0), .val (.int i1), .val (.int i2), .val (.int i3), .val (.ref b198), .val (.ref b200), .val (.ref b218), .val (.int (1 : Int32)), .val (.int (1 : Int32)), .val (.int (1 : Int32)), .unset] [(.int (3 : Int32)), (.int i1), (.int i0), (.int (f22_0 (3 : Int32) q1_219 q2_219))])) rfl (by rw [hml]; rfl) (argsL := [(.int i0), (.int i1), (.int (3 : Int32))]) (rest := [(.int (f22_0 (3 : Int32) q1_219 q2_219))]) (lenOf pdm_17 rfl) rfl (by show 2 * 0 + _ ≤ _; exact Nat.le_of_eq rfl) (hb hby at_258) (fun _ _ => ⟨rfl, e226, (show cells + 1 + 0 + 1 + 0 + 1 + 1 + 1 + 0 + 1 + 0 + 1 + 0 + 1 + 1 + 1 + 0 + 1 + 0 + 1 + 0 + 1 + 14 + 0 + 0 + 0 + 0 + 0 + 0 + 0 + 0 ≤ 64 from (Nat.le_trans (Nat.add_le_add_right hc 27) (by decide))), (show slots + 3 + 0 + 3 + 0 + 3 + 10 + 3 + 0 + 3 + 0 + 3 + 0 + 3 + 10 + 3 + 0 + 3 + 0 + 3 + 0 + 4 + 84 + 0 + 0 + 0 + 0 + 0 + 0 + 0 + 0 ≤ 384 from (Nat.le_trans (Nat.add_le_add_right hs 138) (by decide)))⟩)
  dsimp only [Pt.U, Pt.locs, Pt.cells, Pt.slots] at X227 l227 y227 z227 st227 hQ227
  have yy227 : k227 = cells + 1 + 0 + 1 + 0 + 1 + 1 + 1 + 0 + 1 + 0 + 1 + 0 + 1 + 1 + 1 + 0 + 1 + 0 + 1 + 0 + 1 + 14 + 0 + 0 + 0 + 0 + 0 + 0 + 0 + 0 := y227
  have zz227 : n227 = slots + 3 + 0 + 3 + 0 + 3 + 10 + 3 + 0 + 3 + 0 + 3 + 0 + 3 + 10 + 3 + 0 + 3 + 0 + 3 + 0 + 4 + 84 + 0 + 0 + 0 + 0 + 0 + 0 + 0 + 0 := z227
  rw [yy227, zz227, l227] at X227
  obtain ⟨rfl, N227q, e227⟩ := hQ227
  have N227 := Fr.app N226 N227q
  refine own_step st227 ?_
  show own_Fin p e below s Q 64 384 (T227.setTop (mkF m 261 #[.val (.int i0), .val (.int i1), .val (.int i2), .val (.int i3), .val (.ref b198), .val (.ref b200), .val (.ref b218), .val (.int (1 : Int32)), .val (.int (1 : Int32)), .val (.int (1 : Int32)), .unset] [(.int (f24_0 i0 i1 (3 : Int32))), (.int (f22_0 (3 : Int32) q1_219 q2_219))]))
  refine own_step (fun t k => XS.icmpNo X227.here hx rfl (hb hby at_261) rfl (teq (own_lead3 _ _ i0 i1 _ _ r9_219 r10_219 r17_219 r18_219)).2 k) ?_
  show own_Fin p e below s Q 64 384 (T227.setTop (mkF m 264 #[.val (.int i0), .val (.int i1), .val (.int i2), .val (.int i3), .val (.ref b198), .val (.ref b200), .val (.ref b218), .val (.int (1 : Int32)), .val (.int (1 : Int32)), .val (.int (1 : Int32)), .unset] []))
  refine own_step (fun t k => XS.iconst X227.here hx rfl (hb hby at_264) k) ?_
  show own_Fin p e below s Q 64 384 (T227.setTop (mkF m 265 #[.val (.int i0), .val (.int i1), .val (.int i2), .val (.int i3), .val (.ref b198), .val (.ref b200), .val (.ref b218), .val (.int (1 : Int32)), .val (.int (1 : Int32)), .val (.int (1 : Int32)), .unset] [(.int (1 : Int32))]))
  refine own_step (fun t k => XS.goto X227.here hx rfl (pc0 := 265) (pc' := 269) rfl (hb hby at_265) (by decide) (by decide) k) ?_
  show own_Fin p e below s Q 64 384 (T227.setTop (mkF m 269 #[.val (.int i0), .val (.int i1), .val (.int i2), .val (.int i3), .val (.ref b198), .val (.ref b200), .val (.ref b218), .val (.int (1 : Int32)), .val (.int (1 : Int32)), .val (.int (1 : Int32)), .unset] [(.int (1 : Int32))]))
  refine own_step (fun t k => XS.istore X227.here hx rfl (hb hby at_269) rfl (l' := #[.val (.int i0), .val (.int i1), .val (.int i2), .val (.int i3), .val (.ref b198), .val (.ref b200), .val (.ref b218), .val (.int (1 : Int32)), .val (.int (1 : Int32)), .val (.int (1 : Int32)), .val (.int (1 : Int32))]) rfl k) ?_
  show own_Fin p e below s Q 64 384 (T227.setTop (mkF m 271 #[.val (.int i0), .val (.int i1), .val (.int i2), .val (.int i3), .val (.ref b198), .val (.ref b200), .val (.ref b218), .val (.int (1 : Int32)), .val (.int (1 : Int32)), .val (.int (1 : Int32)), .val (.int (1 : Int32))] []))
  refine own_step (fun t k => XS.iload X227.here hx rfl (hb hby at_271) rfl  k) ?_
  show own_Fin p e below s Q 64 384 (T227.setTop (mkF m 273 #[.val (.int i0), .val (.int i1), .val (.int i2), .val (.int i3), .val (.ref b198), .val (.ref b200), .val (.ref b218), .val (.int (1 : Int32)), .val (.int (1 : Int32)), .val (.int (1 : Int32)), .val (.int (1 : Int32))] [(.int (1 : Int32))]))
  refine own_step (fun t k => XS.ifNo X227.here hx rfl (hb hby at_273) rfl ((if0 _ _).trans (feq (by decide : ¬ ((1 : Int32) = (0 : Int32)))).1) k) ?_
  show own_Fin p e below s Q 64 384 (T227.setTop (mkF m 276 #[.val (.int i0), .val (.int i1), .val (.int i2), .val (.int i3), .val (.ref b198), .val (.ref b200), .val (.ref b218), .val (.int (1 : Int32)), .val (.int (1 : Int32)), .val (.int (1 : Int32)), .val (.int (1 : Int32))] []))
  refine own_step (fun t k => XS.iload X227.here hx rfl (hb hby at_276) rfl  k) ?_
  show own_Fin p e below s Q 64 384 (T227.setTop (mkF m 278 #[.val (.int i0), .val (.int i1), .val (.int i2), .val (.int i3), .val (.ref b198), .val (.ref b200), .val (.ref b218), .val (.int (1 : Int32)), .val (.int (1 : Int32)), .val (.int (1 : Int32)), .val (.int (1 : Int32))] [(.int (1 : Int32))]))
  refine own_step (fun t k => XS.ifNo X227.here hx rfl (hb hby at_278) rfl ((if0 _ _).trans (feq (by decide : ¬ ((1 : Int32) = (0 : Int32)))).1) k) ?_
  show own_Fin p e below s Q 64 384 (T227.setTop (mkF m 281 #[.val (.int i0), .val (.int i1), .val (.int i2), .val (.int i3), .val (.ref b198), .val (.ref b200), .val (.ref b218), .val (.int (1 : Int32)), .val (.int (1 : Int32)), .val (.int (1 : Int32)), .val (.int (1 : Int32))] []))
  refine own_step (fun t k => XS.iload X227.here hx rfl (hb hby at_281) rfl  k) ?_
  show own_Fin p e below s Q 64 384 (T227.setTop (mkF m 283 #[.val (.int i0), .val (.int i1), .val (.int i2), .val (.int i3), .val (.ref b198), .val (.ref b200), .val (.ref b218), .val (.int (1 : Int32)), .val (.int (1 : Int32)), .val (.int (1 : Int32)), .val (.int (1 : Int32))] [(.int (1 : Int32))]))
  refine own_step (fun t k => XS.ifNo X227.here hx rfl (hb hby at_283) rfl ((if0 _ _).trans (feq (by decide : ¬ ((1 : Int32) = (0 : Int32)))).1) k) ?_
  show own_Fin p e below s Q 64 384 (T227.setTop (mkF m 286 #[.val (.int i0), .val (.int i1), .val (.int i2), .val (.int i3), .val (.ref b198), .val (.ref b200), .val (.ref b218), .val (.int (1 : Int32)), .val (.int (1 : Int32)), .val (.int (1 : Int32)), .val (.int (1 : Int32))] []))
  refine own_step (fun t k => XS.iload X227.here hx rfl (hb hby at_286) rfl  k) ?_
  show own_Fin p e below s Q 64 384 (T227.setTop (mkF m 288 #[.val (.int i0), .val (.int i1), .val (.int i2), .val (.int i3), .val (.ref b198), .val (.ref b200), .val (.ref b218), .val (.int (1 : Int32)), .val (.int (1 : Int32)), .val (.int (1 : Int32)), .val (.int (1 : Int32))] [(.int (1 : Int32))]))
  refine own_step (fun t k => XS.ifNo X227.here hx rfl (hb hby at_288) rfl ((if0 _ _).trans (feq (by decide : ¬ ((1 : Int32) = (0 : Int32)))).1) k) ?_
  show own_Fin p e below s Q 64 384 (T227.setTop (mkF m 291 #[.val (.int i0), .val (.int i1), .val (.int i2), .val (.int i3), .val (.ref b198), .val (.ref b200), .val (.ref b218), .val (.int (1 : Int32)), .val (.int (1 : Int32)), .val (.int (1 : Int32)), .val (.int (1 : Int32))] []))
  refine own_step (fun t k => XS.iconst X227.here hx rfl (hb hby at_291) k) ?_
  show own_Fin p e below s Q 64 384 (T227.setTop (mkF m 292 #[.val (.int i0), .val (.int i1), .val (.int i2), .val (.int i3), .val (.ref b198), .val (.ref b200), .val (.ref b218), .val (.int (1 : Int32)), .val (.int (1 : Int32)), .val (.int (1 : Int32)), .val (.int (1 : Int32))] [(.int (1 : Int32))]))
  refine own_step (fun t k => XS.goto X227.here hx rfl (pc0 := 292) (pc' := 296) rfl (hb hby at_292) (by decide) (by decide) k) ?_
  show own_Fin p e below s Q 64 384 (T227.setTop (mkF m 296 #[.val (.int i0), .val (.int i1), .val (.int i2), .val (.int i3), .val (.ref b198), .val (.ref b200), .val (.ref b218), .val (.int (1 : Int32)), .val (.int (1 : Int32)), .val (.int (1 : Int32)), .val (.int (1 : Int32))] [(.int (1 : Int32))]))
  exact own_retN X227 hx hlk hret (by simp) (hb hby at_296) (Nat.le_trans (Nat.add_le_add_right hc 27) (by decide)) (Nat.le_trans (Nat.add_le_add_right hs 138) (by decide)) rfl N227 (fun L' n' => hQ _ L' n') (rfl)
theorem pdm_18 : parseMethodDescriptor "(IIII)Z" = some ⟨[.int, .int, .int, .int], some .boolean⟩ := by decide +kernel
theorem ef_0 (m : MethodId) (i0 : Int32) (i1 : Int32) (i2 : Int32) (i3 : Int32) : entryFrame m #[(.int i0), (.int i1), (.int i2), (.int i3)] maxLocals = (mkF m 0 #[.val (.int i0), .val (.int i1), .val (.int i2), .val (.int i3), .unset, .unset, .unset, .unset, .unset, .unset, .unset] []) := by first | (simp [entryFrame, mkF, argsToLocals, Value.category, maxLocals]; done) | rfl
def Q0 (i0 : Int32) (i1 : Int32) (i2 : Int32) (i3 : Int32) (h0 : Heap) (n0 : Nat) (v : Option Value) (h : Heap) (L : List Loc) : Prop := v = some (.int 1) ∧ Fr n0 L
set_option maxRecDepth 65536 in
set_option maxHeartbeats 4000000 in
theorem rm0 (l : Launch) (Z : State) (a0 : Array Value) (hw : ∀ d ∈ tables_1, d.before a0 Z = true) (ws : List Jvm.Cond) (i0 : Int32) (i1 : Int32) (i2 : Int32) (i3 : Int32) (h0 : Heap) (n0 : Nat) (D : Addr) (S0 : Sta Z Z.heap "java/util/ArrayList" "DEFAULTCAPACITY_EMPTY_ELEMENTDATA" "[Ljava/lang/Object;" (.ref D)) (DA : own_D Z D) (Z0 : n0 ≤ h0.size) (hO : Old Z n0 h0) :
    MetFree l x (head1 (Jvm.Cond.code x code maxLocals ret :: ws) room_1) (fun a U => a = #[(.int i0), (.int i1), (.int i2), (.int i3)] ∧ Z.Warmed39 U.vm ∧ U.heap = h0) (fun _ _ _ _ _ => True) (fun _ U o U' => ∃ v L, o = .returned v ∧ Q0 i0 i1 i2 i3 h0 n0 v U'.heap L ∧ FrameEnd U o U' L 64 384) := by
  refine MetFree.of_bodySF (plainFor_of_name pnm_6) hisR ?_
  intro p e s m args below meth c s₁ Bd hml0 hP hK
  obtain ⟨rfl, hZ, hh⟩ := hP
  have hx := Bd.exec
  have hby := Bd.bytes
  have hml : c.maxLocals = 11 := hml0
  have hown : s.vm.findClass "com/example/libentitle/libentitle/role/GraphLeadsPinLaw" = some m.cls := findClass_of_methodNamed Bd.named
  have X0 : Stand p l e room_1 s m #[(.int i0), (.int i1), (.int i2), (.int i3)] below meth c s₁ [] 0 0 := Stand.of_body Bd
  have e0 : s₁.heap = h0 := by rw [← hh, Bd.state]; rfl
  have fin := b0_0 i0 i1 i2 i3 (Q := Q0 i0 i1 i2 i3 h0 n0) hw X0 hx hZ hby hml hown Bd.returns (BodyLoose.notSynchronized Bd) e0 (Fr.nil n0) (Nat.zero_le _) (Nat.zero_le _) D S0 DA hO Z0 (fun H' L' n' => ⟨rfl, n'⟩)
  exact own_step (fun t k => castTop (ef_0 m i0 i1 i2 i3) k) fin
set_option maxRecDepth 65536 in
set_option maxHeartbeats 40000000 in
theorem comes_1 {Post : Tables → Env → Array Value → State → Outcome → State → Prop} (hpost : ∀ tb e args s v u, (limb_1_1.after args s (.returned v) u = true ∧ limb_1_2.after args s (.returned v) u = true ∧ True) → FrameEnd s (.returned v) u (Jvm.fieldLocs frame_1_writes args s ++ Jvm.arrayLocs frame_1_arrays args s ++ Jvm.staticLocs frame_1_statics s) 64 384 → Post tb e args s (.returned v) u) :
    ArmFor flags0 classFile x code maxLocals ret World_1 tables_1 room_1 Calls_1 rest_1 Pre_1 Post := by
  intro l hfl _ _ p e ha hc hk s m args below hf hA hF happ hP
  obtain ⟨hcalls, hrest, hpre⟩ := hP
  obtain ⟨-, -, -, hnamed, -, -, -, hat⟩ := (Spec.applies_iff hf).mp happ
  obtain ⟨hg, hn⟩ := and_e (Cond.before_iff.mp (show (Jvm.Cond.and given_1 narrow_1).before args s = true from hpre))
  obtain ⟨g1, g2⟩ := and_e hg
  obtain ⟨g3, g4⟩ := and_e g2
  obtain ⟨g5, g6⟩ := and_e g4
  obtain ⟨g7, g8⟩ := and_e g6
  obtain ⟨w0, w1, w2, w3, rfl⟩ : ∃ w0 w1 w2 w3 : Value, args = #[w0, w1, w2, w3] := by
    have hs : args.size = 4 := by simpa [Cond.value, given_1] using g1
    obtain ⟨L⟩ := args
    match L, hs with
    | [w0, w1, w2, w3], _ => exact ⟨w0, w1, w2, w3, rfl⟩
  have hw := fun d (hd : d ∈ tables_1) => atoms_spec (ws := Jvm.Cond.code x code maxLocals ret :: tables_1) hat d (List.mem_cons_of_mem _ hd)
  obtain ⟨i0, ei0⟩ := is_v g3
  obtain rfl : w0 = (.int i0) := Option.some.inj ei0
  obtain ⟨i1, ei1⟩ := is_v g5
  obtain rfl : w1 = (.int i1) := Option.some.inj ei1
  obtain ⟨i2, ei2⟩ := is_v g7
  obtain rfl : w2 = (.int i2) := Option.some.inj ei2
  obtain ⟨i3, ei3⟩ := is_v g8
  obtain rfl : w3 = (.int i3) := Option.some.inj ei3
  obtain ⟨hsets, hown0⟩ := atoms_of _ (rest_1_c_eq ▸ (show rest_1_c.before _ s = true from hrest))
  obtain ⟨D, S0, DA⟩ := own_statics _ s hsets (hw _ (List.mem_of_getElem? (i := 2) rfl))
  obtain ⟨n, o, h1, h2, h3, _, L, rfl, ⟨hval, N⟩, hq⟩ := rm0 l s _ hw tables_1 i0 i1 i2 i3 s.heap s.heap.size D S0 DA (Nat.le_refl _) (Old.start s) p e ha hc hk s m _ below hf ((Spec.applies_iff_loose hf).mp happ).1 ⟨rfl, State.Warmed39.refl s, rfl⟩ trivial
  subst hval
  refine ⟨n, _, h1, h2, h3, hpost _ _ _ _ _ _ ⟨Cond.after_iff.mpr rfl, Cond.after_iff.mpr (eq_i res_at (Term.int_eval (1)) rfl), trivial⟩ ⟨hq.1, hq.2.1, (hq.2.2.sift fun y hy => Or.inr (N y hy)).mono (by decide) (by decide)⟩⟩
theorem main_1_1 : Claimed_1_1 := comes_1 fun _ _ _ _ _ _ h hF => ⟨h.1, hF⟩
theorem main_1_2 : Claimed_1_2 := comes_1 fun _ _ _ _ _ _ h hF => ⟨h.2.1, hF⟩
end Jvm.Pilot.@@N@@
namespace Jvm.Pilot.@@N@@
open Jvm Jvm.ClassFile Sem Op Lib Jvm.Free Jvm.Stand Jvm.Pilot.@@N@@.Jvm.D
/-! MADE BY PROGRAM (witnessworld.py) out of the Statement's table words and the real class files: 24 classes; the members and pool entries that the words name. The judged class is class 1, her method 3. -/
namespace start1
open Jvm.ClassFile
def u (s : String) : CpInfo := .utf8 (stringToUtf16 s)
/-- a pool by its gaps: so many unusable entries, then the entry; so many at the end -/
def gap : Nat → List CpInfo → List CpInfo
  | 0, r => r
  | n + 1, r => .unusable :: gap n r
def poolList (es : List (Nat × CpInfo)) (last : Nat) : List CpInfo := es.foldr (fun e r => gap e.1 (e.2 :: r)) (gap last [])
def pool (es : List (Nat × CpInfo)) (last : Nat) : Array CpInfo := ⟨poolList es last⟩
def fileOf (pool : Array CpInfo) (this : Nat) (attrs : Array Attribute := #[]) (ms : Array MethodInfo := #[]) (fl : Nat := 33) (sup : Nat := 0) (ifs : Array Nat := #[]) (fds : Array FieldInfo := #[]) : ClassFile where
  minorVersion := 0
  majorVersion := 65
  constantPool := pool
  accessFlags := fl
  thisClass := this
  superClass := sup
  interfaces := ifs
  fields := fds
  methods := ms
  attributes := attrs
def plain (name : String) (sup : Option ClassId) : Class where
  name := name
  kind := .ordinary
  loader := none
  accessFlags := 33
  super := sup
  interfaces := #[]
  cf := none
  fields := #[]
  methods := #[]
  instanceTypes := #[]
  staticTypes := #[]
  resolved := #[]
  callSites := []
  init := .initialized
  statics := none
  mirror := none

def pool0 : Array CpInfo := pool [(5, u "<init>"), (0, u "()V"), (1, .class_ 10), (1, u "java/lang/Object")] 113

def k0c0 : Code := { maxStack := 0, maxLocals := 1, code := object_method_1_code, exceptionTable := #[], attributes := #[] }
def k0m0 : Method := { name := "<init>", desc := "()V", sig := { parameters := [], returnType := none }, accessFlags := 1, code := some k0c0 }
/-- java/lang/Object -/
def k0 : Class := { plain "java/lang/Object" none with
  accessFlags := 33
  interfaces := #[]
  cf := some (fileOf pool0 8 #[] #[{ accessFlags := 1, nameIndex := 5, descriptorIndex := 6, attributes := #[] }] 33 0 #[] #[])
  fields := #[]
  methods := #[k0m0]
  instanceTypes := #[]
  staticTypes := #[]
  resolved := Array.replicate 124 none
  statics := none }

def pool1 : Array CpInfo := pool [(2, .class_ 4), (0, .nameAndType 5 6), (0, u "java/lang/Object"), (0, u "<init>"), (0, u "()V"), (0, .class_ 8), (0, u "java/util/ArrayList"), (0, .methodref 7 3), (0, .methodref 11 12), (0, .class_ 13), (0, .nameAndType 14 15), (0, u "com/example/libentitle/libentitle/role/GraphLeadsPinLaw"), (0, u "row"), (0, u "(II)[I"), (0, .interfaceMethodref 17 18), (0, .class_ 19), (0, .nameAndType 20 21), (0, u "java/util/List"), (0, u "add"), (0, u "(Ljava/lang/Object;)Z"), (0, .class_ 23), (0, u "com/example/libentitle/libentitle/role/Graph"), (0, .methodref 22 25), (0, .nameAndType 5 26), (0, u "(Ljava/util/List;Ljava/util/List;)V"), (0, .methodref 22 28), (0, .nameAndType 29 30), (0, u "leads"), (0, u "(I)Z"), (0, .methodref 11 32), (0, .nameAndType 33 34), (0, u "expected"), (0, u "(III)Z"), (3, u "law"), (0, u "(IIII)Z")] 2

def k1m0 : Method := { name := "<init>", desc := "()V", sig := { parameters := [], returnType := none }, accessFlags := 1, code := none }
def k1c1 : Code := { maxStack := 4, maxLocals := 5, code := method_2_code, exceptionTable := #[], attributes := #[] }
def k1m1 : Method := { name := "row", desc := "(II)[I", sig := { parameters := [.int, .int], returnType := some (.array .int) }, accessFlags := 10, code := some k1c1 }
def k1c2 : Code := { maxStack := 3, maxLocals := 5, code := method_3_code, exceptionTable := #[], attributes := #[] }
def k1m2 : Method := { name := "expected", desc := "(III)Z", sig := { parameters := [.int, .int, .int], returnType := some .boolean }, accessFlags := 10, code := some k1c2 }
def k1c3 : Code := { maxStack := 4, maxLocals := 11, code := code, exceptionTable := #[], attributes := #[] }
def k1m3 : Method := { name := "law", desc := "(IIII)Z", sig := { parameters := [.int, .int, .int, .int], returnType := some .boolean }, accessFlags := 9, code := some k1c3 }
/-- com/example/libentitle/libentitle/role/GraphLeadsPinLaw -/
def k1 : Class := { plain "com/example/libentitle/libentitle/role/GraphLeadsPinLaw" (some 0) with
  accessFlags := 49
  interfaces := #[]
  cf := some (fileOf pool1 11 #[] #[{ accessFlags := 1, nameIndex := 5, descriptorIndex := 6, attributes := #[] }, { accessFlags := 10, nameIndex := 14, descriptorIndex := 15, attributes := #[] }, { accessFlags := 10, nameIndex := 33, descriptorIndex := 34, attributes := #[] }, { accessFlags := 9, nameIndex := 38, descriptorIndex := 39, attributes := #[] }] 49 2 #[] #[])
  fields := #[]
  methods := #[k1m0, k1m1, k1m2, k1m3]
  instanceTypes := #[]
  staticTypes := #[]
  resolved := Array.replicate 42 none
  statics := none }

def pool2 : Array CpInfo := pool [(8, .class_ 10), (1, u "java/lang/Iterable"), (24, .class_ 36), (0, u "java/lang/Object")] 25

/-- java/lang/Iterable -/
def k2 : Class := { plain "java/lang/Iterable" (some 0) with
  accessFlags := 1537
  interfaces := #[]
  cf := some (fileOf pool2 8 #[] #[] 1537 35 #[] #[])
  fields := #[]
  methods := #[]
  instanceTypes := #[]
  staticTypes := #[]
  resolved := Array.replicate 62 none
  statics := none }

def pool3 : Array CpInfo := pool [(10, .class_ 12), (1, u "java/util/Collection"), (47, .class_ 61), (0, u "java/lang/Object"), (0, .class_ 63), (0, u "java/lang/Iterable")] 51

/-- java/util/Collection -/
def k3 : Class := { plain "java/util/Collection" (some 0) with
  accessFlags := 1537
  interfaces := #[2]
  cf := some (fileOf pool3 10 #[] #[] 1537 60 #[62] #[])
  fields := #[]
  methods := #[]
  instanceTypes := #[]
  staticTypes := #[]
  resolved := Array.replicate 115 none
  statics := none }

def pool4 : Array CpInfo := pool [(1, .methodref 2 3), (0, .class_ 4), (0, .nameAndType 5 6), (0, u "java/lang/Object"), (0, u "<init>"), (0, u "()V"), (1, .class_ 10), (1, u "java/util/AbstractCollection"), (66, .class_ 78), (0, u "java/util/Collection")] 81

def k4c0 : Code := { maxStack := 1, maxLocals := 1, code := jdk_22_method_1_code, exceptionTable := #[], attributes := #[] }
def k4m0 : Method := { name := "<init>", desc := "()V", sig := { parameters := [], returnType := none }, accessFlags := 4, code := some k4c0 }
/-- java/util/AbstractCollection -/
def k4 : Class := { plain "java/util/AbstractCollection" (some 0) with
  accessFlags := 1057
  interfaces := #[3]
  cf := some (fileOf pool4 8 #[] #[{ accessFlags := 4, nameIndex := 5, descriptorIndex := 6, attributes := #[] }] 1057 2 #[77] #[])
  fields := #[]
  methods := #[k4m0]
  instanceTypes := #[]
  staticTypes := #[]
  resolved := Array.replicate 160 none
  statics := none }

def pool5 : Array CpInfo := pool [(8, .class_ 10), (1, u "java/util/SequencedCollection"), (15, .class_ 27), (0, u "java/lang/Object"), (0, .class_ 29), (0, u "java/util/Collection")] 27

/-- java/util/SequencedCollection -/
def k5 : Class := { plain "java/util/SequencedCollection" (some 0) with
  accessFlags := 1537
  interfaces := #[3]
  cf := some (fileOf pool5 8 #[] #[] 1537 26 #[28] #[])
  fields := #[]
  methods := #[]
  instanceTypes := #[]
  staticTypes := #[]
  resolved := Array.replicate 57 none
  statics := none }

def pool6 : Array CpInfo := pool [(8, .class_ 10), (1, u "java/util/List"), (49, u "add"), (3, u "(Ljava/lang/Object;)Z"), (10, u "get"), (0, u "(I)Ljava/lang/Object;"), (2, u "size"), (0, u "()I"), (22, .class_ 104), (0, u "java/lang/Object"), (15, .class_ 121), (0, u "java/util/SequencedCollection")] 129

def k6m0 : Method := { name := "size", desc := "()I", sig := { parameters := [], returnType := some .int }, accessFlags := 1025, code := none }
def k6m1 : Method := { name := "add", desc := "(Ljava/lang/Object;)Z", sig := { parameters := [(.object "java/lang/Object")], returnType := some .boolean }, accessFlags := 1025, code := none }
def k6m2 : Method := { name := "get", desc := "(I)Ljava/lang/Object;", sig := { parameters := [.int], returnType := some (.object "java/lang/Object") }, accessFlags := 1025, code := none }
/-- java/util/List -/
def k6 : Class := { plain "java/util/List" (some 0) with
  accessFlags := 1537
  interfaces := #[5]
  cf := some (fileOf pool6 8 #[] #[{ accessFlags := 1025, nameIndex := 79, descriptorIndex := 80, attributes := #[] }, { accessFlags := 1025, nameIndex := 60, descriptorIndex := 64, attributes := #[] }, { accessFlags := 1025, nameIndex := 75, descriptorIndex := 76, attributes := #[] }] 1537 103 #[120] #[])
  fields := #[]
  methods := #[k6m0, k6m1, k6m2]
  instanceTypes := #[]
  staticTypes := #[]
  resolved := Array.replicate 251 none
  statics := none }

def pool7 : Array CpInfo := pool [(1, .methodref 2 3), (0, .class_ 4), (0, .nameAndType 5 6), (0, u "java/util/AbstractCollection"), (0, u "<init>"), (0, u "()V"), (0, .fieldref 8 9), (0, .class_ 10), (0, .nameAndType 11 12), (0, u "java/util/AbstractList"), (0, u "modCount"), (0, u "I"), (64, .class_ 78), (0, u "java/util/AbstractList$Itr"), (3, .class_ 83), (0, u "java/util/AbstractList$ListItr"), (9, .class_ 94), (0, u "java/util/AbstractList$RandomAccessSubList"), (3, .class_ 99), (0, u "java/util/AbstractList$SubList"), (33, .class_ 134), (0, u "java/util/List"), (73, .class_ 209), (0, u "java/util/AbstractList$SubList$1"), (0, .class_ 211), (0, u "java/util/AbstractList$RandomAccessSpliterator")] 6

def k7c0 : Code := { maxStack := 2, maxLocals := 1, code := jdk_39_method_1_code, exceptionTable := #[], attributes := #[] }
def k7m0 : Method := { name := "<init>", desc := "()V", sig := { parameters := [], returnType := none }, accessFlags := 4, code := some k7c0 }
/-- java/util/AbstractList -/
def k7 : Class := { plain "java/util/AbstractList" (some 4) with
  accessFlags := 1057
  interfaces := #[6]
  cf := some (fileOf pool7 8 #[.nestMembers #[93, 98, 208, 210, 82, 77]] #[{ accessFlags := 4, nameIndex := 5, descriptorIndex := 6, attributes := #[] }] 1057 2 #[133] #[{ accessFlags := 132, nameIndex := 11, descriptorIndex := 12, attributes := #[] }])
  fields := #[{ name := "modCount", type := .int, accessFlags := 132, slot := 0, constantValue := 0 }]
  methods := #[k7m0]
  instanceTypes := #[.int]
  staticTypes := #[]
  resolved := Array.replicate 218 none
  statics := none }

def pool8 : Array CpInfo := pool [(1, .class_ 2), (0, u "java/util/RandomAccess"), (0, .class_ 4), (0, u "java/lang/Object")] 2

/-- java/util/RandomAccess -/
def k8 : Class := { plain "java/util/RandomAccess" (some 0) with
  accessFlags := 1537
  interfaces := #[]
  cf := some (fileOf pool8 1 #[] #[] 1537 3 #[] #[])
  fields := #[]
  methods := #[]
  instanceTypes := #[]
  staticTypes := #[]
  resolved := Array.replicate 7 none
  statics := none }

def pool9 : Array CpInfo := pool [(1, .class_ 2), (0, u "java/lang/Cloneable"), (0, .class_ 4), (0, u "java/lang/Object")] 2

/-- java/lang/Cloneable -/
def k9 : Class := { plain "java/lang/Cloneable" (some 0) with
  accessFlags := 1537
  interfaces := #[]
  cf := some (fileOf pool9 1 #[] #[] 1537 3 #[] #[])
  fields := #[]
  methods := #[]
  instanceTypes := #[]
  staticTypes := #[]
  resolved := Array.replicate 7 none
  statics := none }

def pool10 : Array CpInfo := pool [(1, .class_ 2), (0, u "java/io/Serializable"), (0, .class_ 4), (0, u "java/lang/Object")] 2

/-- java/io/Serializable -/
def k10 : Class := { plain "java/io/Serializable" (some 0) with
  accessFlags := 1537
  interfaces := #[]
  cf := some (fileOf pool10 1 #[] #[] 1537 3 #[] #[])
  fields := #[]
  methods := #[]
  instanceTypes := #[]
  staticTypes := #[]
  resolved := Array.replicate 7 none
  statics := none }

def pool11 : Array CpInfo := pool [(1, .methodref 2 3), (0, .class_ 4), (0, .nameAndType 5 6), (0, u "java/util/AbstractList"), (0, u "<init>"), (0, u "()V"), (0, .class_ 8), (0, u "java/lang/Object"), (0, .fieldref 10 11), (0, .class_ 12), (0, .nameAndType 13 14), (0, u "java/util/ArrayList"), (0, u "elementData"), (0, u "[Ljava/lang/Object;"), (2, u "EMPTY_ELEMENTDATA"), (21, .fieldref 10 40), (0, .nameAndType 41 14), (0, u "DEFAULTCAPACITY_EMPTY_ELEMENTDATA"), (5, u "()[Ljava/lang/Object;"), (0, .fieldref 10 49), (0, .nameAndType 50 51), (0, u "size"), (0, u "I"), (11, .fieldref 10 64), (0, .nameAndType 65 51), (0, u "modCount"), (3, .methodref 10 70), (0, .nameAndType 71 72), (0, u "grow"), (0, u "(I)[Ljava/lang/Object;"), (6, .methodref 80 81), (0, .class_ 82), (0, .nameAndType 83 84), (0, u "java/lang/Math"), (0, u "max"), (0, u "(II)I"), (11, u "(Ljava/lang/Object;)Z"), (21, .methodref 119 120), (0, .class_ 121), (0, .nameAndType 122 84), (0, u "java/util/Objects"), (0, u "checkIndex"), (0, .methodref 10 124), (0, .nameAndType 13 125), (0, u "(I)Ljava/lang/Object;"), (3, .methodref 10 130), (0, .nameAndType 71 47), (0, .methodref 10 132), (0, .nameAndType 133 134), (0, u "add"), (0, u "(Ljava/lang/Object;[Ljava/lang/Object;I)V"), (13, .class_ 149), (0, u "java/util/List"), (36, u "()I"), (75, .class_ 263), (0, u "java/util/ArrayList$ListItr"), (3, .class_ 268), (0, u "java/util/ArrayList$Itr"), (7, .class_ 277), (0, u "java/util/ArrayList$SubList"), (12, .class_ 291), (0, u "java/util/ArrayList$ArrayListSpliterator"), (37, .class_ 330), (0, u "java/util/RandomAccess"), (0, .class_ 332), (0, u "java/lang/Cloneable"), (0, .class_ 334), (0, u "java/io/Serializable"), (0, u "serialVersionUID"), (0, u "J"), (3, u "DEFAULT_CAPACITY"), (40, u "get"), (118, .class_ 501), (0, u "java/util/ArrayList$SubList$2"), (0, .class_ 503), (0, u "java/util/ArrayList$SubList$1")] 5

def k11c0 : Code := { maxStack := 2, maxLocals := 1, code := jdk_38_method_2_code, exceptionTable := #[], attributes := #[] }
def k11m0 : Method := { name := "<init>", desc := "()V", sig := { parameters := [], returnType := none }, accessFlags := 1, code := some k11c0 }
def k11c1 : Code := { maxStack := 4, maxLocals := 4, code := jdk_38_method_6_code, exceptionTable := #[], attributes := #[] }
def k11m1 : Method := { name := "grow", desc := "(I)[Ljava/lang/Object;", sig := { parameters := [.int], returnType := some (.array (.object "java/lang/Object")) }, accessFlags := 2, code := some k11c1 }
def k11c2 : Code := { maxStack := 3, maxLocals := 1, code := jdk_38_method_7_code, exceptionTable := #[], attributes := #[] }
def k11m2 : Method := { name := "grow", desc := "()[Ljava/lang/Object;", sig := { parameters := [], returnType := some (.array (.object "java/lang/Object")) }, accessFlags := 2, code := some k11c2 }
def k11c3 : Code := { maxStack := 1, maxLocals := 1, code := jdk_38_method_8_code, exceptionTable := #[], attributes := #[] }
def k11m3 : Method := { name := "size", desc := "()I", sig := { parameters := [], returnType := some .int }, accessFlags := 1, code := some k11c3 }
def k11c4 : Code := { maxStack := 2, maxLocals := 2, code := jdk_38_method_18_code, exceptionTable := #[], attributes := #[] }
def k11m4 : Method := { name := "elementData", desc := "(I)Ljava/lang/Object;", sig := { parameters := [.int], returnType := some (.object "java/lang/Object") }, accessFlags := 0, code := some k11c4 }
def k11c5 : Code := { maxStack := 2, maxLocals := 2, code := jdk_38_method_20_code, exceptionTable := #[], attributes := #[] }
def k11m5 : Method := { name := "get", desc := "(I)Ljava/lang/Object;", sig := { parameters := [.int], returnType := some (.object "java/lang/Object") }, accessFlags := 1, code := some k11c5 }
def k11c6 : Code := { maxStack := 3, maxLocals := 4, code := jdk_38_method_24_code, exceptionTable := #[], attributes := #[] }
def k11m6 : Method := { name := "add", desc := "(Ljava/lang/Object;[Ljava/lang/Object;I)V", sig := { parameters := [(.object "java/lang/Object"), (.array (.object "java/lang/Object")), .int], returnType := none }, accessFlags := 2, code := some k11c6 }
def k11c7 : Code := { maxStack := 4, maxLocals := 2, code := jdk_38_method_25_code, exceptionTable := #[], attributes := #[] }
def k11m7 : Method := { name := "add", desc := "(Ljava/lang/Object;)Z", sig := { parameters := [(.object "java/lang/Object")], returnType := some .boolean }, accessFlags := 1, code := some k11c7 }
/-- java/util/ArrayList -/
def k11 : Class := { plain "java/util/ArrayList" (some 7) with
  accessFlags := 33
  interfaces := #[6, 8, 9, 10]
  cf := some (fileOf pool11 10 #[.nestMembers #[290, 276, 500, 502, 262, 267]] #[{ accessFlags := 1, nameIndex := 5, descriptorIndex := 6, attributes := #[] }, { accessFlags := 2, nameIndex := 71, descriptorIndex := 72, attributes := #[] }, { accessFlags := 2, nameIndex := 71, descriptorIndex := 47, attributes := #[] }, { accessFlags := 1, nameIndex := 50, descriptorIndex := 186, attributes := #[] }, { accessFlags := 0, nameIndex := 13, descriptorIndex := 125, attributes := #[] }, { accessFlags := 1, nameIndex := 381, descriptorIndex := 125, attributes := #[] }, { accessFlags := 2, nameIndex := 133, descriptorIndex := 134, attributes := #[] }, { accessFlags := 1, nameIndex := 133, descriptorIndex := 96, attributes := #[] }] 33 2 #[148, 329, 331, 333] #[{ accessFlags := 26, nameIndex := 335, descriptorIndex := 336, attributes := #[] }, { accessFlags := 26, nameIndex := 340, descriptorIndex := 51, attributes := #[] }, { accessFlags := 26, nameIndex := 17, descriptorIndex := 14, attributes := #[] }, { accessFlags := 26, nameIndex := 41, descriptorIndex := 14, attributes := #[] }, { accessFlags := 128, nameIndex := 13, descriptorIndex := 14, attributes := #[] }, { accessFlags := 2, nameIndex := 50, descriptorIndex := 51, attributes := #[] }])
  fields := #[{ name := "serialVersionUID", type := .long, accessFlags := 26, slot := 0, constantValue := 0 }, { name := "DEFAULT_CAPACITY", type := .int, accessFlags := 26, slot := 1, constantValue := 0 }, { name := "EMPTY_ELEMENTDATA", type := (.array (.object "java/lang/Object")), accessFlags := 26, slot := 2, constantValue := 0 }, { name := "DEFAULTCAPACITY_EMPTY_ELEMENTDATA", type := (.array (.object "java/lang/Object")), accessFlags := 26, slot := 3, constantValue := 0 }, { name := "elementData", type := (.array (.object "java/lang/Object")), accessFlags := 128, slot := 1, constantValue := 0 }, { name := "size", type := .int, accessFlags := 2, slot := 2, constantValue := 0 }]
  methods := #[k11m0, k11m1, k11m2, k11m3, k11m4, k11m5, k11m6, k11m7]
  instanceTypes := #[.int, (.array (.object "java/lang/Object")), .int]
  staticTypes := #[.long, .int, (.array (.object "java/lang/Object")), (.array (.object "java/lang/Object"))]
  resolved := Array.replicate 509 none
  statics := some 0 }

def pool12 : Array CpInfo := pool [(1, .class_ 2), (0, u "java/lang/Math"), (1, .class_ 6), (1, u "java/lang/Object"), (0, u "<init>"), (0, u "()V"), (89, .class_ 100), (1, u "java/lang/Math$RandomNumberGeneratorHolder"), (71, u "negativeZeroFloatBits"), (0, u "J"), (2, u "negativeZeroDoubleBits"), (21, u "max"), (2, u "min"), (43, u "$assertionsDisabled"), (0, u "Z"), (88, u "(II)I"), (2, u "twoToTheDoubleScaleDown"), (0, u "D"), (4, u "twoToTheDoubleScaleUp"), (9, u "E"), (3, u "PI"), (2, u "TAU"), (2, u "DEGREES_TO_RADIANS"), (0, u "RADIANS_TO_DEGREES")] 94

def k12m0 : Method := { name := "<init>", desc := "()V", sig := { parameters := [], returnType := none }, accessFlags := 2, code := none }
def k12c1 : Code := { maxStack := 2, maxLocals := 2, code := jdk_29_method_65_code, exceptionTable := #[], attributes := #[] }
def k12m1 : Method := { name := "max", desc := "(II)I", sig := { parameters := [.int, .int], returnType := some .int }, accessFlags := 9, code := some k12c1 }
def k12c2 : Code := { maxStack := 2, maxLocals := 2, code := jdk_29_method_69_code, exceptionTable := #[], attributes := #[] }
def k12m2 : Method := { name := "min", desc := "(II)I", sig := { parameters := [.int, .int], returnType := some .int }, accessFlags := 9, code := some k12c2 }
/-- java/lang/Math -/
def k12 : Class := { plain "java/lang/Math" (some 0) with
  accessFlags := 49
  interfaces := #[]
  cf := some (fileOf pool12 1 #[.nestMembers #[98]] #[{ accessFlags := 2, nameIndex := 7, descriptorIndex := 8, attributes := #[] }, { accessFlags := 9, nameIndex := 198, descriptorIndex := 335, attributes := #[] }, { accessFlags := 9, nameIndex := 201, descriptorIndex := 335, attributes := #[] }] 49 4 #[] #[{ accessFlags := 25, nameIndex := 354, descriptorIndex := 339, attributes := #[] }, { accessFlags := 25, nameIndex := 358, descriptorIndex := 339, attributes := #[] }, { accessFlags := 25, nameIndex := 361, descriptorIndex := 339, attributes := #[] }, { accessFlags := 26, nameIndex := 364, descriptorIndex := 339, attributes := #[] }, { accessFlags := 26, nameIndex := 365, descriptorIndex := 339, attributes := #[] }, { accessFlags := 26, nameIndex := 172, descriptorIndex := 173, attributes := #[] }, { accessFlags := 26, nameIndex := 176, descriptorIndex := 173, attributes := #[] }, { accessFlags := 8, nameIndex := 344, descriptorIndex := 339, attributes := #[] }, { accessFlags := 8, nameIndex := 338, descriptorIndex := 339, attributes := #[] }, { accessFlags := 4120, nameIndex := 245, descriptorIndex := 246, attributes := #[] }])
  fields := #[{ name := "E", type := .double, accessFlags := 25, slot := 0, constantValue := 0 }, { name := "PI", type := .double, accessFlags := 25, slot := 1, constantValue := 0 }, { name := "TAU", type := .double, accessFlags := 25, slot := 2, constantValue := 0 }, { name := "DEGREES_TO_RADIANS", type := .double, accessFlags := 26, slot := 3, constantValue := 0 }, { name := "RADIANS_TO_DEGREES", type := .double, accessFlags := 26, slot := 4, constantValue := 0 }, { name := "negativeZeroFloatBits", type := .long, accessFlags := 26, slot := 5, constantValue := 0 }, { name := "negativeZeroDoubleBits", type := .long, accessFlags := 26, slot := 6, constantValue := 0 }, { name := "twoToTheDoubleScaleUp", type := .double, accessFlags := 8, slot := 7, constantValue := 0 }, { name := "twoToTheDoubleScaleDown", type := .double, accessFlags := 8, slot := 8, constantValue := 0 }, { name := "$assertionsDisabled", type := .boolean, accessFlags := 4120, slot := 9, constantValue := 0 }]
  methods := #[k12m0, k12m1, k12m2]
  instanceTypes := #[]
  staticTypes := #[.double, .double, .double, .double, .double, .long, .long, .double, .double, .boolean]
  resolved := Array.replicate 460 none
  statics := none }

def pool13 : Array CpInfo := pool [(1, .interfaceMethodref 2 3), (0, .class_ 4), (0, .nameAndType 5 6), (0, u "java/util/List"), (0, u "size"), (0, u "()I"), (1, .class_ 10), (1, u "com/example/libentitle/libentitle/role/Graph"), (0, u "NONE"), (0, u "[I"), (8, u "<init>"), (0, u "(Ljava/util/List;Ljava/util/List;)V"), (0, .methodref 24 25), (0, .class_ 26), (0, .nameAndType 21 27), (0, u "java/lang/Object"), (0, u "()V"), (0, .class_ 29), (0, u "com/example/libentitle/libentitle/role/Rows"), (0, .methodref 28 31), (0, .nameAndType 21 32), (0, u "(Ljava/util/List;)V"), (0, .fieldref 8 34), (0, .nameAndType 35 36), (0, u "next"), (0, u "Lcom/example/libentitle/libentitle/role/Rows;"), (0, .fieldref 8 38), (0, .nameAndType 39 36), (0, u "guardedNext"), (0, .methodref 28 41), (0, .nameAndType 42 43), (0, u "inverse"), (0, u "(I)Lcom/example/libentitle/libentitle/role/Rows;"), (0, .fieldref 8 45), (0, .nameAndType 46 36), (0, u "previous"), (0, .fieldref 8 48), (0, .nameAndType 49 36), (0, u "guardedPrevious"), (0, .methodref 28 51), (0, .nameAndType 52 53), (0, u "length"), (0, u "(I)I"), (4, .class_ 59), (0, u "com/example/libentitle/libentitle/role/Graph$Walk"), (2, u "PLAIN"), (0, u "Ljava/util/function/IntPredicate;"), (16, .class_ 82), (1, u "com/example/libentitle/libentitle/role/Graph$Met"), (39, u "(I)Z"), (4, .class_ 128), (0, u "com/example/libentitle/libentitle/role/Graph$ComponentSearch"), (44, .class_ 174), (0, u "com/example/libentitle/libentitle/role/Graph$Components"), (18, u "EVERY"), (7, u "leads")] 51

def k13c0 : Code := { maxStack := 4, maxLocals := 3, code := prog_47_method_2_code, exceptionTable := #[], attributes := #[] }
def k13m0 : Method := { name := "<init>", desc := "(Ljava/util/List;Ljava/util/List;)V", sig := { parameters := [(.object "java/util/List"), (.object "java/util/List")], returnType := none }, accessFlags := 0, code := some k13c0 }
def k13c1 : Code := { maxStack := 2, maxLocals := 2, code := prog_47_method_4_code, exceptionTable := #[], attributes := #[] }
def k13m1 : Method := { name := "leads", desc := "(I)Z", sig := { parameters := [.int], returnType := some .boolean }, accessFlags := 0, code := some k13c1 }
/-- com/example/libentitle/libentitle/role/Graph -/
def k13 : Class := { plain "com/example/libentitle/libentitle/role/Graph" (some 0) with
  accessFlags := 32
  interfaces := #[]
  cf := some (fileOf pool13 8 #[.nestMembers #[80, 127, 173, 58]] #[{ accessFlags := 0, nameIndex := 21, descriptorIndex := 22, attributes := #[] }, { accessFlags := 0, nameIndex := 201, descriptorIndex := 122, attributes := #[] }] 32 24 #[] #[{ accessFlags := 24, nameIndex := 62, descriptorIndex := 63, attributes := #[] }, { accessFlags := 24, nameIndex := 193, descriptorIndex := 63, attributes := #[] }, { accessFlags := 26, nameIndex := 11, descriptorIndex := 12, attributes := #[] }, { accessFlags := 18, nameIndex := 35, descriptorIndex := 36, attributes := #[] }, { accessFlags := 18, nameIndex := 39, descriptorIndex := 36, attributes := #[] }, { accessFlags := 18, nameIndex := 46, descriptorIndex := 36, attributes := #[] }, { accessFlags := 18, nameIndex := 49, descriptorIndex := 36, attributes := #[] }])
  fields := #[{ name := "PLAIN", type := (.object "java/util/function/IntPredicate"), accessFlags := 24, slot := 0, constantValue := 0 }, { name := "EVERY", type := (.object "java/util/function/IntPredicate"), accessFlags := 24, slot := 1, constantValue := 0 }, { name := "NONE", type := (.array .int), accessFlags := 26, slot := 2, constantValue := 0 }, { name := "next", type := (.object "com/example/libentitle/libentitle/role/Rows"), accessFlags := 18, slot := 0, constantValue := 0 }, { name := "guardedNext", type := (.object "com/example/libentitle/libentitle/role/Rows"), accessFlags := 18, slot := 1, constantValue := 0 }, { name := "previous", type := (.object "com/example/libentitle/libentitle/role/Rows"), accessFlags := 18, slot := 2, constantValue := 0 }, { name := "guardedPrevious", type := (.object "com/example/libentitle/libentitle/role/Rows"), accessFlags := 18, slot := 3, constantValue := 0 }]
  methods := #[k13m0, k13m1]
  instanceTypes := #[(.object "com/example/libentitle/libentitle/role/Rows"), (.object "com/example/libentitle/libentitle/role/Rows"), (.object "com/example/libentitle/libentitle/role/Rows"), (.object "com/example/libentitle/libentitle/role/Rows")]
  staticTypes := #[(.object "java/util/function/IntPredicate"), (.object "java/util/function/IntPredicate"), (.array .int)]
  resolved := Array.replicate 253 none
  statics := none }

def pool14 : Array CpInfo := pool [(1, .methodref 2 3), (0, .class_ 4), (0, .nameAndType 5 6), (0, u "java/lang/Object"), (0, u "<init>"), (0, u "()V"), (0, .interfaceMethodref 8 9), (0, .class_ 10), (0, .nameAndType 11 12), (0, u "java/util/List"), (0, u "size"), (0, u "()I"), (0, .fieldref 14 15), (0, .class_ 16), (0, .nameAndType 17 18), (0, u "com/example/libentitle/libentitle/role/Rows"), (0, u "starts"), (0, u "[I"), (0, .interfaceMethodref 8 20), (0, .nameAndType 21 22), (0, u "get"), (0, u "(I)Ljava/lang/Object;"), (0, .class_ 18), (0, .fieldref 14 25), (0, .nameAndType 26 18), (0, u "values"), (0, .methodref 28 29), (0, .class_ 30), (0, .nameAndType 31 32), (0, u "java/lang/System"), (0, u "arraycopy"), (0, u "(Ljava/lang/Object;ILjava/lang/Object;II)V"), (4, .methodref 14 38), (0, .nameAndType 5 39), (0, u "([I[I)V"), (0, .methodref 41 42), (0, .class_ 43), (0, .nameAndType 44 45), (0, u "java/util/Arrays"), (0, u "copyOf"), (0, u "([II)[I"), (8, .class_ 55), (0, u "com/example/libentitle/libentitle/role/Rows$Union"), (13, u "length"), (0, u "(I)I"), (13, u "(Ljava/util/List;)V"), (7, u "inverse"), (0, u "(I)Lcom/example/libentitle/libentitle/role/Rows;")] 13

def k14c0 : Code := { maxStack := 6, maxLocals := 3, code := prog_61_method_1_code, exceptionTable := #[], attributes := #[] }
def k14m0 : Method := { name := "<init>", desc := "(Ljava/util/List;)V", sig := { parameters := [(.object "java/util/List")], returnType := none }, accessFlags := 0, code := some k14c0 }
def k14c1 : Code := { maxStack := 2, maxLocals := 3, code := prog_61_method_2_code, exceptionTable := #[], attributes := #[] }
def k14m1 : Method := { name := "<init>", desc := "([I[I)V", sig := { parameters := [(.array .int), (.array .int)], returnType := none }, accessFlags := 2, code := some k14c1 }
def k14c2 : Code := { maxStack := 6, maxLocals := 7, code := prog_61_method_4_code, exceptionTable := #[], attributes := #[] }
def k14m2 : Method := { name := "inverse", desc := "(I)Lcom/example/libentitle/libentitle/role/Rows;", sig := { parameters := [.int], returnType := some (.object "com/example/libentitle/libentitle/role/Rows") }, accessFlags := 0, code := some k14c2 }
def k14c3 : Code := { maxStack := 3, maxLocals := 2, code := prog_61_method_10_code, exceptionTable := #[], attributes := #[] }
def k14m3 : Method := { name := "length", desc := "(I)I", sig := { parameters := [.int], returnType := some .int }, accessFlags := 0, code := some k14c3 }
/-- com/example/libentitle/libentitle/role/Rows -/
def k14 : Class := { plain "com/example/libentitle/libentitle/role/Rows" (some 0) with
  accessFlags := 32
  interfaces := #[]
  cf := some (fileOf pool14 14 #[.nestMembers #[54]] #[{ accessFlags := 0, nameIndex := 5, descriptorIndex := 84, attributes := #[] }, { accessFlags := 2, nameIndex := 5, descriptorIndex := 39, attributes := #[] }, { accessFlags := 0, nameIndex := 92, descriptorIndex := 93, attributes := #[] }, { accessFlags := 0, nameIndex := 69, descriptorIndex := 70, attributes := #[] }] 32 2 #[] #[{ accessFlags := 18, nameIndex := 17, descriptorIndex := 18, attributes := #[] }, { accessFlags := 18, nameIndex := 26, descriptorIndex := 18, attributes := #[] }])
  fields := #[{ name := "starts", type := (.array .int), accessFlags := 18, slot := 0, constantValue := 0 }, { name := "values", type := (.array .int), accessFlags := 18, slot := 1, constantValue := 0 }]
  methods := #[k14m0, k14m1, k14m2, k14m3]
  instanceTypes := #[(.array .int), (.array .int)]
  staticTypes := #[]
  resolved := Array.replicate 107 none
  statics := none }

def pool15 : Array CpInfo := pool [(2, .class_ 4), (1, u "java/lang/Object"), (0, u "<init>"), (0, u "()V"), (35, .class_ 44), (1, u "java/util/Objects"), (60, .methodref 106 107), (0, .class_ 108), (0, .nameAndType 109 110), (0, u "jdk/internal/util/Preconditions"), (0, u "checkIndex"), (0, u "(IILjava/util/function/BiFunction;)I"), (60, u "(II)I")] 12

def k15m0 : Method := { name := "<init>", desc := "()V", sig := { parameters := [], returnType := none }, accessFlags := 2, code := none }
def k15c1 : Code := { maxStack := 3, maxLocals := 2, code := jdk_31_method_17_code, exceptionTable := #[], attributes := #[] }
def k15m1 : Method := { name := "checkIndex", desc := "(II)I", sig := { parameters := [.int, .int], returnType := some .int }, accessFlags := 9, code := some k15c1 }
/-- java/util/Objects -/
def k15 : Class := { plain "java/util/Objects" (some 0) with
  accessFlags := 49
  interfaces := #[]
  cf := some (fileOf pool15 42 #[] #[{ accessFlags := 2, nameIndex := 5, descriptorIndex := 6, attributes := #[] }, { accessFlags := 9, nameIndex := 109, descriptorIndex := 171, attributes := #[] }] 49 2 #[] #[])
  fields := #[]
  methods := #[k15m0, k15m1]
  instanceTypes := #[]
  staticTypes := #[]
  resolved := Array.replicate 184 none
  statics := none }

def pool16 : Array CpInfo := pool [(2, .class_ 4), (1, u "java/lang/Object"), (0, u "<init>"), (0, u "()V"), (17, .class_ 26), (1, u "jdk/internal/util/Preconditions"), (6, u "checkIndex"), (21, .class_ 56), (0, u "jdk/internal/util/Preconditions$4"), (57, .class_ 115), (0, u "jdk/internal/util/Preconditions$1"), (7, u "SIOOBE_FORMATTER"), (0, u "Ljava/util/function/BiFunction;"), (0, .class_ 126), (0, u "jdk/internal/util/Preconditions$2"), (3, u "AIOOBE_FORMATTER"), (0, .class_ 132), (0, u "jdk/internal/util/Preconditions$3"), (3, u "IOOBE_FORMATTER"), (41, u "(IILjava/util/function/BiFunction;)I")] 15

def k16m0 : Method := { name := "<init>", desc := "()V", sig := { parameters := [], returnType := none }, accessFlags := 1, code := none }
def k16c1 : Code := { maxStack := 3, maxLocals := 3, code := jdk_41_method_11_code, exceptionTable := #[], attributes := #[] }
def k16m1 : Method := { name := "checkIndex", desc := "(IILjava/util/function/BiFunction;)I", sig := { parameters := [.int, .int, (.object "java/util/function/BiFunction")], returnType := some .int }, accessFlags := 9, code := some k16c1 }
/-- jdk/internal/util/Preconditions -/
def k16 : Class := { plain "jdk/internal/util/Preconditions" (some 0) with
  accessFlags := 33
  interfaces := #[]
  cf := some (fileOf pool16 24 #[.nestMembers #[55, 131, 125, 114]] #[{ accessFlags := 1, nameIndex := 5, descriptorIndex := 6, attributes := #[] }, { accessFlags := 9, nameIndex := 33, descriptorIndex := 178, attributes := #[] }] 33 2 #[] #[{ accessFlags := 25, nameIndex := 123, descriptorIndex := 124, attributes := #[] }, { accessFlags := 25, nameIndex := 130, descriptorIndex := 124, attributes := #[] }, { accessFlags := 25, nameIndex := 136, descriptorIndex := 124, attributes := #[] }])
  fields := #[{ name := "SIOOBE_FORMATTER", type := (.object "java/util/function/BiFunction"), accessFlags := 25, slot := 0, constantValue := 0 }, { name := "AIOOBE_FORMATTER", type := (.object "java/util/function/BiFunction"), accessFlags := 25, slot := 1, constantValue := 0 }, { name := "IOOBE_FORMATTER", type := (.object "java/util/function/BiFunction"), accessFlags := 25, slot := 2, constantValue := 0 }]
  methods := #[k16m0, k16m1]
  instanceTypes := #[]
  staticTypes := #[(.object "java/util/function/BiFunction"), (.object "java/util/function/BiFunction"), (.object "java/util/function/BiFunction")]
  resolved := Array.replicate 194 none
  statics := none }

def pool17 : Array CpInfo := pool [(2, .class_ 4), (1, u "java/lang/Object"), (0, u "<init>"), (0, u "()V"), (1, .class_ 10), (1, u "java/lang/System"), (0, u "allowSecurityManager"), (0, u "I"), (16, u "cons"), (0, u "Ljava/io/Console;"), (77, .class_ 110), (1, u "java/lang/System$CallersHolder"), (43, u "initialErrStream"), (0, u "Ljava/io/PrintStream;"), (19, u "security"), (0, u "Ljava/lang/SecurityManager;"), (31, .class_ 209), (0, u "java/lang/System$1"), (7, u "props"), (0, u "Ljava/util/Properties;"), (2, u "lineSeparator"), (0, u "Ljava/lang/String;"), (96, .class_ 321), (1, u "java/lang/System$LoggerFinder"), (5, .class_ 328), (0, u "java/lang/System$Logger"), (67, u "err"), (2, u "out"), (91, u "notSupportedJnuEncoding"), (15, u "in"), (17, u "initialIn"), (0, u "Ljava/io/InputStream;"), (35, u "bootLayer"), (0, u "Ljava/lang/ModuleLayer;"), (99, .class_ 664), (0, u "java/lang/System$2"), (9, u "NEVER"), (2, u "MAYBE"), (49, u "arraycopy"), (0, u "(Ljava/lang/Object;ILjava/lang/Object;II)V"), (72, .class_ 802), (0, u "java/lang/System$Logger$Level")] 31

def k17m0 : Method := { name := "<init>", desc := "()V", sig := { parameters := [], returnType := none }, accessFlags := 2, code := none }
def k17m1 : Method := { name := "arraycopy", desc := "(Ljava/lang/Object;ILjava/lang/Object;II)V", sig := { parameters := [(.object "java/lang/Object"), .int, (.object "java/lang/Object"), .int, .int], returnType := none }, accessFlags := 265, code := none }
/-- java/lang/System -/
def k17 : Class := { plain "java/lang/System" (some 0) with
  accessFlags := 49
  interfaces := #[]
  cf := some (fileOf pool17 8 #[.nestMembers #[319, 327, 801, 108, 663, 208]] #[{ accessFlags := 2, nameIndex := 5, descriptorIndex := 6, attributes := #[] }, { accessFlags := 265, nameIndex := 727, descriptorIndex := 728, attributes := #[] }] 49 2 #[] #[{ accessFlags := 25, nameIndex := 507, descriptorIndex := 526, attributes := #[] }, { accessFlags := 25, nameIndex := 399, descriptorIndex := 155, attributes := #[] }, { accessFlags := 25, nameIndex := 396, descriptorIndex := 155, attributes := #[] }, { accessFlags := 10, nameIndex := 525, descriptorIndex := 526, attributes := #[] }, { accessFlags := 26, nameIndex := 674, descriptorIndex := 12, attributes := #[] }, { accessFlags := 26, nameIndex := 677, descriptorIndex := 12, attributes := #[] }, { accessFlags := 10, nameIndex := 11, descriptorIndex := 12, attributes := #[] }, { accessFlags := 74, nameIndex := 175, descriptorIndex := 176, attributes := #[] }, { accessFlags := 10, nameIndex := 491, descriptorIndex := 222, attributes := #[] }, { accessFlags := 74, nameIndex := 29, descriptorIndex := 30, attributes := #[] }, { accessFlags := 74, nameIndex := 154, descriptorIndex := 155, attributes := #[] }, { accessFlags := 10, nameIndex := 217, descriptorIndex := 218, attributes := #[] }, { accessFlags := 10, nameIndex := 221, descriptorIndex := 222, attributes := #[] }, { accessFlags := 8, nameIndex := 562, descriptorIndex := 563, attributes := #[] }])
  fields := #[{ name := "in", type := (.object "java/io/InputStream"), accessFlags := 25, slot := 0, constantValue := 0 }, { name := "out", type := (.object "java/io/PrintStream"), accessFlags := 25, slot := 1, constantValue := 0 }, { name := "err", type := (.object "java/io/PrintStream"), accessFlags := 25, slot := 2, constantValue := 0 }, { name := "initialIn", type := (.object "java/io/InputStream"), accessFlags := 10, slot := 3, constantValue := 0 }, { name := "NEVER", type := .int, accessFlags := 26, slot := 4, constantValue := 0 }, { name := "MAYBE", type := .int, accessFlags := 26, slot := 5, constantValue := 0 }, { name := "allowSecurityManager", type := .int, accessFlags := 10, slot := 6, constantValue := 0 }, { name := "security", type := (.object "java/lang/SecurityManager"), accessFlags := 74, slot := 7, constantValue := 0 }, { name := "notSupportedJnuEncoding", type := (.object "java/lang/String"), accessFlags := 10, slot := 8, constantValue := 0 }, { name := "cons", type := (.object "java/io/Console"), accessFlags := 74, slot := 9, constantValue := 0 }, { name := "initialErrStream", type := (.object "java/io/PrintStream"), accessFlags := 74, slot := 10, constantValue := 0 }, { name := "props", type := (.object "java/util/Properties"), accessFlags := 10, slot := 11, constantValue := 0 }, { name := "lineSeparator", type := (.object "java/lang/String"), accessFlags := 10, slot := 12, constantValue := 0 }, { name := "bootLayer", type := (.object "java/lang/ModuleLayer"), accessFlags := 8, slot := 13, constantValue := 0 }]
  methods := #[k17m0, k17m1]
  instanceTypes := #[]
  staticTypes := #[(.object "java/io/InputStream"), (.object "java/io/PrintStream"), (.object "java/io/PrintStream"), (.object "java/io/InputStream"), .int, .int, .int, (.object "java/lang/SecurityManager"), (.object "java/lang/String"), (.object "java/io/Console"), (.object "java/io/PrintStream"), (.object "java/util/Properties"), (.object "java/lang/String"), (.object "java/lang/ModuleLayer")]
  resolved := Array.replicate 834 none
  statics := none }

def pool18 : Array CpInfo := pool [(2, .class_ 4), (1, u "java/lang/Object"), (0, u "<init>"), (0, u "()V"), (7, .class_ 16), (1, u "java/util/Arrays"), (57, .class_ 76), (1, u "java/util/Arrays$NaturalOrder"), (36, .class_ 115), (1, u "java/util/Arrays$LegacyMergeSort"), (1, u "Z"), (32, .methodref 151 152), (0, .class_ 153), (0, .nameAndType 154 155), (0, u "java/lang/System"), (0, u "arraycopy"), (0, u "(Ljava/lang/Object;ILjava/lang/Object;II)V"), (146, u "copyOf"), (1, .methodref 305 306), (0, .class_ 307), (0, .nameAndType 308 309), (0, u "java/lang/Math"), (0, u "min"), (0, u "(II)I"), (65, .class_ 376), (0, u "java/util/Arrays$ArrayList"), (68, u "$assertionsDisabled"), (269, u "MIN_ARRAY_SORT_GRAN"), (0, u "I"), (2, u "INSERTIONSORT_THRESHOLD"), (151, u "([II)[I"), (103, .class_ 976), (0, u "java/util/Arrays$ArrayItr")] 52

def k18m0 : Method := { name := "<init>", desc := "()V", sig := { parameters := [], returnType := none }, accessFlags := 2, code := none }
def k18c1 : Code := { maxStack := 6, maxLocals := 3, code := jdk_65_method_123_code, exceptionTable := #[], attributes := #[] }
def k18m1 : Method := { name := "copyOf", desc := "([II)[I", sig := { parameters := [(.array .int), .int], returnType := some (.array .int) }, accessFlags := 9, code := some k18c1 }
/-- java/util/Arrays -/
def k18 : Class := { plain "java/util/Arrays" (some 0) with
  accessFlags := 49
  interfaces := #[]
  cf := some (fileOf pool18 14 #[.nestMembers #[975, 375, 113, 74]] #[{ accessFlags := 2, nameIndex := 5, descriptorIndex := 6, attributes := #[] }, { accessFlags := 9, nameIndex := 302, descriptorIndex := 871, attributes := #[] }] 49 2 #[] #[{ accessFlags := 26, nameIndex := 715, descriptorIndex := 716, attributes := #[] }, { accessFlags := 26, nameIndex := 719, descriptorIndex := 716, attributes := #[] }, { accessFlags := 4120, nameIndex := 445, descriptorIndex := 117, attributes := #[] }])
  fields := #[{ name := "MIN_ARRAY_SORT_GRAN", type := .int, accessFlags := 26, slot := 0, constantValue := 0 }, { name := "INSERTIONSORT_THRESHOLD", type := .int, accessFlags := 26, slot := 1, constantValue := 0 }, { name := "$assertionsDisabled", type := .boolean, accessFlags := 4120, slot := 2, constantValue := 0 }]
  methods := #[k18m0, k18m1]
  instanceTypes := #[]
  staticTypes := #[.int, .int, .boolean]
  resolved := Array.replicate 1029 none
  statics := none }

/-- the primitive byte -/
def k19 : Class := { plain "byte" none with kind := .primitive 'B', accessFlags := 0x411 }
/-- [B -/
def k20 : Class := { plain "[B" (some 0) with kind := .array 19 .byte, interfaces := #[9, 10], accessFlags := 1041 }

/-- the primitive int -/
def k21 : Class := { plain "int" none with kind := .primitive 'I', accessFlags := 0x411 }
/-- [I -/
def k22 : Class := { plain "[I" (some 0) with kind := .array 21 .int, interfaces := #[9, 10], accessFlags := 1041 }

/-- [Ljava/lang/Object; -/
def k23 : Class := { plain "[Ljava/lang/Object;" (some 0) with kind := .array 0 (.object "java/lang/Object"), interfaces := #[9, 10], accessFlags := 1041 }

def heap : Heap := #[{ cls := 11, slots := #[.long 0, .int 0, .ref 1, .ref 2], vm := .statics 11 },
  { cls := 23, slots := #[], vm := .none },
  { cls := 23, slots := #[], vm := .none }]
def classes : Array Class := #[k0, k1, k2, k3, k4, k5, k6, k7, k8, k9, k10, k11, k12, k13, k14, k15, k16, k17, k18, k19, k20, k21, k22, k23]
def interned : List (Array UInt16 × Addr) := []
def slotsUsed : Nat := 4
def theMethod : MethodId := ⟨1, 3⟩
def args0 : Array Value := #[.int 5, .int 5, .int 5, .int 5]
def aboutOver (below : List Frame) : State where
  vm := { classes := classes, interned := interned.toArray }
  heap := heap
  slotsUsed := slotsUsed
  threads := #[{ frames := .invoking theMethod args0 :: below }]
def below0 : List Frame := [.native { method := ⟨0, 0⟩, args := #[] }]
def about1 : State := aboutOver below0
def p0 : Program := .bare "" "" ""
def e0 : Env := launch0.env 0 0 0
theorem w_frames : about1.frames = Frame.invoking theMethod args0 :: below0 := rfl
set_option maxRecDepth 65536 in
theorem w_args : argsFit about1.vm theMethod args0 = true := by decide +kernel
set_option maxRecDepth 65536 in
theorem w_heap : heapFits about1 = true := by decide +kernel
set_option maxRecDepth 65536 in
theorem w_runnable : about1.curStatus? = some .runnable := by decide +kernel
set_option maxRecDepth 65536 in
theorem w_alone : about1.alone = true := by decide +kernel
set_option maxRecDepth 65536 in
theorem w_named : about1.methodNamed? x = some theMethod := by decide +kernel
set_option maxRecDepth 65536 in
theorem w_hears : about1.hears theMethod below0 = true := by decide +kernel
set_option maxRecDepth 65536 in
theorem w_ripe : about1.ripe theMethod args0 below0 = true := by decide +kernel
theorem w_running : about1.status = .running := rfl
set_option maxRecDepth 65536 in
theorem w_room : about1.hasRoom e0.platform room_1 = true :=
  launch0.hasRoom_least _ room_1 (by decide +kernel) (by decide +kernel) (by decide +kernel) (by decide +kernel) (by decide +kernel) (by decide +kernel)
theorem allAtoms_all (ts : List Jvm.Cond) (a : Array Jvm.Value) (st : Jvm.State) : (allAtoms ts).before a st = ts.all (fun c => c.before a st) := by
  induction ts with
  | nil => rfl
  | cons c t ih =>
    show (Jvm.Cond.and c (allAtoms t)).before a st = _
    rw [Jvm.Cond.before_and, ih, List.all_cons]
def words1 : List Jvm.Cond := Jvm.Cond.code x code maxLocals ret :: tables_1
/-- a 'code' word, met by the world's own term for the bytes: nothing is compared byte by byte -/
theorem code_word {y : MethodName} {bytes : ByteArray} {mx : Nat} {rt : Option FieldType} {a : Array Value} {s : State} {m : MethodId} {meth : Method} {c : Code} (h1 : s.methodNamed? y = some m) (h2 : s.vm.method? m = some meth) (h3 : meth.code = some c) (h4 : c.code = bytes)
    (h5 : (c.maxLocals == mx && c.exceptionTable.isEmpty && decide (c.maxStack ≤ mostOperands) && decide (meth.sig.returnType = rt) && !meth.locks && decide (parseMethodDescriptor y.desc = some meth.sig)) = true) : (Jvm.Cond.code y bytes mx rt).before a s = true := by
  simp only [Bool.and_eq_true, beq_iff_eq, Bool.not_eq_true', decide_eq_true_eq] at h5
  obtain ⟨⟨⟨⟨⟨g1, g2⟩, g3⟩, g4⟩, g5⟩, g6⟩ := h5
  simp [Cond.before, Cond.holds, Cond.value, h1, h2, h3, h4, g1, g2, g3, g4, g5, g6]
def isCode : Jvm.Cond → Bool
  | .code _ _ _ _ => true
  | _ => false
theorem all_split {L : List Jvm.Cond} {P : Jvm.Cond → Bool} (h1 : L.all (fun c => isCode c || P c) = true) (h2 : ∀ c ∈ L.filter isCode, P c = true) : L.all P = true := by
  refine List.all_eq_true.mpr fun c hc => ?_
  have h := List.all_eq_true.mp h1 c hc
  rcases Bool.eq_false_or_eq_true (isCode c) with hi | hi
  · exact h2 c (List.mem_filter.mpr ⟨hc, hi⟩)
  · simpa [hi] using h
set_option maxRecDepth 65536 in
theorem w_c0 : (Jvm.Cond.code x code maxLocals ret).before args0 about1 = true := code_word (m := ⟨1, 3⟩) (meth := k1m3) (c := k1c3) (by decide +kernel) rfl rfl rfl (by decide +kernel)
set_option maxRecDepth 65536 in
theorem w_c1 : (Jvm.Cond.code ({ cls := "java/util/ArrayList", name := "<init>", desc := "()V" } : Jvm.MethodName) jdk_38_method_2_code (1 : Nat) (Option.none : Option Jvm.ClassFile.FieldType)).before args0 about1 = true := code_word (m := ⟨11, 0⟩) (meth := k11m0) (c := k11c0) (by decide +kernel) rfl rfl rfl (by decide +kernel)
set_option maxRecDepth 65536 in
theorem w_c2 : (Jvm.Cond.code ({ cls := "java/util/AbstractList", name := "<init>", desc := "()V" } : Jvm.MethodName) jdk_39_method_1_code (1 : Nat) (Option.none : Option Jvm.ClassFile.FieldType)).before args0 about1 = true := code_word (m := ⟨7, 0⟩) (meth := k7m0) (c := k7c0) (by decide +kernel) rfl rfl rfl (by decide +kernel)
set_option maxRecDepth 65536 in
theorem w_c3 : (Jvm.Cond.code ({ cls := "java/util/AbstractCollection", name := "<init>", desc := "()V" } : Jvm.MethodName) jdk_22_method_1_code (1 : Nat) (Option.none : Option Jvm.ClassFile.FieldType)).before args0 about1 = true := code_word (m := ⟨4, 0⟩) (meth := k4m0) (c := k4c0) (by decide +kernel) rfl rfl rfl (by decide +kernel)
set_option maxRecDepth 65536 in
theorem w_c4 : (Jvm.Cond.code ({ cls := "java/lang/Object", name := "<init>", desc := "()V" } : Jvm.MethodName) object_method_1_code (1 : Nat) (Option.none : Option Jvm.ClassFile.FieldType)).before args0 about1 = true := code_word (m := ⟨0, 0⟩) (meth := k0m0) (c := k0c0) (by decide +kernel) rfl rfl rfl (by decide +kernel)
set_option maxRecDepth 65536 in
theorem w_c5 : (Jvm.Cond.code ({ cls := "com/example/libentitle/libentitle/role/GraphLeadsPinLaw", name := "row", desc := "(II)[I" } : Jvm.MethodName) method_2_code (5 : Nat) (Option.some (Jvm.ClassFile.FieldType.array Jvm.ClassFile.FieldType.int))).before args0 about1 = true := code_word (m := ⟨1, 1⟩) (meth := k1m1) (c := k1c1) (by decide +kernel) rfl rfl rfl (by decide +kernel)
set_option maxRecDepth 65536 in
theorem w_c6 : (Jvm.Cond.code ({ cls := "java/util/ArrayList", name := "add", desc := "(Ljava/lang/Object;)Z" } : Jvm.MethodName) jdk_38_method_25_code (2 : Nat) (Option.some Jvm.ClassFile.FieldType.boolean)).before args0 about1 = true := code_word (m := ⟨11, 7⟩) (meth := k11m7) (c := k11c7) (by decide +kernel) rfl rfl rfl (by decide +kernel)
set_option maxRecDepth 65536 in
theorem w_c7 : (Jvm.Cond.code ({ cls := "java/util/ArrayList", name := "add", desc := "(Ljava/lang/Object;[Ljava/lang/Object;I)V" } : Jvm.MethodName) jdk_38_method_24_code (4 : Nat) (Option.none : Option Jvm.ClassFile.FieldType)).before args0 about1 = true := code_word (m := ⟨11, 6⟩) (meth := k11m6) (c := k11c6) (by decide +kernel) rfl rfl rfl (by decide +kernel)
set_option maxRecDepth 65536 in
theorem w_c8 : (Jvm.Cond.code ({ cls := "java/util/ArrayList", name := "grow", desc := "()[Ljava/lang/Object;" } : Jvm.MethodName) jdk_38_method_7_code (1 : Nat) (Option.some (Jvm.ClassFile.FieldType.array (Jvm.ClassFile.FieldType.object "java/lang/Object")))).before args0 about1 = true := code_word (m := ⟨11, 2⟩) (meth := k11m2) (c := k11c2) (by decide +kernel) rfl rfl rfl (by decide +kernel)
set_option maxRecDepth 65536 in
theorem w_c9 : (Jvm.Cond.code ({ cls := "java/util/ArrayList", name := "grow", desc := "(I)[Ljava/lang/Object;" } : Jvm.MethodName) jdk_38_method_6_code (4 : Nat) (Option.some (Jvm.ClassFile.FieldType.array (Jvm.ClassFile.FieldType.object "java/lang/Object")))).before args0 about1 = true := code_word (m := ⟨11, 1⟩) (meth := k11m1) (c := k11c1) (by decide +kernel) rfl rfl rfl (by decide +kernel)
set_option maxRecDepth 65536 in
theorem w_c10 : (Jvm.Cond.code ({ cls := "java/lang/Math", name := "max", desc := "(II)I" } : Jvm.MethodName) jdk_29_method_65_code (2 : Nat) (Option.some Jvm.ClassFile.FieldType.int)).before args0 about1 = true := code_word (m := ⟨12, 1⟩) (meth := k12m1) (c := k12c1) (by decide +kernel) rfl rfl rfl (by decide +kernel)
set_option maxRecDepth 65536 in
theorem w_c11 : (Jvm.Cond.code ({ cls := "com/example/libentitle/libentitle/role/Graph", name := "<init>", desc := "(Ljava/util/List;Ljava/util/List;)V" } : Jvm.MethodName) prog_47_method_2_code (3 : Nat) (Option.none : Option Jvm.ClassFile.FieldType)).before args0 about1 = true := code_word (m := ⟨13, 0⟩) (meth := k13m0) (c := k13c0) (by decide +kernel) rfl rfl rfl (by decide +kernel)
set_option maxRecDepth 65536 in
theorem w_c12 : (Jvm.Cond.code ({ cls := "com/example/libentitle/libentitle/role/Rows", name := "<init>", desc := "(Ljava/util/List;)V" } : Jvm.MethodName) prog_61_method_1_code (3 : Nat) (Option.none : Option Jvm.ClassFile.FieldType)).before args0 about1 = true := code_word (m := ⟨14, 0⟩) (meth := k14m0) (c := k14c0) (by decide +kernel) rfl rfl rfl (by decide +kernel)
set_option maxRecDepth 65536 in
theorem w_c13 : (Jvm.Cond.code ({ cls := "java/util/ArrayList", name := "size", desc := "()I" } : Jvm.MethodName) jdk_38_method_8_code (1 : Nat) (Option.some Jvm.ClassFile.FieldType.int)).before args0 about1 = true := code_word (m := ⟨11, 3⟩) (meth := k11m3) (c := k11c3) (by decide +kernel) rfl rfl rfl (by decide +kernel)
set_option maxRecDepth 65536 in
theorem w_c14 : (Jvm.Cond.code ({ cls := "java/util/ArrayList", name := "get", desc := "(I)Ljava/lang/Object;" } : Jvm.MethodName) jdk_38_method_20_code (2 : Nat) (Option.some (Jvm.ClassFile.FieldType.object "java/lang/Object"))).before args0 about1 = true := code_word (m := ⟨11, 5⟩) (meth := k11m5) (c := k11c5) (by decide +kernel) rfl rfl rfl (by decide +kernel)
set_option maxRecDepth 65536 in
theorem w_c15 : (Jvm.Cond.code ({ cls := "java/util/Objects", name := "checkIndex", desc := "(II)I" } : Jvm.MethodName) jdk_31_method_17_code (2 : Nat) (Option.some Jvm.ClassFile.FieldType.int)).before args0 about1 = true := code_word (m := ⟨15, 1⟩) (meth := k15m1) (c := k15c1) (by decide +kernel) rfl rfl rfl (by decide +kernel)
set_option maxRecDepth 65536 in
theorem w_c16 : (Jvm.Cond.code ({ cls := "jdk/internal/util/Preconditions", name := "checkIndex", desc := "(IILjava/util/function/BiFunction;)I" } : Jvm.MethodName) jdk_41_method_11_code (3 : Nat) (Option.some Jvm.ClassFile.FieldType.int)).before args0 about1 = true := code_word (m := ⟨16, 1⟩) (meth := k16m1) (c := k16c1) (by decide +kernel) rfl rfl rfl (by decide +kernel)
set_option maxRecDepth 65536 in
theorem w_c17 : (Jvm.Cond.code ({ cls := "java/util/ArrayList", name := "elementData", desc := "(I)Ljava/lang/Object;" } : Jvm.MethodName) jdk_38_method_18_code (2 : Nat) (Option.some (Jvm.ClassFile.FieldType.object "java/lang/Object"))).before args0 about1 = true := code_word (m := ⟨11, 4⟩) (meth := k11m4) (c := k11c4) (by decide +kernel) rfl rfl rfl (by decide +kernel)
set_option maxRecDepth 65536 in
theorem w_c18 : (Jvm.Cond.code ({ cls := "com/example/libentitle/libentitle/role/Rows", name := "inverse", desc := "(I)Lcom/example/libentitle/libentitle/role/Rows;" } : Jvm.MethodName) prog_61_method_4_code (7 : Nat) (Option.some (Jvm.ClassFile.FieldType.object "com/example/libentitle/libentitle/role/Rows"))).before args0 about1 = true := code_word (m := ⟨14, 2⟩) (meth := k14m2) (c := k14c2) (by decide +kernel) rfl rfl rfl (by decide +kernel)
set_option maxRecDepth 65536 in
theorem w_c19 : (Jvm.Cond.code ({ cls := "java/util/Arrays", name := "copyOf", desc := "([II)[I" } : Jvm.MethodName) jdk_65_method_123_code (3 : Nat) (Option.some (Jvm.ClassFile.FieldType.array Jvm.ClassFile.FieldType.int))).before args0 about1 = true := code_word (m := ⟨18, 1⟩) (meth := k18m1) (c := k18c1) (by decide +kernel) rfl rfl rfl (by decide +kernel)
set_option maxRecDepth 65536 in
theorem w_c20 : (Jvm.Cond.code ({ cls := "java/lang/Math", name := "min", desc := "(II)I" } : Jvm.MethodName) jdk_29_method_69_code (2 : Nat) (Option.some Jvm.ClassFile.FieldType.int)).before args0 about1 = true := code_word (m := ⟨12, 2⟩) (meth := k12m2) (c := k12c2) (by decide +kernel) rfl rfl rfl (by decide +kernel)
set_option maxRecDepth 65536 in
theorem w_c21 : (Jvm.Cond.code ({ cls := "com/example/libentitle/libentitle/role/Rows", name := "<init>", desc := "([I[I)V" } : Jvm.MethodName) prog_61_method_2_code (3 : Nat) (Option.none : Option Jvm.ClassFile.FieldType)).before args0 about1 = true := code_word (m := ⟨14, 1⟩) (meth := k14m1) (c := k14c1) (by decide +kernel) rfl rfl rfl (by decide +kernel)
set_option maxRecDepth 65536 in
theorem w_c22 : (Jvm.Cond.code ({ cls := "com/example/libentitle/libentitle/role/Graph", name := "leads", desc := "(I)Z" } : Jvm.MethodName) prog_47_method_4_code (2 : Nat) (Option.some Jvm.ClassFile.FieldType.boolean)).before args0 about1 = true := code_word (m := ⟨13, 1⟩) (meth := k13m1) (c := k13c1) (by decide +kernel) rfl rfl rfl (by decide +kernel)
set_option maxRecDepth 65536 in
theorem w_c23 : (Jvm.Cond.code ({ cls := "com/example/libentitle/libentitle/role/Rows", name := "length", desc := "(I)I" } : Jvm.MethodName) prog_61_method_10_code (2 : Nat) (Option.some Jvm.ClassFile.FieldType.int)).before args0 about1 = true := code_word (m := ⟨14, 3⟩) (meth := k14m3) (c := k14c3) (by decide +kernel) rfl rfl rfl (by decide +kernel)
set_option maxRecDepth 65536 in
theorem w_c24 : (Jvm.Cond.code ({ cls := "com/example/libentitle/libentitle/role/GraphLeadsPinLaw", name := "expected", desc := "(III)Z" } : Jvm.MethodName) method_3_code (5 : Nat) (Option.some Jvm.ClassFile.FieldType.boolean)).before args0 about1 = true := code_word (m := ⟨1, 2⟩) (meth := k1m2) (c := k1c2) (by decide +kernel) rfl rfl rfl (by decide +kernel)
def codes1 : List Jvm.Cond := [Jvm.Cond.code x code maxLocals ret, Jvm.Cond.code ({ cls := "java/util/ArrayList", name := "<init>", desc := "()V" } : Jvm.MethodName) jdk_38_method_2_code (1 : Nat) (Option.none : Option Jvm.ClassFile.FieldType), Jvm.Cond.code ({ cls := "java/util/AbstractList", name := "<init>", desc := "()V" } : Jvm.MethodName) jdk_39_method_1_code (1 : Nat) (Option.none : Option Jvm.ClassFile.FieldType), Jvm.Cond.code ({ cls := "java/util/AbstractCollection", name := "<init>", desc := "()V" } : Jvm.MethodName) jdk_22_method_1_code (1 : Nat) (Option.none : Option Jvm.ClassFile.FieldType), Jvm.Cond.code ({ cls := "java/lang/Object", name := "<init>", desc := "()V" } : Jvm.MethodName) object_method_1_code (1 : Nat) (Option.none : Option Jvm.ClassFile.FieldType), Jvm.Cond.code ({ cls := "com/example/libentitle/libentitle/role/GraphLeadsPinLaw", name := "row", desc := "(II)[I" } : Jvm.MethodName) method_2_code (5 : Nat) (Option.some (Jvm.ClassFile.FieldType.array Jvm.ClassFile.FieldType.int)), Jvm.Cond.code ({ cls := "java/util/ArrayList", name := "add", desc := "(Ljava/lang/Object;)Z" } : Jvm.MethodName) jdk_38_method_25_code (2 : Nat) (Option.some Jvm.ClassFile.FieldType.boolean), Jvm.Cond.code ({ cls := "java/util/ArrayList", name := "add", desc := "(Ljava/lang/Object;[Ljava/lang/Object;I)V" } : Jvm.MethodName) jdk_38_method_24_code (4 : Nat) (Option.none : Option Jvm.ClassFile.FieldType), Jvm.Cond.code ({ cls := "java/util/ArrayList", name := "grow", desc := "()[Ljava/lang/Object;" } : Jvm.MethodName) jdk_38_method_7_code (1 : Nat) (Option.some (Jvm.ClassFile.FieldType.array (Jvm.ClassFile.FieldType.object "java/lang/Object"))), Jvm.Cond.code ({ cls := "java/util/ArrayList", name := "grow", desc := "(I)[Ljava/lang/Object;" } : Jvm.MethodName) jdk_38_method_6_code (4 : Nat) (Option.some (Jvm.ClassFile.FieldType.array (Jvm.ClassFile.FieldType.object "java/lang/Object"))), Jvm.Cond.code ({ cls := "java/lang/Math", name := "max", desc := "(II)I" } : Jvm.MethodName) jdk_29_method_65_code (2 : Nat) (Option.some Jvm.ClassFile.FieldType.int), Jvm.Cond.code ({ cls := "com/example/libentitle/libentitle/role/Graph", name := "<init>", desc := "(Ljava/util/List;Ljava/util/List;)V" } : Jvm.MethodName) prog_47_method_2_code (3 : Nat) (Option.none : Option Jvm.ClassFile.FieldType), Jvm.Cond.code ({ cls := "com/example/libentitle/libentitle/role/Rows", name := "<init>", desc := "(Ljava/util/List;)V" } : Jvm.MethodName) prog_61_method_1_code (3 : Nat) (Option.none : Option Jvm.ClassFile.FieldType), Jvm.Cond.code ({ cls := "java/util/ArrayList", name := "size", desc := "()I" } : Jvm.MethodName) jdk_38_method_8_code (1 : Nat) (Option.some Jvm.ClassFile.FieldType.int), Jvm.Cond.code ({ cls := "java/util/ArrayList", name := "get", desc := "(I)Ljava/lang/Object;" } : Jvm.MethodName) jdk_38_method_20_code (2 : Nat) (Option.some (Jvm.ClassFile.FieldType.object "java/lang/Object")), Jvm.Cond.code ({ cls := "java/util/Objects", name := "checkIndex", desc := "(II)I" } : Jvm.MethodName) jdk_31_method_17_code (2 : Nat) (Option.some Jvm.ClassFile.FieldType.int), Jvm.Cond.code ({ cls := "jdk/internal/util/Preconditions", name := "checkIndex", desc := "(IILjava/util/function/BiFunction;)I" } : Jvm.MethodName) jdk_41_method_11_code (3 : Nat) (Option.some Jvm.ClassFile.FieldType.int), Jvm.Cond.code ({ cls := "java/util/ArrayList", name := "elementData", desc := "(I)Ljava/lang/Object;" } : Jvm.MethodName) jdk_38_method_18_code (2 : Nat) (Option.some (Jvm.ClassFile.FieldType.object "java/lang/Object")), Jvm.Cond.code ({ cls := "com/example/libentitle/libentitle/role/Rows", name := "inverse", desc := "(I)Lcom/example/libentitle/libentitle/role/Rows;" } : Jvm.MethodName) prog_61_method_4_code (7 : Nat) (Option.some (Jvm.ClassFile.FieldType.object "com/example/libentitle/libentitle/role/Rows")), Jvm.Cond.code ({ cls := "java/util/Arrays", name := "copyOf", desc := "([II)[I" } : Jvm.MethodName) jdk_65_method_123_code (3 : Nat) (Option.some (Jvm.ClassFile.FieldType.array Jvm.ClassFile.FieldType.int)), Jvm.Cond.code ({ cls := "java/lang/Math", name := "min", desc := "(II)I" } : Jvm.MethodName) jdk_29_method_69_code (2 : Nat) (Option.some Jvm.ClassFile.FieldType.int), Jvm.Cond.code ({ cls := "com/example/libentitle/libentitle/role/Rows", name := "<init>", desc := "([I[I)V" } : Jvm.MethodName) prog_61_method_2_code (3 : Nat) (Option.none : Option Jvm.ClassFile.FieldType), Jvm.Cond.code ({ cls := "com/example/libentitle/libentitle/role/Graph", name := "leads", desc := "(I)Z" } : Jvm.MethodName) prog_47_method_4_code (2 : Nat) (Option.some Jvm.ClassFile.FieldType.boolean), Jvm.Cond.code ({ cls := "com/example/libentitle/libentitle/role/Rows", name := "length", desc := "(I)I" } : Jvm.MethodName) prog_61_method_10_code (2 : Nat) (Option.some Jvm.ClassFile.FieldType.int), Jvm.Cond.code ({ cls := "com/example/libentitle/libentitle/role/GraphLeadsPinLaw", name := "expected", desc := "(III)Z" } : Jvm.MethodName) method_3_code (5 : Nat) (Option.some Jvm.ClassFile.FieldType.boolean)]
set_option maxRecDepth 65536 in
theorem codes_eq : words1.filter isCode = codes1 := rfl
theorem w_codes : ∀ c ∈ words1.filter isCode, c.before args0 about1 = true := by
  rw [codes_eq]
  intro c hc
  simp only [codes1, List.mem_cons, List.not_mem_nil, or_false] at hc
  rcases hc with rfl | rfl | rfl | rfl | rfl | rfl | rfl | rfl | rfl | rfl | rfl | rfl | rfl | rfl | rfl | rfl | rfl | rfl | rfl | rfl | rfl | rfl | rfl | rfl | rfl
  · exact w_c0
  · exact w_c1
  · exact w_c2
  · exact w_c3
  · exact w_c4
  · exact w_c5
  · exact w_c6
  · exact w_c7
  · exact w_c8
  · exact w_c9
  · exact w_c10
  · exact w_c11
  · exact w_c12
  · exact w_c13
  · exact w_c14
  · exact w_c15
  · exact w_c16
  · exact w_c17
  · exact w_c18
  · exact w_c19
  · exact w_c20
  · exact w_c21
  · exact w_c22
  · exact w_c23
  · exact w_c24
set_option maxRecDepth 65536 in
theorem w_t1 : (words1.take 24).all (fun c => isCode c || c.before args0 about1) = true := by decide +kernel
set_option maxRecDepth 65536 in
theorem w_t2 : ((words1.drop 24).take 24).all (fun c => isCode c || c.before args0 about1) = true := by decide +kernel
set_option maxRecDepth 65536 in
theorem w_t3 : (((words1.drop 24).drop 24).take 24).all (fun c => isCode c || c.before args0 about1) = true := by decide +kernel
set_option maxRecDepth 65536 in
theorem w_t4 : ((((words1.drop 24).drop 24).drop 24).take 24).all (fun c => isCode c || c.before args0 about1) = true := by decide +kernel
set_option maxRecDepth 65536 in
theorem w_t5 : (((((words1.drop 24).drop 24).drop 24).drop 24).take 24).all (fun c => isCode c || c.before args0 about1) = true := by decide +kernel
set_option maxRecDepth 65536 in
theorem w_t6 : ((((((words1.drop 24).drop 24).drop 24).drop 24).drop 24).take 24).all (fun c => isCode c || c.before args0 about1) = true := by decide +kernel
set_option maxRecDepth 65536 in
theorem w_t7 : ((((((words1.drop 24).drop 24).drop 24).drop 24).drop 24).drop 24).all (fun c => isCode c || c.before args0 about1) = true := by decide +kernel
theorem w_tables : (allAtoms (Jvm.Cond.code x code maxLocals ret :: tables_1)).before args0 about1 = true := by
  rw [allAtoms_all]
  show words1.all (fun c => c.before args0 about1) = true
  refine all_split ?_ w_codes
  rw [← List.take_append_drop 24 words1, List.all_append, w_t1, ← List.take_append_drop 24 (words1.drop 24), List.all_append, w_t2, ← List.take_append_drop 24 ((words1.drop 24).drop 24), List.all_append, w_t3, ← List.take_append_drop 24 (((words1.drop 24).drop 24).drop 24), List.all_append, w_t4, ← List.take_append_drop 24 ((((words1.drop 24).drop 24).drop 24).drop 24), List.all_append, w_t5, ← List.take_append_drop 24 (((((words1.drop 24).drop 24).drop 24).drop 24).drop 24), List.all_append, w_t6, w_t7]
  rfl
set_option maxRecDepth 65536 in
theorem w_rest : rest_1_c.before args0 about1 = true := by decide +kernel
set_option maxRecDepth 65536 in
theorem w_case : (Jvm.Cond.and given_1 narrow_1).before args0 about1 = true := by decide +kernel
theorem w_applies : (headSpec (Jvm.Cond.code x code maxLocals ret :: tables_1) room_1).applies x e0.platform about1 = true :=
  (Spec.applies_iff w_frames).mpr ⟨w_running, w_runnable, w_alone, w_named, w_hears, w_ripe, w_room, w_tables⟩
theorem atStart : AtStart classFile x code maxLocals ret World_1 tables_1 room_1 Calls_1 rest_1 Pre_1 launch0 p0 e0 about1 theMethod args0 below0 :=
  ⟨lists_1, trivial, launch0.admits_env _ _ _, launch0.least_env, fairChoices_fair.cas, fairChoices_fair.clock, w_frames, w_args, w_heap, w_applies, trivial, w_rest, w_case⟩
end start1
theorem witness_1 : WitnessClaimed_1 := ⟨start1.p0, start1.e0, start1.about1, start1.theMethod, start1.args0, start1.below0, start1.atStart⟩
end Jvm.Pilot.@@N@@

import JvmDerived
import JvmDerived.Pilot.@@N@@Statement
import JvmDerived.Pilot.@@N@@Code
set_option linter.unusedVariables false
set_option linter.unusedSimpArgs false
namespace Jvm.Pilot.@@N@@
open Jvm Jvm.ClassFile Sem Op Lib Jvm.Free Jvm.Stand Jvm.LawKit Jvm.RoadKit Bundle Jvm.Pilot.@@N@@.Jvm.D
section OwnKit
def own_Cx (p : Program) (s : State) (m : MethodId) (meth : Method) (c : Code) (Z : State) (n0 : Nat) (own nm : String) (bytes : ByteArray) (ml : Nat) (ret : Option FieldType) : Prop :=
  p.tables.exec = Jvm.exec ∧ c.code = bytes ∧ c.maxLocals = ml ∧ s.vm.findClass own = some m.cls ∧ meth.name = nm ∧ meth.sig.returnType = ret ∧ meth.locks = false ∧ Z.Warmed39 s.vm ∧ n0 ≤ s.heap.size
def own_St (p : Program) (l : Launch) (e : Env) (R : Room) (s : State) (m : MethodId) (args : Array Value) (below : List Frame) (meth : Method) (c : Code) (n0 : Nat) (T : State) (h : Heap) (cells slots : Nat) : Prop :=
  ∃ locs, Stand p l e R s m args below meth c T locs cells slots ∧ Fr n0 locs ∧ T.heap = h
def own_Go (p : Program) (e : Env) (below : List Frame) (n0 : Nat) (F : Option Value → State → List Loc → Prop) (S : State) : Prop :=
  ∃ t v L, Steps p.tables e below S t ∧ t.status = .running ∧ Ended t below (.returned v) ∧ Fr n0 L ∧ F v t L
def own_Fin (R : Room) (s : State) (Q : Option Value → Heap → Prop) : Option Value → State → List Loc → Prop := fun v t L => Q v t.heap ∧ FrameEnd s (.returned v) t L R.cells R.slots
abbrev own_Met (l : Launch) (Z : State) (n0 : Nat) (y : MethodName) (bytes : ByteArray) (ml : Nat) (ret : Option FieldType) (ws : List Jvm.Cond) (rm : Room) (as' : Array Value) (h0 : Heap) (Q : Option Value → Heap → Prop) : Prop :=
  MetFree l y (head1 (Jvm.Cond.code y bytes ml ret :: ws) rm) (fun a U => a = as' ∧ Z.Warmed39 U.vm ∧ U.heap = h0) (fun _ _ _ _ _ => True) (fun _ U o U' => ∃ v L, o = .returned v ∧ (Q v U'.heap ∧ Fr n0 L) ∧ FrameEnd U o U' L rm.cells rm.slots)
variable {p : Program} {l : Launch} {e : Env} {R : Room} {s : State} {m : MethodId} {args : Array Value} {below : List Frame} {meth : Method} {c : Code} {T : State} {cells slots : Nat} {Z : State} {a0 : Array Value} {h h' : Heap} {n0 : Nat} {own nm : String} {bytes : ByteArray} {ml : Nat} {ret : Option FieldType} {Q : Option Value → Heap → Prop} {F : Option Value → State → List Loc → Prop} {pc pc' pcT : Nat} {L L' : Array Slot} {S : List Value}
theorem own_st {A B : State} (k : ∀ t, Steps p.tables e below B t → Steps p.tables e below A t) (g : own_Go p e below n0 F B) : own_Go p e below n0 F A := by
  obtain ⟨t, v, L, h1, r⟩ := g; exact ⟨t, v, L, k t h1, r⟩
theorem own_big (C : own_Cx p s m meth c Z n0 own nm bytes ml ret) (X : own_St p l e R s m args below meth c n0 T h cells slots) : n0 ≤ h.size := by
  obtain ⟨locs, X, -, rfl⟩ := X; exact Nat.le_trans C.2.2.2.2.2.2.2.2 X.same.2.1
/-- a body's contract out of its run -/
theorem own_body {y : MethodName} {ws : List Jvm.Cond} {rm : Room} {as' : Array Value} {h0 : Heap} {Ls : Array Slot} (hpl : plainFor y = true) (hn : n0 ≤ h0.size) (hef : ∀ m, entryFrame m as' ml = mkF m 0 Ls [])
    (run : ∀ p e s m below meth c T, own_Cx p s m meth c Z n0 y.cls y.name bytes ml ret → own_St p l e rm s m as' below meth c n0 T h0 0 0 → own_Go p e below n0 (own_Fin rm s Q) (T.setTop (mkF m 0 Ls []))) :
    own_Met l Z n0 y bytes ml ret ws rm as' h0 Q := by
  refine MetFree.of_bodySF hpl hisR ?_
  intro p e s m args below meth c s₁ Bd hml0 hP hK
  obtain ⟨rfl, hZ, hh⟩ := hP
  have X0 : Stand p l e rm s m args below meth c s₁ [] 0 0 := Stand.of_body Bd
  have e0 : s₁.heap = h0 := by rw [← hh, Bd.state]; rfl
  obtain ⟨t, v, L, g1, g2, g3, g5, g4, g6⟩ := run p e s m below meth c s₁ ⟨Bd.exec, Bd.bytes, hml0, findClass_of_methodNamed Bd.named, (name_of_methodNamed Bd.named Bd.method).1, Bd.returns, Bd.notSynchronized, hZ, by rw [hh]; exact hn⟩ ⟨[], X0, Fr.nil n0, e0⟩
  exact ⟨t, .returned v, castTop (hef m) g1, g2, g3, v, L, rfl, ⟨g4, g5⟩, g6⟩

theorem own_iload (C : own_Cx p s m meth c Z n0 own nm bytes ml ret) (X : own_St p l e R s m args below meth c n0 T h cells slots) {k : Nat} {v : Int32} (hd : decode bytes pc = .ok (.iload k, 2)) (hl : L[k]? = some (.val (.int v))) (hp : pc + 2 = pc') (g : own_Go p e below n0 F (T.setTop (mkF m pc' L (.int v :: S)))) : own_Go p e below n0 F (T.setTop (mkF m pc L (S))) := by
  obtain ⟨locs, X, -, -⟩ := X; subst hp
  exact own_st (fun t k => XS.iload X.here C.1 rfl (hb C.2.1 hd) hl k) g
theorem own_iloadN (C : own_Cx p s m meth c Z n0 own nm bytes ml ret) (X : own_St p l e R s m args below meth c n0 T h cells slots) {k : Fin 4} {v : Int32} (hd : decode bytes pc = .ok (.iload_n k, 1)) (hl : L[k.val]? = some (.val (.int v))) (hp : pc + 1 = pc') (g : own_Go p e below n0 F (T.setTop (mkF m pc' L (.int v :: S)))) : own_Go p e below n0 F (T.setTop (mkF m pc L (S))) := by
  obtain ⟨locs, X, -, -⟩ := X; subst hp
  exact own_st (fun t k => XS.iloadN X.here C.1 rfl (hb C.2.1 hd) hl k) g
theorem own_istore (C : own_Cx p s m meth c Z n0 own nm bytes ml ret) (X : own_St p l e R s m args below meth c n0 T h cells slots) {k : Nat} {v : Int32} (hd : decode bytes pc = .ok (.istore k, 2)) (hl : storeLocals L k (.int v) = some L') (hp : pc + 2 = pc') (g : own_Go p e below n0 F (T.setTop (mkF m pc' L' (S)))) : own_Go p e below n0 F (T.setTop (mkF m pc L (.int v :: S))) := by
  obtain ⟨locs, X, -, -⟩ := X; subst hp
  exact own_st (fun t k => XS.istore X.here C.1 rfl (hb C.2.1 hd) rfl hl k) g
theorem own_istoreN (C : own_Cx p s m meth c Z n0 own nm bytes ml ret) (X : own_St p l e R s m args below meth c n0 T h cells slots) {k : Fin 4} {v : Int32} (hd : decode bytes pc = .ok (.istore_n k, 1)) (hl : storeLocals L k.val (.int v) = some L') (hp : pc + 1 = pc') (g : own_Go p e below n0 F (T.setTop (mkF m pc' L' (S)))) : own_Go p e below n0 F (T.setTop (mkF m pc L (.int v :: S))) := by
  obtain ⟨locs, X, -, -⟩ := X; subst hp
  exact own_st (fun t k => XS.istoreN X.here C.1 rfl (hb C.2.1 hd) rfl hl k) g
theorem own_lload (C : own_Cx p s m meth c Z n0 own nm bytes ml ret) (X : own_St p l e R s m args below meth c n0 T h cells slots) {k : Nat} {v : Int64} (hd : decode bytes pc = .ok (.lload k, 2)) (hl : L[k]? = some (.val (.long v))) (hp : pc + 2 = pc') (g : own_Go p e below n0 F (T.setTop (mkF m pc' L (.long v :: S)))) : own_Go p e below n0 F (T.setTop (mkF m pc L (S))) := by
  obtain ⟨locs, X, -, -⟩ := X; subst hp
  exact own_st (fun t k => XS.lload X.here C.1 rfl (hb C.2.1 hd) hl k) g
theorem own_lloadN (C : own_Cx p s m meth c Z n0 own nm bytes ml ret) (X : own_St p l e R s m args below meth c n0 T h cells slots) {k : Fin 4} {v : Int64} (hd : decode bytes pc = .ok (.lload_n k, 1)) (hl : L[k.val]? = some (.val (.long v))) (hp : pc + 1 = pc') (g : own_Go p e below n0 F (T.setTop (mkF m pc' L (.long v :: S)))) : own_Go p e below n0 F (T.setTop (mkF m pc L (S))) := by
  obtain ⟨locs, X, -, -⟩ := X; subst hp
  exact own_st (fun t k => XS.lloadN X.here C.1 rfl (hb C.2.1 hd) hl k) g
theorem own_lstore (C : own_Cx p s m meth c Z n0 own nm bytes ml ret) (X : own_St p l e R s m args below meth c n0 T h cells slots) {k : Nat} {v : Int64} (hd : decode bytes pc = .ok (.lstore k, 2)) (hl : storeLocals L k (.long v) = some L') (hp : pc + 2 = pc') (g : own_Go p e below n0 F (T.setTop (mkF m pc' L' (S)))) : own_Go p e below n0 F (T.setTop (mkF m pc L (.long v :: S))) := by
  obtain ⟨locs, X, -, -⟩ := X; subst hp
  exact own_st (fun t k => XS.lstore X.here C.1 rfl (hb C.2.1 hd) rfl hl k) g
theorem own_lstoreN (C : own_Cx p s m meth c Z n0 own nm bytes ml ret) (X : own_St p l e R s m args below meth c n0 T h cells slots) {k : Fin 4} {v : Int64} (hd : decode bytes pc = .ok (.lstore_n k, 1)) (hl : storeLocals L k.val (.long v) = some L') (hp : pc + 1 = pc') (g : own_Go p e below n0 F (T.setTop (mkF m pc' L' (S)))) : own_Go p e below n0 F (T.setTop (mkF m pc L (.long v :: S))) := by
  obtain ⟨locs, X, -, -⟩ := X; subst hp
  exact own_st (fun t k => XS.lstoreN X.here C.1 rfl (hb C.2.1 hd) rfl hl k) g
theorem own_aload (C : own_Cx p s m meth c Z n0 own nm bytes ml ret) (X : own_St p l e R s m args below meth c n0 T h cells slots) {k : Nat} {v : Value} (hd : decode bytes pc = .ok (.aload k, 2)) (hl : L[k]? = some (.val v)) (hv : v.isRef = true) (hp : pc + 2 = pc') (g : own_Go p e below n0 F (T.setTop (mkF m pc' L (v :: S)))) : own_Go p e below n0 F (T.setTop (mkF m pc L (S))) := by
  obtain ⟨locs, X, -, -⟩ := X; subst hp
  exact own_st (fun t k => XS.aload X.here C.1 rfl (hb C.2.1 hd) hl hv k) g
theorem own_aloadN (C : own_Cx p s m meth c Z n0 own nm bytes ml ret) (X : own_St p l e R s m args below meth c n0 T h cells slots) {k : Fin 4} {v : Value} (hd : decode bytes pc = .ok (.aload_n k, 1)) (hl : L[k.val]? = some (.val v)) (hv : v.isRef = true) (hp : pc + 1 = pc') (g : own_Go p e below n0 F (T.setTop (mkF m pc' L (v :: S)))) : own_Go p e below n0 F (T.setTop (mkF m pc L (S))) := by
  obtain ⟨locs, X, -, -⟩ := X; subst hp
  exact own_st (fun t k => XS.aloadN X.here C.1 rfl (hb C.2.1 hd) hl hv k) g
theorem own_astore (C : own_Cx p s m meth c Z n0 own nm bytes ml ret) (X : own_St p l e R s m args below meth c n0 T h cells slots) {k : Nat} {v : Value} (hd : decode bytes pc = .ok (.astore k, 2)) (hv : v.isRef = true) (hl : storeLocals L k v = some L') (hp : pc + 2 = pc') (g : own_Go p e below n0 F (T.setTop (mkF m pc' L' (S)))) : own_Go p e below n0 F (T.setTop (mkF m pc L (v :: S))) := by
  obtain ⟨locs, X, -, -⟩ := X; subst hp
  exact own_st (fun t k => XS.astore X.here C.1 rfl (hb C.2.1 hd) rfl hv hl k) g
theorem own_astoreN (C : own_Cx p s m meth c Z n0 own nm bytes ml ret) (X : own_St p l e R s m args below meth c n0 T h cells slots) {k : Fin 4} {v : Value} (hd : decode bytes pc = .ok (.astore_n k, 1)) (hv : v.isRef = true) (hl : storeLocals L k.val v = some L') (hp : pc + 1 = pc') (g : own_Go p e below n0 F (T.setTop (mkF m pc' L' (S)))) : own_Go p e below n0 F (T.setTop (mkF m pc L (v :: S))) := by
  obtain ⟨locs, X, -, -⟩ := X; subst hp
  exact own_st (fun t k => XS.astoreN X.here C.1 rfl (hb C.2.1 hd) rfl hv hl k) g
theorem own_iconst (C : own_Cx p s m meth c Z n0 own nm bytes ml ret) (X : own_St p l e R s m args below meth c n0 T h cells slots) {i : Int} {v : Int32} (hd : decode bytes pc = .ok (.iconst i, 1)) (hv : Int32.ofInt i = v) (hp : pc + 1 = pc') (g : own_Go p e below n0 F (T.setTop (mkF m pc' L (.int v :: S)))) : own_Go p e below n0 F (T.setTop (mkF m pc L (S))) := by
  obtain ⟨locs, X, -, -⟩ := X; subst hp hv
  exact own_st (fun t k => XS.iconst X.here C.1 rfl (hb C.2.1 hd) k) g
theorem own_bipush (C : own_Cx p s m meth c Z n0 own nm bytes ml ret) (X : own_St p l e R s m args below meth c n0 T h cells slots) {i : Int} {v : Int32} (hd : decode bytes pc = .ok (.bipush i, 2)) (hv : (Int8.ofInt i).toInt32 = v) (hp : pc + 2 = pc') (g : own_Go p e below n0 F (T.setTop (mkF m pc' L (.int v :: S)))) : own_Go p e below n0 F (T.setTop (mkF m pc L (S))) := by
  obtain ⟨locs, X, -, -⟩ := X; subst hp hv
  exact own_st (fun t k => XS.bipush X.here C.1 rfl (hb C.2.1 hd) k) g
theorem own_sipush (C : own_Cx p s m meth c Z n0 own nm bytes ml ret) (X : own_St p l e R s m args below meth c n0 T h cells slots) {i : Int} {v : Int32} (hd : decode bytes pc = .ok (.sipush i, 3)) (hv : (Int16.ofInt i).toInt32 = v) (hp : pc + 3 = pc') (g : own_Go p e below n0 F (T.setTop (mkF m pc' L (.int v :: S)))) : own_Go p e below n0 F (T.setTop (mkF m pc L (S))) := by
  obtain ⟨locs, X, -, -⟩ := X; subst hp hv
  exact own_st (fun t k => XS.sipush X.here C.1 rfl (hb C.2.1 hd) k) g
theorem own_lconst (C : own_Cx p s m meth c Z n0 own nm bytes ml ret) (X : own_St p l e R s m args below meth c n0 T h cells slots) {i : Fin 2} {v : Int64} (hd : decode bytes pc = .ok (.lconst i, 1)) (hv : Int64.ofNat i = v) (hp : pc + 1 = pc') (g : own_Go p e below n0 F (T.setTop (mkF m pc' L (.long v :: S)))) : own_Go p e below n0 F (T.setTop (mkF m pc L (S))) := by
  obtain ⟨locs, X, -, -⟩ := X; subst hp hv
  exact own_st (fun t k => XS.lconst X.here C.1 rfl (hb C.2.1 hd) k) g
theorem own_aconst_null (C : own_Cx p s m meth c Z n0 own nm bytes ml ret) (X : own_St p l e R s m args below meth c n0 T h cells slots)  (hd : decode bytes pc = .ok (.aconst_null, 1))  (hp : pc + 1 = pc') (g : own_Go p e below n0 F (T.setTop (mkF m pc' L (.null :: S)))) : own_Go p e below n0 F (T.setTop (mkF m pc L (S))) := by
  obtain ⟨locs, X, -, -⟩ := X; subst hp
  exact own_st (fun t k => XS.aconstNull X.here C.1 rfl (hb C.2.1 hd) k) g
theorem own_iadd (C : own_Cx p s m meth c Z n0 own nm bytes ml ret) (X : own_St p l e R s m args below meth c n0 T h cells slots) {x y z : Int32} (hd : decode bytes pc = .ok (.iadd, 1)) (hz : x + y = z) (hp : pc + 1 = pc') (g : own_Go p e below n0 F (T.setTop (mkF m pc' L (.int z :: S)))) : own_Go p e below n0 F (T.setTop (mkF m pc L (.int y :: .int x :: S))) := by
  obtain ⟨locs, X, -, -⟩ := X; subst hp hz
  exact own_st (fun t k => XS.iadd X.here C.1 rfl (hb C.2.1 hd) rfl k) g
theorem own_ladd (C : own_Cx p s m meth c Z n0 own nm bytes ml ret) (X : own_St p l e R s m args below meth c n0 T h cells slots) {x y z : Int64} (hd : decode bytes pc = .ok (.ladd, 1)) (hz : x + y = z) (hp : pc + 1 = pc') (g : own_Go p e below n0 F (T.setTop (mkF m pc' L (.long z :: S)))) : own_Go p e below n0 F (T.setTop (mkF m pc L (.long y :: .long x :: S))) := by
  obtain ⟨locs, X, -, -⟩ := X; subst hp hz
  exact own_st (fun t k => XS.ladd X.here C.1 rfl (hb C.2.1 hd) rfl k) g
theorem own_isub (C : own_Cx p s m meth c Z n0 own nm bytes ml ret) (X : own_St p l e R s m args below meth c n0 T h cells slots) {x y z : Int32} (hd : decode bytes pc = .ok (.isub, 1)) (hz : x - y = z) (hp : pc + 1 = pc') (g : own_Go p e below n0 F (T.setTop (mkF m pc' L (.int z :: S)))) : own_Go p e below n0 F (T.setTop (mkF m pc L (.int y :: .int x :: S))) := by
  obtain ⟨locs, X, -, -⟩ := X; subst hp hz
  exact own_st (fun t k => XS.isub X.here C.1 rfl (hb C.2.1 hd) rfl k) g
theorem own_lsub (C : own_Cx p s m meth c Z n0 own nm bytes ml ret) (X : own_St p l e R s m args below meth c n0 T h cells slots) {x y z : Int64} (hd : decode bytes pc = .ok (.lsub, 1)) (hz : x - y = z) (hp : pc + 1 = pc') (g : own_Go p e below n0 F (T.setTop (mkF m pc' L (.long z :: S)))) : own_Go p e below n0 F (T.setTop (mkF m pc L (.long y :: .long x :: S))) := by
  obtain ⟨locs, X, -, -⟩ := X; subst hp hz
  exact own_st (fun t k => XS.lsub X.here C.1 rfl (hb C.2.1 hd) rfl k) g
theorem own_imul (C : own_Cx p s m meth c Z n0 own nm bytes ml ret) (X : own_St p l e R s m args below meth c n0 T h cells slots) {x y z : Int32} (hd : decode bytes pc = .ok (.imul, 1)) (hz : x * y = z) (hp : pc + 1 = pc') (g : own_Go p e below n0 F (T.setTop (mkF m pc' L (.int z :: S)))) : own_Go p e below n0 F (T.setTop (mkF m pc L (.int y :: .int x :: S))) := by
  obtain ⟨locs, X, -, -⟩ := X; subst hp hz
  exact own_st (fun t k => XS.imul X.here C.1 rfl (hb C.2.1 hd) rfl k) g
theorem own_lmul (C : own_Cx p s m meth c Z n0 own nm bytes ml ret) (X : own_St p l e R s m args below meth c n0 T h cells slots) {x y z : Int64} (hd : decode bytes pc = .ok (.lmul, 1)) (hz : x * y = z) (hp : pc + 1 = pc') (g : own_Go p e below n0 F (T.setTop (mkF m pc' L (.long z :: S)))) : own_Go p e below n0 F (T.setTop (mkF m pc L (.long y :: .long x :: S))) := by
  obtain ⟨locs, X, -, -⟩ := X; subst hp hz
  exact own_st (fun t k => XS.lmul X.here C.1 rfl (hb C.2.1 hd) rfl k) g
theorem own_iand (C : own_Cx p s m meth c Z n0 own nm bytes ml ret) (X : own_St p l e R s m args below meth c n0 T h cells slots) {x y z : Int32} (hd : decode bytes pc = .ok (.iand, 1)) (hz : x &&& y = z) (hp : pc + 1 = pc') (g : own_Go p e below n0 F (T.setTop (mkF m pc' L (.int z :: S)))) : own_Go p e below n0 F (T.setTop (mkF m pc L (.int y :: .int x :: S))) := by
  obtain ⟨locs, X, -, -⟩ := X; subst hp hz
  exact own_st (fun t k => XS.iand X.here C.1 rfl (hb C.2.1 hd) rfl k) g
theorem own_land (C : own_Cx p s m meth c Z n0 own nm bytes ml ret) (X : own_St p l e R s m args below meth c n0 T h cells slots) {x y z : Int64} (hd : decode bytes pc = .ok (.land, 1)) (hz : x &&& y = z) (hp : pc + 1 = pc') (g : own_Go p e below n0 F (T.setTop (mkF m pc' L (.long z :: S)))) : own_Go p e below n0 F (T.setTop (mkF m pc L (.long y :: .long x :: S))) := by
  obtain ⟨locs, X, -, -⟩ := X; subst hp hz
  exact own_st (fun t k => XS.land X.here C.1 rfl (hb C.2.1 hd) rfl k) g
theorem own_ior (C : own_Cx p s m meth c Z n0 own nm bytes ml ret) (X : own_St p l e R s m args below meth c n0 T h cells slots) {x y z : Int32} (hd : decode bytes pc = .ok (.ior, 1)) (hz : x ||| y = z) (hp : pc + 1 = pc') (g : own_Go p e below n0 F (T.setTop (mkF m pc' L (.int z :: S)))) : own_Go p e below n0 F (T.setTop (mkF m pc L (.int y :: .int x :: S))) := by
  obtain ⟨locs, X, -, -⟩ := X; subst hp hz
  exact own_st (fun t k => XS.ior X.here C.1 rfl (hb C.2.1 hd) rfl k) g
theorem own_lor (C : own_Cx p s m meth c Z n0 own nm bytes ml ret) (X : own_St p l e R s m args below meth c n0 T h cells slots) {x y z : Int64} (hd : decode bytes pc = .ok (.lor, 1)) (hz : x ||| y = z) (hp : pc + 1 = pc') (g : own_Go p e below n0 F (T.setTop (mkF m pc' L (.long z :: S)))) : own_Go p e below n0 F (T.setTop (mkF m pc L (.long y :: .long x :: S))) := by
  obtain ⟨locs, X, -, -⟩ := X; subst hp hz
  exact own_st (fun t k => XS.lor X.here C.1 rfl (hb C.2.1 hd) rfl k) g
theorem own_ixor (C : own_Cx p s m meth c Z n0 own nm bytes ml ret) (X : own_St p l e R s m args below meth c n0 T h cells slots) {x y z : Int32} (hd : decode bytes pc = .ok (.ixor, 1)) (hz : x ^^^ y = z) (hp : pc + 1 = pc') (g : own_Go p e below n0 F (T.setTop (mkF m pc' L (.int z :: S)))) : own_Go p e below n0 F (T.setTop (mkF m pc L (.int y :: .int x :: S))) := by
  obtain ⟨locs, X, -, -⟩ := X; subst hp hz
  exact own_st (fun t k => XS.ixor X.here C.1 rfl (hb C.2.1 hd) rfl k) g
theorem own_lxor (C : own_Cx p s m meth c Z n0 own nm bytes ml ret) (X : own_St p l e R s m args below meth c n0 T h cells slots) {x y z : Int64} (hd : decode bytes pc = .ok (.lxor, 1)) (hz : x ^^^ y = z) (hp : pc + 1 = pc') (g : own_Go p e below n0 F (T.setTop (mkF m pc' L (.long z :: S)))) : own_Go p e below n0 F (T.setTop (mkF m pc L (.long y :: .long x :: S))) := by
  obtain ⟨locs, X, -, -⟩ := X; subst hp hz
  exact own_st (fun t k => XS.lxor X.here C.1 rfl (hb C.2.1 hd) rfl k) g
theorem own_ishl (C : own_Cx p s m meth c Z n0 own nm bytes ml ret) (X : own_St p l e R s m args below meth c n0 T h cells slots) {x y z : Int32} (hd : decode bytes pc = .ok (.ishl, 1)) (hz : x <<< (y &&& 31) = z) (hp : pc + 1 = pc') (g : own_Go p e below n0 F (T.setTop (mkF m pc' L (.int z :: S)))) : own_Go p e below n0 F (T.setTop (mkF m pc L (.int y :: .int x :: S))) := by
  obtain ⟨locs, X, -, -⟩ := X; subst hp hz
  exact own_st (fun t k => XS.ishl X.here C.1 rfl (hb C.2.1 hd) rfl k) g
theorem own_ishr (C : own_Cx p s m meth c Z n0 own nm bytes ml ret) (X : own_St p l e R s m args below meth c n0 T h cells slots) {x y z : Int32} (hd : decode bytes pc = .ok (.ishr, 1)) (hz : x >>> (y &&& 31) = z) (hp : pc + 1 = pc') (g : own_Go p e below n0 F (T.setTop (mkF m pc' L (.int z :: S)))) : own_Go p e below n0 F (T.setTop (mkF m pc L (.int y :: .int x :: S))) := by
  obtain ⟨locs, X, -, -⟩ := X; subst hp hz
  exact own_st (fun t k => XS.ishr X.here C.1 rfl (hb C.2.1 hd) rfl k) g
theorem own_iushr (C : own_Cx p s m meth c Z n0 own nm bytes ml ret) (X : own_St p l e R s m args below meth c n0 T h cells slots) {x y z : Int32} (hd : decode bytes pc = .ok (.iushr, 1)) (hz : (x.toUInt32 >>> (y &&& 31).toUInt32).toInt32 = z) (hp : pc + 1 = pc') (g : own_Go p e below n0 F (T.setTop (mkF m pc' L (.int z :: S)))) : own_Go p e below n0 F (T.setTop (mkF m pc L (.int y :: .int x :: S))) := by
  obtain ⟨locs, X, -, -⟩ := X; subst hp hz
  exact own_st (fun t k => XS.iushr X.here C.1 rfl (hb C.2.1 hd) rfl k) g
theorem own_lshl (C : own_Cx p s m meth c Z n0 own nm bytes ml ret) (X : own_St p l e R s m args below meth c n0 T h cells slots) {x z : Int64} {y : Int32} (hd : decode bytes pc = .ok (.lshl, 1)) (hz : x <<< (y &&& 0x3f).toInt64 = z) (hp : pc + 1 = pc') (g : own_Go p e below n0 F (T.setTop (mkF m pc' L (.long z :: S)))) : own_Go p e below n0 F (T.setTop (mkF m pc L (.int y :: .long x :: S))) := by
  obtain ⟨locs, X, -, -⟩ := X; subst hp hz
  exact own_st (fun t k => XS.lshl X.here C.1 rfl (hb C.2.1 hd) rfl k) g
theorem own_lshr (C : own_Cx p s m meth c Z n0 own nm bytes ml ret) (X : own_St p l e R s m args below meth c n0 T h cells slots) {x z : Int64} {y : Int32} (hd : decode bytes pc = .ok (.lshr, 1)) (hz : x >>> (y &&& 0x3f).toInt64 = z) (hp : pc + 1 = pc') (g : own_Go p e below n0 F (T.setTop (mkF m pc' L (.long z :: S)))) : own_Go p e below n0 F (T.setTop (mkF m pc L (.int y :: .long x :: S))) := by
  obtain ⟨locs, X, -, -⟩ := X; subst hp hz
  exact own_st (fun t k => XS.lshr X.here C.1 rfl (hb C.2.1 hd) rfl k) g
theorem own_lushr (C : own_Cx p s m meth c Z n0 own nm bytes ml ret) (X : own_St p l e R s m args below meth c n0 T h cells slots) {x z : Int64} {y : Int32} (hd : decode bytes pc = .ok (.lushr, 1)) (hz : (x.toUInt64 >>> (y &&& 0x3f).toInt64.toUInt64).toInt64 = z) (hp : pc + 1 = pc') (g : own_Go p e below n0 F (T.setTop (mkF m pc' L (.long z :: S)))) : own_Go p e below n0 F (T.setTop (mkF m pc L (.int y :: .long x :: S))) := by
  obtain ⟨locs, X, -, -⟩ := X; subst hp hz
  exact own_st (fun t k => XS.lushr X.here C.1 rfl (hb C.2.1 hd) rfl k) g
theorem own_idiv (C : own_Cx p s m meth c Z n0 own nm bytes ml ret) (X : own_St p l e R s m args below meth c n0 T h cells slots) {x y z : Int32} (hd : decode bytes pc = .ok (.idiv, 1)) (hy : y ≠ 0) (hz : x / y = z) (hp : pc + 1 = pc') (g : own_Go p e below n0 F (T.setTop (mkF m pc' L (.int z :: S)))) : own_Go p e below n0 F (T.setTop (mkF m pc L (.int y :: .int x :: S))) := by
  obtain ⟨locs, X, -, -⟩ := X; subst hp hz
  exact own_st (fun t k => XS.idiv X.here C.1 rfl (hb C.2.1 hd) rfl hy k) g
theorem own_irem (C : own_Cx p s m meth c Z n0 own nm bytes ml ret) (X : own_St p l e R s m args below meth c n0 T h cells slots) {x y z : Int32} (hd : decode bytes pc = .ok (.irem, 1)) (hy : y ≠ 0) (hz : x % y = z) (hp : pc + 1 = pc') (g : own_Go p e below n0 F (T.setTop (mkF m pc' L (.int z :: S)))) : own_Go p e below n0 F (T.setTop (mkF m pc L (.int y :: .int x :: S))) := by
  obtain ⟨locs, X, -, -⟩ := X; subst hp hz
  exact own_st (fun t k => iremM X C.1 rfl (hb C.2.1 hd) rfl hy k) g
theorem own_ldiv (C : own_Cx p s m meth c Z n0 own nm bytes ml ret) (X : own_St p l e R s m args below meth c n0 T h cells slots) {x y z : Int64} (hd : decode bytes pc = .ok (.ldiv, 1)) (hy : y ≠ 0) (hz : x / y = z) (hp : pc + 1 = pc') (g : own_Go p e below n0 F (T.setTop (mkF m pc' L (.long z :: S)))) : own_Go p e below n0 F (T.setTop (mkF m pc L (.long y :: .long x :: S))) := by
  obtain ⟨locs, X, -, -⟩ := X; subst hp hz
  exact own_st (fun t k => XS.ldiv X.here C.1 rfl (hb C.2.1 hd) rfl hy k) g
theorem own_lrem (C : own_Cx p s m meth c Z n0 own nm bytes ml ret) (X : own_St p l e R s m args below meth c n0 T h cells slots) {x y z : Int64} (hd : decode bytes pc = .ok (.lrem, 1)) (hy : y ≠ 0) (hz : x % y = z) (hp : pc + 1 = pc') (g : own_Go p e below n0 F (T.setTop (mkF m pc' L (.long z :: S)))) : own_Go p e below n0 F (T.setTop (mkF m pc L (.long y :: .long x :: S))) := by
  obtain ⟨locs, X, -, -⟩ := X; subst hp hz
  exact own_st (fun t k => XS.lrem X.here C.1 rfl (hb C.2.1 hd) rfl hy (by rw [lrem_mod]; exact k)) g
theorem own_ineg (C : own_Cx p s m meth c Z n0 own nm bytes ml ret) (X : own_St p l e R s m args below meth c n0 T h cells slots) {x : Int32} {z : Int32} (hd : decode bytes pc = .ok (.ineg, 1)) (hz : -x = z) (hp : pc + 1 = pc') (g : own_Go p e below n0 F (T.setTop (mkF m pc' L (.int z :: S)))) : own_Go p e below n0 F (T.setTop (mkF m pc L (.int x :: S))) := by
  obtain ⟨locs, X, -, -⟩ := X; subst hp hz
  exact own_st (fun t k => XS.ineg X.here C.1 rfl (hb C.2.1 hd) rfl k) g
theorem own_lneg (C : own_Cx p s m meth c Z n0 own nm bytes ml ret) (X : own_St p l e R s m args below meth c n0 T h cells slots) {x : Int64} {z : Int64} (hd : decode bytes pc = .ok (.lneg, 1)) (hz : -x = z) (hp : pc + 1 = pc') (g : own_Go p e below n0 F (T.setTop (mkF m pc' L (.long z :: S)))) : own_Go p e below n0 F (T.setTop (mkF m pc L (.long x :: S))) := by
  obtain ⟨locs, X, -, -⟩ := X; subst hp hz
  exact own_st (fun t k => XS.lneg X.here C.1 rfl (hb C.2.1 hd) rfl k) g
theorem own_i2l (C : own_Cx p s m meth c Z n0 own nm bytes ml ret) (X : own_St p l e R s m args below meth c n0 T h cells slots) {x : Int32} {z : Int64} (hd : decode bytes pc = .ok (.i2l, 1)) (hz : x.toInt64 = z) (hp : pc + 1 = pc') (g : own_Go p e below n0 F (T.setTop (mkF m pc' L (.long z :: S)))) : own_Go p e below n0 F (T.setTop (mkF m pc L (.int x :: S))) := by
  obtain ⟨locs, X, -, -⟩ := X; subst hp hz
  exact own_st (fun t k => XS.i2l X.here C.1 rfl (hb C.2.1 hd) rfl k) g
theorem own_l2i (C : own_Cx p s m meth c Z n0 own nm bytes ml ret) (X : own_St p l e R s m args below meth c n0 T h cells slots) {x : Int64} {z : Int32} (hd : decode bytes pc = .ok (.l2i, 1)) (hz : x.toInt32 = z) (hp : pc + 1 = pc') (g : own_Go p e below n0 F (T.setTop (mkF m pc' L (.int z :: S)))) : own_Go p e below n0 F (T.setTop (mkF m pc L (.long x :: S))) := by
  obtain ⟨locs, X, -, -⟩ := X; subst hp hz
  exact own_st (fun t k => XS.l2i X.here C.1 rfl (hb C.2.1 hd) rfl k) g
theorem own_i2b (C : own_Cx p s m meth c Z n0 own nm bytes ml ret) (X : own_St p l e R s m args below meth c n0 T h cells slots) {x : Int32} {z : Int32} (hd : decode bytes pc = .ok (.i2b, 1)) (hz : x.toInt8.toInt32 = z) (hp : pc + 1 = pc') (g : own_Go p e below n0 F (T.setTop (mkF m pc' L (.int z :: S)))) : own_Go p e below n0 F (T.setTop (mkF m pc L (.int x :: S))) := by
  obtain ⟨locs, X, -, -⟩ := X; subst hp hz
  exact own_st (fun t k => XS.i2b X.here C.1 rfl (hb C.2.1 hd) rfl k) g
theorem own_i2c (C : own_Cx p s m meth c Z n0 own nm bytes ml ret) (X : own_St p l e R s m args below meth c n0 T h cells slots) {x : Int32} {z : Int32} (hd : decode bytes pc = .ok (.i2c, 1)) (hz : x.toUInt32.toUInt16.toUInt32.toInt32 = z) (hp : pc + 1 = pc') (g : own_Go p e below n0 F (T.setTop (mkF m pc' L (.int z :: S)))) : own_Go p e below n0 F (T.setTop (mkF m pc L (.int x :: S))) := by
  obtain ⟨locs, X, -, -⟩ := X; subst hp hz
  exact own_st (fun t k => XS.i2c X.here C.1 rfl (hb C.2.1 hd) rfl k) g
theorem own_i2s (C : own_Cx p s m meth c Z n0 own nm bytes ml ret) (X : own_St p l e R s m args below meth c n0 T h cells slots) {x : Int32} {z : Int32} (hd : decode bytes pc = .ok (.i2s, 1)) (hz : x.toInt16.toInt32 = z) (hp : pc + 1 = pc') (g : own_Go p e below n0 F (T.setTop (mkF m pc' L (.int z :: S)))) : own_Go p e below n0 F (T.setTop (mkF m pc L (.int x :: S))) := by
  obtain ⟨locs, X, -, -⟩ := X; subst hp hz
  exact own_st (fun t k => XS.i2s X.here C.1 rfl (hb C.2.1 hd) rfl k) g
theorem own_iinc (C : own_Cx p s m meth c Z n0 own nm bytes ml ret) (X : own_St p l e R s m args below meth c n0 T h cells slots) {k : Nat} {i : Int} {x d z : Int32} (hd : decode bytes pc = .ok (.iinc k i, 3)) (hl : L[k]? = some (.val (.int x))) (hv : Int32.ofInt i = d) (hz : x + d = z) (hl' : storeLocals L k (.int z) = some L') (hp : pc + 3 = pc') (g : own_Go p e below n0 F (T.setTop (mkF m pc' L' (S)))) : own_Go p e below n0 F (T.setTop (mkF m pc L (S))) := by
  obtain ⟨locs, X, -, -⟩ := X; subst hp hv hz
  exact own_st (fun t k => XS.iinc X.here C.1 rfl (hb C.2.1 hd) hl hl' k) g
theorem own_dup (C : own_Cx p s m meth c Z n0 own nm bytes ml ret) (X : own_St p l e R s m args below meth c n0 T h cells slots) {v : Value} (hd : decode bytes pc = .ok (.dup, 1)) (hc : v.category = 1) (hp : pc + 1 = pc') (g : own_Go p e below n0 F (T.setTop (mkF m pc' L (v :: v :: S)))) : own_Go p e below n0 F (T.setTop (mkF m pc L (v :: S))) := by
  obtain ⟨locs, X, -, -⟩ := X; subst hp
  exact own_st (fun t k => XS.dup X.here C.1 rfl (hb C.2.1 hd) rfl hc k) g
theorem own_pop (C : own_Cx p s m meth c Z n0 own nm bytes ml ret) (X : own_St p l e R s m args below meth c n0 T h cells slots) {v : Value} (hd : decode bytes pc = .ok (.pop, 1)) (hc : v.category = 1) (hp : pc + 1 = pc') (g : own_Go p e below n0 F (T.setTop (mkF m pc' L (S)))) : own_Go p e below n0 F (T.setTop (mkF m pc L (v :: S))) := by
  obtain ⟨locs, X, -, -⟩ := X; subst hp
  exact own_st (fun t k => XS.pop X.here C.1 rfl (hb C.2.1 hd) rfl hc k) g
theorem own_dup_x1 (C : own_Cx p s m meth c Z n0 own nm bytes ml ret) (X : own_St p l e R s m args below meth c n0 T h cells slots) {v w : Value} (hd : decode bytes pc = .ok (.dup_x1, 1)) (hc : v.category = 1) (hc' : w.category = 1) (hp : pc + 1 = pc') (g : own_Go p e below n0 F (T.setTop (mkF m pc' L (v :: w :: v :: S)))) : own_Go p e below n0 F (T.setTop (mkF m pc L (v :: w :: S))) := by
  obtain ⟨locs, X, -, -⟩ := X; subst hp
  exact own_st (fun t k => XS.dupX1 X.here C.1 rfl (hb C.2.1 hd) rfl hc hc' k) g
theorem own_dup2 (C : own_Cx p s m meth c Z n0 own nm bytes ml ret) (X : own_St p l e R s m args below meth c n0 T h cells slots) {v w : Value} (hd : decode bytes pc = .ok (.dup2, 1)) (hc : v.category = 1) (hc' : w.category = 1) (hp : pc + 1 = pc') (g : own_Go p e below n0 F (T.setTop (mkF m pc' L (v :: w :: v :: w :: S)))) : own_Go p e below n0 F (T.setTop (mkF m pc L (v :: w :: S))) := by
  obtain ⟨locs, X, -, -⟩ := X; subst hp
  exact own_st (fun t k => XT.dup2 X.here C.1 rfl (hb C.2.1 hd) rfl hc hc' k) g
theorem own_dup2L (C : own_Cx p s m meth c Z n0 own nm bytes ml ret) (X : own_St p l e R s m args below meth c n0 T h cells slots) {v : Int64} (hd : decode bytes pc = .ok (.dup2, 1))  (hp : pc + 1 = pc') (g : own_Go p e below n0 F (T.setTop (mkF m pc' L (.long v :: .long v :: S)))) : own_Go p e below n0 F (T.setTop (mkF m pc L (.long v :: S))) := by
  obtain ⟨locs, X, -, -⟩ := X; subst hp
  exact own_st (fun t k => XT.dup2L X.here C.1 rfl (hb C.2.1 hd) rfl k) g
theorem own_pop2L (C : own_Cx p s m meth c Z n0 own nm bytes ml ret) (X : own_St p l e R s m args below meth c n0 T h cells slots) {v : Int64} (hd : decode bytes pc = .ok (.pop2, 1))  (hp : pc + 1 = pc') (g : own_Go p e below n0 F (T.setTop (mkF m pc' L (S)))) : own_Go p e below n0 F (T.setTop (mkF m pc L (.long v :: S))) := by
  obtain ⟨locs, X, -, -⟩ := X; subst hp
  exact own_st (fun t k => (by jvm_step X.here [X.here.top, C.1, hb C.2.1 hd, Value.category]; exact k)) g
theorem own_lcmp (C : own_Cx p s m meth c Z n0 own nm bytes ml ret) (X : own_St p l e R s m args below meth c n0 T h cells slots) {x y : Int64} {z : Int32} (hd : decode bytes pc = .ok (.lcmp, 1)) (hz : lcmpW x y = z) (hp : pc + 1 = pc') (g : own_Go p e below n0 F (T.setTop (mkF m pc' L (.int z :: S)))) : own_Go p e below n0 F (T.setTop (mkF m pc L (.long y :: .long x :: S))) := by
  obtain ⟨locs, X, -, -⟩ := X; subst hp hz
  exact own_st (fun t k => XS.lcmp X.here C.1 rfl (hb C.2.1 hd) rfl k) g
theorem own_ldcI (C : own_Cx p s m meth c Z n0 own nm bytes ml ret) (X : own_St p l e R s m args below meth c n0 T h cells slots) {i : Nat} {v : Int32} (hd : decode bytes pc = .ok (.ldc i, 2)) (w : (Jvm.Cond.constant own i v).before a0 Z = true) (hp : pc + 2 = pc') (g : own_Go p e below n0 F (T.setTop (mkF m pc' L (.int v :: S)))) : own_Go p e below n0 F (T.setTop (mkF m pc L (S))) := by
  obtain ⟨locs, X, -, -⟩ := X; subst hp
  exact own_st (fun t k => X.ldcInt C.1 C.2.2.2.1 (mvT C.2.2.2.2.2.2.2.1 w) (g := mkF m pc L S) rfl (hb C.2.1 hd) t k) g
theorem own_ldc2L (C : own_Cx p s m meth c Z n0 own nm bytes ml ret) (X : own_St p l e R s m args below meth c n0 T h cells slots) {i : Nat} {v : Int64} (hd : decode bytes pc = .ok (.ldc2_w i, 3)) (w : (Jvm.Cond.constantLong own i v).before a0 Z = true) (hp : pc + 3 = pc') (g : own_Go p e below n0 F (T.setTop (mkF m pc' L (.long v :: S)))) : own_Go p e below n0 F (T.setTop (mkF m pc L (S))) := by
  obtain ⟨locs, X, -, -⟩ := X; subst hp
  exact own_st (fun t k => X.ldc2Long C.1 C.2.2.2.1 (mvT C.2.2.2.2.2.2.2.1 w) (g := mkF m pc L S) rfl (hb C.2.1 hd) t k) g
theorem own_goto (C : own_Cx p s m meth c Z n0 own nm bytes ml ret) (X : own_St p l e R s m args below meth c n0 T h cells slots) {o : Int} (hd : decode bytes pc = .ok (.goto o, 3)) (ho : 0 ≤ (pc : Int) + o) (hp : ((pc : Int) + o).toNat = pc') (g : own_Go p e below n0 F (T.setTop (mkF m pc' L (S)))) : own_Go p e below n0 F (T.setTop (mkF m pc L (S))) := by
  obtain ⟨locs, X, -, -⟩ := X
  exact own_st (fun t k => XS.goto X.here C.1 rfl rfl (hb C.2.1 hd) ho hp k) g
theorem own_icmp_lt (C : own_Cx p s m meth c Z n0 own nm bytes ml ret) (X : own_St p l e R s m args below meth c n0 T h cells slots) {x y : Int32} {o : Int} (hd : decode bytes pc = .ok (.if_icmp .lt o, 3)) (ho : 0 ≤ (pc : Int) + o) (hq : ((pc : Int) + o).toNat = pcT) (hp : pc + 3 = pc') (gT : x < y → own_Go p e below n0 F (T.setTop (mkF m pcT L (S)))) (gF : ¬ x < y → own_Go p e below n0 F (T.setTop (mkF m pc' L (S)))) : own_Go p e below n0 F (T.setTop (mkF m pc L (.int y :: .int x :: S))) := by
  obtain ⟨locs, X, -, -⟩ := X; subst hp
  by_cases q : x < y
  · exact own_st (fun t k => XS.icmpYes X.here C.1 rfl rfl (hb C.2.1 hd) rfl (tlt q).1 ho hq k) (gT q)
  · exact own_st (fun t k => XS.icmpNo X.here C.1 rfl (hb C.2.1 hd) rfl (flt q).1 k) (gF q)
theorem own_if_lt (C : own_Cx p s m meth c Z n0 own nm bytes ml ret) (X : own_St p l e R s m args below meth c n0 T h cells slots) {x : Int32} {o : Int} (hd : decode bytes pc = .ok (.ifCond .lt o, 3)) (ho : 0 ≤ (pc : Int) + o) (hq : ((pc : Int) + o).toNat = pcT) (hp : pc + 3 = pc') (gT : x < 0 → own_Go p e below n0 F (T.setTop (mkF m pcT L (S)))) (gF : ¬ x < 0 → own_Go p e below n0 F (T.setTop (mkF m pc' L (S)))) : own_Go p e below n0 F (T.setTop (mkF m pc L (.int x :: S))) := by
  obtain ⟨locs, X, -, -⟩ := X; subst hp
  by_cases q : x < 0
  · exact own_st (fun t k => XS.ifYes X.here C.1 rfl rfl (hb C.2.1 hd) rfl ((if0 _ _).trans (tlt q).1) ho hq k) (gT q)
  · exact own_st (fun t k => XS.ifNo X.here C.1 rfl (hb C.2.1 hd) rfl ((if0 _ _).trans (flt q).1) k) (gF q)
theorem own_lcmp_lt (C : own_Cx p s m meth c Z n0 own nm bytes ml ret) (X : own_St p l e R s m args below meth c n0 T h cells slots) {x y : Int64} {o : Int} (hd1 : decode bytes pc = .ok (.lcmp, 1)) (hd : decode bytes (pc + 1) = .ok (.ifCond .lt o, 3)) (ho : 0 ≤ ((pc + 1 : Nat) : Int) + o) (hq : (((pc + 1 : Nat) : Int) + o).toNat = pcT) (hp : pc + 4 = pc') (gT : x < y → own_Go p e below n0 F (T.setTop (mkF m pcT L (S)))) (gF : ¬ x < y → own_Go p e below n0 F (T.setTop (mkF m pc' L (S)))) : own_Go p e below n0 F (T.setTop (mkF m pc L (.long y :: .long x :: S))) := by
  subst hp
  exact own_lcmp C X hd1 rfl rfl (own_if_lt C X hd ho hq rfl (fun q => gT ((lw_lt x y).mp q)) (fun q => gF (fun r => q ((lw_lt x y).mpr r))))
theorem own_icmp_ge (C : own_Cx p s m meth c Z n0 own nm bytes ml ret) (X : own_St p l e R s m args below meth c n0 T h cells slots) {x y : Int32} {o : Int} (hd : decode bytes pc = .ok (.if_icmp .ge o, 3)) (ho : 0 ≤ (pc : Int) + o) (hq : ((pc : Int) + o).toNat = pcT) (hp : pc + 3 = pc') (gT : ¬ x < y → own_Go p e below n0 F (T.setTop (mkF m pcT L (S)))) (gF : x < y → own_Go p e below n0 F (T.setTop (mkF m pc' L (S)))) : own_Go p e below n0 F (T.setTop (mkF m pc L (.int y :: .int x :: S))) := by
  obtain ⟨locs, X, -, -⟩ := X; subst hp
  by_cases q : x < y
  · exact own_st (fun t k => XS.icmpNo X.here C.1 rfl (hb C.2.1 hd) rfl (tlt q).2.1 k) (gF q)
  · exact own_st (fun t k => XS.icmpYes X.here C.1 rfl rfl (hb C.2.1 hd) rfl (flt q).2.1 ho hq k) (gT q)
theorem own_if_ge (C : own_Cx p s m meth c Z n0 own nm bytes ml ret) (X : own_St p l e R s m args below meth c n0 T h cells slots) {x : Int32} {o : Int} (hd : decode bytes pc = .ok (.ifCond .ge o, 3)) (ho : 0 ≤ (pc : Int) + o) (hq : ((pc : Int) + o).toNat = pcT) (hp : pc + 3 = pc') (gT : ¬ x < 0 → own_Go p e below n0 F (T.setTop (mkF m pcT L (S)))) (gF : x < 0 → own_Go p e below n0 F (T.setTop (mkF m pc' L (S)))) : own_Go p e below n0 F (T.setTop (mkF m pc L (.int x :: S))) := by
  obtain ⟨locs, X, -, -⟩ := X; subst hp
  by_cases q : x < 0
  · exact own_st (fun t k => XS.ifNo X.here C.1 rfl (hb C.2.1 hd) rfl ((if0 _ _).trans (tlt q).2.1) k) (gF q)
  · exact own_st (fun t k => XS.ifYes X.here C.1 rfl rfl (hb C.2.1 hd) rfl ((if0 _ _).trans (flt q).2.1) ho hq k) (gT q)
theorem own_lcmp_ge (C : own_Cx p s m meth c Z n0 own nm bytes ml ret) (X : own_St p l e R s m args below meth c n0 T h cells slots) {x y : Int64} {o : Int} (hd1 : decode bytes pc = .ok (.lcmp, 1)) (hd : decode bytes (pc + 1) = .ok (.ifCond .ge o, 3)) (ho : 0 ≤ ((pc + 1 : Nat) : Int) + o) (hq : (((pc + 1 : Nat) : Int) + o).toNat = pcT) (hp : pc + 4 = pc') (gT : ¬ x < y → own_Go p e below n0 F (T.setTop (mkF m pcT L (S)))) (gF : x < y → own_Go p e below n0 F (T.setTop (mkF m pc' L (S)))) : own_Go p e below n0 F (T.setTop (mkF m pc L (.long y :: .long x :: S))) := by
  subst hp
  exact own_lcmp C X hd1 rfl rfl (own_if_ge C X hd ho hq rfl (fun q => gT (fun r => q ((lw_lt x y).mpr r))) (fun q => gF ((lw_lt x y).mp q)))
theorem own_icmp_gt (C : own_Cx p s m meth c Z n0 own nm bytes ml ret) (X : own_St p l e R s m args below meth c n0 T h cells slots) {x y : Int32} {o : Int} (hd : decode bytes pc = .ok (.if_icmp .gt o, 3)) (ho : 0 ≤ (pc : Int) + o) (hq : ((pc : Int) + o).toNat = pcT) (hp : pc + 3 = pc') (gT : y < x → own_Go p e below n0 F (T.setTop (mkF m pcT L (S)))) (gF : ¬ y < x → own_Go p e below n0 F (T.setTop (mkF m pc' L (S)))) : own_Go p e below n0 F (T.setTop (mkF m pc L (.int y :: .int x :: S))) := by
  obtain ⟨locs, X, -, -⟩ := X; subst hp
  by_cases q : y < x
  · exact own_st (fun t k => XS.icmpYes X.here C.1 rfl rfl (hb C.2.1 hd) rfl (tlt q).2.2.1 ho hq k) (gT q)
  · exact own_st (fun t k => XS.icmpNo X.here C.1 rfl (hb C.2.1 hd) rfl (flt q).2.2.1 k) (gF q)
theorem own_if_gt (C : own_Cx p s m meth c Z n0 own nm bytes ml ret) (X : own_St p l e R s m args below meth c n0 T h cells slots) {x : Int32} {o : Int} (hd : decode bytes pc = .ok (.ifCond .gt o, 3)) (ho : 0 ≤ (pc : Int) + o) (hq : ((pc : Int) + o).toNat = pcT) (hp : pc + 3 = pc') (gT : 0 < x → own_Go p e below n0 F (T.setTop (mkF m pcT L (S)))) (gF : ¬ 0 < x → own_Go p e below n0 F (T.setTop (mkF m pc' L (S)))) : own_Go p e below n0 F (T.setTop (mkF m pc L (.int x :: S))) := by
  obtain ⟨locs, X, -, -⟩ := X; subst hp
  by_cases q : 0 < x
  · exact own_st (fun t k => XS.ifYes X.here C.1 rfl rfl (hb C.2.1 hd) rfl ((if0 _ _).trans (tlt q).2.2.1) ho hq k) (gT q)
  · exact own_st (fun t k => XS.ifNo X.here C.1 rfl (hb C.2.1 hd) rfl ((if0 _ _).trans (flt q).2.2.1) k) (gF q)
theorem own_lcmp_gt (C : own_Cx p s m meth c Z n0 own nm bytes ml ret) (X : own_St p l e R s m args below meth c n0 T h cells slots) {x y : Int64} {o : Int} (hd1 : decode bytes pc = .ok (.lcmp, 1)) (hd : decode bytes (pc + 1) = .ok (.ifCond .gt o, 3)) (ho : 0 ≤ ((pc + 1 : Nat) : Int) + o) (hq : (((pc + 1 : Nat) : Int) + o).toNat = pcT) (hp : pc + 4 = pc') (gT : y < x → own_Go p e below n0 F (T.setTop (mkF m pcT L (S)))) (gF : ¬ y < x → own_Go p e below n0 F (T.setTop (mkF m pc' L (S)))) : own_Go p e below n0 F (T.setTop (mkF m pc L (.long y :: .long x :: S))) := by
  subst hp
  exact own_lcmp C X hd1 rfl rfl (own_if_gt C X hd ho hq rfl (fun q => gT ((lw_gt x y).mp q)) (fun q => gF (fun r => q ((lw_gt x y).mpr r))))
theorem own_icmp_le (C : own_Cx p s m meth c Z n0 own nm bytes ml ret) (X : own_St p l e R s m args below meth c n0 T h cells slots) {x y : Int32} {o : Int} (hd : decode bytes pc = .ok (.if_icmp .le o, 3)) (ho : 0 ≤ (pc : Int) + o) (hq : ((pc : Int) + o).toNat = pcT) (hp : pc + 3 = pc') (gT : ¬ y < x → own_Go p e below n0 F (T.setTop (mkF m pcT L (S)))) (gF : y < x → own_Go p e below n0 F (T.setTop (mkF m pc' L (S)))) : own_Go p e below n0 F (T.setTop (mkF m pc L (.int y :: .int x :: S))) := by
  obtain ⟨locs, X, -, -⟩ := X; subst hp
  by_cases q : y < x
  · exact own_st (fun t k => XS.icmpNo X.here C.1 rfl (hb C.2.1 hd) rfl (tlt q).2.2.2 k) (gF q)
  · exact own_st (fun t k => XS.icmpYes X.here C.1 rfl rfl (hb C.2.1 hd) rfl (flt q).2.2.2 ho hq k) (gT q)
theorem own_if_le (C : own_Cx p s m meth c Z n0 own nm bytes ml ret) (X : own_St p l e R s m args below meth c n0 T h cells slots) {x : Int32} {o : Int} (hd : decode bytes pc = .ok (.ifCond .le o, 3)) (ho : 0 ≤ (pc : Int) + o) (hq : ((pc : Int) + o).toNat = pcT) (hp : pc + 3 = pc') (gT : ¬ 0 < x → own_Go p e below n0 F (T.setTop (mkF m pcT L (S)))) (gF : 0 < x → own_Go p e below n0 F (T.setTop (mkF m pc' L (S)))) : own_Go p e below n0 F (T.setTop (mkF m pc L (.int x :: S))) := by
  obtain ⟨locs, X, -, -⟩ := X; subst hp
  by_cases q : 0 < x
  · exact own_st (fun t k => XS.ifNo X.here C.1 rfl (hb C.2.1 hd) rfl ((if0 _ _).trans (tlt q).2.2.2) k) (gF q)
  · exact own_st (fun t k => XS.ifYes X.here C.1 rfl rfl (hb C.2.1 hd) rfl ((if0 _ _).trans (flt q).2.2.2) ho hq k) (gT q)
theorem own_lcmp_le (C : own_Cx p s m meth c Z n0 own nm bytes ml ret) (X : own_St p l e R s m args below meth c n0 T h cells slots) {x y : Int64} {o : Int} (hd1 : decode bytes pc = .ok (.lcmp, 1)) (hd : decode bytes (pc + 1) = .ok (.ifCond .le o, 3)) (ho : 0 ≤ ((pc + 1 : Nat) : Int) + o) (hq : (((pc + 1 : Nat) : Int) + o).toNat = pcT) (hp : pc + 4 = pc') (gT : ¬ y < x → own_Go p e below n0 F (T.setTop (mkF m pcT L (S)))) (gF : y < x → own_Go p e below n0 F (T.setTop (mkF m pc' L (S)))) : own_Go p e below n0 F (T.setTop (mkF m pc L (.long y :: .long x :: S))) := by
  subst hp
  exact own_lcmp C X hd1 rfl rfl (own_if_le C X hd ho hq rfl (fun q => gT (fun r => q ((lw_gt x y).mpr r))) (fun q => gF ((lw_gt x y).mp q)))
theorem own_icmp_eq (C : own_Cx p s m meth c Z n0 own nm bytes ml ret) (X : own_St p l e R s m args below meth c n0 T h cells slots) {x y : Int32} {o : Int} (hd : decode bytes pc = .ok (.if_icmp .eq o, 3)) (ho : 0 ≤ (pc : Int) + o) (hq : ((pc : Int) + o).toNat = pcT) (hp : pc + 3 = pc') (gT : x = y → own_Go p e below n0 F (T.setTop (mkF m pcT L (S)))) (gF : ¬ x = y → own_Go p e below n0 F (T.setTop (mkF m pc' L (S)))) : own_Go p e below n0 F (T.setTop (mkF m pc L (.int y :: .int x :: S))) := by
  obtain ⟨locs, X, -, -⟩ := X; subst hp
  by_cases q : x = y
  · exact own_st (fun t k => XS.icmpYes X.here C.1 rfl rfl (hb C.2.1 hd) rfl (teq q).1 ho hq k) (gT q)
  · exact own_st (fun t k => XS.icmpNo X.here C.1 rfl (hb C.2.1 hd) rfl (feq q).1 k) (gF q)
theorem own_if_eq (C : own_Cx p s m meth c Z n0 own nm bytes ml ret) (X : own_St p l e R s m args below meth c n0 T h cells slots) {x : Int32} {o : Int} (hd : decode bytes pc = .ok (.ifCond .eq o, 3)) (ho : 0 ≤ (pc : Int) + o) (hq : ((pc : Int) + o).toNat = pcT) (hp : pc + 3 = pc') (gT : x = 0 → own_Go p e below n0 F (T.setTop (mkF m pcT L (S)))) (gF : ¬ x = 0 → own_Go p e below n0 F (T.setTop (mkF m pc' L (S)))) : own_Go p e below n0 F (T.setTop (mkF m pc L (.int x :: S))) := by
  obtain ⟨locs, X, -, -⟩ := X; subst hp
  by_cases q : x = 0
  · exact own_st (fun t k => XS.ifYes X.here C.1 rfl rfl (hb C.2.1 hd) rfl ((if0 _ _).trans (teq q).1) ho hq k) (gT q)
  · exact own_st (fun t k => XS.ifNo X.here C.1 rfl (hb C.2.1 hd) rfl ((if0 _ _).trans (feq q).1) k) (gF q)
theorem own_lcmp_eq (C : own_Cx p s m meth c Z n0 own nm bytes ml ret) (X : own_St p l e R s m args below meth c n0 T h cells slots) {x y : Int64} {o : Int} (hd1 : decode bytes pc = .ok (.lcmp, 1)) (hd : decode bytes (pc + 1) = .ok (.ifCond .eq o, 3)) (ho : 0 ≤ ((pc + 1 : Nat) : Int) + o) (hq : (((pc + 1 : Nat) : Int) + o).toNat = pcT) (hp : pc + 4 = pc') (gT : x = y → own_Go p e below n0 F (T.setTop (mkF m pcT L (S)))) (gF : ¬ x = y → own_Go p e below n0 F (T.setTop (mkF m pc' L (S)))) : own_Go p e below n0 F (T.setTop (mkF m pc L (.long y :: .long x :: S))) := by
  subst hp
  exact own_lcmp C X hd1 rfl rfl (own_if_eq C X hd ho hq rfl (fun q => gT ((lw_eq x y).mp q)) (fun q => gF (fun r => q ((lw_eq x y).mpr r))))
theorem own_icmp_ne (C : own_Cx p s m meth c Z n0 own nm bytes ml ret) (X : own_St p l e R s m args below meth c n0 T h cells slots) {x y : Int32} {o : Int} (hd : decode bytes pc = .ok (.if_icmp .ne o, 3)) (ho : 0 ≤ (pc : Int) + o) (hq : ((pc : Int) + o).toNat = pcT) (hp : pc + 3 = pc') (gT : ¬ x = y → own_Go p e below n0 F (T.setTop (mkF m pcT L (S)))) (gF : x = y → own_Go p e below n0 F (T.setTop (mkF m pc' L (S)))) : own_Go p e below n0 F (T.setTop (mkF m pc L (.int y :: .int x :: S))) := by
  obtain ⟨locs, X, -, -⟩ := X; subst hp
  by_cases q : x = y
  · exact own_st (fun t k => XS.icmpNo X.here C.1 rfl (hb C.2.1 hd) rfl (teq q).2 k) (gF q)
  · exact own_st (fun t k => XS.icmpYes X.here C.1 rfl rfl (hb C.2.1 hd) rfl (feq q).2 ho hq k) (gT q)
theorem own_if_ne (C : own_Cx p s m meth c Z n0 own nm bytes ml ret) (X : own_St p l e R s m args below meth c n0 T h cells slots) {x : Int32} {o : Int} (hd : decode bytes pc = .ok (.ifCond .ne o, 3)) (ho : 0 ≤ (pc : Int) + o) (hq : ((pc : Int) + o).toNat = pcT) (hp : pc + 3 = pc') (gT : ¬ x = 0 → own_Go p e below n0 F (T.setTop (mkF m pcT L (S)))) (gF : x = 0 → own_Go p e below n0 F (T.setTop (mkF m pc' L (S)))) : own_Go p e below n0 F (T.setTop (mkF m pc L (.int x :: S))) := by
  obtain ⟨locs, X, -, -⟩ := X; subst hp
  by_cases q : x = 0
  · exact own_st (fun t k => XS.ifNo X.here C.1 rfl (hb C.2.1 hd) rfl ((if0 _ _).trans (teq q).2) k) (gF q)
  · exact own_st (fun t k => XS.ifYes X.here C.1 rfl rfl (hb C.2.1 hd) rfl ((if0 _ _).trans (feq q).2) ho hq k) (gT q)
theorem own_lcmp_ne (C : own_Cx p s m meth c Z n0 own nm bytes ml ret) (X : own_St p l e R s m args below meth c n0 T h cells slots) {x y : Int64} {o : Int} (hd1 : decode bytes pc = .ok (.lcmp, 1)) (hd : decode bytes (pc + 1) = .ok (.ifCond .ne o, 3)) (ho : 0 ≤ ((pc + 1 : Nat) : Int) + o) (hq : (((pc + 1 : Nat) : Int) + o).toNat = pcT) (hp : pc + 4 = pc') (gT : ¬ x = y → own_Go p e below n0 F (T.setTop (mkF m pcT L (S)))) (gF : x = y → own_Go p e below n0 F (T.setTop (mkF m pc' L (S)))) : own_Go p e below n0 F (T.setTop (mkF m pc L (.long y :: .long x :: S))) := by
  subst hp
  exact own_lcmp C X hd1 rfl rfl (own_if_ne C X hd ho hq rfl (fun q => gT (fun r => q ((lw_eq x y).mpr r))) (fun q => gF ((lw_eq x y).mp q)))
theorem own_acmp_eq (C : own_Cx p s m meth c Z n0 own nm bytes ml ret) (X : own_St p l e R s m args below meth c n0 T h cells slots) {v w : Value} {o : Int} (hd : decode bytes pc = .ok (.if_acmp .eq o, 3)) (hv : v.isRef = true) (hw : w.isRef = true) (ho : 0 ≤ (pc : Int) + o) (hq : ((pc : Int) + o).toNat = pcT) (hp : pc + 3 = pc') (gT : v = w → own_Go p e below n0 F (T.setTop (mkF m pcT L (S)))) (gF : ¬ v = w → own_Go p e below n0 F (T.setTop (mkF m pc' L (S)))) : own_Go p e below n0 F (T.setTop (mkF m pc L (w :: v :: S))) := by
  obtain ⟨locs, X, -, -⟩ := X; subst hp
  by_cases q : v = w
  · exact own_st (fun t k => XT.acmpYes X.here C.1 rfl rfl (hb C.2.1 hd) rfl hv hw (XT.aa_eq_t q) ho hq k) (gT q)
  · exact own_st (fun t k => XT.acmpNo X.here C.1 rfl (hb C.2.1 hd) rfl hv hw (XT.aa_eq_f q) k) (gF q)
theorem own_acmp_ne (C : own_Cx p s m meth c Z n0 own nm bytes ml ret) (X : own_St p l e R s m args below meth c n0 T h cells slots) {v w : Value} {o : Int} (hd : decode bytes pc = .ok (.if_acmp .ne o, 3)) (hv : v.isRef = true) (hw : w.isRef = true) (ho : 0 ≤ (pc : Int) + o) (hq : ((pc : Int) + o).toNat = pcT) (hp : pc + 3 = pc') (gT : ¬ v = w → own_Go p e below n0 F (T.setTop (mkF m pcT L (S)))) (gF : v = w → own_Go p e below n0 F (T.setTop (mkF m pc' L (S)))) : own_Go p e below n0 F (T.setTop (mkF m pc L (w :: v :: S))) := by
  obtain ⟨locs, X, -, -⟩ := X; subst hp
  by_cases q : v = w
  · exact own_st (fun t k => XT.acmpNo X.here C.1 rfl (hb C.2.1 hd) rfl hv hw (XT.aa_ne_f q) k) (gF q)
  · exact own_st (fun t k => XT.acmpYes X.here C.1 rfl rfl (hb C.2.1 hd) rfl hv hw (XT.aa_ne_t q) ho hq k) (gT q)
theorem own_ireturn {z : Int32} (C : own_Cx p s m meth c Z n0 own nm bytes ml (some .int)) (X : own_St p l e R s m args below meth c n0 T h cells slots) (hd : decode bytes pc = .ok (.ireturn, 1))  (hc : cells ≤ R.cells) (hs : slots ≤ R.slots) (hq : Q (some (.int z)) h) : own_Go p e below n0 (own_Fin R s Q) (T.setTop (mkF m pc L (.int z :: S))) := by
  obtain ⟨locs, X, N, rfl⟩ := X
  have hlk : meth.locks = false := C.2.2.2.2.2.2.1
  obtain ⟨fs, hr, hrun, hended, hW, hsame⟩ := X.leave (v := some (.int z)) (fun h => by rw [C.2.2.2.2.2.1] at h; cases h) hlk
  exact ⟨_, _, locs, retOut X C.1 C.2.2.2.2.2.1 rfl (Or.inl ⟨rfl, by simp, _, rfl⟩) (hb C.2.1 hd) hr, hrun, hended, N, hq, ⟨_, rfl⟩, hW, hsame.mono hc hs⟩
theorem own_ireturn_z {z : Int32} (C : own_Cx p s m meth c Z n0 own nm bytes ml (some .boolean)) (X : own_St p l e R s m args below meth c n0 T h cells slots) (hd : decode bytes pc = .ok (.ireturn, 1))  (hc : cells ≤ R.cells) (hs : slots ≤ R.slots) (hq : Q (some (.int (nar .boolean z))) h) : own_Go p e below n0 (own_Fin R s Q) (T.setTop (mkF m pc L (.int z :: S))) := by
  obtain ⟨locs, X, N, rfl⟩ := X
  have hlk : meth.locks = false := C.2.2.2.2.2.2.1
  obtain ⟨fs, hr, hrun, hended, hW, hsame⟩ := X.leave (v := some (.int (nar .boolean z))) (fun h => by rw [C.2.2.2.2.2.1] at h; cases h) hlk
  exact ⟨_, _, locs, retN X C.1 (t := .boolean) C.2.2.2.2.2.1 (by simp) (hb C.2.1 hd) hr, hrun, hended, N, hq, ⟨_, rfl⟩, hW, hsame.mono hc hs⟩
theorem own_ireturn_b {z : Int32} (C : own_Cx p s m meth c Z n0 own nm bytes ml (some .byte)) (X : own_St p l e R s m args below meth c n0 T h cells slots) (hd : decode bytes pc = .ok (.ireturn, 1))  (hc : cells ≤ R.cells) (hs : slots ≤ R.slots) (hq : Q (some (.int (nar .byte z))) h) : own_Go p e below n0 (own_Fin R s Q) (T.setTop (mkF m pc L (.int z :: S))) := by
  obtain ⟨locs, X, N, rfl⟩ := X
  have hlk : meth.locks = false := C.2.2.2.2.2.2.1
  obtain ⟨fs, hr, hrun, hended, hW, hsame⟩ := X.leave (v := some (.int (nar .byte z))) (fun h => by rw [C.2.2.2.2.2.1] at h; cases h) hlk
  exact ⟨_, _, locs, retN X C.1 (t := .byte) C.2.2.2.2.2.1 (by simp) (hb C.2.1 hd) hr, hrun, hended, N, hq, ⟨_, rfl⟩, hW, hsame.mono hc hs⟩
theorem own_ireturn_c {z : Int32} (C : own_Cx p s m meth c Z n0 own nm bytes ml (some .char)) (X : own_St p l e R s m args below meth c n0 T h cells slots) (hd : decode bytes pc = .ok (.ireturn, 1))  (hc : cells ≤ R.cells) (hs : slots ≤ R.slots) (hq : Q (some (.int (nar .char z))) h) : own_Go p e below n0 (own_Fin R s Q) (T.setTop (mkF m pc L (.int z :: S))) := by
  obtain ⟨locs, X, N, rfl⟩ := X
  have hlk : meth.locks = false := C.2.2.2.2.2.2.1
  obtain ⟨fs, hr, hrun, hended, hW, hsame⟩ := X.leave (v := some (.int (nar .char z))) (fun h => by rw [C.2.2.2.2.2.1] at h; cases h) hlk
  exact ⟨_, _, locs, retN X C.1 (t := .char) C.2.2.2.2.2.1 (by simp) (hb C.2.1 hd) hr, hrun, hended, N, hq, ⟨_, rfl⟩, hW, hsame.mono hc hs⟩
theorem own_lreturn {z : Int64} (C : own_Cx p s m meth c Z n0 own nm bytes ml (some .long)) (X : own_St p l e R s m args below meth c n0 T h cells slots) (hd : decode bytes pc = .ok (.lreturn, 1))  (hc : cells ≤ R.cells) (hs : slots ≤ R.slots) (hq : Q (some (.long z)) h) : own_Go p e below n0 (own_Fin R s Q) (T.setTop (mkF m pc L (.long z :: S))) := by
  obtain ⟨locs, X, N, rfl⟩ := X
  have hlk : meth.locks = false := C.2.2.2.2.2.2.1
  obtain ⟨fs, hr, hrun, hended, hW, hsame⟩ := X.leave (v := some (.long z)) (fun h => by rw [C.2.2.2.2.2.1] at h; cases h) hlk
  exact ⟨_, _, locs, retOut X C.1 C.2.2.2.2.2.1 rfl (Or.inr (Or.inl ⟨rfl, rfl, _, rfl⟩)) (hb C.2.1 hd) hr, hrun, hended, N, hq, ⟨_, rfl⟩, hW, hsame.mono hc hs⟩
theorem own_areturn {v : Value} {ty : FieldType} (C : own_Cx p s m meth c Z n0 own nm bytes ml (some ty)) (X : own_St p l e R s m args below meth c n0 T h cells slots) (hd : decode bytes pc = .ok (.areturn, 1)) (ht : ty.isReference = true) (hv : v.isRef = true) (hn : narrow ty v = v) (hc : cells ≤ R.cells) (hs : slots ≤ R.slots) (hq : Q (some v) h) : own_Go p e below n0 (own_Fin R s Q) (T.setTop (mkF m pc L (v :: S))) := by
  obtain ⟨locs, X, N, rfl⟩ := X
  have hlk : meth.locks = false := C.2.2.2.2.2.2.1
  obtain ⟨fs, hr, hrun, hended, hW, hsame⟩ := X.leave (v := some v) (fun h => by rw [C.2.2.2.2.2.1] at h; cases h) hlk
  exact ⟨_, _, locs, retOut X C.1 C.2.2.2.2.2.1 hn (Or.inr (Or.inr (Or.inr (Or.inr ⟨rfl, ht, hv⟩)))) (hb C.2.1 hd) hr, hrun, hended, N, hq, ⟨_, rfl⟩, hW, hsame.mono hc hs⟩
theorem own_return  (C : own_Cx p s m meth c Z n0 own nm bytes ml (none)) (X : own_St p l e R s m args below meth c n0 T h cells slots) (hd : decode bytes pc = .ok (.return_, 1))  (hc : cells ≤ R.cells) (hs : slots ≤ R.slots) (hq : Q (none) h) : own_Go p e below n0 (own_Fin R s Q) (T.setTop (mkF m pc L ([]))) := by
  obtain ⟨locs, X, N, rfl⟩ := X
  have hlk : meth.locks = false := C.2.2.2.2.2.2.1
  obtain ⟨fs, hr, hrun, hended, hW, hsame⟩ := X.leave (v := none) (fun _ => rfl) hlk
  exact ⟨_, _, locs, X.returnOut C.1 C.2.2.2.2.2.1 (hb C.2.1 hd) hr, hrun, hended, N, hq, ⟨_, rfl⟩, hW, hsame.mono hc hs⟩
end OwnKit
end Jvm.Pilot.@@N@@
namespace Jvm.Pilot.@@N@@
open Jvm Jvm.ClassFile Sem Op Lib Jvm.Free Jvm.Stand Jvm.LawKit Jvm.RoadKit Bundle Jvm.Pilot.@@N@@.Jvm.D
section OwnKitTwo
variable {p : Program} {l : Launch} {e : Env} {R : Room} {s : State} {m : MethodId} {args : Array Value} {below : List Frame} {meth : Method} {c : Code} {T : State} {cells slots : Nat} {Z : State} {a0 : Array Value} {h h' : Heap} {n0 : Nat} {own nm : String} {bytes : ByteArray} {ml : Nat} {ret : Option FieldType} {F : Option Value → State → List Loc → Prop} {pc pc' pcT : Nat} {L L' : Array Slot} {S : List Value} {a b : Addr} {ty : FieldType} {ws : List Addr}
/-! arrays by their lists -/
def own_IA (Z : State) (h : Heap) (a : Addr) (ty : FieldType) (xs : List Int32) : Prop := ∃ c : Cell, Arr Z h a c ty ∧ c.slots.toList = xs.map Value.int ∧ xs.length < 2 ^ 31 ∧ ∀ x ∈ xs, fits ty (.int x) = true
def own_JA (Z : State) (h : Heap) (a : Addr) (xs : List Int64) : Prop := ∃ c : Cell, Arr Z h a c .long ∧ c.slots.toList = xs.map Value.long ∧ xs.length < 2 ^ 31
theorem own_IA.keep {xs : List Int32} (A : own_IA Z h a ty xs) (K : Keep h h' ws) (q : a ∉ ws) : own_IA Z h' a ty xs := by
  obtain ⟨c, A, r⟩ := A; exact ⟨c, ⟨K.2.1 a c A.1 q, A.2⟩, r⟩
theorem own_JA.keep {xs : List Int64} (A : own_JA Z h a xs) (K : Keep h h' ws) (q : a ∉ ws) : own_JA Z h' a xs := by
  obtain ⟨c, A, r⟩ := A; exact ⟨c, ⟨K.2.1 a c A.1 q, A.2⟩, r⟩
theorem own_IA.lt {xs : List Int32} (A : own_IA Z h a ty xs) : a < h.size := by obtain ⟨c, A, r⟩ := A; exact A.lt
theorem own_JA.lt {xs : List Int64} (A : own_JA Z h a xs) : a < h.size := by obtain ⟨c, A, r⟩ := A; exact A.lt
theorem own_ix {j : Int32} {i : Nat} (hj : j.toInt = (i : Int)) : ¬ j < 0 ∧ j.toNatClampNeg = i := by
  refine ⟨?_, ?_⟩
  · rw [Int32.lt_iff_toInt_lt, hj]; show ¬ (i : Int) < 0; omega
  · simp only [Int32.toNatClampNeg, hj, Int.toNat_natCast]
theorem own_sz {α : Type} {f : α → Value} {c : Cell} {xs : List α} (e : c.slots.toList = xs.map f) : c.slots.size = xs.length := by
  have := congrArg List.length e; simpa using this
theorem own_in {α : Type} {f : α → Value} {c : Cell} {xs : List α} (e : c.slots.toList = xs.map f) {j : Int32} {i : Nat} (hj : j.toInt = (i : Int)) (hi : i < xs.length) : ¬ (j < 0 ∨ c.slots.size ≤ j.toNatClampNeg) := by
  obtain ⟨q1, q2⟩ := own_ix hj
  rw [own_sz e, q2]
  exact fun q => q.elim q1 (fun q => Nat.lt_irrefl _ (Nat.lt_of_lt_of_le hi q))
theorem own_at {α : Type} {f : α → Value} {c : Cell} {xs : List α} (e : c.slots.toList = xs.map f) {j : Int32} {i : Nat} (hj : j.toInt = (i : Int)) {v : α} (hv : xs[i]? = some v) : c.slots[j.toNatClampNeg]? = some (f v) := by
  rw [(own_ix hj).2, ← Array.getElem?_toList, e, List.getElem?_map, hv]; rfl
theorem own_lt_of {α : Type} {xs : List α} {i : Nat} {v : α} (hv : xs[i]? = some v) : i < xs.length := (List.getElem?_eq_some_iff.mp hv).1
theorem own_set {α : Type} {f : α → Value} {c : Cell} {xs : List α} (e : c.slots.toList = xs.map f) {j : Int32} {i : Nat} (hj : j.toInt = (i : Int)) {v : α} : (c.setSlot j.toNatClampNeg (f v)).slots.toList = (xs.set i v).map f := by
  rw [(own_ix hj).2]; simp only [Cell.setSlot, Array.toList_setIfInBounds, e, List.map_set]
theorem own_iaload (C : own_Cx p s m meth c Z n0 own nm bytes ml ret) (X : own_St p l e R s m args below meth c n0 T h cells slots) {j v : Int32} {i : Nat} {xs : List Int32} (hd : decode bytes pc = .ok (.iaload, 1)) (A : own_IA Z h a .int xs) (hj : j.toInt = (i : Int)) (hv : xs[i]? = some v) (hp : pc + 1 = pc')
    (g : own_Go p e below n0 F (T.setTop (mkF m pc' L (.int v :: S)))) : own_Go p e below n0 F (T.setTop (mkF m pc L (.int j :: .ref a :: S))) := by
  obtain ⟨locs, X, -, rfl⟩ := X; subst hp; obtain ⟨cl, A, ec, -⟩ := A
  exact own_st (fun t k => X.iaload C.1 A.1 (State.isArrayOf_alike C.2.2.2.2.2.2.2.1.alike A.2.1) A.2.2 (own_in ec hj (own_lt_of hv)) (own_at ec hj hv) (g := mkF m pc L (.int j :: .ref a :: S)) rfl rfl (hb C.2.1 hd) t k) g
theorem own_baload (C : own_Cx p s m meth c Z n0 own nm bytes ml ret) (X : own_St p l e R s m args below meth c n0 T h cells slots) {j v : Int32} {i : Nat} {xs : List Int32} (hd : decode bytes pc = .ok (.baload, 1)) (A : own_IA Z h a .byte xs) (hj : j.toInt = (i : Int)) (hv : xs[i]? = some v) (hp : pc + 1 = pc')
    (g : own_Go p e below n0 F (T.setTop (mkF m pc' L (.int v :: S)))) : own_Go p e below n0 F (T.setTop (mkF m pc L (.int j :: .ref a :: S))) := by
  obtain ⟨locs, X, -, rfl⟩ := X; subst hp; obtain ⟨cl, A, ec, -⟩ := A
  exact own_st (fun t k => X.baloadBytes C.1 A.1 (State.isArrayOf_alike C.2.2.2.2.2.2.2.1.alike A.2.1) A.2.2 (own_in ec hj (own_lt_of hv)) (own_at ec hj hv) (g := mkF m pc L (.int j :: .ref a :: S)) rfl rfl (hb C.2.1 hd) t k) g
theorem own_laload (C : own_Cx p s m meth c Z n0 own nm bytes ml ret) (X : own_St p l e R s m args below meth c n0 T h cells slots) {j : Int32} {v : Int64} {i : Nat} {xs : List Int64} (hd : decode bytes pc = .ok (.laload, 1)) (A : own_JA Z h a xs) (hj : j.toInt = (i : Int)) (hv : xs[i]? = some v) (hp : pc + 1 = pc')
    (g : own_Go p e below n0 F (T.setTop (mkF m pc' L (.long v :: S)))) : own_Go p e below n0 F (T.setTop (mkF m pc L (.int j :: .ref a :: S))) := by
  obtain ⟨locs, X, -, rfl⟩ := X; subst hp; obtain ⟨cl, A, ec, -⟩ := A
  exact own_st (fun t k => X.laload C.1 A.1 (State.isArrayOf_alike C.2.2.2.2.2.2.2.1.alike A.2.1) A.2.2 (own_in ec hj (own_lt_of hv)) (own_at ec hj hv) (g := mkF m pc L (.int j :: .ref a :: S)) rfl rfl (hb C.2.1 hd) t k) g
theorem own_len {α : Type} {f : α → Value} {c : Cell} {xs : List α} (e : c.slots.toList = xs.map f) (hb : xs.length < 2 ^ 31) {n : Int32} (hn : n.toInt = (xs.length : Int)) : c.slots.size.toInt32 = n := by
  rw [own_sz e]; exact Int32.toInt_inj.mp (by rw [len_toInt hb, hn])
theorem own_alenI (C : own_Cx p s m meth c Z n0 own nm bytes ml ret) (X : own_St p l e R s m args below meth c n0 T h cells slots) {n : Int32} {xs : List Int32} (hd : decode bytes pc = .ok (.arraylength, 1)) (A : own_IA Z h a ty xs) (hn : n.toInt = (xs.length : Int)) (hp : pc + 1 = pc')
    (g : own_Go p e below n0 F (T.setTop (mkF m pc' L (.int n :: S)))) : own_Go p e below n0 F (T.setTop (mkF m pc L (.ref a :: S))) := by
  obtain ⟨locs, X, -, rfl⟩ := X; subst hp; obtain ⟨cl, A, ec, hb1, -⟩ := A
  have := own_len ec hb1 hn; subst this
  exact own_st (fun t k => X.arraylength C.1 A.1 (State.isArrayOf_alike C.2.2.2.2.2.2.2.1.alike A.2.1) (g := mkF m pc L (.ref a :: S)) rfl rfl (hb C.2.1 hd) t k) g
theorem own_alenJ (C : own_Cx p s m meth c Z n0 own nm bytes ml ret) (X : own_St p l e R s m args below meth c n0 T h cells slots) {n : Int32} {xs : List Int64} (hd : decode bytes pc = .ok (.arraylength, 1)) (A : own_JA Z h a xs) (hn : n.toInt = (xs.length : Int)) (hp : pc + 1 = pc')
    (g : own_Go p e below n0 F (T.setTop (mkF m pc' L (.int n :: S)))) : own_Go p e below n0 F (T.setTop (mkF m pc L (.ref a :: S))) := by
  obtain ⟨locs, X, -, rfl⟩ := X; subst hp; obtain ⟨cl, A, ec, hb1⟩ := A
  have := own_len ec hb1 hn; subst this
  exact own_st (fun t k => X.arraylength C.1 A.1 (State.isArrayOf_alike C.2.2.2.2.2.2.2.1.alike A.2.1) (g := mkF m pc L (.ref a :: S)) rfl rfl (hb C.2.1 hd) t k) g
theorem own_fitset {xs : List Int32} {i : Nat} {v : Int32} (hf : ∀ x ∈ xs, fits ty (.int x) = true) (hv : fits ty (.int v) = true) : ∀ x ∈ xs.set i v, fits ty (.int x) = true := fun x hx =>
  (List.mem_or_eq_of_mem_set hx).elim (hf x) (fun q => q ▸ hv)
theorem own_bastore (C : own_Cx p s m meth c Z n0 own nm bytes ml ret) (X : own_St p l e R s m args below meth c n0 T h cells slots) {j x v : Int32} {i : Nat} {xs : List Int32} (hd : decode bytes pc = .ok (.bastore, 1)) (A : own_IA Z h a .byte xs) (hj : j.toInt = (i : Int)) (hi : i < xs.length) (hx : x.toInt8.toInt32 = v) (ha : n0 ≤ a) (hp : pc + 1 = pc')
    (g : ∀ T' h', own_St p l e R s m args below meth c n0 T' h' cells slots → Keep h h' [a] → own_IA Z h' a .byte (xs.set i v) → own_Go p e below n0 F (T'.setTop (mkF m pc' L S))) : own_Go p e below n0 F (T.setTop (mkF m pc L (.int x :: .int j :: .ref a :: S))) := by
  obtain ⟨locs, X, N, e0⟩ := X; subst hp; subst hx; obtain ⟨cl, A, ec, hl, hf⟩ := A
  obtain ⟨T', h2, X', e', W, st⟩ := stB X C.1 C.2.2.2.2.2.2.2.1 e0 A (own_in ec hj hi) (g := mkF m pc L (.int x :: .int j :: .ref a :: S)) rfl rfl (hb C.2.1 hd)
  exact own_st st (g T' h2 ⟨_, X', Fr.snoc X' N ha, e'⟩ (Keep.of_wr W) ⟨_, A.same W, own_set ec hj, by simpa using hl, own_fitset hf (fits_nar_byte x)⟩)
theorem own_iastore (C : own_Cx p s m meth c Z n0 own nm bytes ml ret) (X : own_St p l e R s m args below meth c n0 T h cells slots) {j x : Int32} {i : Nat} {xs : List Int32} (hd : decode bytes pc = .ok (.iastore, 1)) (A : own_IA Z h a .int xs) (hj : j.toInt = (i : Int)) (hi : i < xs.length) (ha : n0 ≤ a) (hp : pc + 1 = pc')
    (g : ∀ T' h', own_St p l e R s m args below meth c n0 T' h' cells slots → Keep h h' [a] → own_IA Z h' a .int (xs.set i x) → own_Go p e below n0 F (T'.setTop (mkF m pc' L S))) : own_Go p e below n0 F (T.setTop (mkF m pc L (.int x :: .int j :: .ref a :: S))) := by
  obtain ⟨locs, X, N, e0⟩ := X; subst hp; obtain ⟨cl, A, ec, hl, hf⟩ := A
  obtain ⟨T', h2, X', e', W, st⟩ := stI X C.1 C.2.2.2.2.2.2.2.1 e0 A (own_in ec hj hi) (g := mkF m pc L (.int x :: .int j :: .ref a :: S)) rfl rfl (hb C.2.1 hd)
  exact own_st st (g T' h2 ⟨_, X', Fr.snoc X' N ha, e'⟩ (Keep.of_wr W) ⟨_, A.same W, own_set ec hj, by simpa using hl, own_fitset hf rfl⟩)
theorem own_lastore (C : own_Cx p s m meth c Z n0 own nm bytes ml ret) (X : own_St p l e R s m args below meth c n0 T h cells slots) {j : Int32} {x : Int64} {i : Nat} {xs : List Int64} (hd : decode bytes pc = .ok (.lastore, 1)) (A : own_JA Z h a xs) (hj : j.toInt = (i : Int)) (hi : i < xs.length) (ha : n0 ≤ a) (hp : pc + 1 = pc')
    (g : ∀ T' h', own_St p l e R s m args below meth c n0 T' h' cells slots → Keep h h' [a] → own_JA Z h' a (xs.set i x) → own_Go p e below n0 F (T'.setTop (mkF m pc' L S))) : own_Go p e below n0 F (T.setTop (mkF m pc L (.long x :: .int j :: .ref a :: S))) := by
  obtain ⟨locs, X, N, e0⟩ := X; subst hp; obtain ⟨cl, A, ec, hl⟩ := A
  obtain ⟨T', h2, X', e', W, st⟩ := stJ X C.1 C.2.2.2.2.2.2.2.1 e0 A (own_in ec hj hi) (g := mkF m pc L (.long x :: .int j :: .ref a :: S)) rfl rfl (hb C.2.1 hd)
  exact own_st st (g T' h2 ⟨_, X', Fr.snoc X' N ha, e'⟩ (Keep.of_wr W) ⟨_, A.same W, own_set ec hj, by simpa using hl⟩)
theorem own_keep_ext (E : Ext h h') : Keep h h' [] := (Keep.refl h []).ext E
theorem own_newI (C : own_Cx p s m meth c Z n0 own nm bytes ml ret) (X : own_St p l e R s m args below meth c n0 T h cells slots) {aty : ArrayType} {n : Int32} {k cap : Nat} (hd : decode bytes pc = .ok (.newarray aty, 2)) (hty : newarray.typeOf aty = ty) (w : (Jvm.Cond.arrayClass ty).before a0 Z = true) (hn : n.toInt = (k : Int)) (hcap : k ≤ cap) (hb8 : cap * 8 ≤ 536870912)
    (hc : cells + 1 ≤ R.cells) (hs : slots + cap ≤ R.slots) (hdef : defaultValue ty = .int 0) (hfit : fits ty (.int 0) = true) (hp : pc + 2 = pc')
    (g : ∀ T' h' a, a = h.size → own_St p l e R s m args below meth c n0 T' h' (cells + 1) (slots + cap) → Keep h h' [] → n0 ≤ a → own_IA Z h' a ty (List.replicate k 0) → own_Go p e below n0 F (T'.setTop (mkF m pc' L (.ref a :: S)))) : own_Go p e below n0 F (T.setTop (mkF m pc L (.int n :: S))) := by
  have hbig := own_big C X
  obtain ⟨locs, X, N, e0⟩ := X; subst hp; subst hty
  obtain ⟨q1, q2⟩ := own_ix hn
  obtain ⟨T', h2, cA, X', e', E, A, st⟩ := newP X C.1 C.2.2.2.2.2.2.2.1 w e0 (g := mkF m pc L (.int n :: S)) rfl (hb C.2.1 hd) rfl q1 (cap := cap) (by rw [q2]; exact hcap) hb8 hc hs
  refine own_st st (g T' h2 _ rfl ⟨_, X', N, e'⟩ (own_keep_ext E) hbig ⟨_, A, ?_, ?_, ?_⟩)
  · simp [newA, q2, hdef]
  · have := n.toInt_lt; simp only [List.length_replicate]; omega
  · intro x hx; obtain ⟨-, rfl⟩ := List.mem_replicate.mp hx; exact hfit
theorem own_newJ (C : own_Cx p s m meth c Z n0 own nm bytes ml ret) (X : own_St p l e R s m args below meth c n0 T h cells slots) {n : Int32} {k cap : Nat} (hd : decode bytes pc = .ok (.newarray .long, 2)) (w : (Jvm.Cond.arrayClass .long).before a0 Z = true) (hn : n.toInt = (k : Int)) (hcap : k ≤ cap) (hb8 : cap * 8 ≤ 536870912)
    (hc : cells + 1 ≤ R.cells) (hs : slots + cap ≤ R.slots) (hp : pc + 2 = pc')
    (g : ∀ T' h' a, a = h.size → own_St p l e R s m args below meth c n0 T' h' (cells + 1) (slots + cap) → Keep h h' [] → n0 ≤ a → own_JA Z h' a (List.replicate k 0) → own_Go p e below n0 F (T'.setTop (mkF m pc' L (.ref a :: S)))) : own_Go p e below n0 F (T.setTop (mkF m pc L (.int n :: S))) := by
  have hbig := own_big C X
  obtain ⟨locs, X, N, e0⟩ := X; subst hp
  obtain ⟨q1, q2⟩ := own_ix hn
  obtain ⟨T', h2, cA, X', e', E, A, st⟩ := newP (aty := .long) X C.1 C.2.2.2.2.2.2.2.1 w e0 (g := mkF m pc L (.int n :: S)) rfl (hb C.2.1 hd) rfl q1 (cap := cap) (by rw [q2]; exact hcap) hb8 hc hs
  refine own_st st (g T' h2 _ rfl ⟨_, X', N, e'⟩ (own_keep_ext E) hbig ⟨_, A, ?_, ?_⟩)
  · simp [newA, q2, defaultValue, newarray.typeOf]
  · have := n.toInt_lt; simp only [List.length_replicate]; omega
/-! objects by the list of their fields: name, descriptor, value -/
def own_Ob (Z : State) (a0 : Array Value) (h : Heap) (a : Addr) (K : String) (fs : List (String × String × Value)) : Prop :=
  Exa Z h a K ∧ (fs.map (·.1)).Nodup ∧ ∀ f ∈ fs, Fld Z h a K f.1 f.2.1 f.2.2 ∧ Laid Z a0 K K f.1 f.2.1 ∧ ∃ t, parseFieldDescriptor f.2.1 = some t
theorem own_Ob.keep {K : String} {fs : List (String × String × Value)} (O : own_Ob Z a0 h a K fs) (W : Keep h h' ws) (q : a ∉ ws) : own_Ob Z a0 h' a K fs :=
  ⟨O.1.keep W, O.2.1, fun f hf => ⟨(O.2.2 f hf).1.keep W q, (O.2.2 f hf).2⟩⟩
theorem own_Ob.lt {K : String} {fs : List (String × String × Value)} (O : own_Ob Z a0 h a K fs) : a < h.size := O.1.lt
theorem own_Ob.put {K n d : String} {fs : List (String × String × Value)} {v w : Value} {i : Nat} (O : own_Ob Z a0 h a K fs) (hi : fs[i]? = some (n, d, w)) (W : Wr h h' a (Jvm.RoadKit.slotOf Z K n d) v) : own_Ob Z a0 h' a K (fs.set i (n, d, v)) := by
  obtain ⟨hlt, hget⟩ := List.getElem?_eq_some_iff.mp hi
  have hmem : (n, d, w) ∈ fs := hget ▸ List.getElem_mem hlt
  have hnames : (fs.set i (n, d, v)).map (·.1) = fs.map (·.1) := by
    rw [List.map_set]
    apply List.ext_getElem? ; intro k
    by_cases hk : i = k
    · subst hk; rw [List.getElem?_set_self (by simpa using hlt), List.getElem?_map, hi]; rfl
    · rw [List.getElem?_set_ne hk]
  refine ⟨O.1.wr W, by rw [hnames]; exact O.2.1, fun f hf => ?_⟩
  obtain ⟨k, hk, hfk⟩ := List.getElem_of_mem hf
  have hk' : (fs.set i (n, d, v))[k]? = some f := List.getElem?_eq_some_iff.mpr ⟨hk, hfk⟩
  by_cases hik : i = k
  · subst hik
    rw [List.getElem?_set_self hlt] at hk'; cases hk'
    exact ⟨(O.2.2 _ hmem).1.same W, (O.2.2 _ hmem).2⟩
  · rw [List.getElem?_set_ne hik] at hk'
    obtain ⟨hlk, hgk⟩ := List.getElem?_eq_some_iff.mp hk'
    have hfm : f ∈ fs := hgk ▸ List.getElem_mem hlk
    obtain ⟨F, La, t, ht⟩ := O.2.2 f hfm
    obtain ⟨-, La', t', ht'⟩ := O.2.2 _ hmem
    refine ⟨F.other W (Or.inr (slot_ne La La' (fun hne => ?_) ht ht')), La, t, ht⟩
    have hnd := List.pairwise_iff_getElem.mp O.2.1
    rcases Nat.lt_or_gt_of_ne hik with q | q
    · exact hnd i k (by simpa using hlt) (by simpa using hlk) q (by simp [hget, hgk, hne])
    · exact hnd k i (by simpa using hlk) (by simpa using hlt) q (by simp [hget, hgk, hne])
theorem own_Ob.get {K n d : String} {fs : List (String × String × Value)} {v : Value} {i : Nat} (O : own_Ob Z a0 h a K fs) (hi : fs[i]? = some (n, d, v)) : Fld Z h a K n d v := by
  obtain ⟨hlt, hget⟩ := List.getElem?_eq_some_iff.mp hi
  exact (O.2.2 (n, d, v) (hget ▸ List.getElem_mem hlt)).1
theorem own_getfield (C : own_Cx p s m meth c Z n0 own nm bytes ml ret) (X : own_St p l e R s m args below meth c n0 T h cells slots) {K n d : String} {idx i : Nat} {fs : List (String × String × Value)} {v : Value} (hd : decode bytes pc = .ok (.getfield idx, 3)) (w : (Jvm.Cond.fieldLink own idx K n d).before a0 Z = true) (O : own_Ob Z a0 h a K fs) (hi : fs[i]? = some (n, d, v)) (hp : pc + 3 = pc')
    (g : ∀ T', own_St p l e R s m args below meth c n0 T' h cells slots → own_Go p e below n0 F (T'.setTop (mkF m pc' L (v :: S)))) : own_Go p e below n0 F (T.setTop (mkF m pc L (.ref a :: S))) := by
  obtain ⟨locs, X, N, e0⟩ := X; subst hp
  obtain ⟨T', X', e', st⟩ := getF X C.1 C.2.2.2.2.2.2.2.1 C.2.2.2.1 (host := "") (Or.inl w) Via.refl e0 (O.get hi) (g := mkF m pc L (.ref a :: S)) rfl rfl (hb C.2.1 hd)
  exact own_st st (g T' ⟨_, X', N, e'⟩)
theorem own_putfield (C : own_Cx p s m meth c Z n0 own nm bytes ml ret) (X : own_St p l e R s m args below meth c n0 T h cells slots) {K n d : String} {idx i kk : Nat} {fs : List (String × String × Value)} {v old : Value} (hd : decode bytes pc = .ok (.putfield idx, 3)) (w : (Jvm.Cond.fieldLink own idx K n d).before a0 Z = true)
    (lay : (Jvm.Cond.lays K K n d).before a0 Z = true ∨ ((Jvm.Cond.laysFinal K K n d).before a0 Z = true ∧ own = K ∧ nm = "<init>")) (wi : (Jvm.Cond.instantiable K kk).before a0 Z = true) (O : own_Ob Z a0 h a K fs) (hi : fs[i]? = some (n, d, old)) (hty : parseFieldDescriptor d = some ty) (hn : narrow ty v = v) (hf : fits ty v = true) (ha : n0 ≤ a) (hp : pc + 3 = pc')
    (g : ∀ T' h', own_St p l e R s m args below meth c n0 T' h' cells slots → Keep h h' [a] → own_Ob Z a0 h' a K (fs.set i (n, d, v)) → own_Go p e below n0 F (T'.setTop (mkF m pc' L S))) : own_Go p e below n0 F (T.setTop (mkF m pc L (v :: .ref a :: S))) := by
  obtain ⟨locs, X, N, e0⟩ := X; subst hp
  obtain ⟨T', h2, X', e', W, st⟩ := putF X C.1 C.2.2.2.2.2.2.2.1 C.2.2.2.1 (host := "") (Or.inl w) Via.refl e0 (O.get hi) O.1 (lay.imp id (fun q => ⟨q.1, q.2.1, C.2.2.2.2.1.trans q.2.2⟩)) wi hty hn hf (g := mkF m pc L (v :: .ref a :: S)) rfl rfl (hb C.2.1 hd)
  exact own_st st (g T' h2 ⟨_, X', Fr.snoc X' N ha, e'⟩ (Keep.of_wr W) (O.put hi W))
theorem own_new (C : own_Cx p s m meth c Z n0 own nm bytes ml ret) (X : own_St p l e R s m args below meth c n0 T h cells slots) {K : String} {idx k : Nat} (hd : decode bytes pc = .ok (.new idx, 3)) (w : (Jvm.Cond.classLink own idx K).before a0 Z = true) (wi : (Jvm.Cond.instantiable K k).before a0 Z = true) (wz : (Jvm.Cond.initialized K).before a0 Z = true)
    (hc : cells + 1 ≤ R.cells) (hs : slots + k ≤ R.slots) (fs : List (String × String × Value)) (hnd : (fs.map (·.1)).Nodup) (hfs : ∀ f ∈ fs, Laid Z a0 K K f.1 f.2.1 ∧ ∃ t, parseFieldDescriptor f.2.1 = some t ∧ defaultValue t = f.2.2) (hp : pc + 3 = pc')
    (g : ∀ T' h' a, a = h.size → own_St p l e R s m args below meth c n0 T' h' (cells + 1) (slots + k) → Keep h h' [] → n0 ≤ a → own_Ob Z a0 h' a K fs → own_Go p e below n0 F (T'.setTop (mkF m pc' L (.ref a :: S)))) : own_Go p e below n0 F (T.setTop (mkF m pc L S)) := by
  have hbig := own_big C X
  obtain ⟨locs, X, N, e0⟩ := X; subst hp
  obtain ⟨T', h2, X', e', E, A, D, -, st⟩ := newO X C.1 C.2.2.2.2.2.2.2.1 C.2.2.2.1 w wi wz e0 (g := mkF m pc L S) rfl (hb C.2.1 hd) hc hs
  refine own_st st (g T' h2 _ rfl ⟨_, X', N, e'⟩ (own_keep_ext E) hbig ⟨A, hnd, fun f hf => ?_⟩)
  obtain ⟨La, t, ht, hdv⟩ := hfs f hf
  exact ⟨hdv ▸ D La ht, La, t, ht⟩
theorem own_objinit (C : own_Cx p s m meth c Z n0 own nm bytes ml ret) (X : own_St p l e R s m args below meth c n0 T h cells slots) {idx : Nat} (hd : decode bytes pc = .ok (.invokespecial idx, 3)) (w1 : (Jvm.Cond.methodLink own idx Lib.objectInit).before a0 Z = true) (w2 : (Jvm.Cond.instanceMethod Lib.objectInit).before a0 Z = true) (w3 : (Jvm.Cond.code Lib.objectInit ⟨#[0xb1]⟩ 1 none).before a0 Z = true)
    (hL : L.size = ml) (hf : 1 ≤ R.frames) (hlo : (S.map fun v => v.category).sum + 12 ≤ R.locals) (hp : pc + 3 = pc')
    (g : ∀ T', own_St p l e R s m args below meth c n0 T' h cells slots → own_Go p e below n0 F (T'.setTop (mkF m pc' L S))) : own_Go p e below n0 F (T.setTop (mkF m pc L (.ref a :: S))) := by
  obtain ⟨locs, X, N, e0⟩ := X; subst hp
  obtain ⟨T', X', e', st⟩ := initO X C.1 C.2.2.2.2.2.2.2.1 C.2.2.2.1 w1 w2 w3 e0 (g := mkF m pc L (.ref a :: S)) rfl (by rw [C.2.2.1]; exact hL) rfl (hb C.2.1 hd) hf (W := (S.map fun v => v.category).sum) (by show 2 * 0 + _ ≤ _; omega) hlo
  exact own_st st (g T' ⟨_, X', N, e'⟩)
/-! calls -/
theorem own_callS (C : own_Cx p s m meth c Z n0 own nm bytes ml ret) (X : own_St p l e R s m args below meth c n0 T h cells slots) {y : MethodName} {by' : ByteArray} {ml' idx : Nat} {rt ret' : Option FieldType} {ps : List FieldType} {rm : Room} {av : List Value} {Qc : Option Value → Heap → Prop} (hd : decode bytes pc = .ok (.invokestatic idx, 3)) (M : own_Met l Z n0 y by' ml' ret' [] rm av.toArray h Qc)
    (w1 : (Jvm.Cond.methodLink own idx y).before a0 Z = true) (w2 : (Jvm.Cond.static y).before a0 Z = true) (w3 : (Jvm.Cond.initialized y.cls).before a0 Z = true) (w4 : (Jvm.Cond.code y by' ml' ret').before a0 Z = true) (hy : y.cls ≠ "java/lang/invoke/MethodHandle" ∧ y.cls ≠ "java/lang/invoke/VarHandle")
    (hde : parseMethodDescriptor y.desc = some ⟨ps, rt⟩) (hps : av.length = ps.length) (hL : L.size = ml) (hf : rm.frames + 1 ≤ R.frames) (hlo : (S.map fun v => v.category).sum + (ml' + 11) + rm.locals ≤ R.locals) (hc : cells + rm.cells ≤ R.cells) (hs : slots + rm.slots ≤ R.slots) {S0 : List Value} (hS : S0 = av.reverse ++ S) (hp : pc + 3 = pc')
    (g : ∀ T' h' v, own_St p l e R s m args below meth c n0 T' h' (cells + rm.cells) (slots + rm.slots) → Qc v h' → own_Go p e below n0 F (T'.setTop (mkF m pc' L (v.toList ++ S)))) : own_Go p e below n0 F (T.setTop (mkF m pc L S0)) := by
  obtain ⟨locs, X, N, e0⟩ := X; subst hp; subst hS
  have hZ := C.2.2.2.2.2.2.2.1
  obtain ⟨v, _, ⟨T2, L2, k2, n2⟩, -, X2, ⟨Lc, hQ, l2, y2, z2⟩, st⟩ := Jvm.LawKit.callS X C.1 (y := y) C.2.2.2.1 (mvT hZ w1) (mvT hZ w2) (mvT hZ w3) (mvT hZ w4) hy (backOf (W := (S.map fun v => v.category).sum) (Q := fun v h L => Qc v h ∧ Fr n0 L) M hZ w4 w3 hf hlo) (g := mkF m pc L (av.reverse ++ S)) rfl (by rw [C.2.2.1]; exact hL) (argsL := av) (rest := S) (lenOf hde hps) rfl (by show 2 * 0 + _ ≤ _; omega) (hb C.2.1 hd) (fun _ _ => ⟨rfl, e0, hc, hs⟩)
  dsimp only [Pt.U, Pt.locs, Pt.cells, Pt.slots] at X2 l2 y2 z2 st hQ
  subst l2 y2 z2
  exact own_st st (g T2 _ v ⟨_, X2, Fr.app N hQ.2, rfl⟩ hQ.1)
theorem own_callInit (C : own_Cx p s m meth c Z n0 own nm bytes ml ret) (X : own_St p l e R s m args below meth c n0 T h cells slots) {y : MethodName} {by' : ByteArray} {ml' idx : Nat} {rt : Option FieldType} {ps : List FieldType} {rm : Room} {av : List Value} {Qc : Option Value → Heap → Prop} (hd : decode bytes pc = .ok (.invokespecial idx, 3)) (M : own_Met l Z n0 y by' ml' none [] rm (.ref a :: av).toArray h Qc) (hy1 : y.name = "<init>")
    (w1 : (Jvm.Cond.methodLink own idx y).before a0 Z = true) (w2 : (Jvm.Cond.instanceMethod y).before a0 Z = true) (w3 : (Jvm.Cond.initialized y.cls).before a0 Z = true) (w4 : (Jvm.Cond.code y by' ml' none).before a0 Z = true) (hy : y.cls ≠ "java/lang/invoke/MethodHandle" ∧ y.cls ≠ "java/lang/invoke/VarHandle")
    (hde : parseMethodDescriptor y.desc = some ⟨ps, rt⟩) (hps : av.length = ps.length) (hL : L.size = ml) (hf : rm.frames + 1 ≤ R.frames) (hlo : (S.map fun v => v.category).sum + (ml' + 11) + rm.locals ≤ R.locals) (hc : cells + rm.cells ≤ R.cells) (hs : slots + rm.slots ≤ R.slots) {S0 : List Value} (hS : S0 = av.reverse ++ .ref a :: S) (hp : pc + 3 = pc')
    (g : ∀ T' h' v, own_St p l e R s m args below meth c n0 T' h' (cells + rm.cells) (slots + rm.slots) → Qc v h' → own_Go p e below n0 F (T'.setTop (mkF m pc' L (v.toList ++ S)))) : own_Go p e below n0 F (T.setTop (mkF m pc L S0)) := by
  obtain ⟨locs, X, N, e0⟩ := X; subst hp; subst hS
  have hZ := C.2.2.2.2.2.2.2.1
  obtain ⟨v, _, ⟨T2, L2, k2, n2⟩, -, X2, ⟨Lc, hQ, l2, y2, z2⟩, st⟩ := X.specialBack C.1 (y := y) hy1 C.2.2.2.1 (mvT hZ w1) (mvT hZ w2) (mvT hZ w4) hy (backOf (W := (S.map fun v => v.category).sum) (Q := fun v h L => Qc v h ∧ Fr n0 L) M hZ w4 w3 hf hlo) (g := mkF m pc L (av.reverse ++ .ref a :: S)) rfl (by rw [C.2.2.1]; exact hL) (Steps.refl _) (a := a) (argsL := av) (rest := S) (lenOf hde hps) rfl (by show 2 * 0 + _ ≤ _; omega) (hb C.2.1 hd) (fun _ _ => ⟨rfl, e0, hc, hs⟩)
  dsimp only [Pt.U, Pt.locs, Pt.cells, Pt.slots] at X2 l2 y2 z2 st hQ
  subst l2 y2 z2
  exact own_st (fun t k => st.trans k) (g T2 _ v ⟨_, X2, Fr.app N hQ.2, rfl⟩ hQ.1)
theorem own_callV (C : own_Cx p s m meth c Z n0 own nm bytes ml ret) (X : own_St p l e R s m args below meth c n0 T h cells slots) {y : MethodName} {by' : ByteArray} {ml' idx : Nat} {rt ret' : Option FieldType} {ps : List FieldType} {rm : Room} {av : List Value} {Qc : Option Value → Heap → Prop} (hd : decode bytes pc = .ok (.invokevirtual idx, 3)) (M : own_Met l Z n0 y by' ml' ret' [] rm (.ref a :: av).toArray h Qc)
    (E : Exa Z h a y.cls) (w1 : (Jvm.Cond.methodLink own idx y).before a0 Z = true) (wd : (Jvm.Cond.declares y).before a0 Z = true) (ws : (Jvm.Cond.selects y.cls y y).before a0 Z = true) (w2 : (Jvm.Cond.instanceMethod y).before a0 Z = true) (w3 : (Jvm.Cond.initialized y.cls).before a0 Z = true) (w4 : (Jvm.Cond.code y by' ml' ret').before a0 Z = true) (hy : y.cls ≠ "java/lang/invoke/MethodHandle" ∧ y.cls ≠ "java/lang/invoke/VarHandle")
    (hde : parseMethodDescriptor y.desc = some ⟨ps, rt⟩) (hps : av.length = ps.length) (hL : L.size = ml) (hf : rm.frames + 1 ≤ R.frames) (hlo : (S.map fun v => v.category).sum + (ml' + 11) + rm.locals ≤ R.locals) (hc : cells + rm.cells ≤ R.cells) (hs : slots + rm.slots ≤ R.slots) {S0 : List Value} (hS : S0 = av.reverse ++ .ref a :: S) (hp : pc + 3 = pc')
    (g : ∀ T' h' v, own_St p l e R s m args below meth c n0 T' h' (cells + rm.cells) (slots + rm.slots) → Qc v h' → own_Go p e below n0 F (T'.setTop (mkF m pc' L (v.toList ++ S)))) : own_Go p e below n0 F (T.setTop (mkF m pc L S0)) := by
  obtain ⟨locs, X, N, e0⟩ := X; subst hp; subst hS
  have hZ := C.2.2.2.2.2.2.2.1
  obtain ⟨cq, kq, qa, qb, qc⟩ := isOf hZ e0 E
  obtain ⟨v, _, ⟨T2, L2, k2, n2⟩, -, X2, ⟨Lc, hQ, l2, y2, z2⟩, st⟩ := X.virtualBack C.1 (y := y) (z := y) C.2.2.2.1 (mvT hZ w1) (mvT hZ wd) (notFace_of_selects (args := #[]) (mvT hZ ws)) (mvT hZ ws) (mvT hZ w2) hy (backOf (W := (S.map fun v => v.category).sum) (Q := fun v h L => Qc v h ∧ Fr n0 L) M hZ w4 w3 hf hlo) qa qc (g := mkF m pc L (av.reverse ++ .ref a :: S)) rfl (by rw [C.2.2.1]; exact hL) (Steps.refl _) (argsL := av) (rest := S) (lenOf hde hps) rfl (by show 2 * 0 + _ ≤ _; omega) (hb C.2.1 hd) (fun _ _ => ⟨rfl, e0, hc, hs⟩)
  dsimp only [Pt.U, Pt.locs, Pt.cells, Pt.slots] at X2 l2 y2 z2 st hQ
  subst l2 y2 z2
  exact own_st (fun t k => st.trans k) (g T2 _ v ⟨_, X2, Fr.app N hQ.2, rfl⟩ hQ.1)
/-- a private method selects itself (turned from the worked claim gauge-weight) -/
theorem own_selP {s : State} {args : Array Value} {n : Nat} {y : MethodName} (hy : y.cls ≠ "java/lang/invoke/MethodHandle" ∧ y.cls ≠ "java/lang/invoke/VarHandle") (hins : (Jvm.Cond.instantiable y.cls n).before args s = true) (hpriv : (Jvm.Cond.privateMethod y).before args s = true) (hinst : (Jvm.Cond.instanceMethod y).before args s = true) :
    (Jvm.Cond.selects y.cls y y).before args s = true := by
  obtain ⟨c, k, hc, hk, -, hniab, -, -⟩ := Cond.instantiable_spec hins
  have hni : k.isInterface = false := (Bool.or_eq_false_iff.mp hniab).1
  obtain ⟨mk, methM, hnamed, hmethM, -, -⟩ := Cond.instanceMethod_spec hinst
  have hfound : s.methodFound? y.cls y.name y.desc = some mk := State.methodFound?_of_named hnamed hy
  have hcls : mk.cls = c := Option.some.inj ((findClass_of_methodNamed hnamed).symm.trans hc)
  have hsel : selectMethod {} s.vm c mk = .method mk := selectMethod_private hmethM (Cond.privateMethod_at hpriv mk methM hnamed hmethM)
  simp only [Cond.before, Cond.holds, Cond.value, hc, hfound, hnamed, hsel, hcls, hk]
  simp; exact hni
theorem own_callP (C : own_Cx p s m meth c Z n0 own nm bytes ml ret) (X : own_St p l e R s m args below meth c n0 T h cells slots) {y : MethodName} {by' : ByteArray} {ml' idx : Nat} {rt ret' : Option FieldType} {ps : List FieldType} {rm : Room} {av : List Value} {Qc : Option Value → Heap → Prop} (hd : decode bytes pc = .ok (.invokevirtual idx, 3)) (M : own_Met l Z n0 y by' ml' ret' [] rm (.ref a :: av).toArray h Qc)
    (E : Exa Z h a y.cls) (w1 : (Jvm.Cond.methodLink own idx y).before a0 Z = true) {kk : Nat} (wi : (Jvm.Cond.instantiable y.cls kk).before a0 Z = true) (wp : (Jvm.Cond.privateMethod y).before a0 Z = true) (w2 : (Jvm.Cond.instanceMethod y).before a0 Z = true) (w3 : (Jvm.Cond.initialized y.cls).before a0 Z = true) (w4 : (Jvm.Cond.code y by' ml' ret').before a0 Z = true) (hy : y.cls ≠ "java/lang/invoke/MethodHandle" ∧ y.cls ≠ "java/lang/invoke/VarHandle")
    (hde : parseMethodDescriptor y.desc = some ⟨ps, rt⟩) (hps : av.length = ps.length) (hL : L.size = ml) (hf : rm.frames + 1 ≤ R.frames) (hlo : (S.map fun v => v.category).sum + (ml' + 11) + rm.locals ≤ R.locals) (hc : cells + rm.cells ≤ R.cells) (hs : slots + rm.slots ≤ R.slots) {S0 : List Value} (hS : S0 = av.reverse ++ .ref a :: S) (hp : pc + 3 = pc')
    (g : ∀ T' h' v, own_St p l e R s m args below meth c n0 T' h' (cells + rm.cells) (slots + rm.slots) → Qc v h' → own_Go p e below n0 F (T'.setTop (mkF m pc' L (v.toList ++ S)))) : own_Go p e below n0 F (T.setTop (mkF m pc L S0)) := by
  obtain ⟨locs, X, N, e0⟩ := X; subst hp; subst hS
  have hZ := C.2.2.2.2.2.2.2.1
  obtain ⟨cq, q1, q2⟩ := E.cell
  obtain ⟨v, _, ⟨T2, L2, k2, n2⟩, -, X2, ⟨Lc, hQ, l2, y2, z2⟩, st⟩ := X.privateBack C.1 (y := y) C.2.2.2.1 (mvT hZ w1) (mvT hZ w2) (mvT hZ (own_selP hy wi wp w2)) (Cond.privateMethod_at (mvP hZ wp (args := #[]))) (mvT hZ w4) hy (backOf (W := (S.map fun v => v.category).sum) (Q := fun v h L => Qc v h ∧ Fr n0 L) M hZ w4 w3 hf hlo) (g := mkF m pc L (av.reverse ++ .ref a :: S)) rfl (by rw [C.2.2.1]; exact hL) (Steps.refl _) (a := a) (by rw [e0]; exact q1) q2 (argsL := av) (rest := S) (lenOf hde hps) rfl (by show 2 * 0 + _ ≤ _; omega) (hb C.2.1 hd) (fun _ _ => ⟨rfl, e0, hc, hs⟩)
  dsimp only [Pt.U, Pt.locs, Pt.cells, Pt.slots] at X2 l2 y2 z2 st hQ
  subst l2 y2 z2
  exact own_st (fun t k => st.trans k) (g T2 _ v ⟨_, X2, Fr.app N hQ.2, rfl⟩ hQ.1)
end OwnKitTwo
end Jvm.Pilot.@@N@@
namespace Jvm.Pilot.@@N@@
open Jvm Jvm.ClassFile Sem Op Lib Jvm.Free Jvm.Stand Jvm.LawKit Jvm.RoadKit Bundle Jvm.Pilot.@@N@@.Jvm.D
section OwnKitThree
theorem own_i2b2 (x : Int32) : x.toInt8.toInt32.toInt8.toInt32 = x.toInt8.toInt32 := by simp
theorem own_i2bn {y t : Int32} (e : y.toInt8.toInt32 = t) : t.toInt8.toInt32 = t := by rw [← e]; simp
theorem own_ibd {Z : State} {h : Heap} {a : Addr} {ty : FieldType} {xs : List Int32} {i : Nat} {v : Int32} (A : own_IA Z h a ty xs) (e : xs[i]? = some v) : i < 2 ^ 31 := by
  obtain ⟨c, -, -, hl, -⟩ := A; exact Nat.lt_trans (own_lt_of e) hl
theorem own_ixadd {o d : Int32} {k n : Nat} (hk : o.toInt = (k : Int)) (hd : d.toInt = (n : Int)) (hb : k + n < 2 ^ 31) : (o + d).toInt = ((k + n : Nat) : Int) := by
  have := c_iadd o d; have := rng32 (o + d); omega
theorem own_orI (a b : Int32) (k : Nat) (hk : k ≤ 31) (P : Int) (hP : P = (2 ^ k : Nat)) (h1 : a.toInt % P = 0) (h2 : 0 ≤ b.toInt) (h3 : b.toInt < P) (h4 : 0 ≤ a.toInt) (h5 : a.toInt + b.toInt < 2147483648) : (a ||| b).toInt = a.toInt + b.toInt := by
  have := c_or a b k hk P hP h1 h2 h3; have := rng32 (a ||| b); omega
theorem own_addI (a b : Int32) (h1 : -2147483648 ≤ a.toInt + b.toInt) (h2 : a.toInt + b.toInt < 2147483648) : (a + b).toInt = a.toInt + b.toInt := by
  have := c_iadd a b; have := rng32 (a + b); omega
theorem own_subI (a b : Int32) (h1 : -2147483648 ≤ a.toInt - b.toInt) (h2 : a.toInt - b.toInt < 2147483648) : (a - b).toInt = a.toInt - b.toInt := by
  have := c_isub a b; have := rng32 (a - b); omega
theorem own_ba3 (y : Int32) : (y.toInt8.toInt32 &&& 7).toInt = y.toInt % 8 := by
  have e1 : (y.toInt8.toInt32 &&& 7).toInt = y.toInt8.toInt32.toInt % (2 ^ 3 : Nat) := c_mask _ 7 3 (by decide) (by decide)
  have e2 := c_i2b y
  omega
theorem own_ba4 (y : Int32) : (y.toInt8.toInt32 &&& 15).toInt = y.toInt % 16 := by
  have e1 : (y.toInt8.toInt32 &&& 15).toInt = y.toInt8.toInt32.toInt % (2 ^ 4 : Nat) := c_mask _ 15 4 (by decide) (by decide)
  have e2 := c_i2b y
  omega
theorem own_ba5 (y : Int32) : (y.toInt8.toInt32 &&& 31).toInt = y.toInt % 32 := by
  have e1 : (y.toInt8.toInt32 &&& 31).toInt = y.toInt8.toInt32.toInt % (2 ^ 5 : Nat) := c_mask _ 31 5 (by decide) (by decide)
  have e2 := c_i2b y
  omega
theorem own_ba6 (y : Int32) : (y.toInt8.toInt32 &&& 63).toInt = y.toInt % 64 := by
  have e1 : (y.toInt8.toInt32 &&& 63).toInt = y.toInt8.toInt32.toInt % (2 ^ 6 : Nat) := c_mask _ 63 6 (by decide) (by decide)
  have e2 := c_i2b y
  omega
theorem own_ba7 (y : Int32) : (y.toInt8.toInt32 &&& 127).toInt = y.toInt % 128 := by
  have e1 : (y.toInt8.toInt32 &&& 127).toInt = y.toInt8.toInt32.toInt % (2 ^ 7 : Nat) := c_mask _ 127 7 (by decide) (by decide)
  have e2 := c_i2b y
  omega
theorem own_ba8 (y : Int32) : (y.toInt8.toInt32 &&& 255).toInt = y.toInt % 256 := by
  have e1 : (y.toInt8.toInt32 &&& 255).toInt = y.toInt8.toInt32.toInt % (2 ^ 8 : Nat) := c_mask _ 255 8 (by decide) (by decide)
  have e2 := c_i2b y
  omega
theorem own_cont (q : Int32) : (((128 : Int32) ||| (q &&& 63)).toInt8.toInt32 &&& 63).toInt = q.toInt % 64 := by
  have e1 : (q &&& 63).toInt = q.toInt % (2 ^ 6 : Nat) := c_mask q 63 6 (by decide) (by decide)
  have z : (128 : Int32).toInt = 128 := rfl
  have e2 := own_orI 128 (q &&& 63) 7 (by decide) 128 (by decide) (by decide) (by omega) (by omega) (by decide) (by omega)
  rw [own_ba6, e2]; omega
theorem own_acc (x y : Int32) (h1 : 0 ≤ x.toInt) (h2 : x.toInt * 64 + 63 < 2147483648) (h3 : 0 ≤ y.toInt) (h4 : y.toInt < 64) : ((x <<< (6 &&& 31)) ||| y).toInt = x.toInt * 64 + y.toInt := by
  have e1 := c_ishl x 6 6 (by decide)
  have e2 := rng32 (x <<< (6 &&& 31))
  have e3 : (x <<< (6 &&& 31)).toInt = x.toInt * 64 := by omega
  rw [own_orI (x <<< (6 &&& 31)) y 6 (by decide) 64 (by decide) (by omega) h3 h4 (by omega) (by omega), e3]
end OwnKitThree
end Jvm.Pilot.@@N@@
namespace Jvm.Pilot.@@N@@
open Jvm Jvm.ClassFile Sem Op Lib Jvm.Free Jvm.Stand Jvm.LawKit Jvm.RoadKit Bundle Jvm.Pilot.@@N@@.Jvm.D
theorem own_lt1 {c : Int32} : c < 128 ↔ c.toInt < 128 := Int32.lt_iff_toInt_lt
theorem own_lt2 {c : Int32} : c < 2048 ↔ c.toInt < 2048 := Int32.lt_iff_toInt_lt
theorem own_lt3 {c : Int32} : c < 65536 ↔ c.toInt < 65536 := Int32.lt_iff_toInt_lt
theorem own_msk (x : Int32) : (x &&& 2147483647).toInt = x.toInt % 2147483648 := c_mask x 2147483647 31 (by decide) (by decide)
theorem own_rem (x n : Int32) (hn0 : 0 < n.toInt) : 0 ≤ ((x &&& 2147483647) % n).toInt ∧ ((x &&& 2147483647) % n).toInt < n.toInt := by
  have e1 := own_msk x
  have e2 := ((c_iremV (x &&& 2147483647) n).1 (by omega) hn0)
  omega
theorem own_ushr (c q : Int32) (k : Nat) (hk : q.toBitVec.toNat % 32 = k) (h0 : 0 < k) (hc : 0 ≤ c.toInt) : ((c.toUInt32 >>> (q &&& 31).toUInt32).toInt32).toInt = c.toInt / (2 ^ k : Nat) := by
  rw [c_iushr c q k hk h0]; have := c.toInt_lt; rw [Int.emod_eq_of_lt hc (by omega)]
theorem own_four (c : Int32) : c < 128 ∨ (¬ c < 128 ∧ c < 2048) ∨ (¬ c < 128 ∧ ¬ c < 2048 ∧ c < 65536) ∨ (¬ c < 128 ∧ ¬ c < 2048 ∧ ¬ c < 65536) := by
  by_cases q1 : c < 128
  · exact Or.inl q1
  · by_cases q2 : c < 2048
    · exact Or.inr (Or.inl ⟨q1, q2⟩)
    · by_cases q3 : c < 65536
      · exact Or.inr (Or.inr (Or.inl ⟨q1, q2, q3⟩))
      · exact Or.inr (Or.inr (Or.inr ⟨q1, q2, q3⟩))
theorem own_base (x b n : Int32) (hb0 : 0 ≤ b.toInt) (hn0 : 0 < n.toInt) (hs : b.toInt + n.toInt < 2147483648) : b.toInt ≤ (b + (x &&& 2147483647) % n).toInt ∧ (b + (x &&& 2147483647) % n).toInt < b.toInt + n.toInt := by
  have e1 := own_msk x
  have e2 := ((c_iremV (x &&& 2147483647) n).1 (by omega) hn0)
  rw [own_addI _ _ (by omega) (by omega)]; omega
theorem own_at4 (x z : Int32) (e : x &&& 3 = z) : z = 0 ∨ z = 1 ∨ z = 2 ∨ z = 3 := by
  have e1 : (x &&& 3).toInt = x.toInt % (2 ^ 2 : Nat) := c_mask x 3 2 (by decide) (by decide)
  rw [e] at e1
  have : z.toInt = 0 ∨ z.toInt = 1 ∨ z.toInt = 2 ∨ z.toInt = 3 := by omega
  rcases this with e | e | e | e
  · exact Or.inl (Int32.toInt_inj.mp e)
  · exact Or.inr (Or.inl (Int32.toInt_inj.mp e))
  · exact Or.inr (Or.inr (Or.inl (Int32.toInt_inj.mp e)))
  · exact Or.inr (Or.inr (Or.inr (Int32.toInt_inj.mp e)))
theorem own_e2_0 (c : Int32) (h0 : 0 ≤ c.toInt) (h1 : c.toInt < 2048) : ((192 : Int32) ||| ((c.toUInt32 >>> ((6 : Int32) &&& 31).toUInt32).toInt32)).toInt8.toInt32 = ((192 : Int32) + (c / (64 : Int32))).toInt8.toInt32 := by
  have e1 := own_ushr c 6 6 (by decide) (by decide) h0
  have e2 := (c_idiv c 64 64 rfl (by decide)).1 h0
  have z : (192 : Int32).toInt = 192 := rfl
  have e3 := own_orI 192 (((c.toUInt32 >>> ((6 : Int32) &&& 31).toUInt32).toInt32)) 6 (by decide) 64 (by decide) (by decide) (by omega) (by omega) (by decide) (by omega)
  have e4 := own_addI 192 (c / 64) (by omega) (by omega)
  exact congrArg (fun y : Int32 => y.toInt8.toInt32) (Int32.toInt_inj.mp (by omega))
theorem own_e2_1 (c : Int32) (h0 : 0 ≤ c.toInt) (h1 : c.toInt < 2048) : ((128 : Int32) ||| (c &&& (63 : Int32))).toInt8.toInt32 = ((128 : Int32) + (c % (64 : Int32))).toInt8.toInt32 := by
  have e5 : (c &&& 63).toInt = c.toInt % (2 ^ 6 : Nat) := c_mask _ 63 6 (by decide) (by decide)
  have e6 := (c_irem c 64 64 rfl).1 h0
  have z : (128 : Int32).toInt = 128 := rfl
  have e3 := own_orI 128 (c &&& 63) 7 (by decide) 128 (by decide) (by decide) (by omega) (by omega) (by decide) (by omega)
  have e4 := own_addI 128 (c % 64) (by omega) (by omega)
  exact congrArg (fun y : Int32 => y.toInt8.toInt32) (Int32.toInt_inj.mp (by omega))
theorem own_e3_0 (c : Int32) (h0 : 0 ≤ c.toInt) (h1 : c.toInt < 65536) : ((224 : Int32) ||| ((c.toUInt32 >>> ((12 : Int32) &&& 31).toUInt32).toInt32)).toInt8.toInt32 = ((224 : Int32) + (c / (4096 : Int32))).toInt8.toInt32 := by
  have e1 := own_ushr c 12 12 (by decide) (by decide) h0
  have e2 := (c_idiv c 4096 4096 rfl (by decide)).1 h0
  have z : (224 : Int32).toInt = 224 := rfl
  have e3 := own_orI 224 (((c.toUInt32 >>> ((12 : Int32) &&& 31).toUInt32).toInt32)) 5 (by decide) 32 (by decide) (by decide) (by omega) (by omega) (by decide) (by omega)
  have e4 := own_addI 224 (c / 4096) (by omega) (by omega)
  exact congrArg (fun y : Int32 => y.toInt8.toInt32) (Int32.toInt_inj.mp (by omega))
theorem own_e3_1 (c : Int32) (h0 : 0 ≤ c.toInt) (h1 : c.toInt < 65536) : ((128 : Int32) ||| (((c.toUInt32 >>> ((6 : Int32) &&& 31).toUInt32).toInt32) &&& (63 : Int32))).toInt8.toInt32 = ((128 : Int32) + ((c / (64 : Int32)) % (64 : Int32))).toInt8.toInt32 := by
  have e1 := own_ushr c 6 6 (by decide) (by decide) h0
  have e2 := (c_idiv c 64 64 rfl (by decide)).1 h0
  have e5 : ((((c.toUInt32 >>> ((6 : Int32) &&& 31).toUInt32).toInt32)) &&& 63).toInt = (((c.toUInt32 >>> ((6 : Int32) &&& 31).toUInt32).toInt32)).toInt % (2 ^ 6 : Nat) := c_mask _ 63 6 (by decide) (by decide)
  have e6 := (c_irem (c / 64) 64 64 rfl).1 (by omega)
  have z : (128 : Int32).toInt = 128 := rfl
  have e3 := own_orI 128 ((((c.toUInt32 >>> ((6 : Int32) &&& 31).toUInt32).toInt32)) &&& 63) 7 (by decide) 128 (by decide) (by decide) (by omega) (by omega) (by decide) (by omega)
  have e4 := own_addI 128 ((c / 64) % 64) (by omega) (by omega)
  exact congrArg (fun y : Int32 => y.toInt8.toInt32) (Int32.toInt_inj.mp (by omega))
theorem own_e3_2 (c : Int32) (h0 : 0 ≤ c.toInt) (h1 : c.toInt < 65536) : ((128 : Int32) ||| (c &&& (63 : Int32))).toInt8.toInt32 = ((128 : Int32) + (c % (64 : Int32))).toInt8.toInt32 := by
  have e5 : (c &&& 63).toInt = c.toInt % (2 ^ 6 : Nat) := c_mask _ 63 6 (by decide) (by decide)
  have e6 := (c_irem c 64 64 rfl).1 h0
  have z : (128 : Int32).toInt = 128 := rfl
  have e3 := own_orI 128 (c &&& 63) 7 (by decide) 128 (by decide) (by decide) (by omega) (by omega) (by decide) (by omega)
  have e4 := own_addI 128 (c % 64) (by omega) (by omega)
  exact congrArg (fun y : Int32 => y.toInt8.toInt32) (Int32.toInt_inj.mp (by omega))
theorem own_e4_0 (c : Int32) (h0 : 0 ≤ c.toInt) (h1 : c.toInt < 1114112) : ((240 : Int32) ||| ((c.toUInt32 >>> ((18 : Int32) &&& 31).toUInt32).toInt32)).toInt8.toInt32 = ((240 : Int32) + (c / (262144 : Int32))).toInt8.toInt32 := by
  have e1 := own_ushr c 18 18 (by decide) (by decide) h0
  have e2 := (c_idiv c 262144 262144 rfl (by decide)).1 h0
  have z : (240 : Int32).toInt = 240 := rfl
  have e3 := own_orI 240 (((c.toUInt32 >>> ((18 : Int32) &&& 31).toUInt32).toInt32)) 4 (by decide) 16 (by decide) (by decide) (by omega) (by omega) (by decide) (by omega)
  have e4 := own_addI 240 (c / 262144) (by omega) (by omega)
  exact congrArg (fun y : Int32 => y.toInt8.toInt32) (Int32.toInt_inj.mp (by omega))
theorem own_e4_1 (c : Int32) (h0 : 0 ≤ c.toInt) (h1 : c.toInt < 1114112) : ((128 : Int32) ||| (((c.toUInt32 >>> ((12 : Int32) &&& 31).toUInt32).toInt32) &&& (63 : Int32))).toInt8.toInt32 = ((128 : Int32) + ((c / (4096 : Int32)) % (64 : Int32))).toInt8.toInt32 := by
  have e1 := own_ushr c 12 12 (by decide) (by decide) h0
  have e2 := (c_idiv c 4096 4096 rfl (by decide)).1 h0
  have e5 : ((((c.toUInt32 >>> ((12 : Int32) &&& 31).toUInt32).toInt32)) &&& 63).toInt = (((c.toUInt32 >>> ((12 : Int32) &&& 31).toUInt32).toInt32)).toInt % (2 ^ 6 : Nat) := c_mask _ 63 6 (by decide) (by decide)
  have e6 := (c_irem (c / 4096) 64 64 rfl).1 (by omega)
  have z : (128 : Int32).toInt = 128 := rfl
  have e3 := own_orI 128 ((((c.toUInt32 >>> ((12 : Int32) &&& 31).toUInt32).toInt32)) &&& 63) 7 (by decide) 128 (by decide) (by decide) (by omega) (by omega) (by decide) (by omega)
  have e4 := own_addI 128 ((c / 4096) % 64) (by omega) (by omega)
  exact congrArg (fun y : Int32 => y.toInt8.toInt32) (Int32.toInt_inj.mp (by omega))
theorem own_e4_2 (c : Int32) (h0 : 0 ≤ c.toInt) (h1 : c.toInt < 1114112) : ((128 : Int32) ||| (((c.toUInt32 >>> ((6 : Int32) &&& 31).toUInt32).toInt32) &&& (63 : Int32))).toInt8.toInt32 = ((128 : Int32) + ((c / (64 : Int32)) % (64 : Int32))).toInt8.toInt32 := by
  have e1 := own_ushr c 6 6 (by decide) (by decide) h0
  have e2 := (c_idiv c 64 64 rfl (by decide)).1 h0
  have e5 : ((((c.toUInt32 >>> ((6 : Int32) &&& 31).toUInt32).toInt32)) &&& 63).toInt = (((c.toUInt32 >>> ((6 : Int32) &&& 31).toUInt32).toInt32)).toInt % (2 ^ 6 : Nat) := c_mask _ 63 6 (by decide) (by decide)
  have e6 := (c_irem (c / 64) 64 64 rfl).1 (by omega)
  have z : (128 : Int32).toInt = 128 := rfl
  have e3 := own_orI 128 ((((c.toUInt32 >>> ((6 : Int32) &&& 31).toUInt32).toInt32)) &&& 63) 7 (by decide) 128 (by decide) (by decide) (by omega) (by omega) (by decide) (by omega)
  have e4 := own_addI 128 ((c / 64) % 64) (by omega) (by omega)
  exact congrArg (fun y : Int32 => y.toInt8.toInt32) (Int32.toInt_inj.mp (by omega))
theorem own_e4_3 (c : Int32) (h0 : 0 ≤ c.toInt) (h1 : c.toInt < 1114112) : ((128 : Int32) ||| (c &&& (63 : Int32))).toInt8.toInt32 = ((128 : Int32) + (c % (64 : Int32))).toInt8.toInt32 := by
  have e5 : (c &&& 63).toInt = c.toInt % (2 ^ 6 : Nat) := c_mask _ 63 6 (by decide) (by decide)
  have e6 := (c_irem c 64 64 rfl).1 h0
  have z : (128 : Int32).toInt = 128 := rfl
  have e3 := own_orI 128 (c &&& 63) 7 (by decide) 128 (by decide) (by decide) (by omega) (by omega) (by decide) (by omega)
  have e4 := own_addI 128 (c % 64) (by omega) (by omega)
  exact congrArg (fun y : Int32 => y.toInt8.toInt32) (Int32.toInt_inj.mp (by omega))
theorem own_pn_com_example_termwell_termwell_store_Utf8 : plainName "com/example/termwell/termwell/store/Utf8" = true := by first | (simp [plainName, overriddenIn]; done) | decide +kernel
theorem own_ef_enc1 (cv : Int32) (a : Addr) (o : Int32) (m : MethodId) : entryFrame m #[(.int cv), (.ref a), (.int o)] 4 = mkF m 0 #[.val (.int cv), .val (.ref a), .val (.int o), .unset] [] := by first | (simp [entryFrame, mkF, argsToLocals, Value.category]; done) | rfl
theorem own_d1_0 : decode prog_248_method_11_code 0 = .ok (.iload_n 2, 1) := by decide +kernel
theorem own_d1_1 : decode prog_248_method_11_code 1 = .ok (.istore_n 3, 1) := by decide +kernel
theorem own_d1_2 : decode prog_248_method_11_code 2 = .ok (.iload_n 0, 1) := by decide +kernel
theorem own_d1_3 : decode prog_248_method_11_code 3 = .ok (.sipush 128, 3) := by decide +kernel
theorem own_d1_6 : decode prog_248_method_11_code 6 = .ok (.if_icmp .ge 14, 3) := by decide +kernel
theorem own_d1_9 : decode prog_248_method_11_code 9 = .ok (.aload_n 1, 1) := by decide +kernel
theorem own_d1_10 : decode prog_248_method_11_code 10 = .ok (.iload_n 3, 1) := by decide +kernel
theorem own_d1_11 : decode prog_248_method_11_code 11 = .ok (.iinc 3 1, 3) := by decide +kernel
theorem own_d1_14 : decode prog_248_method_11_code 14 = .ok (.iload_n 0, 1) := by decide +kernel
theorem own_d1_15 : decode prog_248_method_11_code 15 = .ok (.i2b, 1) := by decide +kernel
theorem own_d1_16 : decode prog_248_method_11_code 16 = .ok (.bastore, 1) := by decide +kernel
theorem own_d1_17 : decode prog_248_method_11_code 17 = .ok (.goto 166, 3) := by decide +kernel
theorem own_d1_183 : decode prog_248_method_11_code 183 = .ok (.iload_n 3, 1) := by decide +kernel
theorem own_d1_184 : decode prog_248_method_11_code 184 = .ok (.ireturn, 1) := by decide +kernel
set_option maxRecDepth 65536 in
set_option maxHeartbeats 40000000 in
theorem own_m_enc1 (l : Launch) (Z : State) (a0 : Array Value) (hw : ∀ d ∈ tables_1, d.before a0 Z = true) (cv : Int32) (a : Addr) (o : Int32) (h0 : Heap) (n0 : Nat) (hn0 : n0 ≤ h0.size) (xs : List Int32) (k : Nat) (A : own_IA Z h0 a .byte xs) (hk : o.toInt = (k : Int)) (hl : k + 1 ≤ xs.length) (ge_a : n0 ≤ a) (r : Int32) (hr : (o + (1 : Int32)) = r) (q1 : cv < 128) : own_Met l Z n0 (⟨"com/example/termwell/termwell/store/Utf8", "encode", "(I[BI)I"⟩ : MethodName) prog_248_method_11_code 4 (some .int) [] ({ frames := 0, cells := 0, slots := 0, locals := 0 } : Room) #[(.int cv), (.ref a), (.int o)] h0 (fun v h => v = some (.int r) ∧ Keep h0 h [a] ∧ own_IA Z h a .byte (List.set xs (k) cv.toInt8.toInt32)) := by
  refine own_body (plainFor_of_name own_pn_com_example_termwell_termwell_store_Utf8) hn0 (own_ef_enc1 cv a o) ?_
  intro p e s m below meth c T C X
  have KK := Keep.refl h0 [a]
  have hB : k + 1 < 2 ^ 31 := Nat.lt_of_le_of_lt hl (by obtain ⟨_, _, _, q, _⟩ := A; exact q)
  refine own_iloadN C X own_d1_0 rfl (pc' := 1) rfl ?_
  refine own_istoreN C X own_d1_1 (L' := #[.val (.int cv), .val (.ref a), .val (.int o), .val (.int o)]) rfl (pc' := 2) rfl ?_
  refine own_iloadN C X own_d1_2 rfl (pc' := 3) rfl ?_
  refine own_sipush C X own_d1_3 (v := 128) (by decide) (pc' := 6) rfl ?_
  refine own_icmp_ge C X own_d1_6 (pcT := 20) (pc' := 9) (by decide) (by decide) rfl (fun hc6 => absurd hc6 (not_not_intro q1)) (fun hc6 => ?_)
  refine own_aloadN C X own_d1_9 rfl rfl (pc' := 10) rfl ?_
  refine own_iloadN C X own_d1_10 rfl (pc' := 11) rfl ?_
  refine own_iinc C X own_d1_11 rfl (d := 1) (by decide) rfl (L' := #[.val (.int cv), .val (.ref a), .val (.int o), .val (.int (o + (1 : Int32)))]) rfl (pc' := 14) rfl ?_
  refine own_iloadN C X own_d1_14 rfl (pc' := 15) rfl ?_
  refine own_i2b C X own_d1_15 rfl (pc' := 16) rfl ?_
  refine own_bastore C X own_d1_16 A hk (i := k) (by first | omega | (simp only [List.length_set]; omega)) (own_i2b2 _) ge_a (pc' := 17) rfl ?_
  intro T h X K_ A_
  have A : own_IA Z h a .byte (List.set xs (k) cv.toInt8.toInt32) := A_
  have KK := KK.trans K_ (allS (Or.inl (by simp)) all0)
  refine own_goto C X own_d1_17 (pc' := 183) (by decide) (by decide) ?_
  refine own_iloadN C X own_d1_183 rfl (pc' := 184) rfl ?_
  exact own_ireturn C X own_d1_184 (Nat.le_of_ble_eq_true rfl) (Nat.le_of_ble_eq_true rfl) (⟨congrArg (fun z => some (Value.int z)) hr, KK, A⟩)
theorem own_ef_enc2 (cv : Int32) (a : Addr) (o : Int32) (m : MethodId) : entryFrame m #[(.int cv), (.ref a), (.int o)] 4 = mkF m 0 #[.val (.int cv), .val (.ref a), .val (.int o), .unset] [] := by first | (simp [entryFrame, mkF, argsToLocals, Value.category]; done) | rfl
theorem own_d1_20 : decode prog_248_method_11_code 20 = .ok (.iload_n 0, 1) := by decide +kernel
theorem own_d1_21 : decode prog_248_method_11_code 21 = .ok (.sipush 2048, 3) := by decide +kernel
theorem own_d1_24 : decode prog_248_method_11_code 24 = .ok (.if_icmp .ge 36, 3) := by decide +kernel
theorem own_d1_27 : decode prog_248_method_11_code 27 = .ok (.aload_n 1, 1) := by decide +kernel
theorem own_d1_28 : decode prog_248_method_11_code 28 = .ok (.iload_n 3, 1) := by decide +kernel
theorem own_d1_29 : decode prog_248_method_11_code 29 = .ok (.iinc 3 1, 3) := by decide +kernel
theorem own_d1_32 : decode prog_248_method_11_code 32 = .ok (.sipush 192, 3) := by decide +kernel
theorem own_d1_35 : decode prog_248_method_11_code 35 = .ok (.iload_n 0, 1) := by decide +kernel
theorem own_d1_36 : decode prog_248_method_11_code 36 = .ok (.bipush 6, 2) := by decide +kernel
theorem own_d1_38 : decode prog_248_method_11_code 38 = .ok (.iushr, 1) := by decide +kernel
theorem own_d1_39 : decode prog_248_method_11_code 39 = .ok (.ior, 1) := by decide +kernel
theorem own_d1_40 : decode prog_248_method_11_code 40 = .ok (.i2b, 1) := by decide +kernel
theorem own_d1_41 : decode prog_248_method_11_code 41 = .ok (.bastore, 1) := by decide +kernel
theorem own_d1_42 : decode prog_248_method_11_code 42 = .ok (.aload_n 1, 1) := by decide +kernel
theorem own_d1_43 : decode prog_248_method_11_code 43 = .ok (.iload_n 3, 1) := by decide +kernel
theorem own_d1_44 : decode prog_248_method_11_code 44 = .ok (.iinc 3 1, 3) := by decide +kernel
theorem own_d1_47 : decode prog_248_method_11_code 47 = .ok (.sipush 128, 3) := by decide +kernel
theorem own_d1_50 : decode prog_248_method_11_code 50 = .ok (.iload_n 0, 1) := by decide +kernel
theorem own_d1_51 : decode prog_248_method_11_code 51 = .ok (.bipush 63, 2) := by decide +kernel
theorem own_d1_53 : decode prog_248_method_11_code 53 = .ok (.iand, 1) := by decide +kernel
theorem own_d1_54 : decode prog_248_method_11_code 54 = .ok (.ior, 1) := by decide +kernel
theorem own_d1_55 : decode prog_248_method_11_code 55 = .ok (.i2b, 1) := by decide +kernel
theorem own_d1_56 : decode prog_248_method_11_code 56 = .ok (.bastore, 1) := by decide +kernel
theorem own_d1_57 : decode prog_248_method_11_code 57 = .ok (.goto 126, 3) := by decide +kernel
set_option maxRecDepth 65536 in
set_option maxHeartbeats 40000000 in
theorem own_m_enc2 (l : Launch) (Z : State) (a0 : Array Value) (hw : ∀ d ∈ tables_1, d.before a0 Z = true) (cv : Int32) (a : Addr) (o : Int32) (h0 : Heap) (n0 : Nat) (hn0 : n0 ≤ h0.size) (xs : List Int32) (k : Nat) (A : own_IA Z h0 a .byte xs) (hk : o.toInt = (k : Int)) (hl : k + 2 ≤ xs.length) (ge_a : n0 ≤ a) (r : Int32) (hr : ((o + (1 : Int32)) + (1 : Int32)) = r) (q1 : ¬ cv < 128) (q2 : cv < 2048) : own_Met l Z n0 (⟨"com/example/termwell/termwell/store/Utf8", "encode", "(I[BI)I"⟩ : MethodName) prog_248_method_11_code 4 (some .int) [] ({ frames := 0, cells := 0, slots := 0, locals := 0 } : Room) #[(.int cv), (.ref a), (.int o)] h0 (fun v h => v = some (.int r) ∧ Keep h0 h [a] ∧ own_IA Z h a .byte (List.set (List.set xs (k) ((192 : Int32) ||| ((cv.toUInt32 >>> ((6 : Int32) &&& 31).toUInt32).toInt32)).toInt8.toInt32) (k + 1) ((128 : Int32) ||| (cv &&& (63 : Int32))).toInt8.toInt32)) := by
  refine own_body (plainFor_of_name own_pn_com_example_termwell_termwell_store_Utf8) hn0 (own_ef_enc2 cv a o) ?_
  intro p e s m below meth c T C X
  have KK := Keep.refl h0 [a]
  have hB : k + 2 < 2 ^ 31 := Nat.lt_of_le_of_lt hl (by obtain ⟨_, _, _, q, _⟩ := A; exact q)
  refine own_iloadN C X own_d1_0 rfl (pc' := 1) rfl ?_
  refine own_istoreN C X own_d1_1 (L' := #[.val (.int cv), .val (.ref a), .val (.int o), .val (.int o)]) rfl (pc' := 2) rfl ?_
  refine own_iloadN C X own_d1_2 rfl (pc' := 3) rfl ?_
  refine own_sipush C X own_d1_3 (v := 128) (by decide) (pc' := 6) rfl ?_
  refine own_icmp_ge C X own_d1_6 (pcT := 20) (pc' := 9) (by decide) (by decide) rfl (fun hc6 => ?_) (fun hc6 => absurd hc6 (q1))
  refine own_iloadN C X own_d1_20 rfl (pc' := 21) rfl ?_
  refine own_sipush C X own_d1_21 (v := 2048) (by decide) (pc' := 24) rfl ?_
  refine own_icmp_ge C X own_d1_24 (pcT := 60) (pc' := 27) (by decide) (by decide) rfl (fun hc24 => absurd hc24 (not_not_intro q2)) (fun hc24 => ?_)
  refine own_aloadN C X own_d1_27 rfl rfl (pc' := 28) rfl ?_
  refine own_iloadN C X own_d1_28 rfl (pc' := 29) rfl ?_
  refine own_iinc C X own_d1_29 rfl (d := 1) (by decide) rfl (L' := #[.val (.int cv), .val (.ref a), .val (.int o), .val (.int (o + (1 : Int32)))]) rfl (pc' := 32) rfl ?_
  refine own_sipush C X own_d1_32 (v := 192) (by decide) (pc' := 35) rfl ?_
  refine own_iloadN C X own_d1_35 rfl (pc' := 36) rfl ?_
  refine own_bipush C X own_d1_36 (v := 6) (by decide) (pc' := 38) rfl ?_
  refine own_iushr C X own_d1_38 rfl (pc' := 39) rfl ?_
  refine own_ior C X own_d1_39 rfl (pc' := 40) rfl ?_
  refine own_i2b C X own_d1_40 rfl (pc' := 41) rfl ?_
  refine own_bastore C X own_d1_41 A hk (i := k) (by first | omega | (simp only [List.length_set]; omega)) (own_i2b2 _) ge_a (pc' := 42) rfl ?_
  intro T h X K_ A_
  have A : own_IA Z h a .byte (List.set xs (k) ((192 : Int32) ||| ((cv.toUInt32 >>> ((6 : Int32) &&& 31).toUInt32).toInt32)).toInt8.toInt32) := A_
  have KK := KK.trans K_ (allS (Or.inl (by simp)) all0)
  refine own_aloadN C X own_d1_42 rfl rfl (pc' := 43) rfl ?_
  refine own_iloadN C X own_d1_43 rfl (pc' := 44) rfl ?_
  refine own_iinc C X own_d1_44 rfl (d := 1) (by decide) rfl (L' := #[.val (.int cv), .val (.ref a), .val (.int o), .val (.int ((o + (1 : Int32)) + (1 : Int32)))]) rfl (pc' := 47) rfl ?_
  refine own_sipush C X own_d1_47 (v := 128) (by decide) (pc' := 50) rfl ?_
  refine own_iloadN C X own_d1_50 rfl (pc' := 51) rfl ?_
  refine own_bipush C X own_d1_51 (v := 63) (by decide) (pc' := 53) rfl ?_
  refine own_iand C X own_d1_53 rfl (pc' := 54) rfl ?_
  refine own_ior C X own_d1_54 rfl (pc' := 55) rfl ?_
  refine own_i2b C X own_d1_55 rfl (pc' := 56) rfl ?_
  refine own_bastore C X own_d1_56 A (own_ixadd hk (by decide : (1 : Int32).toInt = ((1 : Nat) : Int)) (by omega)) (i := k + 1) (by first | omega | (simp only [List.length_set]; omega)) (own_i2b2 _) ge_a (pc' := 57) rfl ?_
  intro T h X K_ A_
  have A : own_IA Z h a .byte (List.set (List.set xs (k) ((192 : Int32) ||| ((cv.toUInt32 >>> ((6 : Int32) &&& 31).toUInt32).toInt32)).toInt8.toInt32) (k + 1) ((128 : Int32) ||| (cv &&& (63 : Int32))).toInt8.toInt32) := A_
  have KK := KK.trans K_ (allS (Or.inl (by simp)) all0)
  refine own_goto C X own_d1_57 (pc' := 183) (by decide) (by decide) ?_
  refine own_iloadN C X own_d1_183 rfl (pc' := 184) rfl ?_
  exact own_ireturn C X own_d1_184 (Nat.le_of_ble_eq_true rfl) (Nat.le_of_ble_eq_true rfl) (⟨congrArg (fun z => some (Value.int z)) hr, KK, A⟩)
theorem own_ef_enc3 (cv : Int32) (a : Addr) (o : Int32) (m : MethodId) : entryFrame m #[(.int cv), (.ref a), (.int o)] 4 = mkF m 0 #[.val (.int cv), .val (.ref a), .val (.int o), .unset] [] := by first | (simp [entryFrame, mkF, argsToLocals, Value.category]; done) | rfl
theorem own_d1_60 : decode prog_248_method_11_code 60 = .ok (.iload_n 0, 1) := by decide +kernel
theorem own_d1_61 : decode prog_248_method_11_code 61 = .ok (.ldc 113, 2) := by decide +kernel
theorem own_d1_63 : decode prog_248_method_11_code 63 = .ok (.if_icmp .ge 54, 3) := by decide +kernel
theorem own_d1_66 : decode prog_248_method_11_code 66 = .ok (.aload_n 1, 1) := by decide +kernel
theorem own_d1_67 : decode prog_248_method_11_code 67 = .ok (.iload_n 3, 1) := by decide +kernel
theorem own_d1_68 : decode prog_248_method_11_code 68 = .ok (.iinc 3 1, 3) := by decide +kernel
theorem own_d1_71 : decode prog_248_method_11_code 71 = .ok (.sipush 224, 3) := by decide +kernel
theorem own_d1_74 : decode prog_248_method_11_code 74 = .ok (.iload_n 0, 1) := by decide +kernel
theorem own_d1_75 : decode prog_248_method_11_code 75 = .ok (.bipush 12, 2) := by decide +kernel
theorem own_d1_77 : decode prog_248_method_11_code 77 = .ok (.iushr, 1) := by decide +kernel
theorem own_d1_78 : decode prog_248_method_11_code 78 = .ok (.ior, 1) := by decide +kernel
theorem own_d1_79 : decode prog_248_method_11_code 79 = .ok (.i2b, 1) := by decide +kernel
theorem own_d1_80 : decode prog_248_method_11_code 80 = .ok (.bastore, 1) := by decide +kernel
theorem own_d1_81 : decode prog_248_method_11_code 81 = .ok (.aload_n 1, 1) := by decide +kernel
theorem own_d1_82 : decode prog_248_method_11_code 82 = .ok (.iload_n 3, 1) := by decide +kernel
theorem own_d1_83 : decode prog_248_method_11_code 83 = .ok (.iinc 3 1, 3) := by decide +kernel
theorem own_d1_86 : decode prog_248_method_11_code 86 = .ok (.sipush 128, 3) := by decide +kernel
theorem own_d1_89 : decode prog_248_method_11_code 89 = .ok (.iload_n 0, 1) := by decide +kernel
theorem own_d1_90 : decode prog_248_method_11_code 90 = .ok (.bipush 6, 2) := by decide +kernel
theorem own_d1_92 : decode prog_248_method_11_code 92 = .ok (.iushr, 1) := by decide +kernel
theorem own_d1_93 : decode prog_248_method_11_code 93 = .ok (.bipush 63, 2) := by decide +kernel
theorem own_d1_95 : decode prog_248_method_11_code 95 = .ok (.iand, 1) := by decide +kernel
theorem own_d1_96 : decode prog_248_method_11_code 96 = .ok (.ior, 1) := by decide +kernel
theorem own_d1_97 : decode prog_248_method_11_code 97 = .ok (.i2b, 1) := by decide +kernel
theorem own_d1_98 : decode prog_248_method_11_code 98 = .ok (.bastore, 1) := by decide +kernel
theorem own_d1_99 : decode prog_248_method_11_code 99 = .ok (.aload_n 1, 1) := by decide +kernel
theorem own_d1_100 : decode prog_248_method_11_code 100 = .ok (.iload_n 3, 1) := by decide +kernel
theorem own_d1_101 : decode prog_248_method_11_code 101 = .ok (.iinc 3 1, 3) := by decide +kernel
theorem own_d1_104 : decode prog_248_method_11_code 104 = .ok (.sipush 128, 3) := by decide +kernel
theorem own_d1_107 : decode prog_248_method_11_code 107 = .ok (.iload_n 0, 1) := by decide +kernel
theorem own_d1_108 : decode prog_248_method_11_code 108 = .ok (.bipush 63, 2) := by decide +kernel
theorem own_d1_110 : decode prog_248_method_11_code 110 = .ok (.iand, 1) := by decide +kernel
theorem own_d1_111 : decode prog_248_method_11_code 111 = .ok (.ior, 1) := by decide +kernel
theorem own_d1_112 : decode prog_248_method_11_code 112 = .ok (.i2b, 1) := by decide +kernel
theorem own_d1_113 : decode prog_248_method_11_code 113 = .ok (.bastore, 1) := by decide +kernel
theorem own_d1_114 : decode prog_248_method_11_code 114 = .ok (.goto 69, 3) := by decide +kernel
set_option maxRecDepth 65536 in
set_option maxHeartbeats 40000000 in
theorem own_m_enc3 (l : Launch) (Z : State) (a0 : Array Value) (hw : ∀ d ∈ tables_1, d.before a0 Z = true) (cv : Int32) (a : Addr) (o : Int32) (h0 : Heap) (n0 : Nat) (hn0 : n0 ≤ h0.size) (xs : List Int32) (k : Nat) (A : own_IA Z h0 a .byte xs) (hk : o.toInt = (k : Int)) (hl : k + 3 ≤ xs.length) (ge_a : n0 ≤ a) (r : Int32) (hr : (((o + (1 : Int32)) + (1 : Int32)) + (1 : Int32)) = r) (q1 : ¬ cv < 128) (q2 : ¬ cv < 2048) (q3 : cv < 65536) : own_Met l Z n0 (⟨"com/example/termwell/termwell/store/Utf8", "encode", "(I[BI)I"⟩ : MethodName) prog_248_method_11_code 4 (some .int) [] ({ frames := 0, cells := 0, slots := 0, locals := 0 } : Room) #[(.int cv), (.ref a), (.int o)] h0 (fun v h => v = some (.int r) ∧ Keep h0 h [a] ∧ own_IA Z h a .byte (List.set (List.set (List.set xs (k) ((224 : Int32) ||| ((cv.toUInt32 >>> ((12 : Int32) &&& 31).toUInt32).toInt32)).toInt8.toInt32) (k + 1) ((128 : Int32) ||| (((cv.toUInt32 >>> ((6 : Int32) &&& 31).toUInt32).toInt32) &&& (63 : Int32))).toInt8.toInt32) (k + 1 + 1) ((128 : Int32) ||| (cv &&& (63 : Int32))).toInt8.toInt32)) := by
  refine own_body (plainFor_of_name own_pn_com_example_termwell_termwell_store_Utf8) hn0 (own_ef_enc3 cv a o) ?_
  intro p e s m below meth c T C X
  have KK := Keep.refl h0 [a]
  have hB : k + 3 < 2 ^ 31 := Nat.lt_of_le_of_lt hl (by obtain ⟨_, _, _, q, _⟩ := A; exact q)
  refine own_iloadN C X own_d1_0 rfl (pc' := 1) rfl ?_
  refine own_istoreN C X own_d1_1 (L' := #[.val (.int cv), .val (.ref a), .val (.int o), .val (.int o)]) rfl (pc' := 2) rfl ?_
  refine own_iloadN C X own_d1_2 rfl (pc' := 3) rfl ?_
  refine own_sipush C X own_d1_3 (v := 128) (by decide) (pc' := 6) rfl ?_
  refine own_icmp_ge C X own_d1_6 (pcT := 20) (pc' := 9) (by decide) (by decide) rfl (fun hc6 => ?_) (fun hc6 => absurd hc6 (q1))
  refine own_iloadN C X own_d1_20 rfl (pc' := 21) rfl ?_
  refine own_sipush C X own_d1_21 (v := 2048) (by decide) (pc' := 24) rfl ?_
  refine own_icmp_ge C X own_d1_24 (pcT := 60) (pc' := 27) (by decide) (by decide) rfl (fun hc24 => ?_) (fun hc24 => absurd hc24 (q2))
  refine own_iloadN C X own_d1_60 rfl (pc' := 61) rfl ?_
  refine own_ldcI C X own_d1_61 (hw _ (List.mem_of_getElem? (i := 9) rfl)) (pc' := 63) rfl ?_
  refine own_icmp_ge C X own_d1_63 (pcT := 117) (pc' := 66) (by decide) (by decide) rfl (fun hc63 => absurd hc63 (not_not_intro q3)) (fun hc63 => ?_)
  refine own_aloadN C X own_d1_66 rfl rfl (pc' := 67) rfl ?_
  refine own_iloadN C X own_d1_67 rfl (pc' := 68) rfl ?_
  refine own_iinc C X own_d1_68 rfl (d := 1) (by decide) rfl (L' := #[.val (.int cv), .val (.ref a), .val (.int o), .val (.int (o + (1 : Int32)))]) rfl (pc' := 71) rfl ?_
  refine own_sipush C X own_d1_71 (v := 224) (by decide) (pc' := 74) rfl ?_
  refine own_iloadN C X own_d1_74 rfl (pc' := 75) rfl ?_
  refine own_bipush C X own_d1_75 (v := 12) (by decide) (pc' := 77) rfl ?_
  refine own_iushr C X own_d1_77 rfl (pc' := 78) rfl ?_
  refine own_ior C X own_d1_78 rfl (pc' := 79) rfl ?_
  refine own_i2b C X own_d1_79 rfl (pc' := 80) rfl ?_
  refine own_bastore C X own_d1_80 A hk (i := k) (by first | omega | (simp only [List.length_set]; omega)) (own_i2b2 _) ge_a (pc' := 81) rfl ?_
  intro T h X K_ A_
  have A : own_IA Z h a .byte (List.set xs (k) ((224 : Int32) ||| ((cv.toUInt32 >>> ((12 : Int32) &&& 31).toUInt32).toInt32)).toInt8.toInt32) := A_
  have KK := KK.trans K_ (allS (Or.inl (by simp)) all0)
  refine own_aloadN C X own_d1_81 rfl rfl (pc' := 82) rfl ?_
  refine own_iloadN C X own_d1_82 rfl (pc' := 83) rfl ?_
  refine own_iinc C X own_d1_83 rfl (d := 1) (by decide) rfl (L' := #[.val (.int cv), .val (.ref a), .val (.int o), .val (.int ((o + (1 : Int32)) + (1 : Int32)))]) rfl (pc' := 86) rfl ?_
  refine own_sipush C X own_d1_86 (v := 128) (by decide) (pc' := 89) rfl ?_
  refine own_iloadN C X own_d1_89 rfl (pc' := 90) rfl ?_
  refine own_bipush C X own_d1_90 (v := 6) (by decide) (pc' := 92) rfl ?_
  refine own_iushr C X own_d1_92 rfl (pc' := 93) rfl ?_
  refine own_bipush C X own_d1_93 (v := 63) (by decide) (pc' := 95) rfl ?_
  refine own_iand C X own_d1_95 rfl (pc' := 96) rfl ?_
  refine own_ior C X own_d1_96 rfl (pc' := 97) rfl ?_
  refine own_i2b C X own_d1_97 rfl (pc' := 98) rfl ?_
  refine own_bastore C X own_d1_98 A (own_ixadd hk (by decide : (1 : Int32).toInt = ((1 : Nat) : Int)) (by omega)) (i := k + 1) (by first | omega | (simp only [List.length_set]; omega)) (own_i2b2 _) ge_a (pc' := 99) rfl ?_
  intro T h X K_ A_
  have A : own_IA Z h a .byte (List.set (List.set xs (k) ((224 : Int32) ||| ((cv.toUInt32 >>> ((12 : Int32) &&& 31).toUInt32).toInt32)).toInt8.toInt32) (k + 1) ((128 : Int32) ||| (((cv.toUInt32 >>> ((6 : Int32) &&& 31).toUInt32).toInt32) &&& (63 : Int32))).toInt8.toInt32) := A_
  have KK := KK.trans K_ (allS (Or.inl (by simp)) all0)
  refine own_aloadN C X own_d1_99 rfl rfl (pc' := 100) rfl ?_
  refine own_iloadN C X own_d1_100 rfl (pc' := 101) rfl ?_
  refine own_iinc C X own_d1_101 rfl (d := 1) (by decide) rfl (L' := #[.val (.int cv), .val (.ref a), .val (.int o), .val (.int (((o + (1 : Int32)) + (1 : Int32)) + (1 : Int32)))]) rfl (pc' := 104) rfl ?_
  refine own_sipush C X own_d1_104 (v := 128) (by decide) (pc' := 107) rfl ?_
  refine own_iloadN C X own_d1_107 rfl (pc' := 108) rfl ?_
  refine own_bipush C X own_d1_108 (v := 63) (by decide) (pc' := 110) rfl ?_
  refine own_iand C X own_d1_110 rfl (pc' := 111) rfl ?_
  refine own_ior C X own_d1_111 rfl (pc' := 112) rfl ?_
  refine own_i2b C X own_d1_112 rfl (pc' := 113) rfl ?_
  refine own_bastore C X own_d1_113 A (own_ixadd (own_ixadd hk (by decide : (1 : Int32).toInt = ((1 : Nat) : Int)) (by omega)) (by decide : (1 : Int32).toInt = ((1 : Nat) : Int)) (by omega)) (i := k + 1 + 1) (by first | omega | (simp only [List.length_set]; omega)) (own_i2b2 _) ge_a (pc' := 114) rfl ?_
  intro T h X K_ A_
  have A : own_IA Z h a .byte (List.set (List.set (List.set xs (k) ((224 : Int32) ||| ((cv.toUInt32 >>> ((12 : Int32) &&& 31).toUInt32).toInt32)).toInt8.toInt32) (k + 1) ((128 : Int32) ||| (((cv.toUInt32 >>> ((6 : Int32) &&& 31).toUInt32).toInt32) &&& (63 : Int32))).toInt8.toInt32) (k + 1 + 1) ((128 : Int32) ||| (cv &&& (63 : Int32))).toInt8.toInt32) := A_
  have KK := KK.trans K_ (allS (Or.inl (by simp)) all0)
  refine own_goto C X own_d1_114 (pc' := 183) (by decide) (by decide) ?_
  refine own_iloadN C X own_d1_183 rfl (pc' := 184) rfl ?_
  exact own_ireturn C X own_d1_184 (Nat.le_of_ble_eq_true rfl) (Nat.le_of_ble_eq_true rfl) (⟨congrArg (fun z => some (Value.int z)) hr, KK, A⟩)
theorem own_ef_enc4 (cv : Int32) (a : Addr) (o : Int32) (m : MethodId) : entryFrame m #[(.int cv), (.ref a), (.int o)] 4 = mkF m 0 #[.val (.int cv), .val (.ref a), .val (.int o), .unset] [] := by first | (simp [entryFrame, mkF, argsToLocals, Value.category]; done) | rfl
theorem own_d1_117 : decode prog_248_method_11_code 117 = .ok (.aload_n 1, 1) := by decide +kernel
theorem own_d1_118 : decode prog_248_method_11_code 118 = .ok (.iload_n 3, 1) := by decide +kernel
theorem own_d1_119 : decode prog_248_method_11_code 119 = .ok (.iinc 3 1, 3) := by decide +kernel
theorem own_d1_122 : decode prog_248_method_11_code 122 = .ok (.sipush 240, 3) := by decide +kernel
theorem own_d1_125 : decode prog_248_method_11_code 125 = .ok (.iload_n 0, 1) := by decide +kernel
theorem own_d1_126 : decode prog_248_method_11_code 126 = .ok (.bipush 18, 2) := by decide +kernel
theorem own_d1_128 : decode prog_248_method_11_code 128 = .ok (.iushr, 1) := by decide +kernel
theorem own_d1_129 : decode prog_248_method_11_code 129 = .ok (.ior, 1) := by decide +kernel
theorem own_d1_130 : decode prog_248_method_11_code 130 = .ok (.i2b, 1) := by decide +kernel
theorem own_d1_131 : decode prog_248_method_11_code 131 = .ok (.bastore, 1) := by decide +kernel
theorem own_d1_132 : decode prog_248_method_11_code 132 = .ok (.aload_n 1, 1) := by decide +kernel
theorem own_d1_133 : decode prog_248_method_11_code 133 = .ok (.iload_n 3, 1) := by decide +kernel
theorem own_d1_134 : decode prog_248_method_11_code 134 = .ok (.iinc 3 1, 3) := by decide +kernel
theorem own_d1_137 : decode prog_248_method_11_code 137 = .ok (.sipush 128, 3) := by decide +kernel
theorem own_d1_140 : decode prog_248_method_11_code 140 = .ok (.iload_n 0, 1) := by decide +kernel
theorem own_d1_141 : decode prog_248_method_11_code 141 = .ok (.bipush 12, 2) := by decide +kernel
theorem own_d1_143 : decode prog_248_method_11_code 143 = .ok (.iushr, 1) := by decide +kernel
theorem own_d1_144 : decode prog_248_method_11_code 144 = .ok (.bipush 63, 2) := by decide +kernel
theorem own_d1_146 : decode prog_248_method_11_code 146 = .ok (.iand, 1) := by decide +kernel
theorem own_d1_147 : decode prog_248_method_11_code 147 = .ok (.ior, 1) := by decide +kernel
theorem own_d1_148 : decode prog_248_method_11_code 148 = .ok (.i2b, 1) := by decide +kernel
theorem own_d1_149 : decode prog_248_method_11_code 149 = .ok (.bastore, 1) := by decide +kernel
theorem own_d1_150 : decode prog_248_method_11_code 150 = .ok (.aload_n 1, 1) := by decide +kernel
theorem own_d1_151 : decode prog_248_method_11_code 151 = .ok (.iload_n 3, 1) := by decide +kernel
theorem own_d1_152 : decode prog_248_method_11_code 152 = .ok (.iinc 3 1, 3) := by decide +kernel
theorem own_d1_155 : decode prog_248_method_11_code 155 = .ok (.sipush 128, 3) := by decide +kernel
theorem own_d1_158 : decode prog_248_method_11_code 158 = .ok (.iload_n 0, 1) := by decide +kernel
theorem own_d1_159 : decode prog_248_method_11_code 159 = .ok (.bipush 6, 2) := by decide +kernel
theorem own_d1_161 : decode prog_248_method_11_code 161 = .ok (.iushr, 1) := by decide +kernel
theorem own_d1_162 : decode prog_248_method_11_code 162 = .ok (.bipush 63, 2) := by decide +kernel
theorem own_d1_164 : decode prog_248_method_11_code 164 = .ok (.iand, 1) := by decide +kernel
theorem own_d1_165 : decode prog_248_method_11_code 165 = .ok (.ior, 1) := by decide +kernel
theorem own_d1_166 : decode prog_248_method_11_code 166 = .ok (.i2b, 1) := by decide +kernel
theorem own_d1_167 : decode prog_248_method_11_code 167 = .ok (.bastore, 1) := by decide +kernel
theorem own_d1_168 : decode prog_248_method_11_code 168 = .ok (.aload_n 1, 1) := by decide +kernel
theorem own_d1_169 : decode prog_248_method_11_code 169 = .ok (.iload_n 3, 1) := by decide +kernel
theorem own_d1_170 : decode prog_248_method_11_code 170 = .ok (.iinc 3 1, 3) := by decide +kernel
theorem own_d1_173 : decode prog_248_method_11_code 173 = .ok (.sipush 128, 3) := by decide +kernel
theorem own_d1_176 : decode prog_248_method_11_code 176 = .ok (.iload_n 0, 1) := by decide +kernel
theorem own_d1_177 : decode prog_248_method_11_code 177 = .ok (.bipush 63, 2) := by decide +kernel
theorem own_d1_179 : decode prog_248_method_11_code 179 = .ok (.iand, 1) := by decide +kernel
theorem own_d1_180 : decode prog_248_method_11_code 180 = .ok (.ior, 1) := by decide +kernel
theorem own_d1_181 : decode prog_248_method_11_code 181 = .ok (.i2b, 1) := by decide +kernel
theorem own_d1_182 : decode prog_248_method_11_code 182 = .ok (.bastore, 1) := by decide +kernel
set_option maxRecDepth 65536 in
set_option maxHeartbeats 40000000 in
theorem own_m_enc4 (l : Launch) (Z : State) (a0 : Array Value) (hw : ∀ d ∈ tables_1, d.before a0 Z = true) (cv : Int32) (a : Addr) (o : Int32) (h0 : Heap) (n0 : Nat) (hn0 : n0 ≤ h0.size) (xs : List Int32) (k : Nat) (A : own_IA Z h0 a .byte xs) (hk : o.toInt = (k : Int)) (hl : k + 4 ≤ xs.length) (ge_a : n0 ≤ a) (r : Int32) (hr : ((((o + (1 : Int32)) + (1 : Int32)) + (1 : Int32)) + (1 : Int32)) = r) (q1 : ¬ cv < 128) (q2 : ¬ cv < 2048) (q3 : ¬ cv < 65536) : own_Met l Z n0 (⟨"com/example/termwell/termwell/store/Utf8", "encode", "(I[BI)I"⟩ : MethodName) prog_248_method_11_code 4 (some .int) [] ({ frames := 0, cells := 0, slots := 0, locals := 0 } : Room) #[(.int cv), (.ref a), (.int o)] h0 (fun v h => v = some (.int r) ∧ Keep h0 h [a] ∧ own_IA Z h a .byte (List.set (List.set (List.set (List.set xs (k) ((240 : Int32) ||| ((cv.toUInt32 >>> ((18 : Int32) &&& 31).toUInt32).toInt32)).toInt8.toInt32) (k + 1) ((128 : Int32) ||| (((cv.toUInt32 >>> ((12 : Int32) &&& 31).toUInt32).toInt32) &&& (63 : Int32))).toInt8.toInt32) (k + 1 + 1) ((128 : Int32) ||| (((cv.toUInt32 >>> ((6 : Int32) &&& 31).toUInt32).toInt32) &&& (63 : Int32))).toInt8.toInt32) (k + 1 + 1 + 1) ((128 : Int32) ||| (cv &&& (63 : Int32))).toInt8.toInt32)) := by
  refine own_body (plainFor_of_name own_pn_com_example_termwell_termwell_store_Utf8) hn0 (own_ef_enc4 cv a o) ?_
  intro p e s m below meth c T C X
  have KK := Keep.refl h0 [a]
  have hB : k + 4 < 2 ^ 31 := Nat.lt_of_le_of_lt hl (by obtain ⟨_, _, _, q, _⟩ := A; exact q)
  refine own_iloadN C X own_d1_0 rfl (pc' := 1) rfl ?_
  refine own_istoreN C X own_d1_1 (L' := #[.val (.int cv), .val (.ref a), .val (.int o), .val (.int o)]) rfl (pc' := 2) rfl ?_
  refine own_iloadN C X own_d1_2 rfl (pc' := 3) rfl ?_
  refine own_sipush C X own_d1_3 (v := 128) (by decide) (pc' := 6) rfl ?_
  refine own_icmp_ge C X own_d1_6 (pcT := 20) (pc' := 9) (by decide) (by decide) rfl (fun hc6 => ?_) (fun hc6 => absurd hc6 (q1))
  refine own_iloadN C X own_d1_20 rfl (pc' := 21) rfl ?_
  refine own_sipush C X own_d1_21 (v := 2048) (by decide) (pc' := 24) rfl ?_
  refine own_icmp_ge C X own_d1_24 (pcT := 60) (pc' := 27) (by decide) (by decide) rfl (fun hc24 => ?_) (fun hc24 => absurd hc24 (q2))
  refine own_iloadN C X own_d1_60 rfl (pc' := 61) rfl ?_
  refine own_ldcI C X own_d1_61 (hw _ (List.mem_of_getElem? (i := 9) rfl)) (pc' := 63) rfl ?_
  refine own_icmp_ge C X own_d1_63 (pcT := 117) (pc' := 66) (by decide) (by decide) rfl (fun hc63 => ?_) (fun hc63 => absurd hc63 (q3))
  refine own_aloadN C X own_d1_117 rfl rfl (pc' := 118) rfl ?_
  refine own_iloadN C X own_d1_118 rfl (pc' := 119) rfl ?_
  refine own_iinc C X own_d1_119 rfl (d := 1) (by decide) rfl (L' := #[.val (.int cv), .val (.ref a), .val (.int o), .val (.int (o + (1 : Int32)))]) rfl (pc' := 122) rfl ?_
  refine own_sipush C X own_d1_122 (v := 240) (by decide) (pc' := 125) rfl ?_
  refine own_iloadN C X own_d1_125 rfl (pc' := 126) rfl ?_
  refine own_bipush C X own_d1_126 (v := 18) (by decide) (pc' := 128) rfl ?_
  refine own_iushr C X own_d1_128 rfl (pc' := 129) rfl ?_
  refine own_ior C X own_d1_129 rfl (pc' := 130) rfl ?_
  refine own_i2b C X own_d1_130 rfl (pc' := 131) rfl ?_
  refine own_bastore C X own_d1_131 A hk (i := k) (by first | omega | (simp only [List.length_set]; omega)) (own_i2b2 _) ge_a (pc' := 132) rfl ?_
  intro T h X K_ A_
  have A : own_IA Z h a .byte (List.set xs (k) ((240 : Int32) ||| ((cv.toUInt32 >>> ((18 : Int32) &&& 31).toUInt32).toInt32)).toInt8.toInt32) := A_
  have KK := KK.trans K_ (allS (Or.inl (by simp)) all0)
  refine own_aloadN C X own_d1_132 rfl rfl (pc' := 133) rfl ?_
  refine own_iloadN C X own_d1_133 rfl (pc' := 134) rfl ?_
  refine own_iinc C X own_d1_134 rfl (d := 1) (by decide) rfl (L' := #[.val (.int cv), .val (.ref a), .val (.int o), .val (.int ((o + (1 : Int32)) + (1 : Int32)))]) rfl (pc' := 137) rfl ?_
  refine own_sipush C X own_d1_137 (v := 128) (by decide) (pc' := 140) rfl ?_
  refine own_iloadN C X own_d1_140 rfl (pc' := 141) rfl ?_
  refine own_bipush C X own_d1_141 (v := 12) (by decide) (pc' := 143) rfl ?_
  refine own_iushr C X own_d1_143 rfl (pc' := 144) rfl ?_
  refine own_bipush C X own_d1_144 (v := 63) (by decide) (pc' := 146) rfl ?_
  refine own_iand C X own_d1_146 rfl (pc' := 147) rfl ?_
  refine own_ior C X own_d1_147 rfl (pc' := 148) rfl ?_
  refine own_i2b C X own_d1_148 rfl (pc' := 149) rfl ?_
  refine own_bastore C X own_d1_149 A (own_ixadd hk (by decide : (1 : Int32).toInt = ((1 : Nat) : Int)) (by omega)) (i := k + 1) (by first | omega | (simp only [List.length_set]; omega)) (own_i2b2 _) ge_a (pc' := 150) rfl ?_
  intro T h X K_ A_
  have A : own_IA Z h a .byte (List.set (List.set xs (k) ((240 : Int32) ||| ((cv.toUInt32 >>> ((18 : Int32) &&& 31).toUInt32).toInt32)).toInt8.toInt32) (k + 1) ((128 : Int32) ||| (((cv.toUInt32 >>> ((12 : Int32) &&& 31).toUInt32).toInt32) &&& (63 : Int32))).toInt8.toInt32) := A_
  have KK := KK.trans K_ (allS (Or.inl (by simp)) all0)
  refine own_aloadN C X own_d1_150 rfl rfl (pc' := 151) rfl ?_
  refine own_iloadN C X own_d1_151 rfl (pc' := 152) rfl ?_
  refine own_iinc C X own_d1_152 rfl (d := 1) (by decide) rfl (L' := #[.val (.int cv), .val (.ref a), .val (.int o), .val (.int (((o + (1 : Int32)) + (1 : Int32)) + (1 : Int32)))]) rfl (pc' := 155) rfl ?_
  refine own_sipush C X own_d1_155 (v := 128) (by decide) (pc' := 158) rfl ?_
  refine own_iloadN C X own_d1_158 rfl (pc' := 159) rfl ?_
  refine own_bipush C X own_d1_159 (v := 6) (by decide) (pc' := 161) rfl ?_
  refine own_iushr C X own_d1_161 rfl (pc' := 162) rfl ?_
  refine own_bipush C X own_d1_162 (v := 63) (by decide) (pc' := 164) rfl ?_
  refine own_iand C X own_d1_164 rfl (pc' := 165) rfl ?_
  refine own_ior C X own_d1_165 rfl (pc' := 166) rfl ?_
  refine own_i2b C X own_d1_166 rfl (pc' := 167) rfl ?_
  refine own_bastore C X own_d1_167 A (own_ixadd (own_ixadd hk (by decide : (1 : Int32).toInt = ((1 : Nat) : Int)) (by omega)) (by decide : (1 : Int32).toInt = ((1 : Nat) : Int)) (by omega)) (i := k + 1 + 1) (by first | omega | (simp only [List.length_set]; omega)) (own_i2b2 _) ge_a (pc' := 168) rfl ?_
  intro T h X K_ A_
  have A : own_IA Z h a .byte (List.set (List.set (List.set xs (k) ((240 : Int32) ||| ((cv.toUInt32 >>> ((18 : Int32) &&& 31).toUInt32).toInt32)).toInt8.toInt32) (k + 1) ((128 : Int32) ||| (((cv.toUInt32 >>> ((12 : Int32) &&& 31).toUInt32).toInt32) &&& (63 : Int32))).toInt8.toInt32) (k + 1 + 1) ((128 : Int32) ||| (((cv.toUInt32 >>> ((6 : Int32) &&& 31).toUInt32).toInt32) &&& (63 : Int32))).toInt8.toInt32) := A_
  have KK := KK.trans K_ (allS (Or.inl (by simp)) all0)
  refine own_aloadN C X own_d1_168 rfl rfl (pc' := 169) rfl ?_
  refine own_iloadN C X own_d1_169 rfl (pc' := 170) rfl ?_
  refine own_iinc C X own_d1_170 rfl (d := 1) (by decide) rfl (L' := #[.val (.int cv), .val (.ref a), .val (.int o), .val (.int ((((o + (1 : Int32)) + (1 : Int32)) + (1 : Int32)) + (1 : Int32)))]) rfl (pc' := 173) rfl ?_
  refine own_sipush C X own_d1_173 (v := 128) (by decide) (pc' := 176) rfl ?_
  refine own_iloadN C X own_d1_176 rfl (pc' := 177) rfl ?_
  refine own_bipush C X own_d1_177 (v := 63) (by decide) (pc' := 179) rfl ?_
  refine own_iand C X own_d1_179 rfl (pc' := 180) rfl ?_
  refine own_ior C X own_d1_180 rfl (pc' := 181) rfl ?_
  refine own_i2b C X own_d1_181 rfl (pc' := 182) rfl ?_
  refine own_bastore C X own_d1_182 A (own_ixadd (own_ixadd (own_ixadd hk (by decide : (1 : Int32).toInt = ((1 : Nat) : Int)) (by omega)) (by decide : (1 : Int32).toInt = ((1 : Nat) : Int)) (by omega)) (by decide : (1 : Int32).toInt = ((1 : Nat) : Int)) (by omega)) (i := k + 1 + 1 + 1) (by first | omega | (simp only [List.length_set]; omega)) (own_i2b2 _) ge_a (pc' := 183) rfl ?_
  intro T h X K_ A_
  have A : own_IA Z h a .byte (List.set (List.set (List.set (List.set xs (k) ((240 : Int32) ||| ((cv.toUInt32 >>> ((18 : Int32) &&& 31).toUInt32).toInt32)).toInt8.toInt32) (k + 1) ((128 : Int32) ||| (((cv.toUInt32 >>> ((12 : Int32) &&& 31).toUInt32).toInt32) &&& (63 : Int32))).toInt8.toInt32) (k + 1 + 1) ((128 : Int32) ||| (((cv.toUInt32 >>> ((6 : Int32) &&& 31).toUInt32).toInt32) &&& (63 : Int32))).toInt8.toInt32) (k + 1 + 1 + 1) ((128 : Int32) ||| (cv &&& (63 : Int32))).toInt8.toInt32) := A_
  have KK := KK.trans K_ (allS (Or.inl (by simp)) all0)
  refine own_iloadN C X own_d1_183 rfl (pc' := 184) rfl ?_
  exact own_ireturn C X own_d1_184 (Nat.le_of_ble_eq_true rfl) (Nat.le_of_ble_eq_true rfl) (⟨congrArg (fun z => some (Value.int z)) hr, KK, A⟩)
theorem own_pn_com_example_termwell_termwell_store_Utf8EncodePinLaw : plainName "com/example/termwell/termwell/store/Utf8EncodePinLaw" = true := by first | (simp [plainName, overriddenIn]; done) | decide +kernel
theorem own_ef_law (i0 : Int32) (i1 : Int32) (i2 : Int32) (i3 : Int32) (m : MethodId) : entryFrame m #[(.int i0), (.int i1), (.int i2), (.int i3)] maxLocals = mkF m 0 #[.val (.int i0), .val (.int i1), .val (.int i2), .val (.int i3), .unset, .unset, .unset, .unset, .unset, .unset, .unset, .unset] [] := by first | (simp [entryFrame, mkF, argsToLocals, Value.category, maxLocals]; done) | rfl
theorem own_pd_4587 : parseMethodDescriptor "(I[BI)I" = some ⟨[.int, (.array .byte), .int], some .int⟩ := by decide +kernel
set_option maxRecDepth 65536 in
set_option maxHeartbeats 40000000 in
theorem own_m_law (l : Launch) (Z : State) (a0 : Array Value) (hw : ∀ d ∈ tables_1, d.before a0 Z = true) (ws : List Jvm.Cond) (i0 : Int32) (i1 : Int32) (i2 : Int32) (i3 : Int32) (h0 : Heap) (n0 : Nat) (hn0 : n0 ≤ h0.size)  : own_Met l Z n0 x code maxLocals ret ws room_1 #[(.int i0), (.int i1), (.int i2), (.int i3)] h0 (fun v h => v = some (.int 1)) := by
  refine own_body (plainFor_of_name own_pn_com_example_termwell_termwell_store_Utf8EncodePinLaw) hn0 (own_ef_law i0 i1 i2 i3) ?_
  intro p e s m below meth c T C X
  refine own_iloadN C X at_0 rfl (pc' := 1) rfl ?_
  refine own_iconst C X at_1 (v := 3) (by decide) (pc' := 2) rfl ?_
  refine own_iand C X at_2 rfl (pc' := 3) rfl ?_
  refine own_istore C X at_3 (L' := #[.val (.int i0), .val (.int i1), .val (.int i2), .val (.int i3), .val (.int (i0 &&& (3 : Int32))), .unset, .unset, .unset, .unset, .unset, .unset, .unset]) rfl (pc' := 5) rfl ?_
  refine own_iloadN C X at_5 rfl (pc' := 6) rfl ?_
  refine own_ldcI C X at_6 (hw _ (List.mem_of_getElem? (i := 0) rfl)) (pc' := 8) rfl ?_
  refine own_iand C X at_8 rfl (pc' := 9) rfl ?_
  refine own_istore C X at_9 (L' := #[.val (.int i0), .val (.int i1), .val (.int i2), .val (.int i3), .val (.int (i0 &&& (3 : Int32))), .val (.int (i1 &&& (2147483647 : Int32))), .unset, .unset, .unset, .unset, .unset, .unset]) rfl (pc' := 11) rfl ?_
  refine own_iload C X at_11 rfl (pc' := 13) rfl ?_
  refine own_if_ne C X at_13 (pcT := 30) (pc' := 16) (by decide) (by decide) rfl (fun hc13 => ?_) (fun hc13 => ?_)
  · refine own_iload C X at_30 rfl (pc' := 32) rfl ?_
    refine own_iconst C X at_32 (v := 1) (by decide) (pc' := 33) rfl ?_
    refine own_icmp_ne C X at_33 (pcT := 54) (pc' := 36) (by decide) (by decide) rfl (fun hc33 => ?_) (fun hc33 => ?_)
    · refine own_iload C X at_54 rfl (pc' := 56) rfl ?_
      refine own_iconst C X at_56 (v := 2) (by decide) (pc' := 57) rfl ?_
      refine own_icmp_ne C X at_57 (pcT := 77) (pc' := 60) (by decide) (by decide) rfl (fun hc57 => ?_) (fun hc57 => ?_)
      · refine own_ldcI C X at_77 (hw _ (List.mem_of_getElem? (i := 6) rfl)) (pc' := 79) rfl ?_
        refine own_iload C X at_79 rfl (pc' := 81) rfl ?_
        refine own_ldcI C X at_81 (hw _ (List.mem_of_getElem? (i := 7) rfl)) (pc' := 83) rfl ?_
        refine own_irem C X at_83 (by decide) rfl (pc' := 84) rfl ?_
        obtain ⟨cp, e_cp⟩ : ∃ z : Int32, ((65536 : Int32) + ((i1 &&& (2147483647 : Int32)) % (1048576 : Int32))) = z := ⟨_, rfl⟩
        refine own_iadd C X at_84 e_cp (pc' := 85) rfl ?_
        obtain ⟨f1, h1⟩ := own_base i1 (65536 : Int32) (1048576 : Int32) (by decide) (by decide) (by decide)
        rw [e_cp] at f1 h1
        replace h1 : cp.toInt < (1114112 : Int) := h1
        replace f1 : (65536 : Int) ≤ cp.toInt := f1
        have hz : 0 ≤ cp.toInt := by omega
        have q1 : ¬ cp < 128 := fun q => by have := own_lt1.mp q; omega
        have q2 : ¬ cp < 2048 := fun q => by have := own_lt2.mp q; omega
        have q3 : ¬ cp < 65536 := fun q => by have := own_lt3.mp q; omega
        refine own_istore C X at_85 (L' := #[.val (.int i0), .val (.int i1), .val (.int i2), .val (.int i3), .val (.int (i0 &&& (3 : Int32))), .val (.int (i1 &&& (2147483647 : Int32))), .val (.int cp), .unset, .unset, .unset, .unset, .unset]) rfl (pc' := 87) rfl ?_
        refine own_iconst C X at_87 (v := 4) (by decide) (pc' := 88) rfl ?_
        refine own_istore C X at_88 (L' := #[.val (.int i0), .val (.int i1), .val (.int i2), .val (.int i3), .val (.int (i0 &&& (3 : Int32))), .val (.int (i1 &&& (2147483647 : Int32))), .val (.int cp), .val (.int (4 : Int32)), .unset, .unset, .unset, .unset]) rfl (pc' := 90) rfl ?_
        refine own_iloadN C X at_90 rfl (pc' := 91) rfl ?_
        refine own_iconst C X at_91 (v := 3) (by decide) (pc' := 92) rfl ?_
        obtain ⟨off, e_off⟩ : ∃ z : Int32, (i2 &&& (3 : Int32)) = z := ⟨_, rfl⟩
        refine own_iand C X at_92 e_off (pc' := 93) rfl ?_
        refine own_istore C X at_93 (L' := #[.val (.int i0), .val (.int i1), .val (.int i2), .val (.int i3), .val (.int (i0 &&& (3 : Int32))), .val (.int (i1 &&& (2147483647 : Int32))), .val (.int cp), .val (.int (4 : Int32)), .val (.int off), .unset, .unset, .unset]) rfl (pc' := 95) rfl ?_
        refine own_bipush C X at_95 (v := 8) (by decide) (pc' := 97) rfl ?_
        refine own_newI C X at_97 (ty := .byte) rfl (hw _ (List.mem_of_getElem? (i := 1) rfl)) (by decide) (k := 8) (cap := 8) (Nat.le_of_ble_eq_true rfl) (by decide) (Nat.le_of_ble_eq_true rfl) (Nat.le_of_ble_eq_true rfl) rfl rfl (pc' := 99) rfl ?_
        intro T h bi e_bi X K_ ge_bi A_bi_
        have A_bi : own_IA Z h bi .byte [(0 : Int32), (0 : Int32), (0 : Int32), (0 : Int32), (0 : Int32), (0 : Int32), (0 : Int32), (0 : Int32)] := A_bi_
        refine own_astore C X at_99 rfl (L' := #[.val (.int i0), .val (.int i1), .val (.int i2), .val (.int i3), .val (.int (i0 &&& (3 : Int32))), .val (.int (i1 &&& (2147483647 : Int32))), .val (.int cp), .val (.int (4 : Int32)), .val (.int off), .val (.ref bi), .unset, .unset]) rfl (pc' := 101) rfl ?_
        refine own_bipush C X at_101 (v := 8) (by decide) (pc' := 103) rfl ?_
        refine own_newI C X at_103 (ty := .byte) rfl (hw _ (List.mem_of_getElem? (i := 1) rfl)) (by decide) (k := 8) (cap := 8) (Nat.le_of_ble_eq_true rfl) (by decide) (Nat.le_of_ble_eq_true rfl) (Nat.le_of_ble_eq_true rfl) rfl rfl (pc' := 105) rfl ?_
        intro T h be e_be X K_ ge_be A_be_
        have ne_bi_be : bi ≠ be := by rw [e_be]; exact Nat.ne_of_lt A_bi.lt
        have A_be : own_IA Z h be .byte [(0 : Int32), (0 : Int32), (0 : Int32), (0 : Int32), (0 : Int32), (0 : Int32), (0 : Int32), (0 : Int32)] := A_be_
        have A_bi := A_bi.keep K_ nin0
        refine own_astore C X at_105 rfl (L' := #[.val (.int i0), .val (.int i1), .val (.int i2), .val (.int i3), .val (.int (i0 &&& (3 : Int32))), .val (.int (i1 &&& (2147483647 : Int32))), .val (.int cp), .val (.int (4 : Int32)), .val (.int off), .val (.ref bi), .val (.ref be), .unset]) rfl (pc' := 107) rfl ?_
        refine own_aload C X at_107 rfl rfl (pc' := 109) rfl ?_
        refine own_iconst C X at_109 (v := 0) (by decide) (pc' := 110) rfl ?_
        refine own_iloadN C X at_110 rfl (pc' := 111) rfl ?_
        obtain ⟨t0, e_t0⟩ : ∃ z : Int32, i3.toInt8.toInt32 = z := ⟨_, rfl⟩
        refine own_i2b C X at_111 e_t0 (pc' := 112) rfl ?_
        refine own_bastore C X at_112 A_bi (by decide) (i := 0) (Nat.le_of_ble_eq_true rfl) (own_i2bn e_t0) ge_bi (pc' := 113) rfl ?_
        intro T h X K_ A_bi_
        have A_bi : own_IA Z h bi .byte [t0, (0 : Int32), (0 : Int32), (0 : Int32), (0 : Int32), (0 : Int32), (0 : Int32), (0 : Int32)] := A_bi_
        have A_be := A_be.keep K_ (ninS (Ne.symm ne_bi_be) nin0)
        refine own_aload C X at_113 rfl rfl (pc' := 115) rfl ?_
        refine own_iconst C X at_115 (v := 1) (by decide) (pc' := 116) rfl ?_
        refine own_iloadN C X at_116 rfl (pc' := 117) rfl ?_
        refine own_bipush C X at_117 (v := 31) (by decide) (pc' := 119) rfl ?_
        refine own_iadd C X at_119 rfl (pc' := 120) rfl ?_
        obtain ⟨t1, e_t1⟩ : ∃ z : Int32, (i3 + (31 : Int32)).toInt8.toInt32 = z := ⟨_, rfl⟩
        refine own_i2b C X at_120 e_t1 (pc' := 121) rfl ?_
        refine own_bastore C X at_121 A_bi (by decide) (i := 1) (Nat.le_of_ble_eq_true rfl) (own_i2bn e_t1) ge_bi (pc' := 122) rfl ?_
        intro T h X K_ A_bi_
        have A_bi : own_IA Z h bi .byte [t0, t1, (0 : Int32), (0 : Int32), (0 : Int32), (0 : Int32), (0 : Int32), (0 : Int32)] := A_bi_
        have A_be := A_be.keep K_ (ninS (Ne.symm ne_bi_be) nin0)
        refine own_aload C X at_122 rfl rfl (pc' := 124) rfl ?_
        refine own_iconst C X at_124 (v := 2) (by decide) (pc' := 125) rfl ?_
        refine own_iloadN C X at_125 rfl (pc' := 126) rfl ?_
        refine own_bipush C X at_126 (v := 62) (by decide) (pc' := 128) rfl ?_
        refine own_iadd C X at_128 rfl (pc' := 129) rfl ?_
        obtain ⟨t2, e_t2⟩ : ∃ z : Int32, (i3 + (62 : Int32)).toInt8.toInt32 = z := ⟨_, rfl⟩
        refine own_i2b C X at_129 e_t2 (pc' := 130) rfl ?_
        refine own_bastore C X at_130 A_bi (by decide) (i := 2) (Nat.le_of_ble_eq_true rfl) (own_i2bn e_t2) ge_bi (pc' := 131) rfl ?_
        intro T h X K_ A_bi_
        have A_bi : own_IA Z h bi .byte [t0, t1, t2, (0 : Int32), (0 : Int32), (0 : Int32), (0 : Int32), (0 : Int32)] := A_bi_
        have A_be := A_be.keep K_ (ninS (Ne.symm ne_bi_be) nin0)
        refine own_aload C X at_131 rfl rfl (pc' := 133) rfl ?_
        refine own_iconst C X at_133 (v := 3) (by decide) (pc' := 134) rfl ?_
        refine own_iloadN C X at_134 rfl (pc' := 135) rfl ?_
        refine own_bipush C X at_135 (v := 93) (by decide) (pc' := 137) rfl ?_
        refine own_iadd C X at_137 rfl (pc' := 138) rfl ?_
        obtain ⟨t3, e_t3⟩ : ∃ z : Int32, (i3 + (93 : Int32)).toInt8.toInt32 = z := ⟨_, rfl⟩
        refine own_i2b C X at_138 e_t3 (pc' := 139) rfl ?_
        refine own_bastore C X at_139 A_bi (by decide) (i := 3) (Nat.le_of_ble_eq_true rfl) (own_i2bn e_t3) ge_bi (pc' := 140) rfl ?_
        intro T h X K_ A_bi_
        have A_bi : own_IA Z h bi .byte [t0, t1, t2, t3, (0 : Int32), (0 : Int32), (0 : Int32), (0 : Int32)] := A_bi_
        have A_be := A_be.keep K_ (ninS (Ne.symm ne_bi_be) nin0)
        refine own_aload C X at_140 rfl rfl (pc' := 142) rfl ?_
        refine own_iconst C X at_142 (v := 4) (by decide) (pc' := 143) rfl ?_
        refine own_iloadN C X at_143 rfl (pc' := 144) rfl ?_
        refine own_bipush C X at_144 (v := 124) (by decide) (pc' := 146) rfl ?_
        refine own_iadd C X at_146 rfl (pc' := 147) rfl ?_
        obtain ⟨t4, e_t4⟩ : ∃ z : Int32, (i3 + (124 : Int32)).toInt8.toInt32 = z := ⟨_, rfl⟩
        refine own_i2b C X at_147 e_t4 (pc' := 148) rfl ?_
        refine own_bastore C X at_148 A_bi (by decide) (i := 4) (Nat.le_of_ble_eq_true rfl) (own_i2bn e_t4) ge_bi (pc' := 149) rfl ?_
        intro T h X K_ A_bi_
        have A_bi : own_IA Z h bi .byte [t0, t1, t2, t3, t4, (0 : Int32), (0 : Int32), (0 : Int32)] := A_bi_
        have A_be := A_be.keep K_ (ninS (Ne.symm ne_bi_be) nin0)
        refine own_aload C X at_149 rfl rfl (pc' := 151) rfl ?_
        refine own_iconst C X at_151 (v := 5) (by decide) (pc' := 152) rfl ?_
        refine own_iloadN C X at_152 rfl (pc' := 153) rfl ?_
        refine own_sipush C X at_153 (v := 155) (by decide) (pc' := 156) rfl ?_
        refine own_iadd C X at_156 rfl (pc' := 157) rfl ?_
        obtain ⟨t5, e_t5⟩ : ∃ z : Int32, (i3 + (155 : Int32)).toInt8.toInt32 = z := ⟨_, rfl⟩
        refine own_i2b C X at_157 e_t5 (pc' := 158) rfl ?_
        refine own_bastore C X at_158 A_bi (by decide) (i := 5) (Nat.le_of_ble_eq_true rfl) (own_i2bn e_t5) ge_bi (pc' := 159) rfl ?_
        intro T h X K_ A_bi_
        have A_bi : own_IA Z h bi .byte [t0, t1, t2, t3, t4, t5, (0 : Int32), (0 : Int32)] := A_bi_
        have A_be := A_be.keep K_ (ninS (Ne.symm ne_bi_be) nin0)
        refine own_aload C X at_159 rfl rfl (pc' := 161) rfl ?_
        refine own_bipush C X at_161 (v := 6) (by decide) (pc' := 163) rfl ?_
        refine own_iloadN C X at_163 rfl (pc' := 164) rfl ?_
        refine own_sipush C X at_164 (v := 186) (by decide) (pc' := 167) rfl ?_
        refine own_iadd C X at_167 rfl (pc' := 168) rfl ?_
        obtain ⟨t6, e_t6⟩ : ∃ z : Int32, (i3 + (186 : Int32)).toInt8.toInt32 = z := ⟨_, rfl⟩
        refine own_i2b C X at_168 e_t6 (pc' := 169) rfl ?_
        refine own_bastore C X at_169 A_bi (by decide) (i := 6) (Nat.le_of_ble_eq_true rfl) (own_i2bn e_t6) ge_bi (pc' := 170) rfl ?_
        intro T h X K_ A_bi_
        have A_bi : own_IA Z h bi .byte [t0, t1, t2, t3, t4, t5, t6, (0 : Int32)] := A_bi_
        have A_be := A_be.keep K_ (ninS (Ne.symm ne_bi_be) nin0)
        refine own_aload C X at_170 rfl rfl (pc' := 172) rfl ?_
        refine own_bipush C X at_172 (v := 7) (by decide) (pc' := 174) rfl ?_
        refine own_iloadN C X at_174 rfl (pc' := 175) rfl ?_
        refine own_sipush C X at_175 (v := 217) (by decide) (pc' := 178) rfl ?_
        refine own_iadd C X at_178 rfl (pc' := 179) rfl ?_
        obtain ⟨t7, e_t7⟩ : ∃ z : Int32, (i3 + (217 : Int32)).toInt8.toInt32 = z := ⟨_, rfl⟩
        refine own_i2b C X at_179 e_t7 (pc' := 180) rfl ?_
        refine own_bastore C X at_180 A_bi (by decide) (i := 7) (Nat.le_of_ble_eq_true rfl) (own_i2bn e_t7) ge_bi (pc' := 181) rfl ?_
        intro T h X K_ A_bi_
        have A_bi : own_IA Z h bi .byte [t0, t1, t2, t3, t4, t5, t6, t7] := A_bi_
        have A_be := A_be.keep K_ (ninS (Ne.symm ne_bi_be) nin0)
        refine own_aload C X at_181 rfl rfl (pc' := 183) rfl ?_
        refine own_iconst C X at_183 (v := 0) (by decide) (pc' := 184) rfl ?_
        refine own_aload C X at_184 rfl rfl (pc' := 186) rfl ?_
        refine own_iconst C X at_186 (v := 0) (by decide) (pc' := 187) rfl ?_
        refine own_baload C X at_187 A_bi (by decide) (i := 0) rfl (pc' := 188) rfl ?_
        refine own_bastore C X at_188 A_be (by decide) (i := 0) (Nat.le_of_ble_eq_true rfl) (own_i2bn e_t0) ge_be (pc' := 189) rfl ?_
        intro T h X K_ A_be_
        have A_be : own_IA Z h be .byte [t0, (0 : Int32), (0 : Int32), (0 : Int32), (0 : Int32), (0 : Int32), (0 : Int32), (0 : Int32)] := A_be_
        have A_bi := A_bi.keep K_ (ninS ne_bi_be nin0)
        refine own_aload C X at_189 rfl rfl (pc' := 191) rfl ?_
        refine own_iconst C X at_191 (v := 1) (by decide) (pc' := 192) rfl ?_
        refine own_aload C X at_192 rfl rfl (pc' := 194) rfl ?_
        refine own_iconst C X at_194 (v := 1) (by decide) (pc' := 195) rfl ?_
        refine own_baload C X at_195 A_bi (by decide) (i := 1) rfl (pc' := 196) rfl ?_
        refine own_bastore C X at_196 A_be (by decide) (i := 1) (Nat.le_of_ble_eq_true rfl) (own_i2bn e_t1) ge_be (pc' := 197) rfl ?_
        intro T h X K_ A_be_
        have A_be : own_IA Z h be .byte [t0, t1, (0 : Int32), (0 : Int32), (0 : Int32), (0 : Int32), (0 : Int32), (0 : Int32)] := A_be_
        have A_bi := A_bi.keep K_ (ninS ne_bi_be nin0)
        refine own_aload C X at_197 rfl rfl (pc' := 199) rfl ?_
        refine own_iconst C X at_199 (v := 2) (by decide) (pc' := 200) rfl ?_
        refine own_aload C X at_200 rfl rfl (pc' := 202) rfl ?_
        refine own_iconst C X at_202 (v := 2) (by decide) (pc' := 203) rfl ?_
        refine own_baload C X at_203 A_bi (by decide) (i := 2) rfl (pc' := 204) rfl ?_
        refine own_bastore C X at_204 A_be (by decide) (i := 2) (Nat.le_of_ble_eq_true rfl) (own_i2bn e_t2) ge_be (pc' := 205) rfl ?_
        intro T h X K_ A_be_
        have A_be : own_IA Z h be .byte [t0, t1, t2, (0 : Int32), (0 : Int32), (0 : Int32), (0 : Int32), (0 : Int32)] := A_be_
        have A_bi := A_bi.keep K_ (ninS ne_bi_be nin0)
        refine own_aload C X at_205 rfl rfl (pc' := 207) rfl ?_
        refine own_iconst C X at_207 (v := 3) (by decide) (pc' := 208) rfl ?_
        refine own_aload C X at_208 rfl rfl (pc' := 210) rfl ?_
        refine own_iconst C X at_210 (v := 3) (by decide) (pc' := 211) rfl ?_
        refine own_baload C X at_211 A_bi (by decide) (i := 3) rfl (pc' := 212) rfl ?_
        refine own_bastore C X at_212 A_be (by decide) (i := 3) (Nat.le_of_ble_eq_true rfl) (own_i2bn e_t3) ge_be (pc' := 213) rfl ?_
        intro T h X K_ A_be_
        have A_be : own_IA Z h be .byte [t0, t1, t2, t3, (0 : Int32), (0 : Int32), (0 : Int32), (0 : Int32)] := A_be_
        have A_bi := A_bi.keep K_ (ninS ne_bi_be nin0)
        refine own_aload C X at_213 rfl rfl (pc' := 215) rfl ?_
        refine own_iconst C X at_215 (v := 4) (by decide) (pc' := 216) rfl ?_
        refine own_aload C X at_216 rfl rfl (pc' := 218) rfl ?_
        refine own_iconst C X at_218 (v := 4) (by decide) (pc' := 219) rfl ?_
        refine own_baload C X at_219 A_bi (by decide) (i := 4) rfl (pc' := 220) rfl ?_
        refine own_bastore C X at_220 A_be (by decide) (i := 4) (Nat.le_of_ble_eq_true rfl) (own_i2bn e_t4) ge_be (pc' := 221) rfl ?_
        intro T h X K_ A_be_
        have A_be : own_IA Z h be .byte [t0, t1, t2, t3, t4, (0 : Int32), (0 : Int32), (0 : Int32)] := A_be_
        have A_bi := A_bi.keep K_ (ninS ne_bi_be nin0)
        refine own_aload C X at_221 rfl rfl (pc' := 223) rfl ?_
        refine own_iconst C X at_223 (v := 5) (by decide) (pc' := 224) rfl ?_
        refine own_aload C X at_224 rfl rfl (pc' := 226) rfl ?_
        refine own_iconst C X at_226 (v := 5) (by decide) (pc' := 227) rfl ?_
        refine own_baload C X at_227 A_bi (by decide) (i := 5) rfl (pc' := 228) rfl ?_
        refine own_bastore C X at_228 A_be (by decide) (i := 5) (Nat.le_of_ble_eq_true rfl) (own_i2bn e_t5) ge_be (pc' := 229) rfl ?_
        intro T h X K_ A_be_
        have A_be : own_IA Z h be .byte [t0, t1, t2, t3, t4, t5, (0 : Int32), (0 : Int32)] := A_be_
        have A_bi := A_bi.keep K_ (ninS ne_bi_be nin0)
        refine own_aload C X at_229 rfl rfl (pc' := 231) rfl ?_
        refine own_bipush C X at_231 (v := 6) (by decide) (pc' := 233) rfl ?_
        refine own_aload C X at_233 rfl rfl (pc' := 235) rfl ?_
        refine own_bipush C X at_235 (v := 6) (by decide) (pc' := 237) rfl ?_
        refine own_baload C X at_237 A_bi (by decide) (i := 6) rfl (pc' := 238) rfl ?_
        refine own_bastore C X at_238 A_be (by decide) (i := 6) (Nat.le_of_ble_eq_true rfl) (own_i2bn e_t6) ge_be (pc' := 239) rfl ?_
        intro T h X K_ A_be_
        have A_be : own_IA Z h be .byte [t0, t1, t2, t3, t4, t5, t6, (0 : Int32)] := A_be_
        have A_bi := A_bi.keep K_ (ninS ne_bi_be nin0)
        refine own_aload C X at_239 rfl rfl (pc' := 241) rfl ?_
        refine own_bipush C X at_241 (v := 7) (by decide) (pc' := 243) rfl ?_
        refine own_aload C X at_243 rfl rfl (pc' := 245) rfl ?_
        refine own_bipush C X at_245 (v := 7) (by decide) (pc' := 247) rfl ?_
        refine own_baload C X at_247 A_bi (by decide) (i := 7) rfl (pc' := 248) rfl ?_
        refine own_bastore C X at_248 A_be (by decide) (i := 7) (Nat.le_of_ble_eq_true rfl) (own_i2bn e_t7) ge_be (pc' := 249) rfl ?_
        intro T h X K_ A_be_
        have A_be : own_IA Z h be .byte [t0, t1, t2, t3, t4, t5, t6, t7] := A_be_
        have A_bi := A_bi.keep K_ (ninS ne_bi_be nin0)
        rcases own_at4 i2 off e_off with rfl | rfl | rfl | rfl
        · refine own_iload C X at_249 rfl (pc' := 251) rfl ?_
          refine own_iconst C X at_251 (v := 1) (by decide) (pc' := 252) rfl ?_
          refine own_icmp_ne C X at_252 (pcT := 266) (pc' := 255) (by decide) (by decide) rfl (fun hc252 => ?_) (fun hc252 => absurd hc252 (by decide))
          refine own_iload C X at_266 rfl (pc' := 268) rfl ?_
          refine own_iconst C X at_268 (v := 2) (by decide) (pc' := 269) rfl ?_
          refine own_icmp_ne C X at_269 (pcT := 307) (pc' := 272) (by decide) (by decide) rfl (fun hc269 => ?_) (fun hc269 => absurd hc269 (by decide))
          refine own_iload C X at_307 rfl (pc' := 309) rfl ?_
          refine own_iconst C X at_309 (v := 3) (by decide) (pc' := 310) rfl ?_
          refine own_icmp_ne C X at_310 (pcT := 369) (pc' := 313) (by decide) (by decide) rfl (fun hc310 => ?_) (fun hc310 => absurd hc310 (by decide))
          refine own_aload C X at_369 rfl rfl (pc' := 371) rfl ?_
          refine own_iload C X at_371 rfl (pc' := 373) rfl ?_
          refine own_sipush C X at_373 (v := 240) (by decide) (pc' := 376) rfl ?_
          refine own_iload C X at_376 rfl (pc' := 378) rfl ?_
          refine own_ldcI C X at_378 (hw _ (List.mem_of_getElem? (i := 8) rfl)) (pc' := 380) rfl ?_
          refine own_idiv C X at_380 (by decide) rfl (pc' := 381) rfl ?_
          refine own_iadd C X at_381 rfl (pc' := 382) rfl ?_
          obtain ⟨x0, e_x0⟩ : ∃ z : Int32, ((240 : Int32) + (cp / (262144 : Int32))).toInt8.toInt32 = z := ⟨_, rfl⟩
          refine own_i2b C X at_382 e_x0 (pc' := 383) rfl ?_
          refine own_bastore C X at_383 A_be (by decide) (i := 0) (Nat.le_of_ble_eq_true rfl) (own_i2bn e_x0) ge_be (pc' := 384) rfl ?_
          intro T h X K_ A_be_
          have A_be : own_IA Z h be .byte [x0, t1, t2, t3, t4, t5, t6, t7] := A_be_
          have A_bi := A_bi.keep K_ (ninS ne_bi_be nin0)
          refine own_aload C X at_384 rfl rfl (pc' := 386) rfl ?_
          refine own_iload C X at_386 rfl (pc' := 388) rfl ?_
          refine own_iconst C X at_388 (v := 1) (by decide) (pc' := 389) rfl ?_
          refine own_iadd C X at_389 (z := 1) (by decide) (pc' := 390) rfl ?_
          refine own_sipush C X at_390 (v := 128) (by decide) (pc' := 393) rfl ?_
          refine own_iload C X at_393 rfl (pc' := 395) rfl ?_
          refine own_sipush C X at_395 (v := 4096) (by decide) (pc' := 398) rfl ?_
          refine own_idiv C X at_398 (by decide) rfl (pc' := 399) rfl ?_
          refine own_bipush C X at_399 (v := 64) (by decide) (pc' := 401) rfl ?_
          refine own_irem C X at_401 (by decide) rfl (pc' := 402) rfl ?_
          refine own_iadd C X at_402 rfl (pc' := 403) rfl ?_
          obtain ⟨x1, e_x1⟩ : ∃ z : Int32, ((128 : Int32) + ((cp / (4096 : Int32)) % (64 : Int32))).toInt8.toInt32 = z := ⟨_, rfl⟩
          refine own_i2b C X at_403 e_x1 (pc' := 404) rfl ?_
          refine own_bastore C X at_404 A_be (by decide) (i := 1) (Nat.le_of_ble_eq_true rfl) (own_i2bn e_x1) ge_be (pc' := 405) rfl ?_
          intro T h X K_ A_be_
          have A_be : own_IA Z h be .byte [x0, x1, t2, t3, t4, t5, t6, t7] := A_be_
          have A_bi := A_bi.keep K_ (ninS ne_bi_be nin0)
          refine own_aload C X at_405 rfl rfl (pc' := 407) rfl ?_
          refine own_iload C X at_407 rfl (pc' := 409) rfl ?_
          refine own_iconst C X at_409 (v := 2) (by decide) (pc' := 410) rfl ?_
          refine own_iadd C X at_410 (z := 2) (by decide) (pc' := 411) rfl ?_
          refine own_sipush C X at_411 (v := 128) (by decide) (pc' := 414) rfl ?_
          refine own_iload C X at_414 rfl (pc' := 416) rfl ?_
          refine own_bipush C X at_416 (v := 64) (by decide) (pc' := 418) rfl ?_
          refine own_idiv C X at_418 (by decide) rfl (pc' := 419) rfl ?_
          refine own_bipush C X at_419 (v := 64) (by decide) (pc' := 421) rfl ?_
          refine own_irem C X at_421 (by decide) rfl (pc' := 422) rfl ?_
          refine own_iadd C X at_422 rfl (pc' := 423) rfl ?_
          obtain ⟨x2, e_x2⟩ : ∃ z : Int32, ((128 : Int32) + ((cp / (64 : Int32)) % (64 : Int32))).toInt8.toInt32 = z := ⟨_, rfl⟩
          refine own_i2b C X at_423 e_x2 (pc' := 424) rfl ?_
          refine own_bastore C X at_424 A_be (by decide) (i := 2) (Nat.le_of_ble_eq_true rfl) (own_i2bn e_x2) ge_be (pc' := 425) rfl ?_
          intro T h X K_ A_be_
          have A_be : own_IA Z h be .byte [x0, x1, x2, t3, t4, t5, t6, t7] := A_be_
          have A_bi := A_bi.keep K_ (ninS ne_bi_be nin0)
          refine own_aload C X at_425 rfl rfl (pc' := 427) rfl ?_
          refine own_iload C X at_427 rfl (pc' := 429) rfl ?_
          refine own_iconst C X at_429 (v := 3) (by decide) (pc' := 430) rfl ?_
          refine own_iadd C X at_430 (z := 3) (by decide) (pc' := 431) rfl ?_
          refine own_sipush C X at_431 (v := 128) (by decide) (pc' := 434) rfl ?_
          refine own_iload C X at_434 rfl (pc' := 436) rfl ?_
          refine own_bipush C X at_436 (v := 64) (by decide) (pc' := 438) rfl ?_
          refine own_irem C X at_438 (by decide) rfl (pc' := 439) rfl ?_
          refine own_iadd C X at_439 rfl (pc' := 440) rfl ?_
          obtain ⟨x3, e_x3⟩ : ∃ z : Int32, ((128 : Int32) + (cp % (64 : Int32))).toInt8.toInt32 = z := ⟨_, rfl⟩
          refine own_i2b C X at_440 e_x3 (pc' := 441) rfl ?_
          refine own_bastore C X at_441 A_be (by decide) (i := 3) (Nat.le_of_ble_eq_true rfl) (own_i2bn e_x3) ge_be (pc' := 442) rfl ?_
          intro T h X K_ A_be_
          have A_be : own_IA Z h be .byte [x0, x1, x2, x3, t4, t5, t6, t7] := A_be_
          have A_bi := A_bi.keep K_ (ninS ne_bi_be nin0)
          refine own_iload C X at_442 rfl (pc' := 444) rfl ?_
          refine own_aload C X at_444 rfl rfl (pc' := 446) rfl ?_
          refine own_iload C X at_446 rfl (pc' := 448) rfl ?_
          refine own_callS C X at_448 (own_m_enc4 l Z a0 hw cp bi (0 : Int32) _ n0 (own_big C X) [t0, t1, t2, t3, t4, t5, t6, t7] 0 A_bi (by decide) (Nat.le_of_ble_eq_true rfl) ge_bi 4 (by decide) q1 q2 q3) (hw _ (List.mem_of_getElem? (i := 2) rfl)) (hw _ (List.mem_of_getElem? (i := 3) rfl)) (hw _ (List.mem_of_getElem? (i := 4) rfl)) (hw _ (List.mem_of_getElem? (i := 5) rfl)) (by decide) own_pd_4587 rfl rfl (Nat.le_of_ble_eq_true rfl) (Nat.le_of_ble_eq_true rfl) (Nat.le_of_ble_eq_true rfl) (Nat.le_of_ble_eq_true rfl) (av := [(.int cp), (.ref bi), (.int (0 : Int32))]) (S := []) rfl (pc' := 451) rfl ?_
          intro T h v X hQ
          obtain ⟨rfl, K_, A_bi_⟩ := hQ
          have A_bi : own_IA Z h bi .byte [((240 : Int32) ||| ((cp.toUInt32 >>> ((18 : Int32) &&& 31).toUInt32).toInt32)).toInt8.toInt32, ((128 : Int32) ||| (((cp.toUInt32 >>> ((12 : Int32) &&& 31).toUInt32).toInt32) &&& (63 : Int32))).toInt8.toInt32, ((128 : Int32) ||| (((cp.toUInt32 >>> ((6 : Int32) &&& 31).toUInt32).toInt32) &&& (63 : Int32))).toInt8.toInt32, ((128 : Int32) ||| (cp &&& (63 : Int32))).toInt8.toInt32, t4, t5, t6, t7] := A_bi_
          have A_be := A_be.keep K_ (ninS (Ne.symm ne_bi_be) nin0)
          show own_Go p e below n0 (own_Fin room_1 s (fun v h => v = some (.int 1))) (T.setTop (mkF m 451 #[.val (.int i0), .val (.int i1), .val (.int i2), .val (.int i3), .val (.int (i0 &&& (3 : Int32))), .val (.int (i1 &&& (2147483647 : Int32))), .val (.int cp), .val (.int (4 : Int32)), .val (.int (0 : Int32)), .val (.ref bi), .val (.ref be), .unset] [(.int (4 : Int32))]))
          refine own_istore C X at_451 (L' := #[.val (.int i0), .val (.int i1), .val (.int i2), .val (.int i3), .val (.int (i0 &&& (3 : Int32))), .val (.int (i1 &&& (2147483647 : Int32))), .val (.int cp), .val (.int (4 : Int32)), .val (.int (0 : Int32)), .val (.ref bi), .val (.ref be), .val (.int (4 : Int32))]) rfl (pc' := 453) rfl ?_
          refine own_iload C X at_453 rfl (pc' := 455) rfl ?_
          refine own_iload C X at_455 rfl (pc' := 457) rfl ?_
          refine own_iload C X at_457 rfl (pc' := 459) rfl ?_
          refine own_iadd C X at_459 (z := 4) (by decide) (pc' := 460) rfl ?_
          refine own_icmp_ne C X at_460 (pcT := 559) (pc' := 463) (by decide) (by decide) rfl (fun hc460 => absurd hc460 (by decide)) (fun hc460 => ?_)
          refine own_aload C X at_463 rfl rfl (pc' := 465) rfl ?_
          refine own_iconst C X at_465 (v := 0) (by decide) (pc' := 466) rfl ?_
          refine own_baload C X at_466 A_bi (by decide) (i := 0) rfl (pc' := 467) rfl ?_
          refine own_aload C X at_467 rfl rfl (pc' := 469) rfl ?_
          refine own_iconst C X at_469 (v := 0) (by decide) (pc' := 470) rfl ?_
          refine own_baload C X at_470 A_be (by decide) (i := 0) rfl (pc' := 471) rfl ?_
          refine own_icmp_ne C X at_471 (pcT := 559) (pc' := 474) (by decide) (by decide) rfl (fun hc471 => absurd hc471 (not_not_intro ((own_e4_0 cp hz h1).trans e_x0))) (fun hc471 => ?_)
          refine own_aload C X at_474 rfl rfl (pc' := 476) rfl ?_
          refine own_iconst C X at_476 (v := 1) (by decide) (pc' := 477) rfl ?_
          refine own_baload C X at_477 A_bi (by decide) (i := 1) rfl (pc' := 478) rfl ?_
          refine own_aload C X at_478 rfl rfl (pc' := 480) rfl ?_
          refine own_iconst C X at_480 (v := 1) (by decide) (pc' := 481) rfl ?_
          refine own_baload C X at_481 A_be (by decide) (i := 1) rfl (pc' := 482) rfl ?_
          refine own_icmp_ne C X at_482 (pcT := 559) (pc' := 485) (by decide) (by decide) rfl (fun hc482 => absurd hc482 (not_not_intro ((own_e4_1 cp hz h1).trans e_x1))) (fun hc482 => ?_)
          refine own_aload C X at_485 rfl rfl (pc' := 487) rfl ?_
          refine own_iconst C X at_487 (v := 2) (by decide) (pc' := 488) rfl ?_
          refine own_baload C X at_488 A_bi (by decide) (i := 2) rfl (pc' := 489) rfl ?_
          refine own_aload C X at_489 rfl rfl (pc' := 491) rfl ?_
          refine own_iconst C X at_491 (v := 2) (by decide) (pc' := 492) rfl ?_
          refine own_baload C X at_492 A_be (by decide) (i := 2) rfl (pc' := 493) rfl ?_
          refine own_icmp_ne C X at_493 (pcT := 559) (pc' := 496) (by decide) (by decide) rfl (fun hc493 => absurd hc493 (not_not_intro ((own_e4_2 cp hz h1).trans e_x2))) (fun hc493 => ?_)
          refine own_aload C X at_496 rfl rfl (pc' := 498) rfl ?_
          refine own_iconst C X at_498 (v := 3) (by decide) (pc' := 499) rfl ?_
          refine own_baload C X at_499 A_bi (by decide) (i := 3) rfl (pc' := 500) rfl ?_
          refine own_aload C X at_500 rfl rfl (pc' := 502) rfl ?_
          refine own_iconst C X at_502 (v := 3) (by decide) (pc' := 503) rfl ?_
          refine own_baload C X at_503 A_be (by decide) (i := 3) rfl (pc' := 504) rfl ?_
          refine own_icmp_ne C X at_504 (pcT := 559) (pc' := 507) (by decide) (by decide) rfl (fun hc504 => absurd hc504 (not_not_intro ((own_e4_3 cp hz h1).trans e_x3))) (fun hc504 => ?_)
          refine own_aload C X at_507 rfl rfl (pc' := 509) rfl ?_
          refine own_iconst C X at_509 (v := 4) (by decide) (pc' := 510) rfl ?_
          refine own_baload C X at_510 A_bi (by decide) (i := 4) rfl (pc' := 511) rfl ?_
          refine own_aload C X at_511 rfl rfl (pc' := 513) rfl ?_
          refine own_iconst C X at_513 (v := 4) (by decide) (pc' := 514) rfl ?_
          refine own_baload C X at_514 A_be (by decide) (i := 4) rfl (pc' := 515) rfl ?_
          refine own_icmp_ne C X at_515 (pcT := 559) (pc' := 518) (by decide) (by decide) rfl (fun hc515 => absurd hc515 (not_not_intro rfl)) (fun hc515 => ?_)
          refine own_aload C X at_518 rfl rfl (pc' := 520) rfl ?_
          refine own_iconst C X at_520 (v := 5) (by decide) (pc' := 521) rfl ?_
          refine own_baload C X at_521 A_bi (by decide) (i := 5) rfl (pc' := 522) rfl ?_
          refine own_aload C X at_522 rfl rfl (pc' := 524) rfl ?_
          refine own_iconst C X at_524 (v := 5) (by decide) (pc' := 525) rfl ?_
          refine own_baload C X at_525 A_be (by decide) (i := 5) rfl (pc' := 526) rfl ?_
          refine own_icmp_ne C X at_526 (pcT := 559) (pc' := 529) (by decide) (by decide) rfl (fun hc526 => absurd hc526 (not_not_intro rfl)) (fun hc526 => ?_)
          refine own_aload C X at_529 rfl rfl (pc' := 531) rfl ?_
          refine own_bipush C X at_531 (v := 6) (by decide) (pc' := 533) rfl ?_
          refine own_baload C X at_533 A_bi (by decide) (i := 6) rfl (pc' := 534) rfl ?_
          refine own_aload C X at_534 rfl rfl (pc' := 536) rfl ?_
          refine own_bipush C X at_536 (v := 6) (by decide) (pc' := 538) rfl ?_
          refine own_baload C X at_538 A_be (by decide) (i := 6) rfl (pc' := 539) rfl ?_
          refine own_icmp_ne C X at_539 (pcT := 559) (pc' := 542) (by decide) (by decide) rfl (fun hc539 => absurd hc539 (not_not_intro rfl)) (fun hc539 => ?_)
          refine own_aload C X at_542 rfl rfl (pc' := 544) rfl ?_
          refine own_bipush C X at_544 (v := 7) (by decide) (pc' := 546) rfl ?_
          refine own_baload C X at_546 A_bi (by decide) (i := 7) rfl (pc' := 547) rfl ?_
          refine own_aload C X at_547 rfl rfl (pc' := 549) rfl ?_
          refine own_bipush C X at_549 (v := 7) (by decide) (pc' := 551) rfl ?_
          refine own_baload C X at_551 A_be (by decide) (i := 7) rfl (pc' := 552) rfl ?_
          refine own_icmp_ne C X at_552 (pcT := 559) (pc' := 555) (by decide) (by decide) rfl (fun hc552 => absurd hc552 (not_not_intro rfl)) (fun hc552 => ?_)
          refine own_iconst C X at_555 (v := 1) (by decide) (pc' := 556) rfl ?_
          refine own_goto C X at_556 (pc' := 560) (by decide) (by decide) ?_
          exact own_ireturn_z C X at_560 (Nat.le_of_ble_eq_true rfl) (Nat.le_of_ble_eq_true rfl) (rfl)
        · refine own_iload C X at_249 rfl (pc' := 251) rfl ?_
          refine own_iconst C X at_251 (v := 1) (by decide) (pc' := 252) rfl ?_
          refine own_icmp_ne C X at_252 (pcT := 266) (pc' := 255) (by decide) (by decide) rfl (fun hc252 => ?_) (fun hc252 => absurd hc252 (by decide))
          refine own_iload C X at_266 rfl (pc' := 268) rfl ?_
          refine own_iconst C X at_268 (v := 2) (by decide) (pc' := 269) rfl ?_
          refine own_icmp_ne C X at_269 (pcT := 307) (pc' := 272) (by decide) (by decide) rfl (fun hc269 => ?_) (fun hc269 => absurd hc269 (by decide))
          refine own_iload C X at_307 rfl (pc' := 309) rfl ?_
          refine own_iconst C X at_309 (v := 3) (by decide) (pc' := 310) rfl ?_
          refine own_icmp_ne C X at_310 (pcT := 369) (pc' := 313) (by decide) (by decide) rfl (fun hc310 => ?_) (fun hc310 => absurd hc310 (by decide))
          refine own_aload C X at_369 rfl rfl (pc' := 371) rfl ?_
          refine own_iload C X at_371 rfl (pc' := 373) rfl ?_
          refine own_sipush C X at_373 (v := 240) (by decide) (pc' := 376) rfl ?_
          refine own_iload C X at_376 rfl (pc' := 378) rfl ?_
          refine own_ldcI C X at_378 (hw _ (List.mem_of_getElem? (i := 8) rfl)) (pc' := 380) rfl ?_
          refine own_idiv C X at_380 (by decide) rfl (pc' := 381) rfl ?_
          refine own_iadd C X at_381 rfl (pc' := 382) rfl ?_
          obtain ⟨x0, e_x0⟩ : ∃ z : Int32, ((240 : Int32) + (cp / (262144 : Int32))).toInt8.toInt32 = z := ⟨_, rfl⟩
          refine own_i2b C X at_382 e_x0 (pc' := 383) rfl ?_
          refine own_bastore C X at_383 A_be (by decide) (i := 1) (Nat.le_of_ble_eq_true rfl) (own_i2bn e_x0) ge_be (pc' := 384) rfl ?_
          intro T h X K_ A_be_
          have A_be : own_IA Z h be .byte [t0, x0, t2, t3, t4, t5, t6, t7] := A_be_
          have A_bi := A_bi.keep K_ (ninS ne_bi_be nin0)
          refine own_aload C X at_384 rfl rfl (pc' := 386) rfl ?_
          refine own_iload C X at_386 rfl (pc' := 388) rfl ?_
          refine own_iconst C X at_388 (v := 1) (by decide) (pc' := 389) rfl ?_
          refine own_iadd C X at_389 (z := 2) (by decide) (pc' := 390) rfl ?_
          refine own_sipush C X at_390 (v := 128) (by decide) (pc' := 393) rfl ?_
          refine own_iload C X at_393 rfl (pc' := 395) rfl ?_
          refine own_sipush C X at_395 (v := 4096) (by decide) (pc' := 398) rfl ?_
          refine own_idiv C X at_398 (by decide) rfl (pc' := 399) rfl ?_
          refine own_bipush C X at_399 (v := 64) (by decide) (pc' := 401) rfl ?_
          refine own_irem C X at_401 (by decide) rfl (pc' := 402) rfl ?_
          refine own_iadd C X at_402 rfl (pc' := 403) rfl ?_
          obtain ⟨x1, e_x1⟩ : ∃ z : Int32, ((128 : Int32) + ((cp / (4096 : Int32)) % (64 : Int32))).toInt8.toInt32 = z := ⟨_, rfl⟩
          refine own_i2b C X at_403 e_x1 (pc' := 404) rfl ?_
          refine own_bastore C X at_404 A_be (by decide) (i := 2) (Nat.le_of_ble_eq_true rfl) (own_i2bn e_x1) ge_be (pc' := 405) rfl ?_
          intro T h X K_ A_be_
          have A_be : own_IA Z h be .byte [t0, x0, x1, t3, t4, t5, t6, t7] := A_be_
          have A_bi := A_bi.keep K_ (ninS ne_bi_be nin0)
          refine own_aload C X at_405 rfl rfl (pc' := 407) rfl ?_
          refine own_iload C X at_407 rfl (pc' := 409) rfl ?_
          refine own_iconst C X at_409 (v := 2) (by decide) (pc' := 410) rfl ?_
          refine own_iadd C X at_410 (z := 3) (by decide) (pc' := 411) rfl ?_
          refine own_sipush C X at_411 (v := 128) (by decide) (pc' := 414) rfl ?_
          refine own_iload C X at_414 rfl (pc' := 416) rfl ?_
          refine own_bipush C X at_416 (v := 64) (by decide) (pc' := 418) rfl ?_
          refine own_idiv C X at_418 (by decide) rfl (pc' := 419) rfl ?_
          refine own_bipush C X at_419 (v := 64) (by decide) (pc' := 421) rfl ?_
          refine own_irem C X at_421 (by decide) rfl (pc' := 422) rfl ?_
          refine own_iadd C X at_422 rfl (pc' := 423) rfl ?_
          obtain ⟨x2, e_x2⟩ : ∃ z : Int32, ((128 : Int32) + ((cp / (64 : Int32)) % (64 : Int32))).toInt8.toInt32 = z := ⟨_, rfl⟩
          refine own_i2b C X at_423 e_x2 (pc' := 424) rfl ?_
          refine own_bastore C X at_424 A_be (by decide) (i := 3) (Nat.le_of_ble_eq_true rfl) (own_i2bn e_x2) ge_be (pc' := 425) rfl ?_
          intro T h X K_ A_be_
          have A_be : own_IA Z h be .byte [t0, x0, x1, x2, t4, t5, t6, t7] := A_be_
          have A_bi := A_bi.keep K_ (ninS ne_bi_be nin0)
          refine own_aload C X at_425 rfl rfl (pc' := 427) rfl ?_
          refine own_iload C X at_427 rfl (pc' := 429) rfl ?_
          refine own_iconst C X at_429 (v := 3) (by decide) (pc' := 430) rfl ?_
          refine own_iadd C X at_430 (z := 4) (by decide) (pc' := 431) rfl ?_
          refine own_sipush C X at_431 (v := 128) (by decide) (pc' := 434) rfl ?_
          refine own_iload C X at_434 rfl (pc' := 436) rfl ?_
          refine own_bipush C X at_436 (v := 64) (by decide) (pc' := 438) rfl ?_
          refine own_irem C X at_438 (by decide) rfl (pc' := 439) rfl ?_
          refine own_iadd C X at_439 rfl (pc' := 440) rfl ?_
          obtain ⟨x3, e_x3⟩ : ∃ z : Int32, ((128 : Int32) + (cp % (64 : Int32))).toInt8.toInt32 = z := ⟨_, rfl⟩
          refine own_i2b C X at_440 e_x3 (pc' := 441) rfl ?_
          refine own_bastore C X at_441 A_be (by decide) (i := 4) (Nat.le_of_ble_eq_true rfl) (own_i2bn e_x3) ge_be (pc' := 442) rfl ?_
          intro T h X K_ A_be_
          have A_be : own_IA Z h be .byte [t0, x0, x1, x2, x3, t5, t6, t7] := A_be_
          have A_bi := A_bi.keep K_ (ninS ne_bi_be nin0)
          refine own_iload C X at_442 rfl (pc' := 444) rfl ?_
          refine own_aload C X at_444 rfl rfl (pc' := 446) rfl ?_
          refine own_iload C X at_446 rfl (pc' := 448) rfl ?_
          refine own_callS C X at_448 (own_m_enc4 l Z a0 hw cp bi (1 : Int32) _ n0 (own_big C X) [t0, t1, t2, t3, t4, t5, t6, t7] 1 A_bi (by decide) (Nat.le_of_ble_eq_true rfl) ge_bi 5 (by decide) q1 q2 q3) (hw _ (List.mem_of_getElem? (i := 2) rfl)) (hw _ (List.mem_of_getElem? (i := 3) rfl)) (hw _ (List.mem_of_getElem? (i := 4) rfl)) (hw _ (List.mem_of_getElem? (i := 5) rfl)) (by decide) own_pd_4587 rfl rfl (Nat.le_of_ble_eq_true rfl) (Nat.le_of_ble_eq_true rfl) (Nat.le_of_ble_eq_true rfl) (Nat.le_of_ble_eq_true rfl) (av := [(.int cp), (.ref bi), (.int (1 : Int32))]) (S := []) rfl (pc' := 451) rfl ?_
          intro T h v X hQ
          obtain ⟨rfl, K_, A_bi_⟩ := hQ
          have A_bi : own_IA Z h bi .byte [t0, ((240 : Int32) ||| ((cp.toUInt32 >>> ((18 : Int32) &&& 31).toUInt32).toInt32)).toInt8.toInt32, ((128 : Int32) ||| (((cp.toUInt32 >>> ((12 : Int32) &&& 31).toUInt32).toInt32) &&& (63 : Int32))).toInt8.toInt32, ((128 : Int32) ||| (((cp.toUInt32 >>> ((6 : Int32) &&& 31).toUInt32).toInt32) &&& (63 : Int32))).toInt8.toInt32, ((128 : Int32) ||| (cp &&& (63 : Int32))).toInt8.toInt32, t5, t6, t7] := A_bi_
          have A_be := A_be.keep K_ (ninS (Ne.symm ne_bi_be) nin0)
          show own_Go p e below n0 (own_Fin room_1 s (fun v h => v = some (.int 1))) (T.setTop (mkF m 451 #[.val (.int i0), .val (.int i1), .val (.int i2), .val (.int i3), .val (.int (i0 &&& (3 : Int32))), .val (.int (i1 &&& (2147483647 : Int32))), .val (.int cp), .val (.int (4 : Int32)), .val (.int (1 : Int32)), .val (.ref bi), .val (.ref be), .unset] [(.int (5 : Int32))]))
          refine own_istore C X at_451 (L' := #[.val (.int i0), .val (.int i1), .val (.int i2), .val (.int i3), .val (.int (i0 &&& (3 : Int32))), .val (.int (i1 &&& (2147483647 : Int32))), .val (.int cp), .val (.int (4 : Int32)), .val (.int (1 : Int32)), .val (.ref bi), .val (.ref be), .val (.int (5 : Int32))]) rfl (pc' := 453) rfl ?_
          refine own_iload C X at_453 rfl (pc' := 455) rfl ?_
          refine own_iload C X at_455 rfl (pc' := 457) rfl ?_
          refine own_iload C X at_457 rfl (pc' := 459) rfl ?_
          refine own_iadd C X at_459 (z := 5) (by decide) (pc' := 460) rfl ?_
          refine own_icmp_ne C X at_460 (pcT := 559) (pc' := 463) (by decide) (by decide) rfl (fun hc460 => absurd hc460 (by decide)) (fun hc460 => ?_)
          refine own_aload C X at_463 rfl rfl (pc' := 465) rfl ?_
          refine own_iconst C X at_465 (v := 0) (by decide) (pc' := 466) rfl ?_
          refine own_baload C X at_466 A_bi (by decide) (i := 0) rfl (pc' := 467) rfl ?_
          refine own_aload C X at_467 rfl rfl (pc' := 469) rfl ?_
          refine own_iconst C X at_469 (v := 0) (by decide) (pc' := 470) rfl ?_
          refine own_baload C X at_470 A_be (by decide) (i := 0) rfl (pc' := 471) rfl ?_
          refine own_icmp_ne C X at_471 (pcT := 559) (pc' := 474) (by decide) (by decide) rfl (fun hc471 => absurd hc471 (not_not_intro rfl)) (fun hc471 => ?_)
          refine own_aload C X at_474 rfl rfl (pc' := 476) rfl ?_
          refine own_iconst C X at_476 (v := 1) (by decide) (pc' := 477) rfl ?_
          refine own_baload C X at_477 A_bi (by decide) (i := 1) rfl (pc' := 478) rfl ?_
          refine own_aload C X at_478 rfl rfl (pc' := 480) rfl ?_
          refine own_iconst C X at_480 (v := 1) (by decide) (pc' := 481) rfl ?_
          refine own_baload C X at_481 A_be (by decide) (i := 1) rfl (pc' := 482) rfl ?_
          refine own_icmp_ne C X at_482 (pcT := 559) (pc' := 485) (by decide) (by decide) rfl (fun hc482 => absurd hc482 (not_not_intro ((own_e4_0 cp hz h1).trans e_x0))) (fun hc482 => ?_)
          refine own_aload C X at_485 rfl rfl (pc' := 487) rfl ?_
          refine own_iconst C X at_487 (v := 2) (by decide) (pc' := 488) rfl ?_
          refine own_baload C X at_488 A_bi (by decide) (i := 2) rfl (pc' := 489) rfl ?_
          refine own_aload C X at_489 rfl rfl (pc' := 491) rfl ?_
          refine own_iconst C X at_491 (v := 2) (by decide) (pc' := 492) rfl ?_
          refine own_baload C X at_492 A_be (by decide) (i := 2) rfl (pc' := 493) rfl ?_
          refine own_icmp_ne C X at_493 (pcT := 559) (pc' := 496) (by decide) (by decide) rfl (fun hc493 => absurd hc493 (not_not_intro ((own_e4_1 cp hz h1).trans e_x1))) (fun hc493 => ?_)
          refine own_aload C X at_496 rfl rfl (pc' := 498) rfl ?_
          refine own_iconst C X at_498 (v := 3) (by decide) (pc' := 499) rfl ?_
          refine own_baload C X at_499 A_bi (by decide) (i := 3) rfl (pc' := 500) rfl ?_
          refine own_aload C X at_500 rfl rfl (pc' := 502) rfl ?_
          refine own_iconst C X at_502 (v := 3) (by decide) (pc' := 503) rfl ?_
          refine own_baload C X at_503 A_be (by decide) (i := 3) rfl (pc' := 504) rfl ?_
          refine own_icmp_ne C X at_504 (pcT := 559) (pc' := 507) (by decide) (by decide) rfl (fun hc504 => absurd hc504 (not_not_intro ((own_e4_2 cp hz h1).trans e_x2))) (fun hc504 => ?_)
          refine own_aload C X at_507 rfl rfl (pc' := 509) rfl ?_
          refine own_iconst C X at_509 (v := 4) (by decide) (pc' := 510) rfl ?_
          refine own_baload C X at_510 A_bi (by decide) (i := 4) rfl (pc' := 511) rfl ?_
          refine own_aload C X at_511 rfl rfl (pc' := 513) rfl ?_
          refine own_iconst C X at_513 (v := 4) (by decide) (pc' := 514) rfl ?_
          refine own_baload C X at_514 A_be (by decide) (i := 4) rfl (pc' := 515) rfl ?_
          refine own_icmp_ne C X at_515 (pcT := 559) (pc' := 518) (by decide) (by decide) rfl (fun hc515 => absurd hc515 (not_not_intro ((own_e4_3 cp hz h1).trans e_x3))) (fun hc515 => ?_)
          refine own_aload C X at_518 rfl rfl (pc' := 520) rfl ?_
          refine own_iconst C X at_520 (v := 5) (by decide) (pc' := 521) rfl ?_
          refine own_baload C X at_521 A_bi (by decide) (i := 5) rfl (pc' := 522) rfl ?_
          refine own_aload C X at_522 rfl rfl (pc' := 524) rfl ?_
          refine own_iconst C X at_524 (v := 5) (by decide) (pc' := 525) rfl ?_
          refine own_baload C X at_525 A_be (by decide) (i := 5) rfl (pc' := 526) rfl ?_
          refine own_icmp_ne C X at_526 (pcT := 559) (pc' := 529) (by decide) (by decide) rfl (fun hc526 => absurd hc526 (not_not_intro rfl)) (fun hc526 => ?_)
          refine own_aload C X at_529 rfl rfl (pc' := 531) rfl ?_
          refine own_bipush C X at_531 (v := 6) (by decide) (pc' := 533) rfl ?_
          refine own_baload C X at_533 A_bi (by decide) (i := 6) rfl (pc' := 534) rfl ?_
          refine own_aload C X at_534 rfl rfl (pc' := 536) rfl ?_
          refine own_bipush C X at_536 (v := 6) (by decide) (pc' := 538) rfl ?_
          refine own_baload C X at_538 A_be (by decide) (i := 6) rfl (pc' := 539) rfl ?_
          refine own_icmp_ne C X at_539 (pcT := 559) (pc' := 542) (by decide) (by decide) rfl (fun hc539 => absurd hc539 (not_not_intro rfl)) (fun hc539 => ?_)
          refine own_aload C X at_542 rfl rfl (pc' := 544) rfl ?_
          refine own_bipush C X at_544 (v := 7) (by decide) (pc' := 546) rfl ?_
          refine own_baload C X at_546 A_bi (by decide) (i := 7) rfl (pc' := 547) rfl ?_
          refine own_aload C X at_547 rfl rfl (pc' := 549) rfl ?_
          refine own_bipush C X at_549 (v := 7) (by decide) (pc' := 551) rfl ?_
          refine own_baload C X at_551 A_be (by decide) (i := 7) rfl (pc' := 552) rfl ?_
          refine own_icmp_ne C X at_552 (pcT := 559) (pc' := 555) (by decide) (by decide) rfl (fun hc552 => absurd hc552 (not_not_intro rfl)) (fun hc552 => ?_)
          refine own_iconst C X at_555 (v := 1) (by decide) (pc' := 556) rfl ?_
          refine own_goto C X at_556 (pc' := 560) (by decide) (by decide) ?_
          exact own_ireturn_z C X at_560 (Nat.le_of_ble_eq_true rfl) (Nat.le_of_ble_eq_true rfl) (rfl)
        · refine own_iload C X at_249 rfl (pc' := 251) rfl ?_
          refine own_iconst C X at_251 (v := 1) (by decide) (pc' := 252) rfl ?_
          refine own_icmp_ne C X at_252 (pcT := 266) (pc' := 255) (by decide) (by decide) rfl (fun hc252 => ?_) (fun hc252 => absurd hc252 (by decide))
          refine own_iload C X at_266 rfl (pc' := 268) rfl ?_
          refine own_iconst C X at_268 (v := 2) (by decide) (pc' := 269) rfl ?_
          refine own_icmp_ne C X at_269 (pcT := 307) (pc' := 272) (by decide) (by decide) rfl (fun hc269 => ?_) (fun hc269 => absurd hc269 (by decide))
          refine own_iload C X at_307 rfl (pc' := 309) rfl ?_
          refine own_iconst C X at_309 (v := 3) (by decide) (pc' := 310) rfl ?_
          refine own_icmp_ne C X at_310 (pcT := 369) (pc' := 313) (by decide) (by decide) rfl (fun hc310 => ?_) (fun hc310 => absurd hc310 (by decide))
          refine own_aload C X at_369 rfl rfl (pc' := 371) rfl ?_
          refine own_iload C X at_371 rfl (pc' := 373) rfl ?_
          refine own_sipush C X at_373 (v := 240) (by decide) (pc' := 376) rfl ?_
          refine own_iload C X at_376 rfl (pc' := 378) rfl ?_
          refine own_ldcI C X at_378 (hw _ (List.mem_of_getElem? (i := 8) rfl)) (pc' := 380) rfl ?_
          refine own_idiv C X at_380 (by decide) rfl (pc' := 381) rfl ?_
          refine own_iadd C X at_381 rfl (pc' := 382) rfl ?_
          obtain ⟨x0, e_x0⟩ : ∃ z : Int32, ((240 : Int32) + (cp / (262144 : Int32))).toInt8.toInt32 = z := ⟨_, rfl⟩
          refine own_i2b C X at_382 e_x0 (pc' := 383) rfl ?_
          refine own_bastore C X at_383 A_be (by decide) (i := 2) (Nat.le_of_ble_eq_true rfl) (own_i2bn e_x0) ge_be (pc' := 384) rfl ?_
          intro T h X K_ A_be_
          have A_be : own_IA Z h be .byte [t0, t1, x0, t3, t4, t5, t6, t7] := A_be_
          have A_bi := A_bi.keep K_ (ninS ne_bi_be nin0)
          refine own_aload C X at_384 rfl rfl (pc' := 386) rfl ?_
          refine own_iload C X at_386 rfl (pc' := 388) rfl ?_
          refine own_iconst C X at_388 (v := 1) (by decide) (pc' := 389) rfl ?_
          refine own_iadd C X at_389 (z := 3) (by decide) (pc' := 390) rfl ?_
          refine own_sipush C X at_390 (v := 128) (by decide) (pc' := 393) rfl ?_
          refine own_iload C X at_393 rfl (pc' := 395) rfl ?_
          refine own_sipush C X at_395 (v := 4096) (by decide) (pc' := 398) rfl ?_
          refine own_idiv C X at_398 (by decide) rfl (pc' := 399) rfl ?_
          refine own_bipush C X at_399 (v := 64) (by decide) (pc' := 401) rfl ?_
          refine own_irem C X at_401 (by decide) rfl (pc' := 402) rfl ?_
          refine own_iadd C X at_402 rfl (pc' := 403) rfl ?_
          obtain ⟨x1, e_x1⟩ : ∃ z : Int32, ((128 : Int32) + ((cp / (4096 : Int32)) % (64 : Int32))).toInt8.toInt32 = z := ⟨_, rfl⟩
          refine own_i2b C X at_403 e_x1 (pc' := 404) rfl ?_
          refine own_bastore C X at_404 A_be (by decide) (i := 3) (Nat.le_of_ble_eq_true rfl) (own_i2bn e_x1) ge_be (pc' := 405) rfl ?_
          intro T h X K_ A_be_
          have A_be : own_IA Z h be .byte [t0, t1, x0, x1, t4, t5, t6, t7] := A_be_
          have A_bi := A_bi.keep K_ (ninS ne_bi_be nin0)
          refine own_aload C X at_405 rfl rfl (pc' := 407) rfl ?_
          refine own_iload C X at_407 rfl (pc' := 409) rfl ?_
          refine own_iconst C X at_409 (v := 2) (by decide) (pc' := 410) rfl ?_
          refine own_iadd C X at_410 (z := 4) (by decide) (pc' := 411) rfl ?_
          refine own_sipush C X at_411 (v := 128) (by decide) (pc' := 414) rfl ?_
          refine own_iload C X at_414 rfl (pc' := 416) rfl ?_
          refine own_bipush C X at_416 (v := 64) (by decide) (pc' := 418) rfl ?_
          refine own_idiv C X at_418 (by decide) rfl (pc' := 419) rfl ?_
          refine own_bipush C X at_419 (v := 64) (by decide) (pc' := 421) rfl ?_
          refine own_irem C X at_421 (by decide) rfl (pc' := 422) rfl ?_
          refine own_iadd C X at_422 rfl (pc' := 423) rfl ?_
          obtain ⟨x2, e_x2⟩ : ∃ z : Int32, ((128 : Int32) + ((cp / (64 : Int32)) % (64 : Int32))).toInt8.toInt32 = z := ⟨_, rfl⟩
          refine own_i2b C X at_423 e_x2 (pc' := 424) rfl ?_
          refine own_bastore C X at_424 A_be (by decide) (i := 4) (Nat.le_of_ble_eq_true rfl) (own_i2bn e_x2) ge_be (pc' := 425) rfl ?_
          intro T h X K_ A_be_
          have A_be : own_IA Z h be .byte [t0, t1, x0, x1, x2, t5, t6, t7] := A_be_
          have A_bi := A_bi.keep K_ (ninS ne_bi_be nin0)
          refine own_aload C X at_425 rfl rfl (pc' := 427) rfl ?_
          refine own_iload C X at_427 rfl (pc' := 429) rfl ?_
          refine own_iconst C X at_429 (v := 3) (by decide) (pc' := 430) rfl ?_
          refine own_iadd C X at_430 (z := 5) (by decide) (pc' := 431) rfl ?_
          refine own_sipush C X at_431 (v := 128) (by decide) (pc' := 434) rfl ?_
          refine own_iload C X at_434 rfl (pc' := 436) rfl ?_
          refine own_bipush C X at_436 (v := 64) (by decide) (pc' := 438) rfl ?_
          refine own_irem C X at_438 (by decide) rfl (pc' := 439) rfl ?_
          refine own_iadd C X at_439 rfl (pc' := 440) rfl ?_
          obtain ⟨x3, e_x3⟩ : ∃ z : Int32, ((128 : Int32) + (cp % (64 : Int32))).toInt8.toInt32 = z := ⟨_, rfl⟩
          refine own_i2b C X at_440 e_x3 (pc' := 441) rfl ?_
          refine own_bastore C X at_441 A_be (by decide) (i := 5) (Nat.le_of_ble_eq_true rfl) (own_i2bn e_x3) ge_be (pc' := 442) rfl ?_
          intro T h X K_ A_be_
          have A_be : own_IA Z h be .byte [t0, t1, x0, x1, x2, x3, t6, t7] := A_be_
          have A_bi := A_bi.keep K_ (ninS ne_bi_be nin0)
          refine own_iload C X at_442 rfl (pc' := 444) rfl ?_
          refine own_aload C X at_444 rfl rfl (pc' := 446) rfl ?_
          refine own_iload C X at_446 rfl (pc' := 448) rfl ?_
          refine own_callS C X at_448 (own_m_enc4 l Z a0 hw cp bi (2 : Int32) _ n0 (own_big C X) [t0, t1, t2, t3, t4, t5, t6, t7] 2 A_bi (by decide) (Nat.le_of_ble_eq_true rfl) ge_bi 6 (by decide) q1 q2 q3) (hw _ (List.mem_of_getElem? (i := 2) rfl)) (hw _ (List.mem_of_getElem? (i := 3) rfl)) (hw _ (List.mem_of_getElem? (i := 4) rfl)) (hw _ (List.mem_of_getElem? (i := 5) rfl)) (by decide) own_pd_4587 rfl rfl (Nat.le_of_ble_eq_true rfl) (Nat.le_of_ble_eq_true rfl) (Nat.le_of_ble_eq_true rfl) (Nat.le_of_ble_eq_true rfl) (av := [(.int cp), (.ref bi), (.int (2 : Int32))]) (S := []) rfl (pc' := 451) rfl ?_
          intro T h v X hQ
          obtain ⟨rfl, K_, A_bi_⟩ := hQ
          have A_bi : own_IA Z h bi .byte [t0, t1, ((240 : Int32) ||| ((cp.toUInt32 >>> ((18 : Int32) &&& 31).toUInt32).toInt32)).toInt8.toInt32, ((128 : Int32) ||| (((cp.toUInt32 >>> ((12 : Int32) &&& 31).toUInt32).toInt32) &&& (63 : Int32))).toInt8.toInt32, ((128 : Int32) ||| (((cp.toUInt32 >>> ((6 : Int32) &&& 31).toUInt32).toInt32) &&& (63 : Int32))).toInt8.toInt32, ((128 : Int32) ||| (cp &&& (63 : Int32))).toInt8.toInt32, t6, t7] := A_bi_
          have A_be := A_be.keep K_ (ninS (Ne.symm ne_bi_be) nin0)
          show own_Go p e below n0 (own_Fin room_1 s (fun v h => v = some (.int 1))) (T.setTop (mkF m 451 #[.val (.int i0), .val (.int i1), .val (.int i2), .val (.int i3), .val (.int (i0 &&& (3 : Int32))), .val (.int (i1 &&& (2147483647 : Int32))), .val (.int cp), .val (.int (4 : Int32)), .val (.int (2 : Int32)), .val (.ref bi), .val (.ref be), .unset] [(.int (6 : Int32))]))
          refine own_istore C X at_451 (L' := #[.val (.int i0), .val (.int i1), .val (.int i2), .val (.int i3), .val (.int (i0 &&& (3 : Int32))), .val (.int (i1 &&& (2147483647 : Int32))), .val (.int cp), .val (.int (4 : Int32)), .val (.int (2 : Int32)), .val (.ref bi), .val (.ref be), .val (.int (6 : Int32))]) rfl (pc' := 453) rfl ?_
          refine own_iload C X at_453 rfl (pc' := 455) rfl ?_
          refine own_iload C X at_455 rfl (pc' := 457) rfl ?_
          refine own_iload C X at_457 rfl (pc' := 459) rfl ?_
          refine own_iadd C X at_459 (z := 6) (by decide) (pc' := 460) rfl ?_
          refine own_icmp_ne C X at_460 (pcT := 559) (pc' := 463) (by decide) (by decide) rfl (fun hc460 => absurd hc460 (by decide)) (fun hc460 => ?_)
          refine own_aload C X at_463 rfl rfl (pc' := 465) rfl ?_
          refine own_iconst C X at_465 (v := 0) (by decide) (pc' := 466) rfl ?_
          refine own_baload C X at_466 A_bi (by decide) (i := 0) rfl (pc' := 467) rfl ?_
          refine own_aload C X at_467 rfl rfl (pc' := 469) rfl ?_
          refine own_iconst C X at_469 (v := 0) (by decide) (pc' := 470) rfl ?_
          refine own_baload C X at_470 A_be (by decide) (i := 0) rfl (pc' := 471) rfl ?_
          refine own_icmp_ne C X at_471 (pcT := 559) (pc' := 474) (by decide) (by decide) rfl (fun hc471 => absurd hc471 (not_not_intro rfl)) (fun hc471 => ?_)
          refine own_aload C X at_474 rfl rfl (pc' := 476) rfl ?_
          refine own_iconst C X at_476 (v := 1) (by decide) (pc' := 477) rfl ?_
          refine own_baload C X at_477 A_bi (by decide) (i := 1) rfl (pc' := 478) rfl ?_
          refine own_aload C X at_478 rfl rfl (pc' := 480) rfl ?_
          refine own_iconst C X at_480 (v := 1) (by decide) (pc' := 481) rfl ?_
          refine own_baload C X at_481 A_be (by decide) (i := 1) rfl (pc' := 482) rfl ?_
          refine own_icmp_ne C X at_482 (pcT := 559) (pc' := 485) (by decide) (by decide) rfl (fun hc482 => absurd hc482 (not_not_intro rfl)) (fun hc482 => ?_)
          refine own_aload C X at_485 rfl rfl (pc' := 487) rfl ?_
          refine own_iconst C X at_487 (v := 2) (by decide) (pc' := 488) rfl ?_
          refine own_baload C X at_488 A_bi (by decide) (i := 2) rfl (pc' := 489) rfl ?_
          refine own_aload C X at_489 rfl rfl (pc' := 491) rfl ?_
          refine own_iconst C X at_491 (v := 2) (by decide) (pc' := 492) rfl ?_
          refine own_baload C X at_492 A_be (by decide) (i := 2) rfl (pc' := 493) rfl ?_
          refine own_icmp_ne C X at_493 (pcT := 559) (pc' := 496) (by decide) (by decide) rfl (fun hc493 => absurd hc493 (not_not_intro ((own_e4_0 cp hz h1).trans e_x0))) (fun hc493 => ?_)
          refine own_aload C X at_496 rfl rfl (pc' := 498) rfl ?_
          refine own_iconst C X at_498 (v := 3) (by decide) (pc' := 499) rfl ?_
          refine own_baload C X at_499 A_bi (by decide) (i := 3) rfl (pc' := 500) rfl ?_
          refine own_aload C X at_500 rfl rfl (pc' := 502) rfl ?_
          refine own_iconst C X at_502 (v := 3) (by decide) (pc' := 503) rfl ?_
          refine own_baload C X at_503 A_be (by decide) (i := 3) rfl (pc' := 504) rfl ?_
          refine own_icmp_ne C X at_504 (pcT := 559) (pc' := 507) (by decide) (by decide) rfl (fun hc504 => absurd hc504 (not_not_intro ((own_e4_1 cp hz h1).trans e_x1))) (fun hc504 => ?_)
          refine own_aload C X at_507 rfl rfl (pc' := 509) rfl ?_
          refine own_iconst C X at_509 (v := 4) (by decide) (pc' := 510) rfl ?_
          refine own_baload C X at_510 A_bi (by decide) (i := 4) rfl (pc' := 511) rfl ?_
          refine own_aload C X at_511 rfl rfl (pc' := 513) rfl ?_
          refine own_iconst C X at_513 (v := 4) (by decide) (pc' := 514) rfl ?_
          refine own_baload C X at_514 A_be (by decide) (i := 4) rfl (pc' := 515) rfl ?_
          refine own_icmp_ne C X at_515 (pcT := 559) (pc' := 518) (by decide) (by decide) rfl (fun hc515 => absurd hc515 (not_not_intro ((own_e4_2 cp hz h1).trans e_x2))) (fun hc515 => ?_)
          refine own_aload C X at_518 rfl rfl (pc' := 520) rfl ?_
          refine own_iconst C X at_520 (v := 5) (by decide) (pc' := 521) rfl ?_
          refine own_baload C X at_521 A_bi (by decide) (i := 5) rfl (pc' := 522) rfl ?_
          refine own_aload C X at_522 rfl rfl (pc' := 524) rfl ?_
          refine own_iconst C X at_524 (v := 5) (by decide) (pc' := 525) rfl ?_
          refine own_baload C X at_525 A_be (by decide) (i := 5) rfl (pc' := 526) rfl ?_
          refine own_icmp_ne C X at_526 (pcT := 559) (pc' := 529) (by decide) (by decide) rfl (fun hc526 => absurd hc526 (not_not_intro ((own_e4_3 cp hz h1).trans e_x3))) (fun hc526 => ?_)
          refine own_aload C X at_529 rfl rfl (pc' := 531) rfl ?_
          refine own_bipush C X at_531 (v := 6) (by decide) (pc' := 533) rfl ?_
          refine own_baload C X at_533 A_bi (by decide) (i := 6) rfl (pc' := 534) rfl ?_
          refine own_aload C X at_534 rfl rfl (pc' := 536) rfl ?_
          refine own_bipush C X at_536 (v := 6) (by decide) (pc' := 538) rfl ?_
          refine own_baload C X at_538 A_be (by decide) (i := 6) rfl (pc' := 539) rfl ?_
          refine own_icmp_ne C X at_539 (pcT := 559) (pc' := 542) (by decide) (by decide) rfl (fun hc539 => absurd hc539 (not_not_intro rfl)) (fun hc539 => ?_)
          refine own_aload C X at_542 rfl rfl (pc' := 544) rfl ?_
          refine own_bipush C X at_544 (v := 7) (by decide) (pc' := 546) rfl ?_
          refine own_baload C X at_546 A_bi (by decide) (i := 7) rfl (pc' := 547) rfl ?_
          refine own_aload C X at_547 rfl rfl (pc' := 549) rfl ?_
          refine own_bipush C X at_549 (v := 7) (by decide) (pc' := 551) rfl ?_
          refine own_baload C X at_551 A_be (by decide) (i := 7) rfl (pc' := 552) rfl ?_
          refine own_icmp_ne C X at_552 (pcT := 559) (pc' := 555) (by decide) (by decide) rfl (fun hc552 => absurd hc552 (not_not_intro rfl)) (fun hc552 => ?_)
          refine own_iconst C X at_555 (v := 1) (by decide) (pc' := 556) rfl ?_
          refine own_goto C X at_556 (pc' := 560) (by decide) (by decide) ?_
          exact own_ireturn_z C X at_560 (Nat.le_of_ble_eq_true rfl) (Nat.le_of_ble_eq_true rfl) (rfl)
        · refine own_iload C X at_249 rfl (pc' := 251) rfl ?_
          refine own_iconst C X at_251 (v := 1) (by decide) (pc' := 252) rfl ?_
          refine own_icmp_ne C X at_252 (pcT := 266) (pc' := 255) (by decide) (by decide) rfl (fun hc252 => ?_) (fun hc252 => absurd hc252 (by decide))
          refine own_iload C X at_266 rfl (pc' := 268) rfl ?_
          refine own_iconst C X at_268 (v := 2) (by decide) (pc' := 269) rfl ?_
          refine own_icmp_ne C X at_269 (pcT := 307) (pc' := 272) (by decide) (by decide) rfl (fun hc269 => ?_) (fun hc269 => absurd hc269 (by decide))
          refine own_iload C X at_307 rfl (pc' := 309) rfl ?_
          refine own_iconst C X at_309 (v := 3) (by decide) (pc' := 310) rfl ?_
          refine own_icmp_ne C X at_310 (pcT := 369) (pc' := 313) (by decide) (by decide) rfl (fun hc310 => ?_) (fun hc310 => absurd hc310 (by decide))
          refine own_aload C X at_369 rfl rfl (pc' := 371) rfl ?_
          refine own_iload C X at_371 rfl (pc' := 373) rfl ?_
          refine own_sipush C X at_373 (v := 240) (by decide) (pc' := 376) rfl ?_
          refine own_iload C X at_376 rfl (pc' := 378) rfl ?_
          refine own_ldcI C X at_378 (hw _ (List.mem_of_getElem? (i := 8) rfl)) (pc' := 380) rfl ?_
          refine own_idiv C X at_380 (by decide) rfl (pc' := 381) rfl ?_
          refine own_iadd C X at_381 rfl (pc' := 382) rfl ?_
          obtain ⟨x0, e_x0⟩ : ∃ z : Int32, ((240 : Int32) + (cp / (262144 : Int32))).toInt8.toInt32 = z := ⟨_, rfl⟩
          refine own_i2b C X at_382 e_x0 (pc' := 383) rfl ?_
          refine own_bastore C X at_383 A_be (by decide) (i := 3) (Nat.le_of_ble_eq_true rfl) (own_i2bn e_x0) ge_be (pc' := 384) rfl ?_
          intro T h X K_ A_be_
          have A_be : own_IA Z h be .byte [t0, t1, t2, x0, t4, t5, t6, t7] := A_be_
          have A_bi := A_bi.keep K_ (ninS ne_bi_be nin0)
          refine own_aload C X at_384 rfl rfl (pc' := 386) rfl ?_
          refine own_iload C X at_386 rfl (pc' := 388) rfl ?_
          refine own_iconst C X at_388 (v := 1) (by decide) (pc' := 389) rfl ?_
          refine own_iadd C X at_389 (z := 4) (by decide) (pc' := 390) rfl ?_
          refine own_sipush C X at_390 (v := 128) (by decide) (pc' := 393) rfl ?_
          refine own_iload C X at_393 rfl (pc' := 395) rfl ?_
          refine own_sipush C X at_395 (v := 4096) (by decide) (pc' := 398) rfl ?_
          refine own_idiv C X at_398 (by decide) rfl (pc' := 399) rfl ?_
          refine own_bipush C X at_399 (v := 64) (by decide) (pc' := 401) rfl ?_
          refine own_irem C X at_401 (by decide) rfl (pc' := 402) rfl ?_
          refine own_iadd C X at_402 rfl (pc' := 403) rfl ?_
          obtain ⟨x1, e_x1⟩ : ∃ z : Int32, ((128 : Int32) + ((cp / (4096 : Int32)) % (64 : Int32))).toInt8.toInt32 = z := ⟨_, rfl⟩
          refine own_i2b C X at_403 e_x1 (pc' := 404) rfl ?_
          refine own_bastore C X at_404 A_be (by decide) (i := 4) (Nat.le_of_ble_eq_true rfl) (own_i2bn e_x1) ge_be (pc' := 405) rfl ?_
          intro T h X K_ A_be_
          have A_be : own_IA Z h be .byte [t0, t1, t2, x0, x1, t5, t6, t7] := A_be_
          have A_bi := A_bi.keep K_ (ninS ne_bi_be nin0)
          refine own_aload C X at_405 rfl rfl (pc' := 407) rfl ?_
          refine own_iload C X at_407 rfl (pc' := 409) rfl ?_
          refine own_iconst C X at_409 (v := 2) (by decide) (pc' := 410) rfl ?_
          refine own_iadd C X at_410 (z := 5) (by decide) (pc' := 411) rfl ?_
          refine own_sipush C X at_411 (v := 128) (by decide) (pc' := 414) rfl ?_
          refine own_iload C X at_414 rfl (pc' := 416) rfl ?_
          refine own_bipush C X at_416 (v := 64) (by decide) (pc' := 418) rfl ?_
          refine own_idiv C X at_418 (by decide) rfl (pc' := 419) rfl ?_
          refine own_bipush C X at_419 (v := 64) (by decide) (pc' := 421) rfl ?_
          refine own_irem C X at_421 (by decide) rfl (pc' := 422) rfl ?_
          refine own_iadd C X at_422 rfl (pc' := 423) rfl ?_
          obtain ⟨x2, e_x2⟩ : ∃ z : Int32, ((128 : Int32) + ((cp / (64 : Int32)) % (64 : Int32))).toInt8.toInt32 = z := ⟨_, rfl⟩
          refine own_i2b C X at_423 e_x2 (pc' := 424) rfl ?_
          refine own_bastore C X at_424 A_be (by decide) (i := 5) (Nat.le_of_ble_eq_true rfl) (own_i2bn e_x2) ge_be (pc' := 425) rfl ?_
          intro T h X K_ A_be_
          have A_be : own_IA Z h be .byte [t0, t1, t2, x0, x1, x2, t6, t7] := A_be_
          have A_bi := A_bi.keep K_ (ninS ne_bi_be nin0)
          refine own_aload C X at_425 rfl rfl (pc' := 427) rfl ?_
          refine own_iload C X at_427 rfl (pc' := 429) rfl ?_
          refine own_iconst C X at_429 (v := 3) (by decide) (pc' := 430) rfl ?_
          refine own_iadd C X at_430 (z := 6) (by decide) (pc' := 431) rfl ?_
          refine own_sipush C X at_431 (v := 128) (by decide) (pc' := 434) rfl ?_
          refine own_iload C X at_434 rfl (pc' := 436) rfl ?_
          refine own_bipush C X at_436 (v := 64) (by decide) (pc' := 438) rfl ?_
          refine own_irem C X at_438 (by decide) rfl (pc' := 439) rfl ?_
          refine own_iadd C X at_439 rfl (pc' := 440) rfl ?_
          obtain ⟨x3, e_x3⟩ : ∃ z : Int32, ((128 : Int32) + (cp % (64 : Int32))).toInt8.toInt32 = z := ⟨_, rfl⟩
          refine own_i2b C X at_440 e_x3 (pc' := 441) rfl ?_
          refine own_bastore C X at_441 A_be (by decide) (i := 6) (Nat.le_of_ble_eq_true rfl) (own_i2bn e_x3) ge_be (pc' := 442) rfl ?_
          intro T h X K_ A_be_
          have A_be : own_IA Z h be .byte [t0, t1, t2, x0, x1, x2, x3, t7] := A_be_
          have A_bi := A_bi.keep K_ (ninS ne_bi_be nin0)
          refine own_iload C X at_442 rfl (pc' := 444) rfl ?_
          refine own_aload C X at_444 rfl rfl (pc' := 446) rfl ?_
          refine own_iload C X at_446 rfl (pc' := 448) rfl ?_
          refine own_callS C X at_448 (own_m_enc4 l Z a0 hw cp bi (3 : Int32) _ n0 (own_big C X) [t0, t1, t2, t3, t4, t5, t6, t7] 3 A_bi (by decide) (Nat.le_of_ble_eq_true rfl) ge_bi 7 (by decide) q1 q2 q3) (hw _ (List.mem_of_getElem? (i := 2) rfl)) (hw _ (List.mem_of_getElem? (i := 3) rfl)) (hw _ (List.mem_of_getElem? (i := 4) rfl)) (hw _ (List.mem_of_getElem? (i := 5) rfl)) (by decide) own_pd_4587 rfl rfl (Nat.le_of_ble_eq_true rfl) (Nat.le_of_ble_eq_true rfl) (Nat.le_of_ble_eq_true rfl) (Nat.le_of_ble_eq_true rfl) (av := [(.int cp), (.ref bi), (.int (3 : Int32))]) (S := []) rfl (pc' := 451) rfl ?_
          intro T h v X hQ
          obtain ⟨rfl, K_, A_bi_⟩ := hQ
          have A_bi : own_IA Z h bi .byte [t0, t1, t2, ((240 : Int32) ||| ((cp.toUInt32 >>> ((18 : Int32) &&& 31).toUInt32).toInt32)).toInt8.toInt32, ((128 : Int32) ||| (((cp.toUInt32 >>> ((12 : Int32) &&& 31).toUInt32).toInt32) &&& (63 : Int32))).toInt8.toInt32, ((128 : Int32) ||| (((cp.toUInt32 >>> ((6 : Int32) &&& 31).toUInt32).toInt32) &&& (63 : Int32))).toInt8.toInt32, ((128 : Int32) ||| (cp &&& (63 : Int32))).toInt8.toInt32, t7] := A_bi_
          have A_be := A_be.keep K_ (ninS (Ne.symm ne_bi_be) nin0)
          show own_Go p e below n0 (own_Fin room_1 s (fun v h => v = some (.int 1))) (T.setTop (mkF m 451 #[.val (.int i0), .val (.int i1), .val (.int i2), .val (.int i3), .val (.int (i0 &&& (3 : Int32))), .val (.int (i1 &&& (2147483647 : Int32))), .val (.int cp), .val (.int (4 : Int32)), .val (.int (3 : Int32)), .val (.ref bi), .val (.ref be), .unset] [(.int (7 : Int32))]))
          refine own_istore C X at_451 (L' := #[.val (.int i0), .val (.int i1), .val (.int i2), .val (.int i3), .val (.int (i0 &&& (3 : Int32))), .val (.int (i1 &&& (2147483647 : Int32))), .val (.int cp), .val (.int (4 : Int32)), .val (.int (3 : Int32)), .val (.ref bi), .val (.ref be), .val (.int (7 : Int32))]) rfl (pc' := 453) rfl ?_
          refine own_iload C X at_453 rfl (pc' := 455) rfl ?_
          refine own_iload C X at_455 rfl (pc' := 457) rfl ?_
          refine own_iload C X at_457 rfl (pc' := 459) rfl ?_
          refine own_iadd C X at_459 (z := 7) (by decide) (pc' := 460) rfl ?_
          refine own_icmp_ne C X at_460 (pcT := 559) (pc' := 463) (by decide) (by decide) rfl (fun hc460 => absurd hc460 (by decide)) (fun hc460 => ?_)
          refine own_aload C X at_463 rfl rfl (pc' := 465) rfl ?_
          refine own_iconst C X at_465 (v := 0) (by decide) (pc' := 466) rfl ?_
          refine own_baload C X at_466 A_bi (by decide) (i := 0) rfl (pc' := 467) rfl ?_
          refine own_aload C X at_467 rfl rfl (pc' := 469) rfl ?_
          refine own_iconst C X at_469 (v := 0) (by decide) (pc' := 470) rfl ?_
          refine own_baload C X at_470 A_be (by decide) (i := 0) rfl (pc' := 471) rfl ?_
          refine own_icmp_ne C X at_471 (pcT := 559) (pc' := 474) (by decide) (by decide) rfl (fun hc471 => absurd hc471 (not_not_intro rfl)) (fun hc471 => ?_)
          refine own_aload C X at_474 rfl rfl (pc' := 476) rfl ?_
          refine own_iconst C X at_476 (v := 1) (by decide) (pc' := 477) rfl ?_
          refine own_baload C X at_477 A_bi (by decide) (i := 1) rfl (pc' := 478) rfl ?_
          refine own_aload C X at_478 rfl rfl (pc' := 480) rfl ?_
          refine own_iconst C X at_480 (v := 1) (by decide) (pc' := 481) rfl ?_
          refine own_baload C X at_481 A_be (by decide) (i := 1) rfl (pc' := 482) rfl ?_
          refine own_icmp_ne C X at_482 (pcT := 559) (pc' := 485) (by decide) (by decide) rfl (fun hc482 => absurd hc482 (not_not_intro rfl)) (fun hc482 => ?_)
          refine own_aload C X at_485 rfl rfl (pc' := 487) rfl ?_
          refine own_iconst C X at_487 (v := 2) (by decide) (pc' := 488) rfl ?_
          refine own_baload C X at_488 A_bi (by decide) (i := 2) rfl (pc' := 489) rfl ?_
          refine own_aload C X at_489 rfl rfl (pc' := 491) rfl ?_
          refine own_iconst C X at_491 (v := 2) (by decide) (pc' := 492) rfl ?_
          refine own_baload C X at_492 A_be (by decide) (i := 2) rfl (pc' := 493) rfl ?_
          refine own_icmp_ne C X at_493 (pcT := 559) (pc' := 496) (by decide) (by decide) rfl (fun hc493 => absurd hc493 (not_not_intro rfl)) (fun hc493 => ?_)
          refine own_aload C X at_496 rfl rfl (pc' := 498) rfl ?_
          refine own_iconst C X at_498 (v := 3) (by decide) (pc' := 499) rfl ?_
          refine own_baload C X at_499 A_bi (by decide) (i := 3) rfl (pc' := 500) rfl ?_
          refine own_aload C X at_500 rfl rfl (pc' := 502) rfl ?_
          refine own_iconst C X at_502 (v := 3) (by decide) (pc' := 503) rfl ?_
          refine own_baload C X at_503 A_be (by decide) (i := 3) rfl (pc' := 504) rfl ?_
          refine own_icmp_ne C X at_504 (pcT := 559) (pc' := 507) (by decide) (by decide) rfl (fun hc504 => absurd hc504 (not_not_intro ((own_e4_0 cp hz h1).trans e_x0))) (fun hc504 => ?_)
          refine own_aload C X at_507 rfl rfl (pc' := 509) rfl ?_
          refine own_iconst C X at_509 (v := 4) (by decide) (pc' := 510) rfl ?_
          refine own_baload C X at_510 A_bi (by decide) (i := 4) rfl (pc' := 511) rfl ?_
          refine own_aload C X at_511 rfl rfl (pc' := 513) rfl ?_
          refine own_iconst C X at_513 (v := 4) (by decide) (pc' := 514) rfl ?_
          refine own_baload C X at_514 A_be (by decide) (i := 4) rfl (pc' := 515) rfl ?_
          refine own_icmp_ne C X at_515 (pcT := 559) (pc' := 518) (by decide) (by decide) rfl (fun hc515 => absurd hc515 (not_not_intro ((own_e4_1 cp hz h1).trans e_x1))) (fun hc515 => ?_)
          refine own_aload C X at_518 rfl rfl (pc' := 520) rfl ?_
          refine own_iconst C X at_520 (v := 5) (by decide) (pc' := 521) rfl ?_
          refine own_baload C X at_521 A_bi (by decide) (i := 5) rfl (pc' := 522) rfl ?_
          refine own_aload C X at_522 rfl rfl (pc' := 524) rfl ?_
          refine own_iconst C X at_524 (v := 5) (by decide) (pc' := 525) rfl ?_
          refine own_baload C X at_525 A_be (by decide) (i := 5) rfl (pc' := 526) rfl ?_
          refine own_icmp_ne C X at_526 (pcT := 559) (pc' := 529) (by decide) (by decide) rfl (fun hc526 => absurd hc526 (not_not_intro ((own_e4_2 cp hz h1).trans e_x2))) (fun hc526 => ?_)
          refine own_aload C X at_529 rfl rfl (pc' := 531) rfl ?_
          refine own_bipush C X at_531 (v := 6) (by decide) (pc' := 533) rfl ?_
          refine own_baload C X at_533 A_bi (by decide) (i := 6) rfl (pc' := 534) rfl ?_
          refine own_aload C X at_534 rfl rfl (pc' := 536) rfl ?_
          refine own_bipush C X at_536 (v := 6) (by decide) (pc' := 538) rfl ?_
          refine own_baload C X at_538 A_be (by decide) (i := 6) rfl (pc' := 539) rfl ?_
          refine own_icmp_ne C X at_539 (pcT := 559) (pc' := 542) (by decide) (by decide) rfl (fun hc539 => absurd hc539 (not_not_intro ((own_e4_3 cp hz h1).trans e_x3))) (fun hc539 => ?_)
          refine own_aload C X at_542 rfl rfl (pc' := 544) rfl ?_
          refine own_bipush C X at_544 (v := 7) (by decide) (pc' := 546) rfl ?_
          refine own_baload C X at_546 A_bi (by decide) (i := 7) rfl (pc' := 547) rfl ?_
          refine own_aload C X at_547 rfl rfl (pc' := 549) rfl ?_
          refine own_bipush C X at_549 (v := 7) (by decide) (pc' := 551) rfl ?_
          refine own_baload C X at_551 A_be (by decide) (i := 7) rfl (pc' := 552) rfl ?_
          refine own_icmp_ne C X at_552 (pcT := 559) (pc' := 555) (by decide) (by decide) rfl (fun hc552 => absurd hc552 (not_not_intro rfl)) (fun hc552 => ?_)
          refine own_iconst C X at_555 (v := 1) (by decide) (pc' := 556) rfl ?_
          refine own_goto C X at_556 (pc' := 560) (by decide) (by decide) ?_
          exact own_ireturn_z C X at_560 (Nat.le_of_ble_eq_true rfl) (Nat.le_of_ble_eq_true rfl) (rfl)
      · refine own_sipush C X at_60 (v := 2048) (by decide) (pc' := 63) rfl ?_
        refine own_iload C X at_63 rfl (pc' := 65) rfl ?_
        refine own_ldcI C X at_65 (hw _ (List.mem_of_getElem? (i := 10) rfl)) (pc' := 67) rfl ?_
        refine own_irem C X at_67 (by decide) rfl (pc' := 68) rfl ?_
        obtain ⟨cp, e_cp⟩ : ∃ z : Int32, ((2048 : Int32) + ((i1 &&& (2147483647 : Int32)) % (63488 : Int32))) = z := ⟨_, rfl⟩
        refine own_iadd C X at_68 e_cp (pc' := 69) rfl ?_
        obtain ⟨f1, h1⟩ := own_base i1 (2048 : Int32) (63488 : Int32) (by decide) (by decide) (by decide)
        rw [e_cp] at f1 h1
        replace h1 : cp.toInt < (65536 : Int) := h1
        replace f1 : (2048 : Int) ≤ cp.toInt := f1
        have hz : 0 ≤ cp.toInt := by omega
        have q1 : ¬ cp < 128 := fun q => by have := own_lt1.mp q; omega
        have q2 : ¬ cp < 2048 := fun q => by have := own_lt2.mp q; omega
        have q3 : cp < 65536 := own_lt3.mpr h1
        refine own_istore C X at_69 (L' := #[.val (.int i0), .val (.int i1), .val (.int i2), .val (.int i3), .val (.int (i0 &&& (3 : Int32))), .val (.int (i1 &&& (2147483647 : Int32))), .val (.int cp), .unset, .unset, .unset, .unset, .unset]) rfl (pc' := 71) rfl ?_
        refine own_iconst C X at_71 (v := 3) (by decide) (pc' := 72) rfl ?_
        refine own_istore C X at_72 (L' := #[.val (.int i0), .val (.int i1), .val (.int i2), .val (.int i3), .val (.int (i0 &&& (3 : Int32))), .val (.int (i1 &&& (2147483647 : Int32))), .val (.int cp), .val (.int (3 : Int32)), .unset, .unset, .unset, .unset]) rfl (pc' := 74) rfl ?_
        refine own_goto C X at_74 (pc' := 90) (by decide) (by decide) ?_
        refine own_iloadN C X at_90 rfl (pc' := 91) rfl ?_
        refine own_iconst C X at_91 (v := 3) (by decide) (pc' := 92) rfl ?_
        obtain ⟨off, e_off⟩ : ∃ z : Int32, (i2 &&& (3 : Int32)) = z := ⟨_, rfl⟩
        refine own_iand C X at_92 e_off (pc' := 93) rfl ?_
        refine own_istore C X at_93 (L' := #[.val (.int i0), .val (.int i1), .val (.int i2), .val (.int i3), .val (.int (i0 &&& (3 : Int32))), .val (.int (i1 &&& (2147483647 : Int32))), .val (.int cp), .val (.int (3 : Int32)), .val (.int off), .unset, .unset, .unset]) rfl (pc' := 95) rfl ?_
        refine own_bipush C X at_95 (v := 8) (by decide) (pc' := 97) rfl ?_
        refine own_newI C X at_97 (ty := .byte) rfl (hw _ (List.mem_of_getElem? (i := 1) rfl)) (by decide) (k := 8) (cap := 8) (Nat.le_of_ble_eq_true rfl) (by decide) (Nat.le_of_ble_eq_true rfl) (Nat.le_of_ble_eq_true rfl) rfl rfl (pc' := 99) rfl ?_
        intro T h bi e_bi X K_ ge_bi A_bi_
        have A_bi : own_IA Z h bi .byte [(0 : Int32), (0 : Int32), (0 : Int32), (0 : Int32), (0 : Int32), (0 : Int32), (0 : Int32), (0 : Int32)] := A_bi_
        refine own_astore C X at_99 rfl (L' := #[.val (.int i0), .val (.int i1), .val (.int i2), .val (.int i3), .val (.int (i0 &&& (3 : Int32))), .val (.int (i1 &&& (2147483647 : Int32))), .val (.int cp), .val (.int (3 : Int32)), .val (.int off), .val (.ref bi), .unset, .unset]) rfl (pc' := 101) rfl ?_
        refine own_bipush C X at_101 (v := 8) (by decide) (pc' := 103) rfl ?_
        refine own_newI C X at_103 (ty := .byte) rfl (hw _ (List.mem_of_getElem? (i := 1) rfl)) (by decide) (k := 8) (cap := 8) (Nat.le_of_ble_eq_true rfl) (by decide) (Nat.le_of_ble_eq_true rfl) (Nat.le_of_ble_eq_true rfl) rfl rfl (pc' := 105) rfl ?_
        intro T h be e_be X K_ ge_be A_be_
        have ne_bi_be : bi ≠ be := by rw [e_be]; exact Nat.ne_of_lt A_bi.lt
        have A_be : own_IA Z h be .byte [(0 : Int32), (0 : Int32), (0 : Int32), (0 : Int32), (0 : Int32), (0 : Int32), (0 : Int32), (0 : Int32)] := A_be_
        have A_bi := A_bi.keep K_ nin0
        refine own_astore C X at_105 rfl (L' := #[.val (.int i0), .val (.int i1), .val (.int i2), .val (.int i3), .val (.int (i0 &&& (3 : Int32))), .val (.int (i1 &&& (2147483647 : Int32))), .val (.int cp), .val (.int (3 : Int32)), .val (.int off), .val (.ref bi), .val (.ref be), .unset]) rfl (pc' := 107) rfl ?_
        refine own_aload C X at_107 rfl rfl (pc' := 109) rfl ?_
        refine own_iconst C X at_109 (v := 0) (by decide) (pc' := 110) rfl ?_
        refine own_iloadN C X at_110 rfl (pc' := 111) rfl ?_
        obtain ⟨t0, e_t0⟩ : ∃ z : Int32, i3.toInt8.toInt32 = z := ⟨_, rfl⟩
        refine own_i2b C X at_111 e_t0 (pc' := 112) rfl ?_
        refine own_bastore C X at_112 A_bi (by decide) (i := 0) (Nat.le_of_ble_eq_true rfl) (own_i2bn e_t0) ge_bi (pc' := 113) rfl ?_
        intro T h X K_ A_bi_
        have A_bi : own_IA Z h bi .byte [t0, (0 : Int32), (0 : Int32), (0 : Int32), (0 : Int32), (0 : Int32), (0 : Int32), (0 : Int32)] := A_bi_
        have A_be := A_be.keep K_ (ninS (Ne.symm ne_bi_be) nin0)
        refine own_aload C X at_113 rfl rfl (pc' := 115) rfl ?_
        refine own_iconst C X at_115 (v := 1) (by decide) (pc' := 116) rfl ?_
        refine own_iloadN C X at_116 rfl (pc' := 117) rfl ?_
        refine own_bipush C X at_117 (v := 31) (by decide) (pc' := 119) rfl ?_
        refine own_iadd C X at_119 rfl (pc' := 120) rfl ?_
        obtain ⟨t1, e_t1⟩ : ∃ z : Int32, (i3 + (31 : Int32)).toInt8.toInt32 = z := ⟨_, rfl⟩
        refine own_i2b C X at_120 e_t1 (pc' := 121) rfl ?_
        refine own_bastore C X at_121 A_bi (by decide) (i := 1) (Nat.le_of_ble_eq_true rfl) (own_i2bn e_t1) ge_bi (pc' := 122) rfl ?_
        intro T h X K_ A_bi_
        have A_bi : own_IA Z h bi .byte [t0, t1, (0 : Int32), (0 : Int32), (0 : Int32), (0 : Int32), (0 : Int32), (0 : Int32)] := A_bi_
        have A_be := A_be.keep K_ (ninS (Ne.symm ne_bi_be) nin0)
        refine own_aload C X at_122 rfl rfl (pc' := 124) rfl ?_
        refine own_iconst C X at_124 (v := 2) (by decide) (pc' := 125) rfl ?_
        refine own_iloadN C X at_125 rfl (pc' := 126) rfl ?_
        refine own_bipush C X at_126 (v := 62) (by decide) (pc' := 128) rfl ?_
        refine own_iadd C X at_128 rfl (pc' := 129) rfl ?_
        obtain ⟨t2, e_t2⟩ : ∃ z : Int32, (i3 + (62 : Int32)).toInt8.toInt32 = z := ⟨_, rfl⟩
        refine own_i2b C X at_129 e_t2 (pc' := 130) rfl ?_
        refine own_bastore C X at_130 A_bi (by decide) (i := 2) (Nat.le_of_ble_eq_true rfl) (own_i2bn e_t2) ge_bi (pc' := 131) rfl ?_
        intro T h X K_ A_bi_
        have A_bi : own_IA Z h bi .byte [t0, t1, t2, (0 : Int32), (0 : Int32), (0 : Int32), (0 : Int32), (0 : Int32)] := A_bi_
        have A_be := A_be.keep K_ (ninS (Ne.symm ne_bi_be) nin0)
        refine own_aload C X at_131 rfl rfl (pc' := 133) rfl ?_
        refine own_iconst C X at_133 (v := 3) (by decide) (pc' := 134) rfl ?_
        refine own_iloadN C X at_134 rfl (pc' := 135) rfl ?_
        refine own_bipush C X at_135 (v := 93) (by decide) (pc' := 137) rfl ?_
        refine own_iadd C X at_137 rfl (pc' := 138) rfl ?_
        obtain ⟨t3, e_t3⟩ : ∃ z : Int32, (i3 + (93 : Int32)).toInt8.toInt32 = z := ⟨_, rfl⟩
        refine own_i2b C X at_138 e_t3 (pc' := 139) rfl ?_
        refine own_bastore C X at_139 A_bi (by decide) (i := 3) (Nat.le_of_ble_eq_true rfl) (own_i2bn e_t3) ge_bi (pc' := 140) rfl ?_
        intro T h X K_ A_bi_
        have A_bi : own_IA Z h bi .byte [t0, t1, t2, t3, (0 : Int32), (0 : Int32), (0 : Int32), (0 : Int32)] := A_bi_
        have A_be := A_be.keep K_ (ninS (Ne.symm ne_bi_be) nin0)
        refine own_aload C X at_140 rfl rfl (pc' := 142) rfl ?_
        refine own_iconst C X at_142 (v := 4) (by decide) (pc' := 143) rfl ?_
        refine own_iloadN C X at_143 rfl (pc' := 144) rfl ?_
        refine own_bipush C X at_144 (v := 124) (by decide) (pc' := 146) rfl ?_
        refine own_iadd C X at_146 rfl (pc' := 147) rfl ?_
        obtain ⟨t4, e_t4⟩ : ∃ z : Int32, (i3 + (124 : Int32)).toInt8.toInt32 = z := ⟨_, rfl⟩
        refine own_i2b C X at_147 e_t4 (pc' := 148) rfl ?_
        refine own_bastore C X at_148 A_bi (by decide) (i := 4) (Nat.le_of_ble_eq_true rfl) (own_i2bn e_t4) ge_bi (pc' := 149) rfl ?_
        intro T h X K_ A_bi_
        have A_bi : own_IA Z h bi .byte [t0, t1, t2, t3, t4, (0 : Int32), (0 : Int32), (0 : Int32)] := A_bi_
        have A_be := A_be.keep K_ (ninS (Ne.symm ne_bi_be) nin0)
        refine own_aload C X at_149 rfl rfl (pc' := 151) rfl ?_
        refine own_iconst C X at_151 (v := 5) (by decide) (pc' := 152) rfl ?_
        refine own_iloadN C X at_152 rfl (pc' := 153) rfl ?_
        refine own_sipush C X at_153 (v := 155) (by decide) (pc' := 156) rfl ?_
        refine own_iadd C X at_156 rfl (pc' := 157) rfl ?_
        obtain ⟨t5, e_t5⟩ : ∃ z : Int32, (i3 + (155 : Int32)).toInt8.toInt32 = z := ⟨_, rfl⟩
        refine own_i2b C X at_157 e_t5 (pc' := 158) rfl ?_
        refine own_bastore C X at_158 A_bi (by decide) (i := 5) (Nat.le_of_ble_eq_true rfl) (own_i2bn e_t5) ge_bi (pc' := 159) rfl ?_
        intro T h X K_ A_bi_
        have A_bi : own_IA Z h bi .byte [t0, t1, t2, t3, t4, t5, (0 : Int32), (0 : Int32)] := A_bi_
        have A_be := A_be.keep K_ (ninS (Ne.symm ne_bi_be) nin0)
        refine own_aload C X at_159 rfl rfl (pc' := 161) rfl ?_
        refine own_bipush C X at_161 (v := 6) (by decide) (pc' := 163) rfl ?_
        refine own_iloadN C X at_163 rfl (pc' := 164) rfl ?_
        refine own_sipush C X at_164 (v := 186) (by decide) (pc' := 167) rfl ?_
        refine own_iadd C X at_167 rfl (pc' := 168) rfl ?_
        obtain ⟨t6, e_t6⟩ : ∃ z : Int32, (i3 + (186 : Int32)).toInt8.toInt32 = z := ⟨_, rfl⟩
        refine own_i2b C X at_168 e_t6 (pc' := 169) rfl ?_
        refine own_bastore C X at_169 A_bi (by decide) (i := 6) (Nat.le_of_ble_eq_true rfl) (own_i2bn e_t6) ge_bi (pc' := 170) rfl ?_
        intro T h X K_ A_bi_
        have A_bi : own_IA Z h bi .byte [t0, t1, t2, t3, t4, t5, t6, (0 : Int32)] := A_bi_
        have A_be := A_be.keep K_ (ninS (Ne.symm ne_bi_be) nin0)
        refine own_aload C X at_170 rfl rfl (pc' := 172) rfl ?_
        refine own_bipush C X at_172 (v := 7) (by decide) (pc' := 174) rfl ?_
        refine own_iloadN C X at_174 rfl (pc' := 175) rfl ?_
        refine own_sipush C X at_175 (v := 217) (by decide) (pc' := 178) rfl ?_
        refine own_iadd C X at_178 rfl (pc' := 179) rfl ?_
        obtain ⟨t7, e_t7⟩ : ∃ z : Int32, (i3 + (217 : Int32)).toInt8.toInt32 = z := ⟨_, rfl⟩
        refine own_i2b C X at_179 e_t7 (pc' := 180) rfl ?_
        refine own_bastore C X at_180 A_bi (by decide) (i := 7) (Nat.le_of_ble_eq_true rfl) (own_i2bn e_t7) ge_bi (pc' := 181) rfl ?_
        intro T h X K_ A_bi_
        have A_bi : own_IA Z h bi .byte [t0, t1, t2, t3, t4, t5, t6, t7] := A_bi_
        have A_be := A_be.keep K_ (ninS (Ne.symm ne_bi_be) nin0)
        refine own_aload C X at_181 rfl rfl (pc' := 183) rfl ?_
        refine own_iconst C X at_183 (v := 0) (by decide) (pc' := 184) rfl ?_
        refine own_aload C X at_184 rfl rfl (pc' := 186) rfl ?_
        refine own_iconst C X at_186 (v := 0) (by decide) (pc' := 187) rfl ?_
        refine own_baload C X at_187 A_bi (by decide) (i := 0) rfl (pc' := 188) rfl ?_
        refine own_bastore C X at_188 A_be (by decide) (i := 0) (Nat.le_of_ble_eq_true rfl) (own_i2bn e_t0) ge_be (pc' := 189) rfl ?_
        intro T h X K_ A_be_
        have A_be : own_IA Z h be .byte [t0, (0 : Int32), (0 : Int32), (0 : Int32), (0 : Int32), (0 : Int32), (0 : Int32), (0 : Int32)] := A_be_
        have A_bi := A_bi.keep K_ (ninS ne_bi_be nin0)
        refine own_aload C X at_189 rfl rfl (pc' := 191) rfl ?_
        refine own_iconst C X at_191 (v := 1) (by decide) (pc' := 192) rfl ?_
        refine own_aload C X at_192 rfl rfl (pc' := 194) rfl ?_
        refine own_iconst C X at_194 (v := 1) (by decide) (pc' := 195) rfl ?_
        refine own_baload C X at_195 A_bi (by decide) (i := 1) rfl (pc' := 196) rfl ?_
        refine own_bastore C X at_196 A_be (by decide) (i := 1) (Nat.le_of_ble_eq_true rfl) (own_i2bn e_t1) ge_be (pc' := 197) rfl ?_
        intro T h X K_ A_be_
        have A_be : own_IA Z h be .byte [t0, t1, (0 : Int32), (0 : Int32), (0 : Int32), (0 : Int32), (0 : Int32), (0 : Int32)] := A_be_
        have A_bi := A_bi.keep K_ (ninS ne_bi_be nin0)
        refine own_aload C X at_197 rfl rfl (pc' := 199) rfl ?_
        refine own_iconst C X at_199 (v := 2) (by decide) (pc' := 200) rfl ?_
        refine own_aload C X at_200 rfl rfl (pc' := 202) rfl ?_
        refine own_iconst C X at_202 (v := 2) (by decide) (pc' := 203) rfl ?_
        refine own_baload C X at_203 A_bi (by decide) (i := 2) rfl (pc' := 204) rfl ?_
        refine own_bastore C X at_204 A_be (by decide) (i := 2) (Nat.le_of_ble_eq_true rfl) (own_i2bn e_t2) ge_be (pc' := 205) rfl ?_
        intro T h X K_ A_be_
        have A_be : own_IA Z h be .byte [t0, t1, t2, (0 : Int32), (0 : Int32), (0 : Int32), (0 : Int32), (0 : Int32)] := A_be_
        have A_bi := A_bi.keep K_ (ninS ne_bi_be nin0)
        refine own_aload C X at_205 rfl rfl (pc' := 207) rfl ?_
        refine own_iconst C X at_207 (v := 3) (by decide) (pc' := 208) rfl ?_
        refine own_aload C X at_208 rfl rfl (pc' := 210) rfl ?_
        refine own_iconst C X at_210 (v := 3) (by decide) (pc' := 211) rfl ?_
        refine own_baload C X at_211 A_bi (by decide) (i := 3) rfl (pc' := 212) rfl ?_
        refine own_bastore C X at_212 A_be (by decide) (i := 3) (Nat.le_of_ble_eq_true rfl) (own_i2bn e_t3) ge_be (pc' := 213) rfl ?_
        intro T h X K_ A_be_
        have A_be : own_IA Z h be .byte [t0, t1, t2, t3, (0 : Int32), (0 : Int32), (0 : Int32), (0 : Int32)] := A_be_
        have A_bi := A_bi.keep K_ (ninS ne_bi_be nin0)
        refine own_aload C X at_213 rfl rfl (pc' := 215) rfl ?_
        refine own_iconst C X at_215 (v := 4) (by decide) (pc' := 216) rfl ?_
        refine own_aload C X at_216 rfl rfl (pc' := 218) rfl ?_
        refine own_iconst C X at_218 (v := 4) (by decide) (pc' := 219) rfl ?_
        refine own_baload C X at_219 A_bi (by decide) (i := 4) rfl (pc' := 220) rfl ?_
        refine own_bastore C X at_220 A_be (by decide) (i := 4) (Nat.le_of_ble_eq_true rfl) (own_i2bn e_t4) ge_be (pc' := 221) rfl ?_
        intro T h X K_ A_be_
        have A_be : own_IA Z h be .byte [t0, t1, t2, t3, t4, (0 : Int32), (0 : Int32), (0 : Int32)] := A_be_
        have A_bi := A_bi.keep K_ (ninS ne_bi_be nin0)
        refine own_aload C X at_221 rfl rfl (pc' := 223) rfl ?_
        refine own_iconst C X at_223 (v := 5) (by decide) (pc' := 224) rfl ?_
        refine own_aload C X at_224 rfl rfl (pc' := 226) rfl ?_
        refine own_iconst C X at_226 (v := 5) (by decide) (pc' := 227) rfl ?_
        refine own_baload C X at_227 A_bi (by decide) (i := 5) rfl (pc' := 228) rfl ?_
        refine own_bastore C X at_228 A_be (by decide) (i := 5) (Nat.le_of_ble_eq_true rfl) (own_i2bn e_t5) ge_be (pc' := 229) rfl ?_
        intro T h X K_ A_be_
        have A_be : own_IA Z h be .byte [t0, t1, t2, t3, t4, t5, (0 : Int32), (0 : Int32)] := A_be_
        have A_bi := A_bi.keep K_ (ninS ne_bi_be nin0)
        refine own_aload C X at_229 rfl rfl (pc' := 231) rfl ?_
        refine own_bipush C X at_231 (v := 6) (by decide) (pc' := 233) rfl ?_
        refine own_aload C X at_233 rfl rfl (pc' := 235) rfl ?_
        refine own_bipush C X at_235 (v := 6) (by decide) (pc' := 237) rfl ?_
        refine own_baload C X at_237 A_bi (by decide) (i := 6) rfl (pc' := 238) rfl ?_
        refine own_bastore C X at_238 A_be (by decide) (i := 6) (Nat.le_of_ble_eq_true rfl) (own_i2bn e_t6) ge_be (pc' := 239) rfl ?_
        intro T h X K_ A_be_
        have A_be : own_IA Z h be .byte [t0, t1, t2, t3, t4, t5, t6, (0 : Int32)] := A_be_
        have A_bi := A_bi.keep K_ (ninS ne_bi_be nin0)
        refine own_aload C X at_239 rfl rfl (pc' := 241) rfl ?_
        refine own_bipush C X at_241 (v := 7) (by decide) (pc' := 243) rfl ?_
        refine own_aload C X at_243 rfl rfl (pc' := 245) rfl ?_
        refine own_bipush C X at_245 (v := 7) (by decide) (pc' := 247) rfl ?_
        refine own_baload C X at_247 A_bi (by decide) (i := 7) rfl (pc' := 248) rfl ?_
        refine own_bastore C X at_248 A_be (by decide) (i := 7) (Nat.le_of_ble_eq_true rfl) (own_i2bn e_t7) ge_be (pc' := 249) rfl ?_
        intro T h X K_ A_be_
        have A_be : own_IA Z h be .byte [t0, t1, t2, t3, t4, t5, t6, t7] := A_be_
        have A_bi := A_bi.keep K_ (ninS ne_bi_be nin0)
        rcases own_at4 i2 off e_off with rfl | rfl | rfl | rfl
        · refine own_iload C X at_249 rfl (pc' := 251) rfl ?_
          refine own_iconst C X at_251 (v := 1) (by decide) (pc' := 252) rfl ?_
          refine own_icmp_ne C X at_252 (pcT := 266) (pc' := 255) (by decide) (by decide) rfl (fun hc252 => ?_) (fun hc252 => absurd hc252 (by decide))
          refine own_iload C X at_266 rfl (pc' := 268) rfl ?_
          refine own_iconst C X at_268 (v := 2) (by decide) (pc' := 269) rfl ?_
          refine own_icmp_ne C X at_269 (pcT := 307) (pc' := 272) (by decide) (by decide) rfl (fun hc269 => ?_) (fun hc269 => absurd hc269 (by decide))
          refine own_iload C X at_307 rfl (pc' := 309) rfl ?_
          refine own_iconst C X at_309 (v := 3) (by decide) (pc' := 310) rfl ?_
          refine own_icmp_ne C X at_310 (pcT := 369) (pc' := 313) (by decide) (by decide) rfl (fun hc310 => absurd hc310 (by decide)) (fun hc310 => ?_)
          refine own_aload C X at_313 rfl rfl (pc' := 315) rfl ?_
          refine own_iload C X at_315 rfl (pc' := 317) rfl ?_
          refine own_sipush C X at_317 (v := 224) (by decide) (pc' := 320) rfl ?_
          refine own_iload C X at_320 rfl (pc' := 322) rfl ?_
          refine own_sipush C X at_322 (v := 4096) (by decide) (pc' := 325) rfl ?_
          refine own_idiv C X at_325 (by decide) rfl (pc' := 326) rfl ?_
          refine own_iadd C X at_326 rfl (pc' := 327) rfl ?_
          obtain ⟨x0, e_x0⟩ : ∃ z : Int32, ((224 : Int32) + (cp / (4096 : Int32))).toInt8.toInt32 = z := ⟨_, rfl⟩
          refine own_i2b C X at_327 e_x0 (pc' := 328) rfl ?_
          refine own_bastore C X at_328 A_be (by decide) (i := 0) (Nat.le_of_ble_eq_true rfl) (own_i2bn e_x0) ge_be (pc' := 329) rfl ?_
          intro T h X K_ A_be_
          have A_be : own_IA Z h be .byte [x0, t1, t2, t3, t4, t5, t6, t7] := A_be_
          have A_bi := A_bi.keep K_ (ninS ne_bi_be nin0)
          refine own_aload C X at_329 rfl rfl (pc' := 331) rfl ?_
          refine own_iload C X at_331 rfl (pc' := 333) rfl ?_
          refine own_iconst C X at_333 (v := 1) (by decide) (pc' := 334) rfl ?_
          refine own_iadd C X at_334 (z := 1) (by decide) (pc' := 335) rfl ?_
          refine own_sipush C X at_335 (v := 128) (by decide) (pc' := 338) rfl ?_
          refine own_iload C X at_338 rfl (pc' := 340) rfl ?_
          refine own_bipush C X at_340 (v := 64) (by decide) (pc' := 342) rfl ?_
          refine own_idiv C X at_342 (by decide) rfl (pc' := 343) rfl ?_
          refine own_bipush C X at_343 (v := 64) (by decide) (pc' := 345) rfl ?_
          refine own_irem C X at_345 (by decide) rfl (pc' := 346) rfl ?_
          refine own_iadd C X at_346 rfl (pc' := 347) rfl ?_
          obtain ⟨x1, e_x1⟩ : ∃ z : Int32, ((128 : Int32) + ((cp / (64 : Int32)) % (64 : Int32))).toInt8.toInt32 = z := ⟨_, rfl⟩
          refine own_i2b C X at_347 e_x1 (pc' := 348) rfl ?_
          refine own_bastore C X at_348 A_be (by decide) (i := 1) (Nat.le_of_ble_eq_true rfl) (own_i2bn e_x1) ge_be (pc' := 349) rfl ?_
          intro T h X K_ A_be_
          have A_be : own_IA Z h be .byte [x0, x1, t2, t3, t4, t5, t6, t7] := A_be_
          have A_bi := A_bi.keep K_ (ninS ne_bi_be nin0)
          refine own_aload C X at_349 rfl rfl (pc' := 351) rfl ?_
          refine own_iload C X at_351 rfl (pc' := 353) rfl ?_
          refine own_iconst C X at_353 (v := 2) (by decide) (pc' := 354) rfl ?_
          refine own_iadd C X at_354 (z := 2) (by decide) (pc' := 355) rfl ?_
          refine own_sipush C X at_355 (v := 128) (by decide) (pc' := 358) rfl ?_
          refine own_iload C X at_358 rfl (pc' := 360) rfl ?_
          refine own_bipush C X at_360 (v := 64) (by decide) (pc' := 362) rfl ?_
          refine own_irem C X at_362 (by decide) rfl (pc' := 363) rfl ?_
          refine own_iadd C X at_363 rfl (pc' := 364) rfl ?_
          obtain ⟨x2, e_x2⟩ : ∃ z : Int32, ((128 : Int32) + (cp % (64 : Int32))).toInt8.toInt32 = z := ⟨_, rfl⟩
          refine own_i2b C X at_364 e_x2 (pc' := 365) rfl ?_
          refine own_bastore C X at_365 A_be (by decide) (i := 2) (Nat.le_of_ble_eq_true rfl) (own_i2bn e_x2) ge_be (pc' := 366) rfl ?_
          intro T h X K_ A_be_
          have A_be : own_IA Z h be .byte [x0, x1, x2, t3, t4, t5, t6, t7] := A_be_
          have A_bi := A_bi.keep K_ (ninS ne_bi_be nin0)
          refine own_goto C X at_366 (pc' := 442) (by decide) (by decide) ?_
          refine own_iload C X at_442 rfl (pc' := 444) rfl ?_
          refine own_aload C X at_444 rfl rfl (pc' := 446) rfl ?_
          refine own_iload C X at_446 rfl (pc' := 448) rfl ?_
          refine own_callS C X at_448 (own_m_enc3 l Z a0 hw cp bi (0 : Int32) _ n0 (own_big C X) [t0, t1, t2, t3, t4, t5, t6, t7] 0 A_bi (by decide) (Nat.le_of_ble_eq_true rfl) ge_bi 3 (by decide) q1 q2 q3) (hw _ (List.mem_of_getElem? (i := 2) rfl)) (hw _ (List.mem_of_getElem? (i := 3) rfl)) (hw _ (List.mem_of_getElem? (i := 4) rfl)) (hw _ (List.mem_of_getElem? (i := 5) rfl)) (by decide) own_pd_4587 rfl rfl (Nat.le_of_ble_eq_true rfl) (Nat.le_of_ble_eq_true rfl) (Nat.le_of_ble_eq_true rfl) (Nat.le_of_ble_eq_true rfl) (av := [(.int cp), (.ref bi), (.int (0 : Int32))]) (S := []) rfl (pc' := 451) rfl ?_
          intro T h v X hQ
          obtain ⟨rfl, K_, A_bi_⟩ := hQ
          have A_bi : own_IA Z h bi .byte [((224 : Int32) ||| ((cp.toUInt32 >>> ((12 : Int32) &&& 31).toUInt32).toInt32)).toInt8.toInt32, ((128 : Int32) ||| (((cp.toUInt32 >>> ((6 : Int32) &&& 31).toUInt32).toInt32) &&& (63 : Int32))).toInt8.toInt32, ((128 : Int32) ||| (cp &&& (63 : Int32))).toInt8.toInt32, t3, t4, t5, t6, t7] := A_bi_
          have A_be := A_be.keep K_ (ninS (Ne.symm ne_bi_be) nin0)
          show own_Go p e below n0 (own_Fin room_1 s (fun v h => v = some (.int 1))) (T.setTop (mkF m 451 #[.val (.int i0), .val (.int i1), .val (.int i2), .val (.int i3), .val (.int (i0 &&& (3 : Int32))), .val (.int (i1 &&& (2147483647 : Int32))), .val (.int cp), .val (.int (3 : Int32)), .val (.int (0 : Int32)), .val (.ref bi), .val (.ref be), .unset] [(.int (3 : Int32))]))
          refine own_istore C X at_451 (L' := #[.val (.int i0), .val (.int i1), .val (.int i2), .val (.int i3), .val (.int (i0 &&& (3 : Int32))), .val (.int (i1 &&& (2147483647 : Int32))), .val (.int cp), .val (.int (3 : Int32)), .val (.int (0 : Int32)), .val (.ref bi), .val (.ref be), .val (.int (3 : Int32))]) rfl (pc' := 453) rfl ?_
          refine own_iload C X at_453 rfl (pc' := 455) rfl ?_
          refine own_iload C X at_455 rfl (pc' := 457) rfl ?_
          refine own_iload C X at_457 rfl (pc' := 459) rfl ?_
          refine own_iadd C X at_459 (z := 3) (by decide) (pc' := 460) rfl ?_
          refine own_icmp_ne C X at_460 (pcT := 559) (pc' := 463) (by decide) (by decide) rfl (fun hc460 => absurd hc460 (by decide)) (fun hc460 => ?_)
          refine own_aload C X at_463 rfl rfl (pc' := 465) rfl ?_
          refine own_iconst C X at_465 (v := 0) (by decide) (pc' := 466) rfl ?_
          refine own_baload C X at_466 A_bi (by decide) (i := 0) rfl (pc' := 467) rfl ?_
          refine own_aload C X at_467 rfl rfl (pc' := 469) rfl ?_
          refine own_iconst C X at_469 (v := 0) (by decide) (pc' := 470) rfl ?_
          refine own_baload C X at_470 A_be (by decide) (i := 0) rfl (pc' := 471) rfl ?_
          refine own_icmp_ne C X at_471 (pcT := 559) (pc' := 474) (by decide) (by decide) rfl (fun hc471 => absurd hc471 (not_not_intro ((own_e3_0 cp hz h1).trans e_x0))) (fun hc471 => ?_)
          refine own_aload C X at_474 rfl rfl (pc' := 476) rfl ?_
          refine own_iconst C X at_476 (v := 1) (by decide) (pc' := 477) rfl ?_
          refine own_baload C X at_477 A_bi (by decide) (i := 1) rfl (pc' := 478) rfl ?_
          refine own_aload C X at_478 rfl rfl (pc' := 480) rfl ?_
          refine own_iconst C X at_480 (v := 1) (by decide) (pc' := 481) rfl ?_
          refine own_baload C X at_481 A_be (by decide) (i := 1) rfl (pc' := 482) rfl ?_
          refine own_icmp_ne C X at_482 (pcT := 559) (pc' := 485) (by decide) (by decide) rfl (fun hc482 => absurd hc482 (not_not_intro ((own_e3_1 cp hz h1).trans e_x1))) (fun hc482 => ?_)
          refine own_aload C X at_485 rfl rfl (pc' := 487) rfl ?_
          refine own_iconst C X at_487 (v := 2) (by decide) (pc' := 488) rfl ?_
          refine own_baload C X at_488 A_bi (by decide) (i := 2) rfl (pc' := 489) rfl ?_
          refine own_aload C X at_489 rfl rfl (pc' := 491) rfl ?_
          refine own_iconst C X at_491 (v := 2) (by decide) (pc' := 492) rfl ?_
          refine own_baload C X at_492 A_be (by decide) (i := 2) rfl (pc' := 493) rfl ?_
          refine own_icmp_ne C X at_493 (pcT := 559) (pc' := 496) (by decide) (by decide) rfl (fun hc493 => absurd hc493 (not_not_intro ((own_e3_2 cp hz h1).trans e_x2))) (fun hc493 => ?_)
          refine own_aload C X at_496 rfl rfl (pc' := 498) rfl ?_
          refine own_iconst C X at_498 (v := 3) (by decide) (pc' := 499) rfl ?_
          refine own_baload C X at_499 A_bi (by decide) (i := 3) rfl (pc' := 500) rfl ?_
          refine own_aload C X at_500 rfl rfl (pc' := 502) rfl ?_
          refine own_iconst C X at_502 (v := 3) (by decide) (pc' := 503) rfl ?_
          refine own_baload C X at_503 A_be (by decide) (i := 3) rfl (pc' := 504) rfl ?_
          refine own_icmp_ne C X at_504 (pcT := 559) (pc' := 507) (by decide) (by decide) rfl (fun hc504 => absurd hc504 (not_not_intro rfl)) (fun hc504 => ?_)
          refine own_aload C X at_507 rfl rfl (pc' := 509) rfl ?_
          refine own_iconst C X at_509 (v := 4) (by decide) (pc' := 510) rfl ?_
          refine own_baload C X at_510 A_bi (by decide) (i := 4) rfl (pc' := 511) rfl ?_
          refine own_aload C X at_511 rfl rfl (pc' := 513) rfl ?_
          refine own_iconst C X at_513 (v := 4) (by decide) (pc' := 514) rfl ?_
          refine own_baload C X at_514 A_be (by decide) (i := 4) rfl (pc' := 515) rfl ?_
          refine own_icmp_ne C X at_515 (pcT := 559) (pc' := 518) (by decide) (by decide) rfl (fun hc515 => absurd hc515 (not_not_intro rfl)) (fun hc515 => ?_)
          refine own_aload C X at_518 rfl rfl (pc' := 520) rfl ?_
          refine own_iconst C X at_520 (v := 5) (by decide) (pc' := 521) rfl ?_
          refine own_baload C X at_521 A_bi (by decide) (i := 5) rfl (pc' := 522) rfl ?_
          refine own_aload C X at_522 rfl rfl (pc' := 524) rfl ?_
          refine own_iconst C X at_524 (v := 5) (by decide) (pc' := 525) rfl ?_
          refine own_baload C X at_525 A_be (by decide) (i := 5) rfl (pc' := 526) rfl ?_
          refine own_icmp_ne C X at_526 (pcT := 559) (pc' := 529) (by decide) (by decide) rfl (fun hc526 => absurd hc526 (not_not_intro rfl)) (fun hc526 => ?_)
          refine own_aload C X at_529 rfl rfl (pc' := 531) rfl ?_
          refine own_bipush C X at_531 (v := 6) (by decide) (pc' := 533) rfl ?_
          refine own_baload C X at_533 A_bi (by decide) (i := 6) rfl (pc' := 534) rfl ?_
          refine own_aload C X at_534 rfl rfl (pc' := 536) rfl ?_
          refine own_bipush C X at_536 (v := 6) (by decide) (pc' := 538) rfl ?_
          refine own_baload C X at_538 A_be (by decide) (i := 6) rfl (pc' := 539) rfl ?_
          refine own_icmp_ne C X at_539 (pcT := 559) (pc' := 542) (by decide) (by decide) rfl (fun hc539 => absurd hc539 (not_not_intro rfl)) (fun hc539 => ?_)
          refine own_aload C X at_542 rfl rfl (pc' := 544) rfl ?_
          refine own_bipush C X at_544 (v := 7) (by decide) (pc' := 546) rfl ?_
          refine own_baload C X at_546 A_bi (by decide) (i := 7) rfl (pc' := 547) rfl ?_
          refine own_aload C X at_547 rfl rfl (pc' := 549) rfl ?_
          refine own_bipush C X at_549 (v := 7) (by decide) (pc' := 551) rfl ?_
          refine own_baload C X at_551 A_be (by decide) (i := 7) rfl (pc' := 552) rfl ?_
          refine own_icmp_ne C X at_552 (pcT := 559) (pc' := 555) (by decide) (by decide) rfl (fun hc552 => absurd hc552 (not_not_intro rfl)) (fun hc552 => ?_)
          refine own_iconst C X at_555 (v := 1) (by decide) (pc' := 556) rfl ?_
          refine own_goto C X at_556 (pc' := 560) (by decide) (by decide) ?_
          exact own_ireturn_z C X at_560 (Nat.le_of_ble_eq_true rfl) (Nat.le_of_ble_eq_true rfl) (rfl)
        · refine own_iload C X at_249 rfl (pc' := 251) rfl ?_
          refine own_iconst C X at_251 (v := 1) (by decide) (pc' := 252) rfl ?_
          refine own_icmp_ne C X at_252 (pcT := 266) (pc' := 255) (by decide) (by decide) rfl (fun hc252 => ?_) (fun hc252 => absurd hc252 (by decide))
          refine own_iload C X at_266 rfl (pc' := 268) rfl ?_
          refine own_iconst C X at_268 (v := 2) (by decide) (pc' := 269) rfl ?_
          refine own_icmp_ne C X at_269 (pcT := 307) (pc' := 272) (by decide) (by decide) rfl (fun hc269 => ?_) (fun hc269 => absurd hc269 (by decide))
          refine own_iload C X at_307 rfl (pc' := 309) rfl ?_
          refine own_iconst C X at_309 (v := 3) (by decide) (pc' := 310) rfl ?_
          refine own_icmp_ne C X at_310 (pcT := 369) (pc' := 313) (by decide) (by decide) rfl (fun hc310 => absurd hc310 (by decide)) (fun hc310 => ?_)
          refine own_aload C X at_313 rfl rfl (pc' := 315) rfl ?_
          refine own_iload C X at_315 rfl (pc' := 317) rfl ?_
          refine own_sipush C X at_317 (v := 224) (by decide) (pc' := 320) rfl ?_
          refine own_iload C X at_320 rfl (pc' := 322) rfl ?_
          refine own_sipush C X at_322 (v := 4096) (by decide) (pc' := 325) rfl ?_
          refine own_idiv C X at_325 (by decide) rfl (pc' := 326) rfl ?_
          refine own_iadd C X at_326 rfl (pc' := 327) rfl ?_
          obtain ⟨x0, e_x0⟩ : ∃ z : Int32, ((224 : Int32) + (cp / (4096 : Int32))).toInt8.toInt32 = z := ⟨_, rfl⟩
          refine own_i2b C X at_327 e_x0 (pc' := 328) rfl ?_
          refine own_bastore C X at_328 A_be (by decide) (i := 1) (Nat.le_of_ble_eq_true rfl) (own_i2bn e_x0) ge_be (pc' := 329) rfl ?_
          intro T h X K_ A_be_
          have A_be : own_IA Z h be .byte [t0, x0, t2, t3, t4, t5, t6, t7] := A_be_
          have A_bi := A_bi.keep K_ (ninS ne_bi_be nin0)
          refine own_aload C X at_329 rfl rfl (pc' := 331) rfl ?_
          refine own_iload C X at_331 rfl (pc' := 333) rfl ?_
          refine own_iconst C X at_333 (v := 1) (by decide) (pc' := 334) rfl ?_
          refine own_iadd C X at_334 (z := 2) (by decide) (pc' := 335) rfl ?_
          refine own_sipush C X at_335 (v := 128) (by decide) (pc' := 338) rfl ?_
          refine own_iload C X at_338 rfl (pc' := 340) rfl ?_
          refine own_bipush C X at_340 (v := 64) (by decide) (pc' := 342) rfl ?_
          refine own_idiv C X at_342 (by decide) rfl (pc' := 343) rfl ?_
          refine own_bipush C X at_343 (v := 64) (by decide) (pc' := 345) rfl ?_
          refine own_irem C X at_345 (by decide) rfl (pc' := 346) rfl ?_
          refine own_iadd C X at_346 rfl (pc' := 347) rfl ?_
          obtain ⟨x1, e_x1⟩ : ∃ z : Int32, ((128 : Int32) + ((cp / (64 : Int32)) % (64 : Int32))).toInt8.toInt32 = z := ⟨_, rfl⟩
          refine own_i2b C X at_347 e_x1 (pc' := 348) rfl ?_
          refine own_bastore C X at_348 A_be (by decide) (i := 2) (Nat.le_of_ble_eq_true rfl) (own_i2bn e_x1) ge_be (pc' := 349) rfl ?_
          intro T h X K_ A_be_
          have A_be : own_IA Z h be .byte [t0, x0, x1, t3, t4, t5, t6, t7] := A_be_
          have A_bi := A_bi.keep K_ (ninS ne_bi_be nin0)
          refine own_aload C X at_349 rfl rfl (pc' := 351) rfl ?_
          refine own_iload C X at_351 rfl (pc' := 353) rfl ?_
          refine own_iconst C X at_353 (v := 2) (by decide) (pc' := 354) rfl ?_
          refine own_iadd C X at_354 (z := 3) (by decide) (pc' := 355) rfl ?_
          refine own_sipush C X at_355 (v := 128) (by decide) (pc' := 358) rfl ?_
          refine own_iload C X at_358 rfl (pc' := 360) rfl ?_
          refine own_bipush C X at_360 (v := 64) (by decide) (pc' := 362) rfl ?_
          refine own_irem C X at_362 (by decide) rfl (pc' := 363) rfl ?_
          refine own_iadd C X at_363 rfl (pc' := 364) rfl ?_
          obtain ⟨x2, e_x2⟩ : ∃ z : Int32, ((128 : Int32) + (cp % (64 : Int32))).toInt8.toInt32 = z := ⟨_, rfl⟩
          refine own_i2b C X at_364 e_x2 (pc' := 365) rfl ?_
          refine own_bastore C X at_365 A_be (by decide) (i := 3) (Nat.le_of_ble_eq_true rfl) (own_i2bn e_x2) ge_be (pc' := 366) rfl ?_
          intro T h X K_ A_be_
          have A_be : own_IA Z h be .byte [t0, x0, x1, x2, t4, t5, t6, t7] := A_be_
          have A_bi := A_bi.keep K_ (ninS ne_bi_be nin0)
          refine own_goto C X at_366 (pc' := 442) (by decide) (by decide) ?_
          refine own_iload C X at_442 rfl (pc' := 444) rfl ?_
          refine own_aload C X at_444 rfl rfl (pc' := 446) rfl ?_
          refine own_iload C X at_446 rfl (pc' := 448) rfl ?_
          refine own_callS C X at_448 (own_m_enc3 l Z a0 hw cp bi (1 : Int32) _ n0 (own_big C X) [t0, t1, t2, t3, t4, t5, t6, t7] 1 A_bi (by decide) (Nat.le_of_ble_eq_true rfl) ge_bi 4 (by decide) q1 q2 q3) (hw _ (List.mem_of_getElem? (i := 2) rfl)) (hw _ (List.mem_of_getElem? (i := 3) rfl)) (hw _ (List.mem_of_getElem? (i := 4) rfl)) (hw _ (List.mem_of_getElem? (i := 5) rfl)) (by decide) own_pd_4587 rfl rfl (Nat.le_of_ble_eq_true rfl) (Nat.le_of_ble_eq_true rfl) (Nat.le_of_ble_eq_true rfl) (Nat.le_of_ble_eq_true rfl) (av := [(.int cp), (.ref bi), (.int (1 : Int32))]) (S := []) rfl (pc' := 451) rfl ?_
          intro T h v X hQ
          obtain ⟨rfl, K_, A_bi_⟩ := hQ
          have A_bi : own_IA Z h bi .byte [t0, ((224 : Int32) ||| ((cp.toUInt32 >>> ((12 : Int32) &&& 31).toUInt32).toInt32)).toInt8.toInt32, ((128 : Int32) ||| (((cp.toUInt32 >>> ((6 : Int32) &&& 31).toUInt32).toInt32) &&& (63 : Int32))).toInt8.toInt32, ((128 : Int32) ||| (cp &&& (63 : Int32))).toInt8.toInt32, t4, t5, t6, t7] := A_bi_
          have A_be := A_be.keep K_ (ninS (Ne.symm ne_bi_be) nin0)
          show own_Go p e below n0 (own_Fin room_1 s (fun v h => v = some (.int 1))) (T.setTop (mkF m 451 #[.val (.int i0), .val (.int i1), .val (.int i2), .val (.int i3), .val (.int (i0 &&& (3 : Int32))), .val (.int (i1 &&& (2147483647 : Int32))), .val (.int cp), .val (.int (3 : Int32)), .val (.int (1 : Int32)), .val (.ref bi), .val (.ref be), .unset] [(.int (4 : Int32))]))
          refine own_istore C X at_451 (L' := #[.val (.int i0), .val (.int i1), .val (.int i2), .val (.int i3), .val (.int (i0 &&& (3 : Int32))), .val (.int (i1 &&& (2147483647 : Int32))), .val (.int cp), .val (.int (3 : Int32)), .val (.int (1 : Int32)), .val (.ref bi), .val (.ref be), .val (.int (4 : Int32))]) rfl (pc' := 453) rfl ?_
          refine own_iload C X at_453 rfl (pc' := 455) rfl ?_
          refine own_iload C X at_455 rfl (pc' := 457) rfl ?_
          refine own_iload C X at_457 rfl (pc' := 459) rfl ?_
          refine own_iadd C X at_459 (z := 4) (by decide) (pc' := 460) rfl ?_
          refine own_icmp_ne C X at_460 (pcT := 559) (pc' := 463) (by decide) (by decide) rfl (fun hc460 => absurd hc460 (by decide)) (fun hc460 => ?_)
          refine own_aload C X at_463 rfl rfl (pc' := 465) rfl ?_
          refine own_iconst C X at_465 (v := 0) (by decide) (pc' := 466) rfl ?_
          refine own_baload C X at_466 A_bi (by decide) (i := 0) rfl (pc' := 467) rfl ?_
          refine own_aload C X at_467 rfl rfl (pc' := 469) rfl ?_
          refine own_iconst C X at_469 (v := 0) (by decide) (pc' := 470) rfl ?_
          refine own_baload C X at_470 A_be (by decide) (i := 0) rfl (pc' := 471) rfl ?_
          refine own_icmp_ne C X at_471 (pcT := 559) (pc' := 474) (by decide) (by decide) rfl (fun hc471 => absurd hc471 (not_not_intro rfl)) (fun hc471 => ?_)
          refine own_aload C X at_474 rfl rfl (pc' := 476) rfl ?_
          refine own_iconst C X at_476 (v := 1) (by decide) (pc' := 477) rfl ?_
          refine own_baload C X at_477 A_bi (by decide) (i := 1) rfl (pc' := 478) rfl ?_
          refine own_aload C X at_478 rfl rfl (pc' := 480) rfl ?_
          refine own_iconst C X at_480 (v := 1) (by decide) (pc' := 481) rfl ?_
          refine own_baload C X at_481 A_be (by decide) (i := 1) rfl (pc' := 482) rfl ?_
          refine own_icmp_ne C X at_482 (pcT := 559) (pc' := 485) (by decide) (by decide) rfl (fun hc482 => absurd hc482 (not_not_intro ((own_e3_0 cp hz h1).trans e_x0))) (fun hc482 => ?_)
          refine own_aload C X at_485 rfl rfl (pc' := 487) rfl ?_
          refine own_iconst C X at_487 (v := 2) (by decide) (pc' := 488) rfl ?_
          refine own_baload C X at_488 A_bi (by decide) (i := 2) rfl (pc' := 489) rfl ?_
          refine own_aload C X at_489 rfl rfl (pc' := 491) rfl ?_
          refine own_iconst C X at_491 (v := 2) (by decide) (pc' := 492) rfl ?_
          refine own_baload C X at_492 A_be (by decide) (i := 2) rfl (pc' := 493) rfl ?_
          refine own_icmp_ne C X at_493 (pcT := 559) (pc' := 496) (by decide) (by decide) rfl (fun hc493 => absurd hc493 (not_not_intro ((own_e3_1 cp hz h1).trans e_x1))) (fun hc493 => ?_)
          refine own_aload C X at_496 rfl rfl (pc' := 498) rfl ?_
          refine own_iconst C X at_498 (v := 3) (by decide) (pc' := 499) rfl ?_
          refine own_baload C X at_499 A_bi (by decide) (i := 3) rfl (pc' := 500) rfl ?_
          refine own_aload C X at_500 rfl rfl (pc' := 502) rfl ?_
          refine own_iconst C X at_502 (v := 3) (by decide) (pc' := 503) rfl ?_
          refine own_baload C X at_503 A_be (by decide) (i := 3) rfl (pc' := 504) rfl ?_
          refine own_icmp_ne C X at_504 (pcT := 559) (pc' := 507) (by decide) (by decide) rfl (fun hc504 => absurd hc504 (not_not_intro ((own_e3_2 cp hz h1).trans e_x2))) (fun hc504 => ?_)
          refine own_aload C X at_507 rfl rfl (pc' := 509) rfl ?_
          refine own_iconst C X at_509 (v := 4) (by decide) (pc' := 510) rfl ?_
          refine own_baload C X at_510 A_bi (by decide) (i := 4) rfl (pc' := 511) rfl ?_
          refine own_aload C X at_511 rfl rfl (pc' := 513) rfl ?_
          refine own_iconst C X at_513 (v := 4) (by decide) (pc' := 514) rfl ?_
          refine own_baload C X at_514 A_be (by decide) (i := 4) rfl (pc' := 515) rfl ?_
          refine own_icmp_ne C X at_515 (pcT := 559) (pc' := 518) (by decide) (by decide) rfl (fun hc515 => absurd hc515 (not_not_intro rfl)) (fun hc515 => ?_)
          refine own_aload C X at_518 rfl rfl (pc' := 520) rfl ?_
          refine own_iconst C X at_520 (v := 5) (by decide) (pc' := 521) rfl ?_
          refine own_baload C X at_521 A_bi (by decide) (i := 5) rfl (pc' := 522) rfl ?_
          refine own_aload C X at_522 rfl rfl (pc' := 524) rfl ?_
          refine own_iconst C X at_524 (v := 5) (by decide) (pc' := 525) rfl ?_
          refine own_baload C X at_525 A_be (by decide) (i := 5) rfl (pc' := 526) rfl ?_
          refine own_icmp_ne C X at_526 (pcT := 559) (pc' := 529) (by decide) (by decide) rfl (fun hc526 => absurd hc526 (not_not_intro rfl)) (fun hc526 => ?_)
          refine own_aload C X at_529 rfl rfl (pc' := 531) rfl ?_
          refine own_bipush C X at_531 (v := 6) (by decide) (pc' := 533) rfl ?_
          refine own_baload C X at_533 A_bi (by decide) (i := 6) rfl (pc' := 534) rfl ?_
          refine own_aload C X at_534 rfl rfl (pc' := 536) rfl ?_
          refine own_bipush C X at_536 (v := 6) (by decide) (pc' := 538) rfl ?_
          refine own_baload C X at_538 A_be (by decide) (i := 6) rfl (pc' := 539) rfl ?_
          refine own_icmp_ne C X at_539 (pcT := 559) (pc' := 542) (by decide) (by decide) rfl (fun hc539 => absurd hc539 (not_not_intro rfl)) (fun hc539 => ?_)
          refine own_aload C X at_542 rfl rfl (pc' := 544) rfl ?_
          refine own_bipush C X at_544 (v := 7) (by decide) (pc' := 546) rfl ?_
          refine own_baload C X at_546 A_bi (by decide) (i := 7) rfl (pc' := 547) rfl ?_
          refine own_aload C X at_547 rfl rfl (pc' := 549) rfl ?_
          refine own_bipush C X at_549 (v := 7) (by decide) (pc' := 551) rfl ?_
          refine own_baload C X at_551 A_be (by decide) (i := 7) rfl (pc' := 552) rfl ?_
          refine own_icmp_ne C X at_552 (pcT := 559) (pc' := 555) (by decide) (by decide) rfl (fun hc552 => absurd hc552 (not_not_intro rfl)) (fun hc552 => ?_)
          refine own_iconst C X at_555 (v := 1) (by decide) (pc' := 556) rfl ?_
          refine own_goto C X at_556 (pc' := 560) (by decide) (by decide) ?_
          exact own_ireturn_z C X at_560 (Nat.le_of_ble_eq_true rfl) (Nat.le_of_ble_eq_true rfl) (rfl)
        · refine own_iload C X at_249 rfl (pc' := 251) rfl ?_
          refine own_iconst C X at_251 (v := 1) (by decide) (pc' := 252) rfl ?_
          refine own_icmp_ne C X at_252 (pcT := 266) (pc' := 255) (by decide) (by decide) rfl (fun hc252 => ?_) (fun hc252 => absurd hc252 (by decide))
          refine own_iload C X at_266 rfl (pc' := 268) rfl ?_
          refine own_iconst C X at_268 (v := 2) (by decide) (pc' := 269) rfl ?_
          refine own_icmp_ne C X at_269 (pcT := 307) (pc' := 272) (by decide) (by decide) rfl (fun hc269 => ?_) (fun hc269 => absurd hc269 (by decide))
          refine own_iload C X at_307 rfl (pc' := 309) rfl ?_
          refine own_iconst C X at_309 (v := 3) (by decide) (pc' := 310) rfl ?_
          refine own_icmp_ne C X at_310 (pcT := 369) (pc' := 313) (by decide) (by decide) rfl (fun hc310 => absurd hc310 (by decide)) (fun hc310 => ?_)
          refine own_aload C X at_313 rfl rfl (pc' := 315) rfl ?_
          refine own_iload C X at_315 rfl (pc' := 317) rfl ?_
          refine own_sipush C X at_317 (v := 224) (by decide) (pc' := 320) rfl ?_
          refine own_iload C X at_320 rfl (pc' := 322) rfl ?_
          refine own_sipush C X at_322 (v := 4096) (by decide) (pc' := 325) rfl ?_
          refine own_idiv C X at_325 (by decide) rfl (pc' := 326) rfl ?_
          refine own_iadd C X at_326 rfl (pc' := 327) rfl ?_
          obtain ⟨x0, e_x0⟩ : ∃ z : Int32, ((224 : Int32) + (cp / (4096 : Int32))).toInt8.toInt32 = z := ⟨_, rfl⟩
          refine own_i2b C X at_327 e_x0 (pc' := 328) rfl ?_
          refine own_bastore C X at_328 A_be (by decide) (i := 2) (Nat.le_of_ble_eq_true rfl) (own_i2bn e_x0) ge_be (pc' := 329) rfl ?_
          intro T h X K_ A_be_
          have A_be : own_IA Z h be .byte [t0, t1, x0, t3, t4, t5, t6, t7] := A_be_
          have A_bi := A_bi.keep K_ (ninS ne_bi_be nin0)
          refine own_aload C X at_329 rfl rfl (pc' := 331) rfl ?_
          refine own_iload C X at_331 rfl (pc' := 333) rfl ?_
          refine own_iconst C X at_333 (v := 1) (by decide) (pc' := 334) rfl ?_
          refine own_iadd C X at_334 (z := 3) (by decide) (pc' := 335) rfl ?_
          refine own_sipush C X at_335 (v := 128) (by decide) (pc' := 338) rfl ?_
          refine own_iload C X at_338 rfl (pc' := 340) rfl ?_
          refine own_bipush C X at_340 (v := 64) (by decide) (pc' := 342) rfl ?_
          refine own_idiv C X at_342 (by decide) rfl (pc' := 343) rfl ?_
          refine own_bipush C X at_343 (v := 64) (by decide) (pc' := 345) rfl ?_
          refine own_irem C X at_345 (by decide) rfl (pc' := 346) rfl ?_
          refine own_iadd C X at_346 rfl (pc' := 347) rfl ?_
          obtain ⟨x1, e_x1⟩ : ∃ z : Int32, ((128 : Int32) + ((cp / (64 : Int32)) % (64 : Int32))).toInt8.toInt32 = z := ⟨_, rfl⟩
          refine own_i2b C X at_347 e_x1 (pc' := 348) rfl ?_
          refine own_bastore C X at_348 A_be (by decide) (i := 3) (Nat.le_of_ble_eq_true rfl) (own_i2bn e_x1) ge_be (pc' := 349) rfl ?_
          intro T h X K_ A_be_
          have A_be : own_IA Z h be .byte [t0, t1, x0, x1, t4, t5, t6, t7] := A_be_
          have A_bi := A_bi.keep K_ (ninS ne_bi_be nin0)
          refine own_aload C X at_349 rfl rfl (pc' := 351) rfl ?_
          refine own_iload C X at_351 rfl (pc' := 353) rfl ?_
          refine own_iconst C X at_353 (v := 2) (by decide) (pc' := 354) rfl ?_
          refine own_iadd C X at_354 (z := 4) (by decide) (pc' := 355) rfl ?_
          refine own_sipush C X at_355 (v := 128) (by decide) (pc' := 358) rfl ?_
          refine own_iload C X at_358 rfl (pc' := 360) rfl ?_
          refine own_bipush C X at_360 (v := 64) (by decide) (pc' := 362) rfl ?_
          refine own_irem C X at_362 (by decide) rfl (pc' := 363) rfl ?_
          refine own_iadd C X at_363 rfl (pc' := 364) rfl ?_
          obtain ⟨x2, e_x2⟩ : ∃ z : Int32, ((128 : Int32) + (cp % (64 : Int32))).toInt8.toInt32 = z := ⟨_, rfl⟩
          refine own_i2b C X at_364 e_x2 (pc' := 365) rfl ?_
          refine own_bastore C X at_365 A_be (by decide) (i := 4) (Nat.le_of_ble_eq_true rfl) (own_i2bn e_x2) ge_be (pc' := 366) rfl ?_
          intro T h X K_ A_be_
          have A_be : own_IA Z h be .byte [t0, t1, x0, x1, x2, t5, t6, t7] := A_be_
          have A_bi := A_bi.keep K_ (ninS ne_bi_be nin0)
          refine own_goto C X at_366 (pc' := 442) (by decide) (by decide) ?_
          refine own_iload C X at_442 rfl (pc' := 444) rfl ?_
          refine own_aload C X at_444 rfl rfl (pc' := 446) rfl ?_
          refine own_iload C X at_446 rfl (pc' := 448) rfl ?_
          refine own_callS C X at_448 (own_m_enc3 l Z a0 hw cp bi (2 : Int32) _ n0 (own_big C X) [t0, t1, t2, t3, t4, t5, t6, t7] 2 A_bi (by decide) (Nat.le_of_ble_eq_true rfl) ge_bi 5 (by decide) q1 q2 q3) (hw _ (List.mem_of_getElem? (i := 2) rfl)) (hw _ (List.mem_of_getElem? (i := 3) rfl)) (hw _ (List.mem_of_getElem? (i := 4) rfl)) (hw _ (List.mem_of_getElem? (i := 5) rfl)) (by decide) own_pd_4587 rfl rfl (Nat.le_of_ble_eq_true rfl) (Nat.le_of_ble_eq_true rfl) (Nat.le_of_ble_eq_true rfl) (Nat.le_of_ble_eq_true rfl) (av := [(.int cp), (.ref bi), (.int (2 : Int32))]) (S := []) rfl (pc' := 451) rfl ?_
          intro T h v X hQ
          obtain ⟨rfl, K_, A_bi_⟩ := hQ
          have A_bi : own_IA Z h bi .byte [t0, t1, ((224 : Int32) ||| ((cp.toUInt32 >>> ((12 : Int32) &&& 31).toUInt32).toInt32)).toInt8.toInt32, ((128 : Int32) ||| (((cp.toUInt32 >>> ((6 : Int32) &&& 31).toUInt32).toInt32) &&& (63 : Int32))).toInt8.toInt32, ((128 : Int32) ||| (cp &&& (63 : Int32))).toInt8.toInt32, t5, t6, t7] := A_bi_
          have A_be := A_be.keep K_ (ninS (Ne.symm ne_bi_be) nin0)
          show own_Go p e below n0 (own_Fin room_1 s (fun v h => v = some (.int 1))) (T.setTop (mkF m 451 #[.val (.int i0), .val (.int i1), .val (.int i2), .val (.int i3), .val (.int (i0 &&& (3 : Int32))), .val (.int (i1 &&& (2147483647 : Int32))), .val (.int cp), .val (.int (3 : Int32)), .val (.int (2 : Int32)), .val (.ref bi), .val (.ref be), .unset] [(.int (5 : Int32))]))
          refine own_istore C X at_451 (L' := #[.val (.int i0), .val (.int i1), .val (.int i2), .val (.int i3), .val (.int (i0 &&& (3 : Int32))), .val (.int (i1 &&& (2147483647 : Int32))), .val (.int cp), .val (.int (3 : Int32)), .val (.int (2 : Int32)), .val (.ref bi), .val (.ref be), .val (.int (5 : Int32))]) rfl (pc' := 453) rfl ?_
          refine own_iload C X at_453 rfl (pc' := 455) rfl ?_
          refine own_iload C X at_455 rfl (pc' := 457) rfl ?_
          refine own_iload C X at_457 rfl (pc' := 459) rfl ?_
          refine own_iadd C X at_459 (z := 5) (by decide) (pc' := 460) rfl ?_
          refine own_icmp_ne C X at_460 (pcT := 559) (pc' := 463) (by decide) (by decide) rfl (fun hc460 => absurd hc460 (by decide)) (fun hc460 => ?_)
          refine own_aload C X at_463 rfl rfl (pc' := 465) rfl ?_
          refine own_iconst C X at_465 (v := 0) (by decide) (pc' := 466) rfl ?_
          refine own_baload C X at_466 A_bi (by decide) (i := 0) rfl (pc' := 467) rfl ?_
          refine own_aload C X at_467 rfl rfl (pc' := 469) rfl ?_
          refine own_iconst C X at_469 (v := 0) (by decide) (pc' := 470) rfl ?_
          refine own_baload C X at_470 A_be (by decide) (i := 0) rfl (pc' := 471) rfl ?_
          refine own_icmp_ne C X at_471 (pcT := 559) (pc' := 474) (by decide) (by decide) rfl (fun hc471 => absurd hc471 (not_not_intro rfl)) (fun hc471 => ?_)
          refine own_aload C X at_474 rfl rfl (pc' := 476) rfl ?_
          refine own_iconst C X at_476 (v := 1) (by decide) (pc' := 477) rfl ?_
          refine own_baload C X at_477 A_bi (by decide) (i := 1) rfl (pc' := 478) rfl ?_
          refine own_aload C X at_478 rfl rfl (pc' := 480) rfl ?_
          refine own_iconst C X at_480 (v := 1) (by decide) (pc' := 481) rfl ?_
          refine own_baload C X at_481 A_be (by decide) (i := 1) rfl (pc' := 482) rfl ?_
          refine own_icmp_ne C X at_482 (pcT := 559) (pc' := 485) (by decide) (by decide) rfl (fun hc482 => absurd hc482 (not_not_intro rfl)) (fun hc482 => ?_)
          refine own_aload C X at_485 rfl rfl (pc' := 487) rfl ?_
          refine own_iconst C X at_487 (v := 2) (by decide) (pc' := 488) rfl ?_
          refine own_baload C X at_488 A_bi (by decide) (i := 2) rfl (pc' := 489) rfl ?_
          refine own_aload C X at_489 rfl rfl (pc' := 491) rfl ?_
          refine own_iconst C X at_491 (v := 2) (by decide) (pc' := 492) rfl ?_
          refine own_baload C X at_492 A_be (by decide) (i := 2) rfl (pc' := 493) rfl ?_
          refine own_icmp_ne C X at_493 (pcT := 559) (pc' := 496) (by decide) (by decide) rfl (fun hc493 => absurd hc493 (not_not_intro ((own_e3_0 cp hz h1).trans e_x0))) (fun hc493 => ?_)
          refine own_aload C X at_496 rfl rfl (pc' := 498) rfl ?_
          refine own_iconst C X at_498 (v := 3) (by decide) (pc' := 499) rfl ?_
          refine own_baload C X at_499 A_bi (by decide) (i := 3) rfl (pc' := 500) rfl ?_
          refine own_aload C X at_500 rfl rfl (pc' := 502) rfl ?_
          refine own_iconst C X at_502 (v := 3) (by decide) (pc' := 503) rfl ?_
          refine own_baload C X at_503 A_be (by decide) (i := 3) rfl (pc' := 504) rfl ?_
          refine own_icmp_ne C X at_504 (pcT := 559) (pc' := 507) (by decide) (by decide) rfl (fun hc504 => absurd hc504 (not_not_intro ((own_e3_1 cp hz h1).trans e_x1))) (fun hc504 => ?_)
          refine own_aload C X at_507 rfl rfl (pc' := 509) rfl ?_
          refine own_iconst C X at_509 (v := 4) (by decide) (pc' := 510) rfl ?_
          refine own_baload C X at_510 A_bi (by decide) (i := 4) rfl (pc' := 511) rfl ?_
          refine own_aload C X at_511 rfl rfl (pc' := 513) rfl ?_
          refine own_iconst C X at_513 (v := 4) (by decide) (pc' := 514) rfl ?_
          refine own_baload C X at_514 A_be (by decide) (i := 4) rfl (pc' := 515) rfl ?_
          refine own_icmp_ne C X at_515 (pcT := 559) (pc' := 518) (by decide) (by decide) rfl (fun hc515 => absurd hc515 (not_not_intro ((own_e3_2 cp hz h1).trans e_x2))) (fun hc515 => ?_)
          refine own_aload C X at_518 rfl rfl (pc' := 520) rfl ?_
          refine own_iconst C X at_520 (v := 5) (by decide) (pc' := 521) rfl ?_
          refine own_baload C X at_521 A_bi (by decide) (i := 5) rfl (pc' := 522) rfl ?_
          refine own_aload C X at_522 rfl rfl (pc' := 524) rfl ?_
          refine own_iconst C X at_524 (v := 5) (by decide) (pc' := 525) rfl ?_
          refine own_baload C X at_525 A_be (by decide) (i := 5) rfl (pc' := 526) rfl ?_
          refine own_icmp_ne C X at_526 (pcT := 559) (pc' := 529) (by decide) (by decide) rfl (fun hc526 => absurd hc526 (not_not_intro rfl)) (fun hc526 => ?_)
          refine own_aload C X at_529 rfl rfl (pc' := 531) rfl ?_
          refine own_bipush C X at_531 (v := 6) (by decide) (pc' := 533) rfl ?_
          refine own_baload C X at_533 A_bi (by decide) (i := 6) rfl (pc' := 534) rfl ?_
          refine own_aload C X at_534 rfl rfl (pc' := 536) rfl ?_
          refine own_bipush C X at_536 (v := 6) (by decide) (pc' := 538) rfl ?_
          refine own_baload C X at_538 A_be (by decide) (i := 6) rfl (pc' := 539) rfl ?_
          refine own_icmp_ne C X at_539 (pcT := 559) (pc' := 542) (by decide) (by decide) rfl (fun hc539 => absurd hc539 (not_not_intro rfl)) (fun hc539 => ?_)
          refine own_aload C X at_542 rfl rfl (pc' := 544) rfl ?_
          refine own_bipush C X at_544 (v := 7) (by decide) (pc' := 546) rfl ?_
          refine own_baload C X at_546 A_bi (by decide) (i := 7) rfl (pc' := 547) rfl ?_
          refine own_aload C X at_547 rfl rfl (pc' := 549) rfl ?_
          refine own_bipush C X at_549 (v := 7) (by decide) (pc' := 551) rfl ?_
          refine own_baload C X at_551 A_be (by decide) (i := 7) rfl (pc' := 552) rfl ?_
          refine own_icmp_ne C X at_552 (pcT := 559) (pc' := 555) (by decide) (by decide) rfl (fun hc552 => absurd hc552 (not_not_intro rfl)) (fun hc552 => ?_)
          refine own_iconst C X at_555 (v := 1) (by decide) (pc' := 556) rfl ?_
          refine own_goto C X at_556 (pc' := 560) (by decide) (by decide) ?_
          exact own_ireturn_z C X at_560 (Nat.le_of_ble_eq_true rfl) (Nat.le_of_ble_eq_true rfl) (rfl)
        · refine own_iload C X at_249 rfl (pc' := 251) rfl ?_
          refine own_iconst C X at_251 (v := 1) (by decide) (pc' := 252) rfl ?_
          refine own_icmp_ne C X at_252 (pcT := 266) (pc' := 255) (by decide) (by decide) rfl (fun hc252 => ?_) (fun hc252 => absurd hc252 (by decide))
          refine own_iload C X at_266 rfl (pc' := 268) rfl ?_
          refine own_iconst C X at_268 (v := 2) (by decide) (pc' := 269) rfl ?_
          refine own_icmp_ne C X at_269 (pcT := 307) (pc' := 272) (by decide) (by decide) rfl (fun hc269 => ?_) (fun hc269 => absurd hc269 (by decide))
          refine own_iload C X at_307 rfl (pc' := 309) rfl ?_
          refine own_iconst C X at_309 (v := 3) (by decide) (pc' := 310) rfl ?_
          refine own_icmp_ne C X at_310 (pcT := 369) (pc' := 313) (by decide) (by decide) rfl (fun hc310 => absurd hc310 (by decide)) (fun hc310 => ?_)
          refine own_aload C X at_313 rfl rfl (pc' := 315) rfl ?_
          refine own_iload C X at_315 rfl (pc' := 317) rfl ?_
          refine own_sipush C X at_317 (v := 224) (by decide) (pc' := 320) rfl ?_
          refine own_iload C X at_320 rfl (pc' := 322) rfl ?_
          refine own_sipush C X at_322 (v := 4096) (by decide) (pc' := 325) rfl ?_
          refine own_idiv C X at_325 (by decide) rfl (pc' := 326) rfl ?_
          refine own_iadd C X at_326 rfl (pc' := 327) rfl ?_
          obtain ⟨x0, e_x0⟩ : ∃ z : Int32, ((224 : Int32) + (cp / (4096 : Int32))).toInt8.toInt32 = z := ⟨_, rfl⟩
          refine own_i2b C X at_327 e_x0 (pc' := 328) rfl ?_
          refine own_bastore C X at_328 A_be (by decide) (i := 3) (Nat.le_of_ble_eq_true rfl) (own_i2bn e_x0) ge_be (pc' := 329) rfl ?_
          intro T h X K_ A_be_
          have A_be : own_IA Z h be .byte [t0, t1, t2, x0, t4, t5, t6, t7] := A_be_
          have A_bi := A_bi.keep K_ (ninS ne_bi_be nin0)
          refine own_aload C X at_329 rfl rfl (pc' := 331) rfl ?_
          refine own_iload C X at_331 rfl (pc' := 333) rfl ?_
          refine own_iconst C X at_333 (v := 1) (by decide) (pc' := 334) rfl ?_
          refine own_iadd C X at_334 (z := 4) (by decide) (pc' := 335) rfl ?_
          refine own_sipush C X at_335 (v := 128) (by decide) (pc' := 338) rfl ?_
          refine own_iload C X at_338 rfl (pc' := 340) rfl ?_
          refine own_bipush C X at_340 (v := 64) (by decide) (pc' := 342) rfl ?_
          refine own_idiv C X at_342 (by decide) rfl (pc' := 343) rfl ?_
          refine own_bipush C X at_343 (v := 64) (by decide) (pc' := 345) rfl ?_
          refine own_irem C X at_345 (by decide) rfl (pc' := 346) rfl ?_
          refine own_iadd C X at_346 rfl (pc' := 347) rfl ?_
          obtain ⟨x1, e_x1⟩ : ∃ z : Int32, ((128 : Int32) + ((cp / (64 : Int32)) % (64 : Int32))).toInt8.toInt32 = z := ⟨_, rfl⟩
          refine own_i2b C X at_347 e_x1 (pc' := 348) rfl ?_
          refine own_bastore C X at_348 A_be (by decide) (i := 4) (Nat.le_of_ble_eq_true rfl) (own_i2bn e_x1) ge_be (pc' := 349) rfl ?_
          intro T h X K_ A_be_
          have A_be : own_IA Z h be .byte [t0, t1, t2, x0, x1, t5, t6, t7] := A_be_
          have A_bi := A_bi.keep K_ (ninS ne_bi_be nin0)
          refine own_aload C X at_349 rfl rfl (pc' := 351) rfl ?_
          refine own_iload C X at_351 rfl (pc' := 353) rfl ?_
          refine own_iconst C X at_353 (v := 2) (by decide) (pc' := 354) rfl ?_
          refine own_iadd C X at_354 (z := 5) (by decide) (pc' := 355) rfl ?_
          refine own_sipush C X at_355 (v := 128) (by decide) (pc' := 358) rfl ?_
          refine own_iload C X at_358 rfl (pc' := 360) rfl ?_
          refine own_bipush C X at_360 (v := 64) (by decide) (pc' := 362) rfl ?_
          refine own_irem C X at_362 (by decide) rfl (pc' := 363) rfl ?_
          refine own_iadd C X at_363 rfl (pc' := 364) rfl ?_
          obtain ⟨x2, e_x2⟩ : ∃ z : Int32, ((128 : Int32) + (cp % (64 : Int32))).toInt8.toInt32 = z := ⟨_, rfl⟩
          refine own_i2b C X at_364 e_x2 (pc' := 365) rfl ?_
          refine own_bastore C X at_365 A_be (by decide) (i := 5) (Nat.le_of_ble_eq_true rfl) (own_i2bn e_x2) ge_be (pc' := 366) rfl ?_
          intro T h X K_ A_be_
          have A_be : own_IA Z h be .byte [t0, t1, t2, x0, x1, x2, t6, t7] := A_be_
          have A_bi := A_bi.keep K_ (ninS ne_bi_be nin0)
          refine own_goto C X at_366 (pc' := 442) (by decide) (by decide) ?_
          refine own_iload C X at_442 rfl (pc' := 444) rfl ?_
          refine own_aload C X at_444 rfl rfl (pc' := 446) rfl ?_
          refine own_iload C X at_446 rfl (pc' := 448) rfl ?_
          refine own_callS C X at_448 (own_m_enc3 l Z a0 hw cp bi (3 : Int32) _ n0 (own_big C X) [t0, t1, t2, t3, t4, t5, t6, t7] 3 A_bi (by decide) (Nat.le_of_ble_eq_true rfl) ge_bi 6 (by decide) q1 q2 q3) (hw _ (List.mem_of_getElem? (i := 2) rfl)) (hw _ (List.mem_of_getElem? (i := 3) rfl)) (hw _ (List.mem_of_getElem? (i := 4) rfl)) (hw _ (List.mem_of_getElem? (i := 5) rfl)) (by decide) own_pd_4587 rfl rfl (Nat.le_of_ble_eq_true rfl) (Nat.le_of_ble_eq_true rfl) (Nat.le_of_ble_eq_true rfl) (Nat.le_of_ble_eq_true rfl) (av := [(.int cp), (.ref bi), (.int (3 : Int32))]) (S := []) rfl (pc' := 451) rfl ?_
          intro T h v X hQ
          obtain ⟨rfl, K_, A_bi_⟩ := hQ
          have A_bi : own_IA Z h bi .byte [t0, t1, t2, ((224 : Int32) ||| ((cp.toUInt32 >>> ((12 : Int32) &&& 31).toUInt32).toInt32)).toInt8.toInt32, ((128 : Int32) ||| (((cp.toUInt32 >>> ((6 : Int32) &&& 31).toUInt32).toInt32) &&& (63 : Int32))).toInt8.toInt32, ((128 : Int32) ||| (cp &&& (63 : Int32))).toInt8.toInt32, t6, t7] := A_bi_
          have A_be := A_be.keep K_ (ninS (Ne.symm ne_bi_be) nin0)
          show own_Go p e below n0 (own_Fin room_1 s (fun v h => v = some (.int 1))) (T.setTop (mkF m 451 #[.val (.int i0), .val (.int i1), .val (.int i2), .val (.int i3), .val (.int (i0 &&& (3 : Int32))), .val (.int (i1 &&& (2147483647 : Int32))), .val (.int cp), .val (.int (3 : Int32)), .val (.int (3 : Int32)), .val (.ref bi), .val (.ref be), .unset] [(.int (6 : Int32))]))
          refine own_istore C X at_451 (L' := #[.val (.int i0), .val (.int i1), .val (.int i2), .val (.int i3), .val (.int (i0 &&& (3 : Int32))), .val (.int (i1 &&& (2147483647 : Int32))), .val (.int cp), .val (.int (3 : Int32)), .val (.int (3 : Int32)), .val (.ref bi), .val (.ref be), .val (.int (6 : Int32))]) rfl (pc' := 453) rfl ?_
          refine own_iload C X at_453 rfl (pc' := 455) rfl ?_
          refine own_iload C X at_455 rfl (pc' := 457) rfl ?_
          refine own_iload C X at_457 rfl (pc' := 459) rfl ?_
          refine own_iadd C X at_459 (z := 6) (by decide) (pc' := 460) rfl ?_
          refine own_icmp_ne C X at_460 (pcT := 559) (pc' := 463) (by decide) (by decide) rfl (fun hc460 => absurd hc460 (by decide)) (fun hc460 => ?_)
          refine own_aload C X at_463 rfl rfl (pc' := 465) rfl ?_
          refine own_iconst C X at_465 (v := 0) (by decide) (pc' := 466) rfl ?_
          refine own_baload C X at_466 A_bi (by decide) (i := 0) rfl (pc' := 467) rfl ?_
          refine own_aload C X at_467 rfl rfl (pc' := 469) rfl ?_
          refine own_iconst C X at_469 (v := 0) (by decide) (pc' := 470) rfl ?_
          refine own_baload C X at_470 A_be (by decide) (i := 0) rfl (pc' := 471) rfl ?_
          refine own_icmp_ne C X at_471 (pcT := 559) (pc' := 474) (by decide) (by decide) rfl (fun hc471 => absurd hc471 (not_not_intro rfl)) (fun hc471 => ?_)
          refine own_aload C X at_474 rfl rfl (pc' := 476) rfl ?_
          refine own_iconst C X at_476 (v := 1) (by decide) (pc' := 477) rfl ?_
          refine own_baload C X at_477 A_bi (by decide) (i := 1) rfl (pc' := 478) rfl ?_
          refine own_aload C X at_478 rfl rfl (pc' := 480) rfl ?_
          refine own_iconst C X at_480 (v := 1) (by decide) (pc' := 481) rfl ?_
          refine own_baload C X at_481 A_be (by decide) (i := 1) rfl (pc' := 482) rfl ?_
          refine own_icmp_ne C X at_482 (pcT := 559) (pc' := 485) (by decide) (by decide) rfl (fun hc482 => absurd hc482 (not_not_intro rfl)) (fun hc482 => ?_)
          refine own_aload C X at_485 rfl rfl (pc' := 487) rfl ?_
          refine own_iconst C X at_487 (v := 2) (by decide) (pc' := 488) rfl ?_
          refine own_baload C X at_488 A_bi (by decide) (i := 2) rfl (pc' := 489) rfl ?_
          refine own_aload C X at_489 rfl rfl (pc' := 491) rfl ?_
          refine own_iconst C X at_491 (v := 2) (by decide) (pc' := 492) rfl ?_
          refine own_baload C X at_492 A_be (by decide) (i := 2) rfl (pc' := 493) rfl ?_
          refine own_icmp_ne C X at_493 (pcT := 559) (pc' := 496) (by decide) (by decide) rfl (fun hc493 => absurd hc493 (not_not_intro rfl)) (fun hc493 => ?_)
          refine own_aload C X at_496 rfl rfl (pc' := 498) rfl ?_
          refine own_iconst C X at_498 (v := 3) (by decide) (pc' := 499) rfl ?_
          refine own_baload C X at_499 A_bi (by decide) (i := 3) rfl (pc' := 500) rfl ?_
          refine own_aload C X at_500 rfl rfl (pc' := 502) rfl ?_
          refine own_iconst C X at_502 (v := 3) (by decide) (pc' := 503) rfl ?_
          refine own_baload C X at_503 A_be (by decide) (i := 3) rfl (pc' := 504) rfl ?_
          refine own_icmp_ne C X at_504 (pcT := 559) (pc' := 507) (by decide) (by decide) rfl (fun hc504 => absurd hc504 (not_not_intro ((own_e3_0 cp hz h1).trans e_x0))) (fun hc504 => ?_)
          refine own_aload C X at_507 rfl rfl (pc' := 509) rfl ?_
          refine own_iconst C X at_509 (v := 4) (by decide) (pc' := 510) rfl ?_
          refine own_baload C X at_510 A_bi (by decide) (i := 4) rfl (pc' := 511) rfl ?_
          refine own_aload C X at_511 rfl rfl (pc' := 513) rfl ?_
          refine own_iconst C X at_513 (v := 4) (by decide) (pc' := 514) rfl ?_
          refine own_baload C X at_514 A_be (by decide) (i := 4) rfl (pc' := 515) rfl ?_
          refine own_icmp_ne C X at_515 (pcT := 559) (pc' := 518) (by decide) (by decide) rfl (fun hc515 => absurd hc515 (not_not_intro ((own_e3_1 cp hz h1).trans e_x1))) (fun hc515 => ?_)
          refine own_aload C X at_518 rfl rfl (pc' := 520) rfl ?_
          refine own_iconst C X at_520 (v := 5) (by decide) (pc' := 521) rfl ?_
          refine own_baload C X at_521 A_bi (by decide) (i := 5) rfl (pc' := 522) rfl ?_
          refine own_aload C X at_522 rfl rfl (pc' := 524) rfl ?_
          refine own_iconst C X at_524 (v := 5) (by decide) (pc' := 525) rfl ?_
          refine own_baload C X at_525 A_be (by decide) (i := 5) rfl (pc' := 526) rfl ?_
          refine own_icmp_ne C X at_526 (pcT := 559) (pc' := 529) (by decide) (by decide) rfl (fun hc526 => absurd hc526 (not_not_intro ((own_e3_2 cp hz h1).trans e_x2))) (fun hc526 => ?_)
          refine own_aload C X at_529 rfl rfl (pc' := 531) rfl ?_
          refine own_bipush C X at_531 (v := 6) (by decide) (pc' := 533) rfl ?_
          refine own_baload C X at_533 A_bi (by decide) (i := 6) rfl (pc' := 534) rfl ?_
          refine own_aload C X at_534 rfl rfl (pc' := 536) rfl ?_
          refine own_bipush C X at_536 (v := 6) (by decide) (pc' := 538) rfl ?_
          refine own_baload C X at_538 A_be (by decide) (i := 6) rfl (pc' := 539) rfl ?_
          refine own_icmp_ne C X at_539 (pcT := 559) (pc' := 542) (by decide) (by decide) rfl (fun hc539 => absurd hc539 (not_not_intro rfl)) (fun hc539 => ?_)
          refine own_aload C X at_542 rfl rfl (pc' := 544) rfl ?_
          refine own_bipush C X at_544 (v := 7) (by decide) (pc' := 546) rfl ?_
          refine own_baload C X at_546 A_bi (by decide) (i := 7) rfl (pc' := 547) rfl ?_
          refine own_aload C X at_547 rfl rfl (pc' := 549) rfl ?_
          refine own_bipush C X at_549 (v := 7) (by decide) (pc' := 551) rfl ?_
          refine own_baload C X at_551 A_be (by decide) (i := 7) rfl (pc' := 552) rfl ?_
          refine own_icmp_ne C X at_552 (pcT := 559) (pc' := 555) (by decide) (by decide) rfl (fun hc552 => absurd hc552 (not_not_intro rfl)) (fun hc552 => ?_)
          refine own_iconst C X at_555 (v := 1) (by decide) (pc' := 556) rfl ?_
          refine own_goto C X at_556 (pc' := 560) (by decide) (by decide) ?_
          exact own_ireturn_z C X at_560 (Nat.le_of_ble_eq_true rfl) (Nat.le_of_ble_eq_true rfl) (rfl)
    · refine own_sipush C X at_36 (v := 128) (by decide) (pc' := 39) rfl ?_
      refine own_iload C X at_39 rfl (pc' := 41) rfl ?_
      refine own_sipush C X at_41 (v := 1920) (by decide) (pc' := 44) rfl ?_
      refine own_irem C X at_44 (by decide) rfl (pc' := 45) rfl ?_
      obtain ⟨cp, e_cp⟩ : ∃ z : Int32, ((128 : Int32) + ((i1 &&& (2147483647 : Int32)) % (1920 : Int32))) = z := ⟨_, rfl⟩
      refine own_iadd C X at_45 e_cp (pc' := 46) rfl ?_
      obtain ⟨f1, h1⟩ := own_base i1 (128 : Int32) (1920 : Int32) (by decide) (by decide) (by decide)
      rw [e_cp] at f1 h1
      replace h1 : cp.toInt < (2048 : Int) := h1
      replace f1 : (128 : Int) ≤ cp.toInt := f1
      have hz : 0 ≤ cp.toInt := by omega
      have q1 : ¬ cp < 128 := fun q => by have := own_lt1.mp q; omega
      have q2 : cp < 2048 := own_lt2.mpr h1
      refine own_istore C X at_46 (L' := #[.val (.int i0), .val (.int i1), .val (.int i2), .val (.int i3), .val (.int (i0 &&& (3 : Int32))), .val (.int (i1 &&& (2147483647 : Int32))), .val (.int cp), .unset, .unset, .unset, .unset, .unset]) rfl (pc' := 48) rfl ?_
      refine own_iconst C X at_48 (v := 2) (by decide) (pc' := 49) rfl ?_
      refine own_istore C X at_49 (L' := #[.val (.int i0), .val (.int i1), .val (.int i2), .val (.int i3), .val (.int (i0 &&& (3 : Int32))), .val (.int (i1 &&& (2147483647 : Int32))), .val (.int cp), .val (.int (2 : Int32)), .unset, .unset, .unset, .unset]) rfl (pc' := 51) rfl ?_
      refine own_goto C X at_51 (pc' := 90) (by decide) (by decide) ?_
      refine own_iloadN C X at_90 rfl (pc' := 91) rfl ?_
      refine own_iconst C X at_91 (v := 3) (by decide) (pc' := 92) rfl ?_
      obtain ⟨off, e_off⟩ : ∃ z : Int32, (i2 &&& (3 : Int32)) = z := ⟨_, rfl⟩
      refine own_iand C X at_92 e_off (pc' := 93) rfl ?_
      refine own_istore C X at_93 (L' := #[.val (.int i0), .val (.int i1), .val (.int i2), .val (.int i3), .val (.int (i0 &&& (3 : Int32))), .val (.int (i1 &&& (2147483647 : Int32))), .val (.int cp), .val (.int (2 : Int32)), .val (.int off), .unset, .unset, .unset]) rfl (pc' := 95) rfl ?_
      refine own_bipush C X at_95 (v := 8) (by decide) (pc' := 97) rfl ?_
      refine own_newI C X at_97 (ty := .byte) rfl (hw _ (List.mem_of_getElem? (i := 1) rfl)) (by decide) (k := 8) (cap := 8) (Nat.le_of_ble_eq_true rfl) (by decide) (Nat.le_of_ble_eq_true rfl) (Nat.le_of_ble_eq_true rfl) rfl rfl (pc' := 99) rfl ?_
      intro T h bi e_bi X K_ ge_bi A_bi_
      have A_bi : own_IA Z h bi .byte [(0 : Int32), (0 : Int32), (0 : Int32), (0 : Int32), (0 : Int32), (0 : Int32), (0 : Int32), (0 : Int32)] := A_bi_
      refine own_astore C X at_99 rfl (L' := #[.val (.int i0), .val (.int i1), .val (.int i2), .val (.int i3), .val (.int (i0 &&& (3 : Int32))), .val (.int (i1 &&& (2147483647 : Int32))), .val (.int cp), .val (.int (2 : Int32)), .val (.int off), .val (.ref bi), .unset, .unset]) rfl (pc' := 101) rfl ?_
      refine own_bipush C X at_101 (v := 8) (by decide) (pc' := 103) rfl ?_
      refine own_newI C X at_103 (ty := .byte) rfl (hw _ (List.mem_of_getElem? (i := 1) rfl)) (by decide) (k := 8) (cap := 8) (Nat.le_of_ble_eq_true rfl) (by decide) (Nat.le_of_ble_eq_true rfl) (Nat.le_of_ble_eq_true rfl) rfl rfl (pc' := 105) rfl ?_
      intro T h be e_be X K_ ge_be A_be_
      have ne_bi_be : bi ≠ be := by rw [e_be]; exact Nat.ne_of_lt A_bi.lt
      have A_be : own_IA Z h be .byte [(0 : Int32), (0 : Int32), (0 : Int32), (0 : Int32), (0 : Int32), (0 : Int32), (0 : Int32), (0 : Int32)] := A_be_
      have A_bi := A_bi.keep K_ nin0
      refine own_astore C X at_105 rfl (L' := #[.val (.int i0), .val (.int i1), .val (.int i2), .val (.int i3), .val (.int (i0 &&& (3 : Int32))), .val (.int (i1 &&& (2147483647 : Int32))), .val (.int cp), .val (.int (2 : Int32)), .val (.int off), .val (.ref bi), .val (.ref be), .unset]) rfl (pc' := 107) rfl ?_
      refine own_aload C X at_107 rfl rfl (pc' := 109) rfl ?_
      refine own_iconst C X at_109 (v := 0) (by decide) (pc' := 110) rfl ?_
      refine own_iloadN C X at_110 rfl (pc' := 111) rfl ?_
      obtain ⟨t0, e_t0⟩ : ∃ z : Int32, i3.toInt8.toInt32 = z := ⟨_, rfl⟩
      refine own_i2b C X at_111 e_t0 (pc' := 112) rfl ?_
      refine own_bastore C X at_112 A_bi (by decide) (i := 0) (Nat.le_of_ble_eq_true rfl) (own_i2bn e_t0) ge_bi (pc' := 113) rfl ?_
      intro T h X K_ A_bi_
      have A_bi : own_IA Z h bi .byte [t0, (0 : Int32), (0 : Int32), (0 : Int32), (0 : Int32), (0 : Int32), (0 : Int32), (0 : Int32)] := A_bi_
      have A_be := A_be.keep K_ (ninS (Ne.symm ne_bi_be) nin0)
      refine own_aload C X at_113 rfl rfl (pc' := 115) rfl ?_
      refine own_iconst C X at_115 (v := 1) (by decide) (pc' := 116) rfl ?_
      refine own_iloadN C X at_116 rfl (pc' := 117) rfl ?_
      refine own_bipush C X at_117 (v := 31) (by decide) (pc' := 119) rfl ?_
      refine own_iadd C X at_119 rfl (pc' := 120) rfl ?_
      obtain ⟨t1, e_t1⟩ : ∃ z : Int32, (i3 + (31 : Int32)).toInt8.toInt32 = z := ⟨_, rfl⟩
      refine own_i2b C X at_120 e_t1 (pc' := 121) rfl ?_
      refine own_bastore C X at_121 A_bi (by decide) (i := 1) (Nat.le_of_ble_eq_true rfl) (own_i2bn e_t1) ge_bi (pc' := 122) rfl ?_
      intro T h X K_ A_bi_
      have A_bi : own_IA Z h bi .byte [t0, t1, (0 : Int32), (0 : Int32), (0 : Int32), (0 : Int32), (0 : Int32), (0 : Int32)] := A_bi_
      have A_be := A_be.keep K_ (ninS (Ne.symm ne_bi_be) nin0)
      refine own_aload C X at_122 rfl rfl (pc' := 124) rfl ?_
      refine own_iconst C X at_124 (v := 2) (by decide) (pc' := 125) rfl ?_
      refine own_iloadN C X at_125 rfl (pc' := 126) rfl ?_
      refine own_bipush C X at_126 (v := 62) (by decide) (pc' := 128) rfl ?_
      refine own_iadd C X at_128 rfl (pc' := 129) rfl ?_
      obtain ⟨t2, e_t2⟩ : ∃ z : Int32, (i3 + (62 : Int32)).toInt8.toInt32 = z := ⟨_, rfl⟩
      refine own_i2b C X at_129 e_t2 (pc' := 130) rfl ?_
      refine own_bastore C X at_130 A_bi (by decide) (i := 2) (Nat.le_of_ble_eq_true rfl) (own_i2bn e_t2) ge_bi (pc' := 131) rfl ?_
      intro T h X K_ A_bi_
      have A_bi : own_IA Z h bi .byte [t0, t1, t2, (0 : Int32), (0 : Int32), (0 : Int32), (0 : Int32), (0 : Int32)] := A_bi_
      have A_be := A_be.keep K_ (ninS (Ne.symm ne_bi_be) nin0)
      refine own_aload C X at_131 rfl rfl (pc' := 133) rfl ?_
      refine own_iconst C X at_133 (v := 3) (by decide) (pc' := 134) rfl ?_
      refine own_iloadN C X at_134 rfl (pc' := 135) rfl ?_
      refine own_bipush C X at_135 (v := 93) (by decide) (pc' := 137) rfl ?_
      refine own_iadd C X at_137 rfl (pc' := 138) rfl ?_
      obtain ⟨t3, e_t3⟩ : ∃ z : Int32, (i3 + (93 : Int32)).toInt8.toInt32 = z := ⟨_, rfl⟩
      refine own_i2b C X at_138 e_t3 (pc' := 139) rfl ?_
      refine own_bastore C X at_139 A_bi (by decide) (i := 3) (Nat.le_of_ble_eq_true rfl) (own_i2bn e_t3) ge_bi (pc' := 140) rfl ?_
      intro T h X K_ A_bi_
      have A_bi : own_IA Z h bi .byte [t0, t1, t2, t3, (0 : Int32), (0 : Int32), (0 : Int32), (0 : Int32)] := A_bi_
      have A_be := A_be.keep K_ (ninS (Ne.symm ne_bi_be) nin0)
      refine own_aload C X at_140 rfl rfl (pc' := 142) rfl ?_
      refine own_iconst C X at_142 (v := 4) (by decide) (pc' := 143) rfl ?_
      refine own_iloadN C X at_143 rfl (pc' := 144) rfl ?_
      refine own_bipush C X at_144 (v := 124) (by decide) (pc' := 146) rfl ?_
      refine own_iadd C X at_146 rfl (pc' := 147) rfl ?_
      obtain ⟨t4, e_t4⟩ : ∃ z : Int32, (i3 + (124 : Int32)).toInt8.toInt32 = z := ⟨_, rfl⟩
      refine own_i2b C X at_147 e_t4 (pc' := 148) rfl ?_
      refine own_bastore C X at_148 A_bi (by decide) (i := 4) (Nat.le_of_ble_eq_true rfl) (own_i2bn e_t4) ge_bi (pc' := 149) rfl ?_
      intro T h X K_ A_bi_
      have A_bi : own_IA Z h bi .byte [t0, t1, t2, t3, t4, (0 : Int32), (0 : Int32), (0 : Int32)] := A_bi_
      have A_be := A_be.keep K_ (ninS (Ne.symm ne_bi_be) nin0)
      refine own_aload C X at_149 rfl rfl (pc' := 151) rfl ?_
      refine own_iconst C X at_151 (v := 5) (by decide) (pc' := 152) rfl ?_
      refine own_iloadN C X at_152 rfl (pc' := 153) rfl ?_
      refine own_sipush C X at_153 (v := 155) (by decide) (pc' := 156) rfl ?_
      refine own_iadd C X at_156 rfl (pc' := 157) rfl ?_
      obtain ⟨t5, e_t5⟩ : ∃ z : Int32, (i3 + (155 : Int32)).toInt8.toInt32 = z := ⟨_, rfl⟩
      refine own_i2b C X at_157 e_t5 (pc' := 158) rfl ?_
      refine own_bastore C X at_158 A_bi (by decide) (i := 5) (Nat.le_of_ble_eq_true rfl) (own_i2bn e_t5) ge_bi (pc' := 159) rfl ?_
      intro T h X K_ A_bi_
      have A_bi : own_IA Z h bi .byte [t0, t1, t2, t3, t4, t5, (0 : Int32), (0 : Int32)] := A_bi_
      have A_be := A_be.keep K_ (ninS (Ne.symm ne_bi_be) nin0)
      refine own_aload C X at_159 rfl rfl (pc' := 161) rfl ?_
      refine own_bipush C X at_161 (v := 6) (by decide) (pc' := 163) rfl ?_
      refine own_iloadN C X at_163 rfl (pc' := 164) rfl ?_
      refine own_sipush C X at_164 (v := 186) (by decide) (pc' := 167) rfl ?_
      refine own_iadd C X at_167 rfl (pc' := 168) rfl ?_
      obtain ⟨t6, e_t6⟩ : ∃ z : Int32, (i3 + (186 : Int32)).toInt8.toInt32 = z := ⟨_, rfl⟩
      refine own_i2b C X at_168 e_t6 (pc' := 169) rfl ?_
      refine own_bastore C X at_169 A_bi (by decide) (i := 6) (Nat.le_of_ble_eq_true rfl) (own_i2bn e_t6) ge_bi (pc' := 170) rfl ?_
      intro T h X K_ A_bi_
      have A_bi : own_IA Z h bi .byte [t0, t1, t2, t3, t4, t5, t6, (0 : Int32)] := A_bi_
      have A_be := A_be.keep K_ (ninS (Ne.symm ne_bi_be) nin0)
      refine own_aload C X at_170 rfl rfl (pc' := 172) rfl ?_
      refine own_bipush C X at_172 (v := 7) (by decide) (pc' := 174) rfl ?_
      refine own_iloadN C X at_174 rfl (pc' := 175) rfl ?_
      refine own_sipush C X at_175 (v := 217) (by decide) (pc' := 178) rfl ?_
      refine own_iadd C X at_178 rfl (pc' := 179) rfl ?_
      obtain ⟨t7, e_t7⟩ : ∃ z : Int32, (i3 + (217 : Int32)).toInt8.toInt32 = z := ⟨_, rfl⟩
      refine own_i2b C X at_179 e_t7 (pc' := 180) rfl ?_
      refine own_bastore C X at_180 A_bi (by decide) (i := 7) (Nat.le_of_ble_eq_true rfl) (own_i2bn e_t7) ge_bi (pc' := 181) rfl ?_
      intro T h X K_ A_bi_
      have A_bi : own_IA Z h bi .byte [t0, t1, t2, t3, t4, t5, t6, t7] := A_bi_
      have A_be := A_be.keep K_ (ninS (Ne.symm ne_bi_be) nin0)
      refine own_aload C X at_181 rfl rfl (pc' := 183) rfl ?_
      refine own_iconst C X at_183 (v := 0) (by decide) (pc' := 184) rfl ?_
      refine own_aload C X at_184 rfl rfl (pc' := 186) rfl ?_
      refine own_iconst C X at_186 (v := 0) (by decide) (pc' := 187) rfl ?_
      refine own_baload C X at_187 A_bi (by decide) (i := 0) rfl (pc' := 188) rfl ?_
      refine own_bastore C X at_188 A_be (by decide) (i := 0) (Nat.le_of_ble_eq_true rfl) (own_i2bn e_t0) ge_be (pc' := 189) rfl ?_
      intro T h X K_ A_be_
      have A_be : own_IA Z h be .byte [t0, (0 : Int32), (0 : Int32), (0 : Int32), (0 : Int32), (0 : Int32), (0 : Int32), (0 : Int32)] := A_be_
      have A_bi := A_bi.keep K_ (ninS ne_bi_be nin0)
      refine own_aload C X at_189 rfl rfl (pc' := 191) rfl ?_
      refine own_iconst C X at_191 (v := 1) (by decide) (pc' := 192) rfl ?_
      refine own_aload C X at_192 rfl rfl (pc' := 194) rfl ?_
      refine own_iconst C X at_194 (v := 1) (by decide) (pc' := 195) rfl ?_
      refine own_baload C X at_195 A_bi (by decide) (i := 1) rfl (pc' := 196) rfl ?_
      refine own_bastore C X at_196 A_be (by decide) (i := 1) (Nat.le_of_ble_eq_true rfl) (own_i2bn e_t1) ge_be (pc' := 197) rfl ?_
      intro T h X K_ A_be_
      have A_be : own_IA Z h be .byte [t0, t1, (0 : Int32), (0 : Int32), (0 : Int32), (0 : Int32), (0 : Int32), (0 : Int32)] := A_be_
      have A_bi := A_bi.keep K_ (ninS ne_bi_be nin0)
      refine own_aload C X at_197 rfl rfl (pc' := 199) rfl ?_
      refine own_iconst C X at_199 (v := 2) (by decide) (pc' := 200) rfl ?_
      refine own_aload C X at_200 rfl rfl (pc' := 202) rfl ?_
      refine own_iconst C X at_202 (v := 2) (by decide) (pc' := 203) rfl ?_
      refine own_baload C X at_203 A_bi (by decide) (i := 2) rfl (pc' := 204) rfl ?_
      refine own_bastore C X at_204 A_be (by decide) (i := 2) (Nat.le_of_ble_eq_true rfl) (own_i2bn e_t2) ge_be (pc' := 205) rfl ?_
      intro T h X K_ A_be_
      have A_be : own_IA Z h be .byte [t0, t1, t2, (0 : Int32), (0 : Int32), (0 : Int32), (0 : Int32), (0 : Int32)] := A_be_
      have A_bi := A_bi.keep K_ (ninS ne_bi_be nin0)
      refine own_aload C X at_205 rfl rfl (pc' := 207) rfl ?_
      refine own_iconst C X at_207 (v := 3) (by decide) (pc' := 208) rfl ?_
      refine own_aload C X at_208 rfl rfl (pc' := 210) rfl ?_
      refine own_iconst C X at_210 (v := 3) (by decide) (pc' := 211) rfl ?_
      refine own_baload C X at_211 A_bi (by decide) (i := 3) rfl (pc' := 212) rfl ?_
      refine own_bastore C X at_212 A_be (by decide) (i := 3) (Nat.le_of_ble_eq_true rfl) (own_i2bn e_t3) ge_be (pc' := 213) rfl ?_
      intro T h X K_ A_be_
      have A_be : own_IA Z h be .byte [t0, t1, t2, t3, (0 : Int32), (0 : Int32), (0 : Int32), (0 : Int32)] := A_be_
      have A_bi := A_bi.keep K_ (ninS ne_bi_be nin0)
      refine own_aload C X at_213 rfl rfl (pc' := 215) rfl ?_
      refine own_iconst C X at_215 (v := 4) (by decide) (pc' := 216) rfl ?_
      refine own_aload C X at_216 rfl rfl (pc' := 218) rfl ?_
      refine own_iconst C X at_218 (v := 4) (by decide) (pc' := 219) rfl ?_
      refine own_baload C X at_219 A_bi (by decide) (i := 4) rfl (pc' := 220) rfl ?_
      refine own_bastore C X at_220 A_be (by decide) (i := 4) (Nat.le_of_ble_eq_true rfl) (own_i2bn e_t4) ge_be (pc' := 221) rfl ?_
      intro T h X K_ A_be_
      have A_be : own_IA Z h be .byte [t0, t1, t2, t3, t4, (0 : Int32), (0 : Int32), (0 : Int32)] := A_be_
      have A_bi := A_bi.keep K_ (ninS ne_bi_be nin0)
      refine own_aload C X at_221 rfl rfl (pc' := 223) rfl ?_
      refine own_iconst C X at_223 (v := 5) (by decide) (pc' := 224) rfl ?_
      refine own_aload C X at_224 rfl rfl (pc' := 226) rfl ?_
      refine own_iconst C X at_226 (v := 5) (by decide) (pc' := 227) rfl ?_
      refine own_baload C X at_227 A_bi (by decide) (i := 5) rfl (pc' := 228) rfl ?_
      refine own_bastore C X at_228 A_be (by decide) (i := 5) (Nat.le_of_ble_eq_true rfl) (own_i2bn e_t5) ge_be (pc' := 229) rfl ?_
      intro T h X K_ A_be_
      have A_be : own_IA Z h be .byte [t0, t1, t2, t3, t4, t5, (0 : Int32), (0 : Int32)] := A_be_
      have A_bi := A_bi.keep K_ (ninS ne_bi_be nin0)
      refine own_aload C X at_229 rfl rfl (pc' := 231) rfl ?_
      refine own_bipush C X at_231 (v := 6) (by decide) (pc' := 233) rfl ?_
      refine own_aload C X at_233 rfl rfl (pc' := 235) rfl ?_
      refine own_bipush C X at_235 (v := 6) (by decide) (pc' := 237) rfl ?_
      refine own_baload C X at_237 A_bi (by decide) (i := 6) rfl (pc' := 238) rfl ?_
      refine own_bastore C X at_238 A_be (by decide) (i := 6) (Nat.le_of_ble_eq_true rfl) (own_i2bn e_t6) ge_be (pc' := 239) rfl ?_
      intro T h X K_ A_be_
      have A_be : own_IA Z h be .byte [t0, t1, t2, t3, t4, t5, t6, (0 : Int32)] := A_be_
      have A_bi := A_bi.keep K_ (ninS ne_bi_be nin0)
      refine own_aload C X at_239 rfl rfl (pc' := 241) rfl ?_
      refine own_bipush C X at_241 (v := 7) (by decide) (pc' := 243) rfl ?_
      refine own_aload C X at_243 rfl rfl (pc' := 245) rfl ?_
      refine own_bipush C X at_245 (v := 7) (by decide) (pc' := 247) rfl ?_
      refine own_baload C X at_247 A_bi (by decide) (i := 7) rfl (pc' := 248) rfl ?_
      refine own_bastore C X at_248 A_be (by decide) (i := 7) (Nat.le_of_ble_eq_true rfl) (own_i2bn e_t7) ge_be (pc' := 249) rfl ?_
      intro T h X K_ A_be_
      have A_be : own_IA Z h be .byte [t0, t1, t2, t3, t4, t5, t6, t7] := A_be_
      have A_bi := A_bi.keep K_ (ninS ne_bi_be nin0)
      rcases own_at4 i2 off e_off with rfl | rfl | rfl | rfl
      · refine own_iload C X at_249 rfl (pc' := 251) rfl ?_
        refine own_iconst C X at_251 (v := 1) (by decide) (pc' := 252) rfl ?_
        refine own_icmp_ne C X at_252 (pcT := 266) (pc' := 255) (by decide) (by decide) rfl (fun hc252 => ?_) (fun hc252 => absurd hc252 (by decide))
        refine own_iload C X at_266 rfl (pc' := 268) rfl ?_
        refine own_iconst C X at_268 (v := 2) (by decide) (pc' := 269) rfl ?_
        refine own_icmp_ne C X at_269 (pcT := 307) (pc' := 272) (by decide) (by decide) rfl (fun hc269 => absurd hc269 (by decide)) (fun hc269 => ?_)
        refine own_aload C X at_272 rfl rfl (pc' := 274) rfl ?_
        refine own_iload C X at_274 rfl (pc' := 276) rfl ?_
        refine own_sipush C X at_276 (v := 192) (by decide) (pc' := 279) rfl ?_
        refine own_iload C X at_279 rfl (pc' := 281) rfl ?_
        refine own_bipush C X at_281 (v := 64) (by decide) (pc' := 283) rfl ?_
        refine own_idiv C X at_283 (by decide) rfl (pc' := 284) rfl ?_
        refine own_iadd C X at_284 rfl (pc' := 285) rfl ?_
        obtain ⟨x0, e_x0⟩ : ∃ z : Int32, ((192 : Int32) + (cp / (64 : Int32))).toInt8.toInt32 = z := ⟨_, rfl⟩
        refine own_i2b C X at_285 e_x0 (pc' := 286) rfl ?_
        refine own_bastore C X at_286 A_be (by decide) (i := 0) (Nat.le_of_ble_eq_true rfl) (own_i2bn e_x0) ge_be (pc' := 287) rfl ?_
        intro T h X K_ A_be_
        have A_be : own_IA Z h be .byte [x0, t1, t2, t3, t4, t5, t6, t7] := A_be_
        have A_bi := A_bi.keep K_ (ninS ne_bi_be nin0)
        refine own_aload C X at_287 rfl rfl (pc' := 289) rfl ?_
        refine own_iload C X at_289 rfl (pc' := 291) rfl ?_
        refine own_iconst C X at_291 (v := 1) (by decide) (pc' := 292) rfl ?_
        refine own_iadd C X at_292 (z := 1) (by decide) (pc' := 293) rfl ?_
        refine own_sipush C X at_293 (v := 128) (by decide) (pc' := 296) rfl ?_
        refine own_iload C X at_296 rfl (pc' := 298) rfl ?_
        refine own_bipush C X at_298 (v := 64) (by decide) (pc' := 300) rfl ?_
        refine own_irem C X at_300 (by decide) rfl (pc' := 301) rfl ?_
        refine own_iadd C X at_301 rfl (pc' := 302) rfl ?_
        obtain ⟨x1, e_x1⟩ : ∃ z : Int32, ((128 : Int32) + (cp % (64 : Int32))).toInt8.toInt32 = z := ⟨_, rfl⟩
        refine own_i2b C X at_302 e_x1 (pc' := 303) rfl ?_
        refine own_bastore C X at_303 A_be (by decide) (i := 1) (Nat.le_of_ble_eq_true rfl) (own_i2bn e_x1) ge_be (pc' := 304) rfl ?_
        intro T h X K_ A_be_
        have A_be : own_IA Z h be .byte [x0, x1, t2, t3, t4, t5, t6, t7] := A_be_
        have A_bi := A_bi.keep K_ (ninS ne_bi_be nin0)
        refine own_goto C X at_304 (pc' := 442) (by decide) (by decide) ?_
        refine own_iload C X at_442 rfl (pc' := 444) rfl ?_
        refine own_aload C X at_444 rfl rfl (pc' := 446) rfl ?_
        refine own_iload C X at_446 rfl (pc' := 448) rfl ?_
        refine own_callS C X at_448 (own_m_enc2 l Z a0 hw cp bi (0 : Int32) _ n0 (own_big C X) [t0, t1, t2, t3, t4, t5, t6, t7] 0 A_bi (by decide) (Nat.le_of_ble_eq_true rfl) ge_bi 2 (by decide) q1 q2) (hw _ (List.mem_of_getElem? (i := 2) rfl)) (hw _ (List.mem_of_getElem? (i := 3) rfl)) (hw _ (List.mem_of_getElem? (i := 4) rfl)) (hw _ (List.mem_of_getElem? (i := 5) rfl)) (by decide) own_pd_4587 rfl rfl (Nat.le_of_ble_eq_true rfl) (Nat.le_of_ble_eq_true rfl) (Nat.le_of_ble_eq_true rfl) (Nat.le_of_ble_eq_true rfl) (av := [(.int cp), (.ref bi), (.int (0 : Int32))]) (S := []) rfl (pc' := 451) rfl ?_
        intro T h v X hQ
        obtain ⟨rfl, K_, A_bi_⟩ := hQ
        have A_bi : own_IA Z h bi .byte [((192 : Int32) ||| ((cp.toUInt32 >>> ((6 : Int32) &&& 31).toUInt32).toInt32)).toInt8.toInt32, ((128 : Int32) ||| (cp &&& (63 : Int32))).toInt8.toInt32, t2, t3, t4, t5, t6, t7] := A_bi_
        have A_be := A_be.keep K_ (ninS (Ne.symm ne_bi_be) nin0)
        show own_Go p e below n0 (own_Fin room_1 s (fun v h => v = some (.int 1))) (T.setTop (mkF m 451 #[.val (.int i0), .val (.int i1), .val (.int i2), .val (.int i3), .val (.int (i0 &&& (3 : Int32))), .val (.int (i1 &&& (2147483647 : Int32))), .val (.int cp), .val (.int (2 : Int32)), .val (.int (0 : Int32)), .val (.ref bi), .val (.ref be), .unset] [(.int (2 : Int32))]))
        refine own_istore C X at_451 (L' := #[.val (.int i0), .val (.int i1), .val (.int i2), .val (.int i3), .val (.int (i0 &&& (3 : Int32))), .val (.int (i1 &&& (2147483647 : Int32))), .val (.int cp), .val (.int (2 : Int32)), .val (.int (0 : Int32)), .val (.ref bi), .val (.ref be), .val (.int (2 : Int32))]) rfl (pc' := 453) rfl ?_
        refine own_iload C X at_453 rfl (pc' := 455) rfl ?_
        refine own_iload C X at_455 rfl (pc' := 457) rfl ?_
        refine own_iload C X at_457 rfl (pc' := 459) rfl ?_
        refine own_iadd C X at_459 (z := 2) (by decide) (pc' := 460) rfl ?_
        refine own_icmp_ne C X at_460 (pcT := 559) (pc' := 463) (by decide) (by decide) rfl (fun hc460 => absurd hc460 (by decide)) (fun hc460 => ?_)
        refine own_aload C X at_463 rfl rfl (pc' := 465) rfl ?_
        refine own_iconst C X at_465 (v := 0) (by decide) (pc' := 466) rfl ?_
        refine own_baload C X at_466 A_bi (by decide) (i := 0) rfl (pc' := 467) rfl ?_
        refine own_aload C X at_467 rfl rfl (pc' := 469) rfl ?_
        refine own_iconst C X at_469 (v := 0) (by decide) (pc' := 470) rfl ?_
        refine own_baload C X at_470 A_be (by decide) (i := 0) rfl (pc' := 471) rfl ?_
        refine own_icmp_ne C X at_471 (pcT := 559) (pc' := 474) (by decide) (by decide) rfl (fun hc471 => absurd hc471 (not_not_intro ((own_e2_0 cp hz h1).trans e_x0))) (fun hc471 => ?_)
        refine own_aload C X at_474 rfl rfl (pc' := 476) rfl ?_
        refine own_iconst C X at_476 (v := 1) (by decide) (pc' := 477) rfl ?_
        refine own_baload C X at_477 A_bi (by decide) (i := 1) rfl (pc' := 478) rfl ?_
        refine own_aload C X at_478 rfl rfl (pc' := 480) rfl ?_
        refine own_iconst C X at_480 (v := 1) (by decide) (pc' := 481) rfl ?_
        refine own_baload C X at_481 A_be (by decide) (i := 1) rfl (pc' := 482) rfl ?_
        refine own_icmp_ne C X at_482 (pcT := 559) (pc' := 485) (by decide) (by decide) rfl (fun hc482 => absurd hc482 (not_not_intro ((own_e2_1 cp hz h1).trans e_x1))) (fun hc482 => ?_)
        refine own_aload C X at_485 rfl rfl (pc' := 487) rfl ?_
        refine own_iconst C X at_487 (v := 2) (by decide) (pc' := 488) rfl ?_
        refine own_baload C X at_488 A_bi (by decide) (i := 2) rfl (pc' := 489) rfl ?_
        refine own_aload C X at_489 rfl rfl (pc' := 491) rfl ?_
        refine own_iconst C X at_491 (v := 2) (by decide) (pc' := 492) rfl ?_
        refine own_baload C X at_492 A_be (by decide) (i := 2) rfl (pc' := 493) rfl ?_
        refine own_icmp_ne C X at_493 (pcT := 559) (pc' := 496) (by decide) (by decide) rfl (fun hc493 => absurd hc493 (not_not_intro rfl)) (fun hc493 => ?_)
        refine own_aload C X at_496 rfl rfl (pc' := 498) rfl ?_
        refine own_iconst C X at_498 (v := 3) (by decide) (pc' := 499) rfl ?_
        refine own_baload C X at_499 A_bi (by decide) (i := 3) rfl (pc' := 500) rfl ?_
        refine own_aload C X at_500 rfl rfl (pc' := 502) rfl ?_
        refine own_iconst C X at_502 (v := 3) (by decide) (pc' := 503) rfl ?_
        refine own_baload C X at_503 A_be (by decide) (i := 3) rfl (pc' := 504) rfl ?_
        refine own_icmp_ne C X at_504 (pcT := 559) (pc' := 507) (by decide) (by decide) rfl (fun hc504 => absurd hc504 (not_not_intro rfl)) (fun hc504 => ?_)
        refine own_aload C X at_507 rfl rfl (pc' := 509) rfl ?_
        refine own_iconst C X at_509 (v := 4) (by decide) (pc' := 510) rfl ?_
        refine own_baload C X at_510 A_bi (by decide) (i := 4) rfl (pc' := 511) rfl ?_
        refine own_aload C X at_511 rfl rfl (pc' := 513) rfl ?_
        refine own_iconst C X at_513 (v := 4) (by decide) (pc' := 514) rfl ?_
        refine own_baload C X at_514 A_be (by decide) (i := 4) rfl (pc' := 515) rfl ?_
        refine own_icmp_ne C X at_515 (pcT := 559) (pc' := 518) (by decide) (by decide) rfl (fun hc515 => absurd hc515 (not_not_intro rfl)) (fun hc515 => ?_)
        refine own_aload C X at_518 rfl rfl (pc' := 520) rfl ?_
        refine own_iconst C X at_520 (v := 5) (by decide) (pc' := 521) rfl ?_
        refine own_baload C X at_521 A_bi (by decide) (i := 5) rfl (pc' := 522) rfl ?_
        refine own_aload C X at_522 rfl rfl (pc' := 524) rfl ?_
        refine own_iconst C X at_524 (v := 5) (by decide) (pc' := 525) rfl ?_
        refine own_baload C X at_525 A_be (by decide) (i := 5) rfl (pc' := 526) rfl ?_
        refine own_icmp_ne C X at_526 (pcT := 559) (pc' := 529) (by decide) (by decide) rfl (fun hc526 => absurd hc526 (not_not_intro rfl)) (fun hc526 => ?_)
        refine own_aload C X at_529 rfl rfl (pc' := 531) rfl ?_
        refine own_bipush C X at_531 (v := 6) (by decide) (pc' := 533) rfl ?_
        refine own_baload C X at_533 A_bi (by decide) (i := 6) rfl (pc' := 534) rfl ?_
        refine own_aload C X at_534 rfl rfl (pc' := 536) rfl ?_
        refine own_bipush C X at_536 (v := 6) (by decide) (pc' := 538) rfl ?_
        refine own_baload C X at_538 A_be (by decide) (i := 6) rfl (pc' := 539) rfl ?_
        refine own_icmp_ne C X at_539 (pcT := 559) (pc' := 542) (by decide) (by decide) rfl (fun hc539 => absurd hc539 (not_not_intro rfl)) (fun hc539 => ?_)
        refine own_aload C X at_542 rfl rfl (pc' := 544) rfl ?_
        refine own_bipush C X at_544 (v := 7) (by decide) (pc' := 546) rfl ?_
        refine own_baload C X at_546 A_bi (by decide) (i := 7) rfl (pc' := 547) rfl ?_
        refine own_aload C X at_547 rfl rfl (pc' := 549) rfl ?_
        refine own_bipush C X at_549 (v := 7) (by decide) (pc' := 551) rfl ?_
        refine own_baload C X at_551 A_be (by decide) (i := 7) rfl (pc' := 552) rfl ?_
        refine own_icmp_ne C X at_552 (pcT := 559) (pc' := 555) (by decide) (by decide) rfl (fun hc552 => absurd hc552 (not_not_intro rfl)) (fun hc552 => ?_)
        refine own_iconst C X at_555 (v := 1) (by decide) (pc' := 556) rfl ?_
        refine own_goto C X at_556 (pc' := 560) (by decide) (by decide) ?_
        exact own_ireturn_z C X at_560 (Nat.le_of_ble_eq_true rfl) (Nat.le_of_ble_eq_true rfl) (rfl)
      · refine own_iload C X at_249 rfl (pc' := 251) rfl ?_
        refine own_iconst C X at_251 (v := 1) (by decide) (pc' := 252) rfl ?_
        refine own_icmp_ne C X at_252 (pcT := 266) (pc' := 255) (by decide) (by decide) rfl (fun hc252 => ?_) (fun hc252 => absurd hc252 (by decide))
        refine own_iload C X at_266 rfl (pc' := 268) rfl ?_
        refine own_iconst C X at_268 (v := 2) (by decide) (pc' := 269) rfl ?_
        refine own_icmp_ne C X at_269 (pcT := 307) (pc' := 272) (by decide) (by decide) rfl (fun hc269 => absurd hc269 (by decide)) (fun hc269 => ?_)
        refine own_aload C X at_272 rfl rfl (pc' := 274) rfl ?_
        refine own_iload C X at_274 rfl (pc' := 276) rfl ?_
        refine own_sipush C X at_276 (v := 192) (by decide) (pc' := 279) rfl ?_
        refine own_iload C X at_279 rfl (pc' := 281) rfl ?_
        refine own_bipush C X at_281 (v := 64) (by decide) (pc' := 283) rfl ?_
        refine own_idiv C X at_283 (by decide) rfl (pc' := 284) rfl ?_
        refine own_iadd C X at_284 rfl (pc' := 285) rfl ?_
        obtain ⟨x0, e_x0⟩ : ∃ z : Int32, ((192 : Int32) + (cp / (64 : Int32))).toInt8.toInt32 = z := ⟨_, rfl⟩
        refine own_i2b C X at_285 e_x0 (pc' := 286) rfl ?_
        refine own_bastore C X at_286 A_be (by decide) (i := 1) (Nat.le_of_ble_eq_true rfl) (own_i2bn e_x0) ge_be (pc' := 287) rfl ?_
        intro T h X K_ A_be_
        have A_be : own_IA Z h be .byte [t0, x0, t2, t3, t4, t5, t6, t7] := A_be_
        have A_bi := A_bi.keep K_ (ninS ne_bi_be nin0)
        refine own_aload C X at_287 rfl rfl (pc' := 289) rfl ?_
        refine own_iload C X at_289 rfl (pc' := 291) rfl ?_
        refine own_iconst C X at_291 (v := 1) (by decide) (pc' := 292) rfl ?_
        refine own_iadd C X at_292 (z := 2) (by decide) (pc' := 293) rfl ?_
        refine own_sipush C X at_293 (v := 128) (by decide) (pc' := 296) rfl ?_
        refine own_iload C X at_296 rfl (pc' := 298) rfl ?_
        refine own_bipush C X at_298 (v := 64) (by decide) (pc' := 300) rfl ?_
        refine own_irem C X at_300 (by decide) rfl (pc' := 301) rfl ?_
        refine own_iadd C X at_301 rfl (pc' := 302) rfl ?_
        obtain ⟨x1, e_x1⟩ : ∃ z : Int32, ((128 : Int32) + (cp % (64 : Int32))).toInt8.toInt32 = z := ⟨_, rfl⟩
        refine own_i2b C X at_302 e_x1 (pc' := 303) rfl ?_
        refine own_bastore C X at_303 A_be (by decide) (i := 2) (Nat.le_of_ble_eq_true rfl) (own_i2bn e_x1) ge_be (pc' := 304) rfl ?_
        intro T h X K_ A_be_
        have A_be : own_IA Z h be .byte [t0, x0, x1, t3, t4, t5, t6, t7] := A_be_
        have A_bi := A_bi.keep K_ (ninS ne_bi_be nin0)
        refine own_goto C X at_304 (pc' := 442) (by decide) (by decide) ?_
        refine own_iload C X at_442 rfl (pc' := 444) rfl ?_
        refine own_aload C X at_444 rfl rfl (pc' := 446) rfl ?_
        refine own_iload C X at_446 rfl (pc' := 448) rfl ?_
        refine own_callS C X at_448 (own_m_enc2 l Z a0 hw cp bi (1 : Int32) _ n0 (own_big C X) [t0, t1, t2, t3, t4, t5, t6, t7] 1 A_bi (by decide) (Nat.le_of_ble_eq_true rfl) ge_bi 3 (by decide) q1 q2) (hw _ (List.mem_of_getElem? (i := 2) rfl)) (hw _ (List.mem_of_getElem? (i := 3) rfl)) (hw _ (List.mem_of_getElem? (i := 4) rfl)) (hw _ (List.mem_of_getElem? (i := 5) rfl)) (by decide) own_pd_4587 rfl rfl (Nat.le_of_ble_eq_true rfl) (Nat.le_of_ble_eq_true rfl) (Nat.le_of_ble_eq_true rfl) (Nat.le_of_ble_eq_true rfl) (av := [(.int cp), (.ref bi), (.int (1 : Int32))]) (S := []) rfl (pc' := 451) rfl ?_
        intro T h v X hQ
        obtain ⟨rfl, K_, A_bi_⟩ := hQ
        have A_bi : own_IA Z h bi .byte [t0, ((192 : Int32) ||| ((cp.toUInt32 >>> ((6 : Int32) &&& 31).toUInt32).toInt32)).toInt8.toInt32, ((128 : Int32) ||| (cp &&& (63 : Int32))).toInt8.toInt32, t3, t4, t5, t6, t7] := A_bi_
        have A_be := A_be.keep K_ (ninS (Ne.symm ne_bi_be) nin0)
        show own_Go p e below n0 (own_Fin room_1 s (fun v h => v = some (.int 1))) (T.setTop (mkF m 451 #[.val (.int i0), .val (.int i1), .val (.int i2), .val (.int i3), .val (.int (i0 &&& (3 : Int32))), .val (.int (i1 &&& (2147483647 : Int32))), .val (.int cp), .val (.int (2 : Int32)), .val (.int (1 : Int32)), .val (.ref bi), .val (.ref be), .unset] [(.int (3 : Int32))]))
        refine own_istore C X at_451 (L' := #[.val (.int i0), .val (.int i1), .val (.int i2), .val (.int i3), .val (.int (i0 &&& (3 : Int32))), .val (.int (i1 &&& (2147483647 : Int32))), .val (.int cp), .val (.int (2 : Int32)), .val (.int (1 : Int32)), .val (.ref bi), .val (.ref be), .val (.int (3 : Int32))]) rfl (pc' := 453) rfl ?_
        refine own_iload C X at_453 rfl (pc' := 455) rfl ?_
        refine own_iload C X at_455 rfl (pc' := 457) rfl ?_
        refine own_iload C X at_457 rfl (pc' := 459) rfl ?_
        refine own_iadd C X at_459 (z := 3) (by decide) (pc' := 460) rfl ?_
        refine own_icmp_ne C X at_460 (pcT := 559) (pc' := 463) (by decide) (by decide) rfl (fun hc460 => absurd hc460 (by decide)) (fun hc460 => ?_)
        refine own_aload C X at_463 rfl rfl (pc' := 465) rfl ?_
        refine own_iconst C X at_465 (v := 0) (by decide) (pc' := 466) rfl ?_
        refine own_baload C X at_466 A_bi (by decide) (i := 0) rfl (pc' := 467) rfl ?_
        refine own_aload C X at_467 rfl rfl (pc' := 469) rfl ?_
        refine own_iconst C X at_469 (v := 0) (by decide) (pc' := 470) rfl ?_
        refine own_baload C X at_470 A_be (by decide) (i := 0) rfl (pc' := 471) rfl ?_
        refine own_icmp_ne C X at_471 (pcT := 559) (pc' := 474) (by decide) (by decide) rfl (fun hc471 => absurd hc471 (not_not_intro rfl)) (fun hc471 => ?_)
        refine own_aload C X at_474 rfl rfl (pc' := 476) rfl ?_
        refine own_iconst C X at_476 (v := 1) (by decide) (pc' := 477) rfl ?_
        refine own_baload C X at_477 A_bi (by decide) (i := 1) rfl (pc' := 478) rfl ?_
        refine own_aload C X at_478 rfl rfl (pc' := 480) rfl ?_
        refine own_iconst C X at_480 (v := 1) (by decide) (pc' := 481) rfl ?_
        refine own_baload C X at_481 A_be (by decide) (i := 1) rfl (pc' := 482) rfl ?_
        refine own_icmp_ne C X at_482 (pcT := 559) (pc' := 485) (by decide) (by decide) rfl (fun hc482 => absurd hc482 (not_not_intro ((own_e2_0 cp hz h1).trans e_x0))) (fun hc482 => ?_)
        refine own_aload C X at_485 rfl rfl (pc' := 487) rfl ?_
        refine own_iconst C X at_487 (v := 2) (by decide) (pc' := 488) rfl ?_
        refine own_baload C X at_488 A_bi (by decide) (i := 2) rfl (pc' := 489) rfl ?_
        refine own_aload C X at_489 rfl rfl (pc' := 491) rfl ?_
        refine own_iconst C X at_491 (v := 2) (by decide) (pc' := 492) rfl ?_
        refine own_baload C X at_492 A_be (by decide) (i := 2) rfl (pc' := 493) rfl ?_
        refine own_icmp_ne C X at_493 (pcT := 559) (pc' := 496) (by decide) (by decide) rfl (fun hc493 => absurd hc493 (not_not_intro ((own_e2_1 cp hz h1).trans e_x1))) (fun hc493 => ?_)
        refine own_aload C X at_496 rfl rfl (pc' := 498) rfl ?_
        refine own_iconst C X at_498 (v := 3) (by decide) (pc' := 499) rfl ?_
        refine own_baload C X at_499 A_bi (by decide) (i := 3) rfl (pc' := 500) rfl ?_
        refine own_aload C X at_500 rfl rfl (pc' := 502) rfl ?_
        refine own_iconst C X at_502 (v := 3) (by decide) (pc' := 503) rfl ?_
        refine own_baload C X at_503 A_be (by decide) (i := 3) rfl (pc' := 504) rfl ?_
        refine own_icmp_ne C X at_504 (pcT := 559) (pc' := 507) (by decide) (by decide) rfl (fun hc504 => absurd hc504 (not_not_intro rfl)) (fun hc504 => ?_)
        refine own_aload C X at_507 rfl rfl (pc' := 509) rfl ?_
        refine own_iconst C X at_509 (v := 4) (by decide) (pc' := 510) rfl ?_
        refine own_baload C X at_510 A_bi (by decide) (i := 4) rfl (pc' := 511) rfl ?_
        refine own_aload C X at_511 rfl rfl (pc' := 513) rfl ?_
        refine own_iconst C X at_513 (v := 4) (by decide) (pc' := 514) rfl ?_
        refine own_baload C X at_514 A_be (by decide) (i := 4) rfl (pc' := 515) rfl ?_
        refine own_icmp_ne C X at_515 (pcT := 559) (pc' := 518) (by decide) (by decide) rfl (fun hc515 => absurd hc515 (not_not_intro rfl)) (fun hc515 => ?_)
        refine own_aload C X at_518 rfl rfl (pc' := 520) rfl ?_
        refine own_iconst C X at_520 (v := 5) (by decide) (pc' := 521) rfl ?_
        refine own_baload C X at_521 A_bi (by decide) (i := 5) rfl (pc' := 522) rfl ?_
        refine own_aload C X at_522 rfl rfl (pc' := 524) rfl ?_
        refine own_iconst C X at_524 (v := 5) (by decide) (pc' := 525) rfl ?_
        refine own_baload C X at_525 A_be (by decide) (i := 5) rfl (pc' := 526) rfl ?_
        refine own_icmp_ne C X at_526 (pcT := 559) (pc' := 529) (by decide) (by decide) rfl (fun hc526 => absurd hc526 (not_not_intro rfl)) (fun hc526 => ?_)
        refine own_aload C X at_529 rfl rfl (pc' := 531) rfl ?_
        refine own_bipush C X at_531 (v := 6) (by decide) (pc' := 533) rfl ?_
        refine own_baload C X at_533 A_bi (by decide) (i := 6) rfl (pc' := 534) rfl ?_
        refine own_aload C X at_534 rfl rfl (pc' := 536) rfl ?_
        refine own_bipush C X at_536 (v := 6) (by decide) (pc' := 538) rfl ?_
        refine own_baload C X at_538 A_be (by decide) (i := 6) rfl (pc' := 539) rfl ?_
        refine own_icmp_ne C X at_539 (pcT := 559) (pc' := 542) (by decide) (by decide) rfl (fun hc539 => absurd hc539 (not_not_intro rfl)) (fun hc539 => ?_)
        refine own_aload C X at_542 rfl rfl (pc' := 544) rfl ?_
        refine own_bipush C X at_544 (v := 7) (by decide) (pc' := 546) rfl ?_
        refine own_baload C X at_546 A_bi (by decide) (i := 7) rfl (pc' := 547) rfl ?_
        refine own_aload C X at_547 rfl rfl (pc' := 549) rfl ?_
        refine own_bipush C X at_549 (v := 7) (by decide) (pc' := 551) rfl ?_
        refine own_baload C X at_551 A_be (by decide) (i := 7) rfl (pc' := 552) rfl ?_
        refine own_icmp_ne C X at_552 (pcT := 559) (pc' := 555) (by decide) (by decide) rfl (fun hc552 => absurd hc552 (not_not_intro rfl)) (fun hc552 => ?_)
        refine own_iconst C X at_555 (v := 1) (by decide) (pc' := 556) rfl ?_
        refine own_goto C X at_556 (pc' := 560) (by decide) (by decide) ?_
        exact own_ireturn_z C X at_560 (Nat.le_of_ble_eq_true rfl) (Nat.le_of_ble_eq_true rfl) (rfl)
      · refine own_iload C X at_249 rfl (pc' := 251) rfl ?_
        refine own_iconst C X at_251 (v := 1) (by decide) (pc' := 252) rfl ?_
        refine own_icmp_ne C X at_252 (pcT := 266) (pc' := 255) (by decide) (by decide) rfl (fun hc252 => ?_) (fun hc252 => absurd hc252 (by decide))
        refine own_iload C X at_266 rfl (pc' := 268) rfl ?_
        refine own_iconst C X at_268 (v := 2) (by decide) (pc' := 269) rfl ?_
        refine own_icmp_ne C X at_269 (pcT := 307) (pc' := 272) (by decide) (by decide) rfl (fun hc269 => absurd hc269 (by decide)) (fun hc269 => ?_)
        refine own_aload C X at_272 rfl rfl (pc' := 274) rfl ?_
        refine own_iload C X at_274 rfl (pc' := 276) rfl ?_
        refine own_sipush C X at_276 (v := 192) (by decide) (pc' := 279) rfl ?_
        refine own_iload C X at_279 rfl (pc' := 281) rfl ?_
        refine own_bipush C X at_281 (v := 64) (by decide) (pc' := 283) rfl ?_
        refine own_idiv C X at_283 (by decide) rfl (pc' := 284) rfl ?_
        refine own_iadd C X at_284 rfl (pc' := 285) rfl ?_
        obtain ⟨x0, e_x0⟩ : ∃ z : Int32, ((192 : Int32) + (cp / (64 : Int32))).toInt8.toInt32 = z := ⟨_, rfl⟩
        refine own_i2b C X at_285 e_x0 (pc' := 286) rfl ?_
        refine own_bastore C X at_286 A_be (by decide) (i := 2) (Nat.le_of_ble_eq_true rfl) (own_i2bn e_x0) ge_be (pc' := 287) rfl ?_
        intro T h X K_ A_be_
        have A_be : own_IA Z h be .byte [t0, t1, x0, t3, t4, t5, t6, t7] := A_be_
        have A_bi := A_bi.keep K_ (ninS ne_bi_be nin0)
        refine own_aload C X at_287 rfl rfl (pc' := 289) rfl ?_
        refine own_iload C X at_289 rfl (pc' := 291) rfl ?_
        refine own_iconst C X at_291 (v := 1) (by decide) (pc' := 292) rfl ?_
        refine own_iadd C X at_292 (z := 3) (by decide) (pc' := 293) rfl ?_
        refine own_sipush C X at_293 (v := 128) (by decide) (pc' := 296) rfl ?_
        refine own_iload C X at_296 rfl (pc' := 298) rfl ?_
        refine own_bipush C X at_298 (v := 64) (by decide) (pc' := 300) rfl ?_
        refine own_irem C X at_300 (by decide) rfl (pc' := 301) rfl ?_
        refine own_iadd C X at_301 rfl (pc' := 302) rfl ?_
        obtain ⟨x1, e_x1⟩ : ∃ z : Int32, ((128 : Int32) + (cp % (64 : Int32))).toInt8.toInt32 = z := ⟨_, rfl⟩
        refine own_i2b C X at_302 e_x1 (pc' := 303) rfl ?_
        refine own_bastore C X at_303 A_be (by decide) (i := 3) (Nat.le_of_ble_eq_true rfl) (own_i2bn e_x1) ge_be (pc' := 304) rfl ?_
        intro T h X K_ A_be_
        have A_be : own_IA Z h be .byte [t0, t1, x0, x1, t4, t5, t6, t7] := A_be_
        have A_bi := A_bi.keep K_ (ninS ne_bi_be nin0)
        refine own_goto C X at_304 (pc' := 442) (by decide) (by decide) ?_
        refine own_iload C X at_442 rfl (pc' := 444) rfl ?_
        refine own_aload C X at_444 rfl rfl (pc' := 446) rfl ?_
        refine own_iload C X at_446 rfl (pc' := 448) rfl ?_
        refine own_callS C X at_448 (own_m_enc2 l Z a0 hw cp bi (2 : Int32) _ n0 (own_big C X) [t0, t1, t2, t3, t4, t5, t6, t7] 2 A_bi (by decide) (Nat.le_of_ble_eq_true rfl) ge_bi 4 (by decide) q1 q2) (hw _ (List.mem_of_getElem? (i := 2) rfl)) (hw _ (List.mem_of_getElem? (i := 3) rfl)) (hw _ (List.mem_of_getElem? (i := 4) rfl)) (hw _ (List.mem_of_getElem? (i := 5) rfl)) (by decide) own_pd_4587 rfl rfl (Nat.le_of_ble_eq_true rfl) (Nat.le_of_ble_eq_true rfl) (Nat.le_of_ble_eq_true rfl) (Nat.le_of_ble_eq_true rfl) (av := [(.int cp), (.ref bi), (.int (2 : Int32))]) (S := []) rfl (pc' := 451) rfl ?_
        intro T h v X hQ
        obtain ⟨rfl, K_, A_bi_⟩ := hQ
        have A_bi : own_IA Z h bi .byte [t0, t1, ((192 : Int32) ||| ((cp.toUInt32 >>> ((6 : Int32) &&& 31).toUInt32).toInt32)).toInt8.toInt32, ((128 : Int32) ||| (cp &&& (63 : Int32))).toInt8.toInt32, t4, t5, t6, t7] := A_bi_
        have A_be := A_be.keep K_ (ninS (Ne.symm ne_bi_be) nin0)
        show own_Go p e below n0 (own_Fin room_1 s (fun v h => v = some (.int 1))) (T.setTop (mkF m 451 #[.val (.int i0), .val (.int i1), .val (.int i2), .val (.int i3), .val (.int (i0 &&& (3 : Int32))), .val (.int (i1 &&& (2147483647 : Int32))), .val (.int cp), .val (.int (2 : Int32)), .val (.int (2 : Int32)), .val (.ref bi), .val (.ref be), .unset] [(.int (4 : Int32))]))
        refine own_istore C X at_451 (L' := #[.val (.int i0), .val (.int i1), .val (.int i2), .val (.int i3), .val (.int (i0 &&& (3 : Int32))), .val (.int (i1 &&& (2147483647 : Int32))), .val (.int cp), .val (.int (2 : Int32)), .val (.int (2 : Int32)), .val (.ref bi), .val (.ref be), .val (.int (4 : Int32))]) rfl (pc' := 453) rfl ?_
        refine own_iload C X at_453 rfl (pc' := 455) rfl ?_
        refine own_iload C X at_455 rfl (pc' := 457) rfl ?_
        refine own_iload C X at_457 rfl (pc' := 459) rfl ?_
        refine own_iadd C X at_459 (z := 4) (by decide) (pc' := 460) rfl ?_
        refine own_icmp_ne C X at_460 (pcT := 559) (pc' := 463) (by decide) (by decide) rfl (fun hc460 => absurd hc460 (by decide)) (fun hc460 => ?_)
        refine own_aload C X at_463 rfl rfl (pc' := 465) rfl ?_
        refine own_iconst C X at_465 (v := 0) (by decide) (pc' := 466) rfl ?_
        refine own_baload C X at_466 A_bi (by decide) (i := 0) rfl (pc' := 467) rfl ?_
        refine own_aload C X at_467 rfl rfl (pc' := 469) rfl ?_
        refine own_iconst C X at_469 (v := 0) (by decide) (pc' := 470) rfl ?_
        refine own_baload C X at_470 A_be (by decide) (i := 0) rfl (pc' := 471) rfl ?_
        refine own_icmp_ne C X at_471 (pcT := 559) (pc' := 474) (by decide) (by decide) rfl (fun hc471 => absurd hc471 (not_not_intro rfl)) (fun hc471 => ?_)
        refine own_aload C X at_474 rfl rfl (pc' := 476) rfl ?_
        refine own_iconst C X at_476 (v := 1) (by decide) (pc' := 477) rfl ?_
        refine own_baload C X at_477 A_bi (by decide) (i := 1) rfl (pc' := 478) rfl ?_
        refine own_aload C X at_478 rfl rfl (pc' := 480) rfl ?_
        refine own_iconst C X at_480 (v := 1) (by decide) (pc' := 481) rfl ?_
        refine own_baload C X at_481 A_be (by decide) (i := 1) rfl (pc' := 482) rfl ?_
        refine own_icmp_ne C X at_482 (pcT := 559) (pc' := 485) (by decide) (by decide) rfl (fun hc482 => absurd hc482 (not_not_intro rfl)) (fun hc482 => ?_)
        refine own_aload C X at_485 rfl rfl (pc' := 487) rfl ?_
        refine own_iconst C X at_487 (v := 2) (by decide) (pc' := 488) rfl ?_
        refine own_baload C X at_488 A_bi (by decide) (i := 2) rfl (pc' := 489) rfl ?_
        refine own_aload C X at_489 rfl rfl (pc' := 491) rfl ?_
        refine own_iconst C X at_491 (v := 2) (by decide) (pc' := 492) rfl ?_
        refine own_baload C X at_492 A_be (by decide) (i := 2) rfl (pc' := 493) rfl ?_
        refine own_icmp_ne C X at_493 (pcT := 559) (pc' := 496) (by decide) (by decide) rfl (fun hc493 => absurd hc493 (not_not_intro ((own_e2_0 cp hz h1).trans e_x0))) (fun hc493 => ?_)
        refine own_aload C X at_496 rfl rfl (pc' := 498) rfl ?_
        refine own_iconst C X at_498 (v := 3) (by decide) (pc' := 499) rfl ?_
        refine own_baload C X at_499 A_bi (by decide) (i := 3) rfl (pc' := 500) rfl ?_
        refine own_aload C X at_500 rfl rfl (pc' := 502) rfl ?_
        refine own_iconst C X at_502 (v := 3) (by decide) (pc' := 503) rfl ?_
        refine own_baload C X at_503 A_be (by decide) (i := 3) rfl (pc' := 504) rfl ?_
        refine own_icmp_ne C X at_504 (pcT := 559) (pc' := 507) (by decide) (by decide) rfl (fun hc504 => absurd hc504 (not_not_intro ((own_e2_1 cp hz h1).trans e_x1))) (fun hc504 => ?_)
        refine own_aload C X at_507 rfl rfl (pc' := 509) rfl ?_
        refine own_iconst C X at_509 (v := 4) (by decide) (pc' := 510) rfl ?_
        refine own_baload C X at_510 A_bi (by decide) (i := 4) rfl (pc' := 511) rfl ?_
        refine own_aload C X at_511 rfl rfl (pc' := 513) rfl ?_
        refine own_iconst C X at_513 (v := 4) (by decide) (pc' := 514) rfl ?_
        refine own_baload C X at_514 A_be (by decide) (i := 4) rfl (pc' := 515) rfl ?_
        refine own_icmp_ne C X at_515 (pcT := 559) (pc' := 518) (by decide) (by decide) rfl (fun hc515 => absurd hc515 (not_not_intro rfl)) (fun hc515 => ?_)
        refine own_aload C X at_518 rfl rfl (pc' := 520) rfl ?_
        refine own_iconst C X at_520 (v := 5) (by decide) (pc' := 521) rfl ?_
        refine own_baload C X at_521 A_bi (by decide) (i := 5) rfl (pc' := 522) rfl ?_
        refine own_aload C X at_522 rfl rfl (pc' := 524) rfl ?_
        refine own_iconst C X at_524 (v := 5) (by decide) (pc' := 525) rfl ?_
        refine own_baload C X at_525 A_be (by decide) (i := 5) rfl (pc' := 526) rfl ?_
        refine own_icmp_ne C X at_526 (pcT := 559) (pc' := 529) (by decide) (by decide) rfl (fun hc526 => absurd hc526 (not_not_intro rfl)) (fun hc526 => ?_)
        refine own_aload C X at_529 rfl rfl (pc' := 531) rfl ?_
        refine own_bipush C X at_531 (v := 6) (by decide) (pc' := 533) rfl ?_
        refine own_baload C X at_533 A_bi (by decide) (i := 6) rfl (pc' := 534) rfl ?_
        refine own_aload C X at_534 rfl rfl (pc' := 536) rfl ?_
        refine own_bipush C X at_536 (v := 6) (by decide) (pc' := 538) rfl ?_
        refine own_baload C X at_538 A_be (by decide) (i := 6) rfl (pc' := 539) rfl ?_
        refine own_icmp_ne C X at_539 (pcT := 559) (pc' := 542) (by decide) (by decide) rfl (fun hc539 => absurd hc539 (not_not_intro rfl)) (fun hc539 => ?_)
        refine own_aload C X at_542 rfl rfl (pc' := 544) rfl ?_
        refine own_bipush C X at_544 (v := 7) (by decide) (pc' := 546) rfl ?_
        refine own_baload C X at_546 A_bi (by decide) (i := 7) rfl (pc' := 547) rfl ?_
        refine own_aload C X at_547 rfl rfl (pc' := 549) rfl ?_
        refine own_bipush C X at_549 (v := 7) (by decide) (pc' := 551) rfl ?_
        refine own_baload C X at_551 A_be (by decide) (i := 7) rfl (pc' := 552) rfl ?_
        refine own_icmp_ne C X at_552 (pcT := 559) (pc' := 555) (by decide) (by decide) rfl (fun hc552 => absurd hc552 (not_not_intro rfl)) (fun hc552 => ?_)
        refine own_iconst C X at_555 (v := 1) (by decide) (pc' := 556) rfl ?_
        refine own_goto C X at_556 (pc' := 560) (by decide) (by decide) ?_
        exact own_ireturn_z C X at_560 (Nat.le_of_ble_eq_true rfl) (Nat.le_of_ble_eq_true rfl) (rfl)
      · refine own_iload C X at_249 rfl (pc' := 251) rfl ?_
        refine own_iconst C X at_251 (v := 1) (by decide) (pc' := 252) rfl ?_
        refine own_icmp_ne C X at_252 (pcT := 266) (pc' := 255) (by decide) (by decide) rfl (fun hc252 => ?_) (fun hc252 => absurd hc252 (by decide))
        refine own_iload C X at_266 rfl (pc' := 268) rfl ?_
        refine own_iconst C X at_268 (v := 2) (by decide) (pc' := 269) rfl ?_
        refine own_icmp_ne C X at_269 (pcT := 307) (pc' := 272) (by decide) (by decide) rfl (fun hc269 => absurd hc269 (by decide)) (fun hc269 => ?_)
        refine own_aload C X at_272 rfl rfl (pc' := 274) rfl ?_
        refine own_iload C X at_274 rfl (pc' := 276) rfl ?_
        refine own_sipush C X at_276 (v := 192) (by decide) (pc' := 279) rfl ?_
        refine own_iload C X at_279 rfl (pc' := 281) rfl ?_
        refine own_bipush C X at_281 (v := 64) (by decide) (pc' := 283) rfl ?_
        refine own_idiv C X at_283 (by decide) rfl (pc' := 284) rfl ?_
        refine own_iadd C X at_284 rfl (pc' := 285) rfl ?_
        obtain ⟨x0, e_x0⟩ : ∃ z : Int32, ((192 : Int32) + (cp / (64 : Int32))).toInt8.toInt32 = z := ⟨_, rfl⟩
        refine own_i2b C X at_285 e_x0 (pc' := 286) rfl ?_
        refine own_bastore C X at_286 A_be (by decide) (i := 3) (Nat.le_of_ble_eq_true rfl) (own_i2bn e_x0) ge_be (pc' := 287) rfl ?_
        intro T h X K_ A_be_
        have A_be : own_IA Z h be .byte [t0, t1, t2, x0, t4, t5, t6, t7] := A_be_
        have A_bi := A_bi.keep K_ (ninS ne_bi_be nin0)
        refine own_aload C X at_287 rfl rfl (pc' := 289) rfl ?_
        refine own_iload C X at_289 rfl (pc' := 291) rfl ?_
        refine own_iconst C X at_291 (v := 1) (by decide) (pc' := 292) rfl ?_
        refine own_iadd C X at_292 (z := 4) (by decide) (pc' := 293) rfl ?_
        refine own_sipush C X at_293 (v := 128) (by decide) (pc' := 296) rfl ?_
        refine own_iload C X at_296 rfl (pc' := 298) rfl ?_
        refine own_bipush C X at_298 (v := 64) (by decide) (pc' := 300) rfl ?_
        refine own_irem C X at_300 (by decide) rfl (pc' := 301) rfl ?_
        refine own_iadd C X at_301 rfl (pc' := 302) rfl ?_
        obtain ⟨x1, e_x1⟩ : ∃ z : Int32, ((128 : Int32) + (cp % (64 : Int32))).toInt8.toInt32 = z := ⟨_, rfl⟩
        refine own_i2b C X at_302 e_x1 (pc' := 303) rfl ?_
        refine own_bastore C X at_303 A_be (by decide) (i := 4) (Nat.le_of_ble_eq_true rfl) (own_i2bn e_x1) ge_be (pc' := 304) rfl ?_
        intro T h X K_ A_be_
        have A_be : own_IA Z h be .byte [t0, t1, t2, x0, x1, t5, t6, t7] := A_be_
        have A_bi := A_bi.keep K_ (ninS ne_bi_be nin0)
        refine own_goto C X at_304 (pc' := 442) (by decide) (by decide) ?_
        refine own_iload C X at_442 rfl (pc' := 444) rfl ?_
        refine own_aload C X at_444 rfl rfl (pc' := 446) rfl ?_
        refine own_iload C X at_446 rfl (pc' := 448) rfl ?_
        refine own_callS C X at_448 (own_m_enc2 l Z a0 hw cp bi (3 : Int32) _ n0 (own_big C X) [t0, t1, t2, t3, t4, t5, t6, t7] 3 A_bi (by decide) (Nat.le_of_ble_eq_true rfl) ge_bi 5 (by decide) q1 q2) (hw _ (List.mem_of_getElem? (i := 2) rfl)) (hw _ (List.mem_of_getElem? (i := 3) rfl)) (hw _ (List.mem_of_getElem? (i := 4) rfl)) (hw _ (List.mem_of_getElem? (i := 5) rfl)) (by decide) own_pd_4587 rfl rfl (Nat.le_of_ble_eq_true rfl) (Nat.le_of_ble_eq_true rfl) (Nat.le_of_ble_eq_true rfl) (Nat.le_of_ble_eq_true rfl) (av := [(.int cp), (.ref bi), (.int (3 : Int32))]) (S := []) rfl (pc' := 451) rfl ?_
        intro T h v X hQ
        obtain ⟨rfl, K_, A_bi_⟩ := hQ
        have A_bi : own_IA Z h bi .byte [t0, t1, t2, ((192 : Int32) ||| ((cp.toUInt32 >>> ((6 : Int32) &&& 31).toUInt32).toInt32)).toInt8.toInt32, ((128 : Int32) ||| (cp &&& (63 : Int32))).toInt8.toInt32, t5, t6, t7] := A_bi_
        have A_be := A_be.keep K_ (ninS (Ne.symm ne_bi_be) nin0)
        show own_Go p e below n0 (own_Fin room_1 s (fun v h => v = some (.int 1))) (T.setTop (mkF m 451 #[.val (.int i0), .val (.int i1), .val (.int i2), .val (.int i3), .val (.int (i0 &&& (3 : Int32))), .val (.int (i1 &&& (2147483647 : Int32))), .val (.int cp), .val (.int (2 : Int32)), .val (.int (3 : Int32)), .val (.ref bi), .val (.ref be), .unset] [(.int (5 : Int32))]))
        refine own_istore C X at_451 (L' := #[.val (.int i0), .val (.int i1), .val (.int i2), .val (.int i3), .val (.int (i0 &&& (3 : Int32))), .val (.int (i1 &&& (2147483647 : Int32))), .val (.int cp), .val (.int (2 : Int32)), .val (.int (3 : Int32)), .val (.ref bi), .val (.ref be), .val (.int (5 : Int32))]) rfl (pc' := 453) rfl ?_
        refine own_iload C X at_453 rfl (pc' := 455) rfl ?_
        refine own_iload C X at_455 rfl (pc' := 457) rfl ?_
        refine own_iload C X at_457 rfl (pc' := 459) rfl ?_
        refine own_iadd C X at_459 (z := 5) (by decide) (pc' := 460) rfl ?_
        refine own_icmp_ne C X at_460 (pcT := 559) (pc' := 463) (by decide) (by decide) rfl (fun hc460 => absurd hc460 (by decide)) (fun hc460 => ?_)
        refine own_aload C X at_463 rfl rfl (pc' := 465) rfl ?_
        refine own_iconst C X at_465 (v := 0) (by decide) (pc' := 466) rfl ?_
        refine own_baload C X at_466 A_bi (by decide) (i := 0) rfl (pc' := 467) rfl ?_
        refine own_aload C X at_467 rfl rfl (pc' := 469) rfl ?_
        refine own_iconst C X at_469 (v := 0) (by decide) (pc' := 470) rfl ?_
        refine own_baload C X at_470 A_be (by decide) (i := 0) rfl (pc' := 471) rfl ?_
        refine own_icmp_ne C X at_471 (pcT := 559) (pc' := 474) (by decide) (by decide) rfl (fun hc471 => absurd hc471 (not_not_intro rfl)) (fun hc471 => ?_)
        refine own_aload C X at_474 rfl rfl (pc' := 476) rfl ?_
        refine own_iconst C X at_476 (v := 1) (by decide) (pc' := 477) rfl ?_
        refine own_baload C X at_477 A_bi (by decide) (i := 1) rfl (pc' := 478) rfl ?_
        refine own_aload C X at_478 rfl rfl (pc' := 480) rfl ?_
        refine own_iconst C X at_480 (v := 1) (by decide) (pc' := 481) rfl ?_
        refine own_baload C X at_481 A_be (by decide) (i := 1) rfl (pc' := 482) rfl ?_
        refine own_icmp_ne C X at_482 (pcT := 559) (pc' := 485) (by decide) (by decide) rfl (fun hc482 => absurd hc482 (not_not_intro rfl)) (fun hc482 => ?_)
        refine own_aload C X at_485 rfl rfl (pc' := 487) rfl ?_
        refine own_iconst C X at_487 (v := 2) (by decide) (pc' := 488) rfl ?_
        refine own_baload C X at_488 A_bi (by decide) (i := 2) rfl (pc' := 489) rfl ?_
        refine own_aload C X at_489 rfl rfl (pc' := 491) rfl ?_
        refine own_iconst C X at_491 (v := 2) (by decide) (pc' := 492) rfl ?_
        refine own_baload C X at_492 A_be (by decide) (i := 2) rfl (pc' := 493) rfl ?_
        refine own_icmp_ne C X at_493 (pcT := 559) (pc' := 496) (by decide) (by decide) rfl (fun hc493 => absurd hc493 (not_not_intro rfl)) (fun hc493 => ?_)
        refine own_aload C X at_496 rfl rfl (pc' := 498) rfl ?_
        refine own_iconst C X at_498 (v := 3) (by decide) (pc' := 499) rfl ?_
        refine own_baload C X at_499 A_bi (by decide) (i := 3) rfl (pc' := 500) rfl ?_
        refine own_aload C X at_500 rfl rfl (pc' := 502) rfl ?_
        refine own_iconst C X at_502 (v := 3) (by decide) (pc' := 503) rfl ?_
        refine own_baload C X at_503 A_be (by decide) (i := 3) rfl (pc' := 504) rfl ?_
        refine own_icmp_ne C X at_504 (pcT := 559) (pc' := 507) (by decide) (by decide) rfl (fun hc504 => absurd hc504 (not_not_intro ((own_e2_0 cp hz h1).trans e_x0))) (fun hc504 => ?_)
        refine own_aload C X at_507 rfl rfl (pc' := 509) rfl ?_
        refine own_iconst C X at_509 (v := 4) (by decide) (pc' := 510) rfl ?_
        refine own_baload C X at_510 A_bi (by decide) (i := 4) rfl (pc' := 511) rfl ?_
        refine own_aload C X at_511 rfl rfl (pc' := 513) rfl ?_
        refine own_iconst C X at_513 (v := 4) (by decide) (pc' := 514) rfl ?_
        refine own_baload C X at_514 A_be (by decide) (i := 4) rfl (pc' := 515) rfl ?_
        refine own_icmp_ne C X at_515 (pcT := 559) (pc' := 518) (by decide) (by decide) rfl (fun hc515 => absurd hc515 (not_not_intro ((own_e2_1 cp hz h1).trans e_x1))) (fun hc515 => ?_)
        refine own_aload C X at_518 rfl rfl (pc' := 520) rfl ?_
        refine own_iconst C X at_520 (v := 5) (by decide) (pc' := 521) rfl ?_
        refine own_baload C X at_521 A_bi (by decide) (i := 5) rfl (pc' := 522) rfl ?_
        refine own_aload C X at_522 rfl rfl (pc' := 524) rfl ?_
        refine own_iconst C X at_524 (v := 5) (by decide) (pc' := 525) rfl ?_
        refine own_baload C X at_525 A_be (by decide) (i := 5) rfl (pc' := 526) rfl ?_
        refine own_icmp_ne C X at_526 (pcT := 559) (pc' := 529) (by decide) (by decide) rfl (fun hc526 => absurd hc526 (not_not_intro rfl)) (fun hc526 => ?_)
        refine own_aload C X at_529 rfl rfl (pc' := 531) rfl ?_
        refine own_bipush C X at_531 (v := 6) (by decide) (pc' := 533) rfl ?_
        refine own_baload C X at_533 A_bi (by decide) (i := 6) rfl (pc' := 534) rfl ?_
        refine own_aload C X at_534 rfl rfl (pc' := 536) rfl ?_
        refine own_bipush C X at_536 (v := 6) (by decide) (pc' := 538) rfl ?_
        refine own_baload C X at_538 A_be (by decide) (i := 6) rfl (pc' := 539) rfl ?_
        refine own_icmp_ne C X at_539 (pcT := 559) (pc' := 542) (by decide) (by decide) rfl (fun hc539 => absurd hc539 (not_not_intro rfl)) (fun hc539 => ?_)
        refine own_aload C X at_542 rfl rfl (pc' := 544) rfl ?_
        refine own_bipush C X at_544 (v := 7) (by decide) (pc' := 546) rfl ?_
        refine own_baload C X at_546 A_bi (by decide) (i := 7) rfl (pc' := 547) rfl ?_
        refine own_aload C X at_547 rfl rfl (pc' := 549) rfl ?_
        refine own_bipush C X at_549 (v := 7) (by decide) (pc' := 551) rfl ?_
        refine own_baload C X at_551 A_be (by decide) (i := 7) rfl (pc' := 552) rfl ?_
        refine own_icmp_ne C X at_552 (pcT := 559) (pc' := 555) (by decide) (by decide) rfl (fun hc552 => absurd hc552 (not_not_intro rfl)) (fun hc552 => ?_)
        refine own_iconst C X at_555 (v := 1) (by decide) (pc' := 556) rfl ?_
        refine own_goto C X at_556 (pc' := 560) (by decide) (by decide) ?_
        exact own_ireturn_z C X at_560 (Nat.le_of_ble_eq_true rfl) (Nat.le_of_ble_eq_true rfl) (rfl)
  · refine own_iload C X at_16 rfl (pc' := 18) rfl ?_
    refine own_sipush C X at_18 (v := 128) (by decide) (pc' := 21) rfl ?_
    obtain ⟨cp, e_cp⟩ : ∃ z : Int32, ((i1 &&& (2147483647 : Int32)) % (128 : Int32)) = z := ⟨_, rfl⟩
    refine own_irem C X at_21 (by decide) e_cp (pc' := 22) rfl ?_
    obtain ⟨hz, h1⟩ := own_rem i1 (128 : Int32) (by decide)
    rw [e_cp] at hz h1
    replace h1 : cp.toInt < (128 : Int) := h1
    have q1 : cp < 128 := own_lt1.mpr h1
    refine own_istore C X at_22 (L' := #[.val (.int i0), .val (.int i1), .val (.int i2), .val (.int i3), .val (.int (i0 &&& (3 : Int32))), .val (.int (i1 &&& (2147483647 : Int32))), .val (.int cp), .unset, .unset, .unset, .unset, .unset]) rfl (pc' := 24) rfl ?_
    refine own_iconst C X at_24 (v := 1) (by decide) (pc' := 25) rfl ?_
    refine own_istore C X at_25 (L' := #[.val (.int i0), .val (.int i1), .val (.int i2), .val (.int i3), .val (.int (i0 &&& (3 : Int32))), .val (.int (i1 &&& (2147483647 : Int32))), .val (.int cp), .val (.int (1 : Int32)), .unset, .unset, .unset, .unset]) rfl (pc' := 27) rfl ?_
    refine own_goto C X at_27 (pc' := 90) (by decide) (by decide) ?_
    refine own_iloadN C X at_90 rfl (pc' := 91) rfl ?_
    refine own_iconst C X at_91 (v := 3) (by decide) (pc' := 92) rfl ?_
    obtain ⟨off, e_off⟩ : ∃ z : Int32, (i2 &&& (3 : Int32)) = z := ⟨_, rfl⟩
    refine own_iand C X at_92 e_off (pc' := 93) rfl ?_
    refine own_istore C X at_93 (L' := #[.val (.int i0), .val (.int i1), .val (.int i2), .val (.int i3), .val (.int (i0 &&& (3 : Int32))), .val (.int (i1 &&& (2147483647 : Int32))), .val (.int cp), .val (.int (1 : Int32)), .val (.int off), .unset, .unset, .unset]) rfl (pc' := 95) rfl ?_
    refine own_bipush C X at_95 (v := 8) (by decide) (pc' := 97) rfl ?_
    refine own_newI C X at_97 (ty := .byte) rfl (hw _ (List.mem_of_getElem? (i := 1) rfl)) (by decide) (k := 8) (cap := 8) (Nat.le_of_ble_eq_true rfl) (by decide) (Nat.le_of_ble_eq_true rfl) (Nat.le_of_ble_eq_true rfl) rfl rfl (pc' := 99) rfl ?_
    intro T h bi e_bi X K_ ge_bi A_bi_
    have A_bi : own_IA Z h bi .byte [(0 : Int32), (0 : Int32), (0 : Int32), (0 : Int32), (0 : Int32), (0 : Int32), (0 : Int32), (0 : Int32)] := A_bi_
    refine own_astore C X at_99 rfl (L' := #[.val (.int i0), .val (.int i1), .val (.int i2), .val (.int i3), .val (.int (i0 &&& (3 : Int32))), .val (.int (i1 &&& (2147483647 : Int32))), .val (.int cp), .val (.int (1 : Int32)), .val (.int off), .val (.ref bi), .unset, .unset]) rfl (pc' := 101) rfl ?_
    refine own_bipush C X at_101 (v := 8) (by decide) (pc' := 103) rfl ?_
    refine own_newI C X at_103 (ty := .byte) rfl (hw _ (List.mem_of_getElem? (i := 1) rfl)) (by decide) (k := 8) (cap := 8) (Nat.le_of_ble_eq_true rfl) (by decide) (Nat.le_of_ble_eq_true rfl) (Nat.le_of_ble_eq_true rfl) rfl rfl (pc' := 105) rfl ?_
    intro T h be e_be X K_ ge_be A_be_
    have ne_bi_be : bi ≠ be := by rw [e_be]; exact Nat.ne_of_lt A_bi.lt
    have A_be : own_IA Z h be .byte [(0 : Int32), (0 : Int32), (0 : Int32), (0 : Int32), (0 : Int32), (0 : Int32), (0 : Int32), (0 : Int32)] := A_be_
    have A_bi := A_bi.keep K_ nin0
    refine own_astore C X at_105 rfl (L' := #[.val (.int i0), .val (.int i1), .val (.int i2), .val (.int i3), .val (.int (i0 &&& (3 : Int32))), .val (.int (i1 &&& (2147483647 : Int32))), .val (.int cp), .val (.int (1 : Int32)), .val (.int off), .val (.ref bi), .val (.ref be), .unset]) rfl (pc' := 107) rfl ?_
    refine own_aload C X at_107 rfl rfl (pc' := 109) rfl ?_
    refine own_iconst C X at_109 (v := 0) (by decide) (pc' := 110) rfl ?_
    refine own_iloadN C X at_110 rfl (pc' := 111) rfl ?_
    obtain ⟨t0, e_t0⟩ : ∃ z : Int32, i3.toInt8.toInt32 = z := ⟨_, rfl⟩
    refine own_i2b C X at_111 e_t0 (pc' := 112) rfl ?_
    refine own_bastore C X at_112 A_bi (by decide) (i := 0) (Nat.le_of_ble_eq_true rfl) (own_i2bn e_t0) ge_bi (pc' := 113) rfl ?_
    intro T h X K_ A_bi_
    have A_bi : own_IA Z h bi .byte [t0, (0 : Int32), (0 : Int32), (0 : Int32), (0 : Int32), (0 : Int32), (0 : Int32), (0 : Int32)] := A_bi_
    have A_be := A_be.keep K_ (ninS (Ne.symm ne_bi_be) nin0)
    refine own_aload C X at_113 rfl rfl (pc' := 115) rfl ?_
    refine own_iconst C X at_115 (v := 1) (by decide) (pc' := 116) rfl ?_
    refine own_iloadN C X at_116 rfl (pc' := 117) rfl ?_
    refine own_bipush C X at_117 (v := 31) (by decide) (pc' := 119) rfl ?_
    refine own_iadd C X at_119 rfl (pc' := 120) rfl ?_
    obtain ⟨t1, e_t1⟩ : ∃ z : Int32, (i3 + (31 : Int32)).toInt8.toInt32 = z := ⟨_, rfl⟩
    refine own_i2b C X at_120 e_t1 (pc' := 121) rfl ?_
    refine own_bastore C X at_121 A_bi (by decide) (i := 1) (Nat.le_of_ble_eq_true rfl) (own_i2bn e_t1) ge_bi (pc' := 122) rfl ?_
    intro T h X K_ A_bi_
    have A_bi : own_IA Z h bi .byte [t0, t1, (0 : Int32), (0 : Int32), (0 : Int32), (0 : Int32), (0 : Int32), (0 : Int32)] := A_bi_
    have A_be := A_be.keep K_ (ninS (Ne.symm ne_bi_be) nin0)
    refine own_aload C X at_122 rfl rfl (pc' := 124) rfl ?_
    refine own_iconst C X at_124 (v := 2) (by decide) (pc' := 125) rfl ?_
    refine own_iloadN C X at_125 rfl (pc' := 126) rfl ?_
    refine own_bipush C X at_126 (v := 62) (by decide) (pc' := 128) rfl ?_
    refine own_iadd C X at_128 rfl (pc' := 129) rfl ?_
    obtain ⟨t2, e_t2⟩ : ∃ z : Int32, (i3 + (62 : Int32)).toInt8.toInt32 = z := ⟨_, rfl⟩
    refine own_i2b C X at_129 e_t2 (pc' := 130) rfl ?_
    refine own_bastore C X at_130 A_bi (by decide) (i := 2) (Nat.le_of_ble_eq_true rfl) (own_i2bn e_t2) ge_bi (pc' := 131) rfl ?_
    intro T h X K_ A_bi_
    have A_bi : own_IA Z h bi .byte [t0, t1, t2, (0 : Int32), (0 : Int32), (0 : Int32), (0 : Int32), (0 : Int32)] := A_bi_
    have A_be := A_be.keep K_ (ninS (Ne.symm ne_bi_be) nin0)
    refine own_aload C X at_131 rfl rfl (pc' := 133) rfl ?_
    refine own_iconst C X at_133 (v := 3) (by decide) (pc' := 134) rfl ?_
    refine own_iloadN C X at_134 rfl (pc' := 135) rfl ?_
    refine own_bipush C X at_135 (v := 93) (by decide) (pc' := 137) rfl ?_
    refine own_iadd C X at_137 rfl (pc' := 138) rfl ?_
    obtain ⟨t3, e_t3⟩ : ∃ z : Int32, (i3 + (93 : Int32)).toInt8.toInt32 = z := ⟨_, rfl⟩
    refine own_i2b C X at_138 e_t3 (pc' := 139) rfl ?_
    refine own_bastore C X at_139 A_bi (by decide) (i := 3) (Nat.le_of_ble_eq_true rfl) (own_i2bn e_t3) ge_bi (pc' := 140) rfl ?_
    intro T h X K_ A_bi_
    have A_bi : own_IA Z h bi .byte [t0, t1, t2, t3, (0 : Int32), (0 : Int32), (0 : Int32), (0 : Int32)] := A_bi_
    have A_be := A_be.keep K_ (ninS (Ne.symm ne_bi_be) nin0)
    refine own_aload C X at_140 rfl rfl (pc' := 142) rfl ?_
    refine own_iconst C X at_142 (v := 4) (by decide) (pc' := 143) rfl ?_
    refine own_iloadN C X at_143 rfl (pc' := 144) rfl ?_
    refine own_bipush C X at_144 (v := 124) (by decide) (pc' := 146) rfl ?_
    refine own_iadd C X at_146 rfl (pc' := 147) rfl ?_
    obtain ⟨t4, e_t4⟩ : ∃ z : Int32, (i3 + (124 : Int32)).toInt8.toInt32 = z := ⟨_, rfl⟩
    refine own_i2b C X at_147 e_t4 (pc' := 148) rfl ?_
    refine own_bastore C X at_148 A_bi (by decide) (i := 4) (Nat.le_of_ble_eq_true rfl) (own_i2bn e_t4) ge_bi (pc' := 149) rfl ?_
    intro T h X K_ A_bi_
    have A_bi : own_IA Z h bi .byte [t0, t1, t2, t3, t4, (0 : Int32), (0 : Int32), (0 : Int32)] := A_bi_
    have A_be := A_be.keep K_ (ninS (Ne.symm ne_bi_be) nin0)
    refine own_aload C X at_149 rfl rfl (pc' := 151) rfl ?_
    refine own_iconst C X at_151 (v := 5) (by decide) (pc' := 152) rfl ?_
    refine own_iloadN C X at_152 rfl (pc' := 153) rfl ?_
    refine own_sipush C X at_153 (v := 155) (by decide) (pc' := 156) rfl ?_
    refine own_iadd C X at_156 rfl (pc' := 157) rfl ?_
    obtain ⟨t5, e_t5⟩ : ∃ z : Int32, (i3 + (155 : Int32)).toInt8.toInt32 = z := ⟨_, rfl⟩
    refine own_i2b C X at_157 e_t5 (pc' := 158) rfl ?_
    refine own_bastore C X at_158 A_bi (by decide) (i := 5) (Nat.le_of_ble_eq_true rfl) (own_i2bn e_t5) ge_bi (pc' := 159) rfl ?_
    intro T h X K_ A_bi_
    have A_bi : own_IA Z h bi .byte [t0, t1, t2, t3, t4, t5, (0 : Int32), (0 : Int32)] := A_bi_
    have A_be := A_be.keep K_ (ninS (Ne.symm ne_bi_be) nin0)
    refine own_aload C X at_159 rfl rfl (pc' := 161) rfl ?_
    refine own_bipush C X at_161 (v := 6) (by decide) (pc' := 163) rfl ?_
    refine own_iloadN C X at_163 rfl (pc' := 164) rfl ?_
    refine own_sipush C X at_164 (v := 186) (by decide) (pc' := 167) rfl ?_
    refine own_iadd C X at_167 rfl (pc' := 168) rfl ?_
    obtain ⟨t6, e_t6⟩ : ∃ z : Int32, (i3 + (186 : Int32)).toInt8.toInt32 = z := ⟨_, rfl⟩
    refine own_i2b C X at_168 e_t6 (pc' := 169) rfl ?_
    refine own_bastore C X at_169 A_bi (by decide) (i := 6) (Nat.le_of_ble_eq_true rfl) (own_i2bn e_t6) ge_bi (pc' := 170) rfl ?_
    intro T h X K_ A_bi_
    have A_bi : own_IA Z h bi .byte [t0, t1, t2, t3, t4, t5, t6, (0 : Int32)] := A_bi_
    have A_be := A_be.keep K_ (ninS (Ne.symm ne_bi_be) nin0)
    refine own_aload C X at_170 rfl rfl (pc' := 172) rfl ?_
    refine own_bipush C X at_172 (v := 7) (by decide) (pc' := 174) rfl ?_
    refine own_iloadN C X at_174 rfl (pc' := 175) rfl ?_
    refine own_sipush C X at_175 (v := 217) (by decide) (pc' := 178) rfl ?_
    refine own_iadd C X at_178 rfl (pc' := 179) rfl ?_
    obtain ⟨t7, e_t7⟩ : ∃ z : Int32, (i3 + (217 : Int32)).toInt8.toInt32 = z := ⟨_, rfl⟩
    refine own_i2b C X at_179 e_t7 (pc' := 180) rfl ?_
    refine own_bastore C X at_180 A_bi (by decide) (i := 7) (Nat.le_of_ble_eq_true rfl) (own_i2bn e_t7) ge_bi (pc' := 181) rfl ?_
    intro T h X K_ A_bi_
    have A_bi : own_IA Z h bi .byte [t0, t1, t2, t3, t4, t5, t6, t7] := A_bi_
    have A_be := A_be.keep K_ (ninS (Ne.symm ne_bi_be) nin0)
    refine own_aload C X at_181 rfl rfl (pc' := 183) rfl ?_
    refine own_iconst C X at_183 (v := 0) (by decide) (pc' := 184) rfl ?_
    refine own_aload C X at_184 rfl rfl (pc' := 186) rfl ?_
    refine own_iconst C X at_186 (v := 0) (by decide) (pc' := 187) rfl ?_
    refine own_baload C X at_187 A_bi (by decide) (i := 0) rfl (pc' := 188) rfl ?_
    refine own_bastore C X at_188 A_be (by decide) (i := 0) (Nat.le_of_ble_eq_true rfl) (own_i2bn e_t0) ge_be (pc' := 189) rfl ?_
    intro T h X K_ A_be_
    have A_be : own_IA Z h be .byte [t0, (0 : Int32), (0 : Int32), (0 : Int32), (0 : Int32), (0 : Int32), (0 : Int32), (0 : Int32)] := A_be_
    have A_bi := A_bi.keep K_ (ninS ne_bi_be nin0)
    refine own_aload C X at_189 rfl rfl (pc' := 191) rfl ?_
    refine own_iconst C X at_191 (v := 1) (by decide) (pc' := 192) rfl ?_
    refine own_aload C X at_192 rfl rfl (pc' := 194) rfl ?_
    refine own_iconst C X at_194 (v := 1) (by decide) (pc' := 195) rfl ?_
    refine own_baload C X at_195 A_bi (by decide) (i := 1) rfl (pc' := 196) rfl ?_
    refine own_bastore C X at_196 A_be (by decide) (i := 1) (Nat.le_of_ble_eq_true rfl) (own_i2bn e_t1) ge_be (pc' := 197) rfl ?_
    intro T h X K_ A_be_
    have A_be : own_IA Z h be .byte [t0, t1, (0 : Int32), (0 : Int32), (0 : Int32), (0 : Int32), (0 : Int32), (0 : Int32)] := A_be_
    have A_bi := A_bi.keep K_ (ninS ne_bi_be nin0)
    refine own_aload C X at_197 rfl rfl (pc' := 199) rfl ?_
    refine own_iconst C X at_199 (v := 2) (by decide) (pc' := 200) rfl ?_
    refine own_aload C X at_200 rfl rfl (pc' := 202) rfl ?_
    refine own_iconst C X at_202 (v := 2) (by decide) (pc' := 203) rfl ?_
    refine own_baload C X at_203 A_bi (by decide) (i := 2) rfl (pc' := 204) rfl ?_
    refine own_bastore C X at_204 A_be (by decide) (i := 2) (Nat.le_of_ble_eq_true rfl) (own_i2bn e_t2) ge_be (pc' := 205) rfl ?_
    intro T h X K_ A_be_
    have A_be : own_IA Z h be .byte [t0, t1, t2, (0 : Int32), (0 : Int32), (0 : Int32), (0 : Int32), (0 : Int32)] := A_be_
    have A_bi := A_bi.keep K_ (ninS ne_bi_be nin0)
    refine own_aload C X at_205 rfl rfl (pc' := 207) rfl ?_
    refine own_iconst C X at_207 (v := 3) (by decide) (pc' := 208) rfl ?_
    refine own_aload C X at_208 rfl rfl (pc' := 210) rfl ?_
    refine own_iconst C X at_210 (v := 3) (by decide) (pc' := 211) rfl ?_
    refine own_baload C X at_211 A_bi (by decide) (i := 3) rfl (pc' := 212) rfl ?_
    refine own_bastore C X at_212 A_be (by decide) (i := 3) (Nat.le_of_ble_eq_true rfl) (own_i2bn e_t3) ge_be (pc' := 213) rfl ?_
    intro T h X K_ A_be_
    have A_be : own_IA Z h be .byte [t0, t1, t2, t3, (0 : Int32), (0 : Int32), (0 : Int32), (0 : Int32)] := A_be_
    have A_bi := A_bi.keep K_ (ninS ne_bi_be nin0)
    refine own_aload C X at_213 rfl rfl (pc' := 215) rfl ?_
    refine own_iconst C X at_215 (v := 4) (by decide) (pc' := 216) rfl ?_
    refine own_aload C X at_216 rfl rfl (pc' := 218) rfl ?_
    refine own_iconst C X at_218 (v := 4) (by decide) (pc' := 219) rfl ?_
    refine own_baload C X at_219 A_bi (by decide) (i := 4) rfl (pc' := 220) rfl ?_
    refine own_bastore C X at_220 A_be (by decide) (i := 4) (Nat.le_of_ble_eq_true rfl) (own_i2bn e_t4) ge_be (pc' := 221) rfl ?_
    intro T h X K_ A_be_
    have A_be : own_IA Z h be .byte [t0, t1, t2, t3, t4, (0 : Int32), (0 : Int32), (0 : Int32)] := A_be_
    have A_bi := A_bi.keep K_ (ninS ne_bi_be nin0)
    refine own_aload C X at_221 rfl rfl (pc' := 223) rfl ?_
    refine own_iconst C X at_223 (v := 5) (by decide) (pc' := 224) rfl ?_
    refine own_aload C X at_224 rfl rfl (pc' := 226) rfl ?_
    refine own_iconst C X at_226 (v := 5) (by decide) (pc' := 227) rfl ?_
    refine own_baload C X at_227 A_bi (by decide) (i := 5) rfl (pc' := 228) rfl ?_
    refine own_bastore C X at_228 A_be (by decide) (i := 5) (Nat.le_of_ble_eq_true rfl) (own_i2bn e_t5) ge_be (pc' := 229) rfl ?_
    intro T h X K_ A_be_
    have A_be : own_IA Z h be .byte [t0, t1, t2, t3, t4, t5, (0 : Int32), (0 : Int32)] := A_be_
    have A_bi := A_bi.keep K_ (ninS ne_bi_be nin0)
    refine own_aload C X at_229 rfl rfl (pc' := 231) rfl ?_
    refine own_bipush C X at_231 (v := 6) (by decide) (pc' := 233) rfl ?_
    refine own_aload C X at_233 rfl rfl (pc' := 235) rfl ?_
    refine own_bipush C X at_235 (v := 6) (by decide) (pc' := 237) rfl ?_
    refine own_baload C X at_237 A_bi (by decide) (i := 6) rfl (pc' := 238) rfl ?_
    refine own_bastore C X at_238 A_be (by decide) (i := 6) (Nat.le_of_ble_eq_true rfl) (own_i2bn e_t6) ge_be (pc' := 239) rfl ?_
    intro T h X K_ A_be_
    have A_be : own_IA Z h be .byte [t0, t1, t2, t3, t4, t5, t6, (0 : Int32)] := A_be_
    have A_bi := A_bi.keep K_ (ninS ne_bi_be nin0)
    refine own_aload C X at_239 rfl rfl (pc' := 241) rfl ?_
    refine own_bipush C X at_241 (v := 7) (by decide) (pc' := 243) rfl ?_
    refine own_aload C X at_243 rfl rfl (pc' := 245) rfl ?_
    refine own_bipush C X at_245 (v := 7) (by decide) (pc' := 247) rfl ?_
    refine own_baload C X at_247 A_bi (by decide) (i := 7) rfl (pc' := 248) rfl ?_
    refine own_bastore C X at_248 A_be (by decide) (i := 7) (Nat.le_of_ble_eq_true rfl) (own_i2bn e_t7) ge_be (pc' := 249) rfl ?_
    intro T h X K_ A_be_
    have A_be : own_IA Z h be .byte [t0, t1, t2, t3, t4, t5, t6, t7] := A_be_
    have A_bi := A_bi.keep K_ (ninS ne_bi_be nin0)
    rcases own_at4 i2 off e_off with rfl | rfl | rfl | rfl
    · refine own_iload C X at_249 rfl (pc' := 251) rfl ?_
      refine own_iconst C X at_251 (v := 1) (by decide) (pc' := 252) rfl ?_
      refine own_icmp_ne C X at_252 (pcT := 266) (pc' := 255) (by decide) (by decide) rfl (fun hc252 => absurd hc252 (by decide)) (fun hc252 => ?_)
      refine own_aload C X at_255 rfl rfl (pc' := 257) rfl ?_
      refine own_iload C X at_257 rfl (pc' := 259) rfl ?_
      refine own_iload C X at_259 rfl (pc' := 261) rfl ?_
      obtain ⟨x0, e_x0⟩ : ∃ z : Int32, cp.toInt8.toInt32 = z := ⟨_, rfl⟩
      refine own_i2b C X at_261 e_x0 (pc' := 262) rfl ?_
      refine own_bastore C X at_262 A_be (by decide) (i := 0) (Nat.le_of_ble_eq_true rfl) (own_i2bn e_x0) ge_be (pc' := 263) rfl ?_
      intro T h X K_ A_be_
      have A_be : own_IA Z h be .byte [x0, t1, t2, t3, t4, t5, t6, t7] := A_be_
      have A_bi := A_bi.keep K_ (ninS ne_bi_be nin0)
      refine own_goto C X at_263 (pc' := 442) (by decide) (by decide) ?_
      refine own_iload C X at_442 rfl (pc' := 444) rfl ?_
      refine own_aload C X at_444 rfl rfl (pc' := 446) rfl ?_
      refine own_iload C X at_446 rfl (pc' := 448) rfl ?_
      refine own_callS C X at_448 (own_m_enc1 l Z a0 hw cp bi (0 : Int32) _ n0 (own_big C X) [t0, t1, t2, t3, t4, t5, t6, t7] 0 A_bi (by decide) (Nat.le_of_ble_eq_true rfl) ge_bi 1 (by decide) q1) (hw _ (List.mem_of_getElem? (i := 2) rfl)) (hw _ (List.mem_of_getElem? (i := 3) rfl)) (hw _ (List.mem_of_getElem? (i := 4) rfl)) (hw _ (List.mem_of_getElem? (i := 5) rfl)) (by decide) own_pd_4587 rfl rfl (Nat.le_of_ble_eq_true rfl) (Nat.le_of_ble_eq_true rfl) (Nat.le_of_ble_eq_true rfl) (Nat.le_of_ble_eq_true rfl) (av := [(.int cp), (.ref bi), (.int (0 : Int32))]) (S := []) rfl (pc' := 451) rfl ?_
      intro T h v X hQ
      obtain ⟨rfl, K_, A_bi_⟩ := hQ
      have A_bi : own_IA Z h bi .byte [cp.toInt8.toInt32, t1, t2, t3, t4, t5, t6, t7] := A_bi_
      have A_be := A_be.keep K_ (ninS (Ne.symm ne_bi_be) nin0)
      show own_Go p e below n0 (own_Fin room_1 s (fun v h => v = some (.int 1))) (T.setTop (mkF m 451 #[.val (.int i0), .val (.int i1), .val (.int i2), .val (.int i3), .val (.int (i0 &&& (3 : Int32))), .val (.int (i1 &&& (2147483647 : Int32))), .val (.int cp), .val (.int (1 : Int32)), .val (.int (0 : Int32)), .val (.ref bi), .val (.ref be), .unset] [(.int (1 : Int32))]))
      refine own_istore C X at_451 (L' := #[.val (.int i0), .val (.int i1), .val (.int i2), .val (.int i3), .val (.int (i0 &&& (3 : Int32))), .val (.int (i1 &&& (2147483647 : Int32))), .val (.int cp), .val (.int (1 : Int32)), .val (.int (0 : Int32)), .val (.ref bi), .val (.ref be), .val (.int (1 : Int32))]) rfl (pc' := 453) rfl ?_
      refine own_iload C X at_453 rfl (pc' := 455) rfl ?_
      refine own_iload C X at_455 rfl (pc' := 457) rfl ?_
      refine own_iload C X at_457 rfl (pc' := 459) rfl ?_
      refine own_iadd C X at_459 (z := 1) (by decide) (pc' := 460) rfl ?_
      refine own_icmp_ne C X at_460 (pcT := 559) (pc' := 463) (by decide) (by decide) rfl (fun hc460 => absurd hc460 (by decide)) (fun hc460 => ?_)
      refine own_aload C X at_463 rfl rfl (pc' := 465) rfl ?_
      refine own_iconst C X at_465 (v := 0) (by decide) (pc' := 466) rfl ?_
      refine own_baload C X at_466 A_bi (by decide) (i := 0) rfl (pc' := 467) rfl ?_
      refine own_aload C X at_467 rfl rfl (pc' := 469) rfl ?_
      refine own_iconst C X at_469 (v := 0) (by decide) (pc' := 470) rfl ?_
      refine own_baload C X at_470 A_be (by decide) (i := 0) rfl (pc' := 471) rfl ?_
      refine own_icmp_ne C X at_471 (pcT := 559) (pc' := 474) (by decide) (by decide) rfl (fun hc471 => absurd hc471 (not_not_intro (e_x0))) (fun hc471 => ?_)
      refine own_aload C X at_474 rfl rfl (pc' := 476) rfl ?_
      refine own_iconst C X at_476 (v := 1) (by decide) (pc' := 477) rfl ?_
      refine own_baload C X at_477 A_bi (by decide) (i := 1) rfl (pc' := 478) rfl ?_
      refine own_aload C X at_478 rfl rfl (pc' := 480) rfl ?_
      refine own_iconst C X at_480 (v := 1) (by decide) (pc' := 481) rfl ?_
      refine own_baload C X at_481 A_be (by decide) (i := 1) rfl (pc' := 482) rfl ?_
      refine own_icmp_ne C X at_482 (pcT := 559) (pc' := 485) (by decide) (by decide) rfl (fun hc482 => absurd hc482 (not_not_intro rfl)) (fun hc482 => ?_)
      refine own_aload C X at_485 rfl rfl (pc' := 487) rfl ?_
      refine own_iconst C X at_487 (v := 2) (by decide) (pc' := 488) rfl ?_
      refine own_baload C X at_488 A_bi (by decide) (i := 2) rfl (pc' := 489) rfl ?_
      refine own_aload C X at_489 rfl rfl (pc' := 491) rfl ?_
      refine own_iconst C X at_491 (v := 2) (by decide) (pc' := 492) rfl ?_
      refine own_baload C X at_492 A_be (by decide) (i := 2) rfl (pc' := 493) rfl ?_
      refine own_icmp_ne C X at_493 (pcT := 559) (pc' := 496) (by decide) (by decide) rfl (fun hc493 => absurd hc493 (not_not_intro rfl)) (fun hc493 => ?_)
      refine own_aload C X at_496 rfl rfl (pc' := 498) rfl ?_
      refine own_iconst C X at_498 (v := 3) (by decide) (pc' := 499) rfl ?_
      refine own_baload C X at_499 A_bi (by decide) (i := 3) rfl (pc' := 500) rfl ?_
      refine own_aload C X at_500 rfl rfl (pc' := 502) rfl ?_
      refine own_iconst C X at_502 (v := 3) (by decide) (pc' := 503) rfl ?_
      refine own_baload C X at_503 A_be (by decide) (i := 3) rfl (pc' := 504) rfl ?_
      refine own_icmp_ne C X at_504 (pcT := 559) (pc' := 507) (by decide) (by decide) rfl (fun hc504 => absurd hc504 (not_not_intro rfl)) (fun hc504 => ?_)
      refine own_aload C X at_507 rfl rfl (pc' := 509) rfl ?_
      refine own_iconst C X at_509 (v := 4) (by decide) (pc' := 510) rfl ?_
      refine own_baload C X at_510 A_bi (by decide) (i := 4) rfl (pc' := 511) rfl ?_
      refine own_aload C X at_511 rfl rfl (pc' := 513) rfl ?_
      refine own_iconst C X at_513 (v := 4) (by decide) (pc' := 514) rfl ?_
      refine own_baload C X at_514 A_be (by decide) (i := 4) rfl (pc' := 515) rfl ?_
      refine own_icmp_ne C X at_515 (pcT := 559) (pc' := 518) (by decide) (by decide) rfl (fun hc515 => absurd hc515 (not_not_intro rfl)) (fun hc515 => ?_)
      refine own_aload C X at_518 rfl rfl (pc' := 520) rfl ?_
      refine own_iconst C X at_520 (v := 5) (by decide) (pc' := 521) rfl ?_
      refine own_baload C X at_521 A_bi (by decide) (i := 5) rfl (pc' := 522) rfl ?_
      refine own_aload C X at_522 rfl rfl (pc' := 524) rfl ?_
      refine own_iconst C X at_524 (v := 5) (by decide) (pc' := 525) rfl ?_
      refine own_baload C X at_525 A_be (by decide) (i := 5) rfl (pc' := 526) rfl ?_
      refine own_icmp_ne C X at_526 (pcT := 559) (pc' := 529) (by decide) (by decide) rfl (fun hc526 => absurd hc526 (not_not_intro rfl)) (fun hc526 => ?_)
      refine own_aload C X at_529 rfl rfl (pc' := 531) rfl ?_
      refine own_bipush C X at_531 (v := 6) (by decide) (pc' := 533) rfl ?_
      refine own_baload C X at_533 A_bi (by decide) (i := 6) rfl (pc' := 534) rfl ?_
      refine own_aload C X at_534 rfl rfl (pc' := 536) rfl ?_
      refine own_bipush C X at_536 (v := 6) (by decide) (pc' := 538) rfl ?_
      refine own_baload C X at_538 A_be (by decide) (i := 6) rfl (pc' := 539) rfl ?_
      refine own_icmp_ne C X at_539 (pcT := 559) (pc' := 542) (by decide) (by decide) rfl (fun hc539 => absurd hc539 (not_not_intro rfl)) (fun hc539 => ?_)
      refine own_aload C X at_542 rfl rfl (pc' := 544) rfl ?_
      refine own_bipush C X at_544 (v := 7) (by decide) (pc' := 546) rfl ?_
      refine own_baload C X at_546 A_bi (by decide) (i := 7) rfl (pc' := 547) rfl ?_
      refine own_aload C X at_547 rfl rfl (pc' := 549) rfl ?_
      refine own_bipush C X at_549 (v := 7) (by decide) (pc' := 551) rfl ?_
      refine own_baload C X at_551 A_be (by decide) (i := 7) rfl (pc' := 552) rfl ?_
      refine own_icmp_ne C X at_552 (pcT := 559) (pc' := 555) (by decide) (by decide) rfl (fun hc552 => absurd hc552 (not_not_intro rfl)) (fun hc552 => ?_)
      refine own_iconst C X at_555 (v := 1) (by decide) (pc' := 556) rfl ?_
      refine own_goto C X at_556 (pc' := 560) (by decide) (by decide) ?_
      exact own_ireturn_z C X at_560 (Nat.le_of_ble_eq_true rfl) (Nat.le_of_ble_eq_true rfl) (rfl)
    · refine own_iload C X at_249 rfl (pc' := 251) rfl ?_
      refine own_iconst C X at_251 (v := 1) (by decide) (pc' := 252) rfl ?_
      refine own_icmp_ne C X at_252 (pcT := 266) (pc' := 255) (by decide) (by decide) rfl (fun hc252 => absurd hc252 (by decide)) (fun hc252 => ?_)
      refine own_aload C X at_255 rfl rfl (pc' := 257) rfl ?_
      refine own_iload C X at_257 rfl (pc' := 259) rfl ?_
      refine own_iload C X at_259 rfl (pc' := 261) rfl ?_
      obtain ⟨x0, e_x0⟩ : ∃ z : Int32, cp.toInt8.toInt32 = z := ⟨_, rfl⟩
      refine own_i2b C X at_261 e_x0 (pc' := 262) rfl ?_
      refine own_bastore C X at_262 A_be (by decide) (i := 1) (Nat.le_of_ble_eq_true rfl) (own_i2bn e_x0) ge_be (pc' := 263) rfl ?_
      intro T h X K_ A_be_
      have A_be : own_IA Z h be .byte [t0, x0, t2, t3, t4, t5, t6, t7] := A_be_
      have A_bi := A_bi.keep K_ (ninS ne_bi_be nin0)
      refine own_goto C X at_263 (pc' := 442) (by decide) (by decide) ?_
      refine own_iload C X at_442 rfl (pc' := 444) rfl ?_
      refine own_aload C X at_444 rfl rfl (pc' := 446) rfl ?_
      refine own_iload C X at_446 rfl (pc' := 448) rfl ?_
      refine own_callS C X at_448 (own_m_enc1 l Z a0 hw cp bi (1 : Int32) _ n0 (own_big C X) [t0, t1, t2, t3, t4, t5, t6, t7] 1 A_bi (by decide) (Nat.le_of_ble_eq_true rfl) ge_bi 2 (by decide) q1) (hw _ (List.mem_of_getElem? (i := 2) rfl)) (hw _ (List.mem_of_getElem? (i := 3) rfl)) (hw _ (List.mem_of_getElem? (i := 4) rfl)) (hw _ (List.mem_of_getElem? (i := 5) rfl)) (by decide) own_pd_4587 rfl rfl (Nat.le_of_ble_eq_true rfl) (Nat.le_of_ble_eq_true rfl) (Nat.le_of_ble_eq_true rfl) (Nat.le_of_ble_eq_true rfl) (av := [(.int cp), (.ref bi), (.int (1 : Int32))]) (S := []) rfl (pc' := 451) rfl ?_
      intro T h v X hQ
      obtain ⟨rfl, K_, A_bi_⟩ := hQ
      have A_bi : own_IA Z h bi .byte [t0, cp.toInt8.toInt32, t2, t3, t4, t5, t6, t7] := A_bi_
      have A_be := A_be.keep K_ (ninS (Ne.symm ne_bi_be) nin0)
      show own_Go p e below n0 (own_Fin room_1 s (fun v h => v = some (.int 1))) (T.setTop (mkF m 451 #[.val (.int i0), .val (.int i1), .val (.int i2), .val (.int i3), .val (.int (i0 &&& (3 : Int32))), .val (.int (i1 &&& (2147483647 : Int32))), .val (.int cp), .val (.int (1 : Int32)), .val (.int (1 : Int32)), .val (.ref bi), .val (.ref be), .unset] [(.int (2 : Int32))]))
      refine own_istore C X at_451 (L' := #[.val (.int i0), .val (.int i1), .val (.int i2), .val (.int i3), .val (.int (i0 &&& (3 : Int32))), .val (.int (i1 &&& (2147483647 : Int32))), .val (.int cp), .val (.int (1 : Int32)), .val (.int (1 : Int32)), .val (.ref bi), .val (.ref be), .val (.int (2 : Int32))]) rfl (pc' := 453) rfl ?_
      refine own_iload C X at_453 rfl (pc' := 455) rfl ?_
      refine own_iload C X at_455 rfl (pc' := 457) rfl ?_
      refine own_iload C X at_457 rfl (pc' := 459) rfl ?_
      refine own_iadd C X at_459 (z := 2) (by decide) (pc' := 460) rfl ?_
      refine own_icmp_ne C X at_460 (pcT := 559) (pc' := 463) (by decide) (by decide) rfl (fun hc460 => absurd hc460 (by decide)) (fun hc460 => ?_)
      refine own_aload C X at_463 rfl rfl (pc' := 465) rfl ?_
      refine own_iconst C X at_465 (v := 0) (by decide) (pc' := 466) rfl ?_
      refine own_baload C X at_466 A_bi (by decide) (i := 0) rfl (pc' := 467) rfl ?_
      refine own_aload C X at_467 rfl rfl (pc' := 469) rfl ?_
      refine own_iconst C X at_469 (v := 0) (by decide) (pc' := 470) rfl ?_
      refine own_baload C X at_470 A_be (by decide) (i := 0) rfl (pc' := 471) rfl ?_
      refine own_icmp_ne C X at_471 (pcT := 559) (pc' := 474) (by decide) (by decide) rfl (fun hc471 => absurd hc471 (not_not_intro rfl)) (fun hc471 => ?_)
      refine own_aload C X at_474 rfl rfl (pc' := 476) rfl ?_
      refine own_iconst C X at_476 (v := 1) (by decide) (pc' := 477) rfl ?_
      refine own_baload C X at_477 A_bi (by decide) (i := 1) rfl (pc' := 478) rfl ?_
      refine own_aload C X at_478 rfl rfl (pc' := 480) rfl ?_
      refine own_iconst C X at_480 (v := 1) (by decide) (pc' := 481) rfl ?_
      refine own_baload C X at_481 A_be (by decide) (i := 1) rfl (pc' := 482) rfl ?_
      refine own_icmp_ne C X at_482 (pcT := 559) (pc' := 485) (by decide) (by decide) rfl (fun hc482 => absurd hc482 (not_not_intro (e_x0))) (fun hc482 => ?_)
      refine own_aload C X at_485 rfl rfl (pc' := 487) rfl ?_
      refine own_iconst C X at_487 (v := 2) (by decide) (pc' := 488) rfl ?_
      refine own_baload C X at_488 A_bi (by decide) (i := 2) rfl (pc' := 489) rfl ?_
      refine own_aload C X at_489 rfl rfl (pc' := 491) rfl ?_
      refine own_iconst C X at_491 (v := 2) (by decide) (pc' := 492) rfl ?_
      refine own_baload C X at_492 A_be (by decide) (i := 2) rfl (pc' := 493) rfl ?_
      refine own_icmp_ne C X at_493 (pcT := 559) (pc' := 496) (by decide) (by decide) rfl (fun hc493 => absurd hc493 (not_not_intro rfl)) (fun hc493 => ?_)
      refine own_aload C X at_496 rfl rfl (pc' := 498) rfl ?_
      refine own_iconst C X at_498 (v := 3) (by decide) (pc' := 499) rfl ?_
      refine own_baload C X at_499 A_bi (by decide) (i := 3) rfl (pc' := 500) rfl ?_
      refine own_aload C X at_500 rfl rfl (pc' := 502) rfl ?_
      refine own_iconst C X at_502 (v := 3) (by decide) (pc' := 503) rfl ?_
      refine own_baload C X at_503 A_be (by decide) (i := 3) rfl (pc' := 504) rfl ?_
      refine own_icmp_ne C X at_504 (pcT := 559) (pc' := 507) (by decide) (by decide) rfl (fun hc504 => absurd hc504 (not_not_intro rfl)) (fun hc504 => ?_)
      refine own_aload C X at_507 rfl rfl (pc' := 509) rfl ?_
      refine own_iconst C X at_509 (v := 4) (by decide) (pc' := 510) rfl ?_
      refine own_baload C X at_510 A_bi (by decide) (i := 4) rfl (pc' := 511) rfl ?_
      refine own_aload C X at_511 rfl rfl (pc' := 513) rfl ?_
      refine own_iconst C X at_513 (v := 4) (by decide) (pc' := 514) rfl ?_
      refine own_baload C X at_514 A_be (by decide) (i := 4) rfl (pc' := 515) rfl ?_
      refine own_icmp_ne C X at_515 (pcT := 559) (pc' := 518) (by decide) (by decide) rfl (fun hc515 => absurd hc515 (not_not_intro rfl)) (fun hc515 => ?_)
      refine own_aload C X at_518 rfl rfl (pc' := 520) rfl ?_
      refine own_iconst C X at_520 (v := 5) (by decide) (pc' := 521) rfl ?_
      refine own_baload C X at_521 A_bi (by decide) (i := 5) rfl (pc' := 522) rfl ?_
      refine own_aload C X at_522 rfl rfl (pc' := 524) rfl ?_
      refine own_iconst C X at_524 (v := 5) (by decide) (pc' := 525) rfl ?_
      refine own_baload C X at_525 A_be (by decide) (i := 5) rfl (pc' := 526) rfl ?_
      refine own_icmp_ne C X at_526 (pcT := 559) (pc' := 529) (by decide) (by decide) rfl (fun hc526 => absurd hc526 (not_not_intro rfl)) (fun hc526 => ?_)
      refine own_aload C X at_529 rfl rfl (pc' := 531) rfl ?_
      refine own_bipush C X at_531 (v := 6) (by decide) (pc' := 533) rfl ?_
      refine own_baload C X at_533 A_bi (by decide) (i := 6) rfl (pc' := 534) rfl ?_
      refine own_aload C X at_534 rfl rfl (pc' := 536) rfl ?_
      refine own_bipush C X at_536 (v := 6) (by decide) (pc' := 538) rfl ?_
      refine own_baload C X at_538 A_be (by decide) (i := 6) rfl (pc' := 539) rfl ?_
      refine own_icmp_ne C X at_539 (pcT := 559) (pc' := 542) (by decide) (by decide) rfl (fun hc539 => absurd hc539 (not_not_intro rfl)) (fun hc539 => ?_)
      refine own_aload C X at_542 rfl rfl (pc' := 544) rfl ?_
      refine own_bipush C X at_544 (v := 7) (by decide) (pc' := 546) rfl ?_
      refine own_baload C X at_546 A_bi (by decide) (i := 7) rfl (pc' := 547) rfl ?_
      refine own_aload C X at_547 rfl rfl (pc' := 549) rfl ?_
      refine own_bipush C X at_549 (v := 7) (by decide) (pc' := 551) rfl ?_
      refine own_baload C X at_551 A_be (by decide) (i := 7) rfl (pc' := 552) rfl ?_
      refine own_icmp_ne C X at_552 (pcT := 559) (pc' := 555) (by decide) (by decide) rfl (fun hc552 => absurd hc552 (not_not_intro rfl)) (fun hc552 => ?_)
      refine own_iconst C X at_555 (v := 1) (by decide) (pc' := 556) rfl ?_
      refine own_goto C X at_556 (pc' := 560) (by decide) (by decide) ?_
      exact own_ireturn_z C X at_560 (Nat.le_of_ble_eq_true rfl) (Nat.le_of_ble_eq_true rfl) (rfl)
    · refine own_iload C X at_249 rfl (pc' := 251) rfl ?_
      refine own_iconst C X at_251 (v := 1) (by decide) (pc' := 252) rfl ?_
      refine own_icmp_ne C X at_252 (pcT := 266) (pc' := 255) (by decide) (by decide) rfl (fun hc252 => absurd hc252 (by decide)) (fun hc252 => ?_)
      refine own_aload C X at_255 rfl rfl (pc' := 257) rfl ?_
      refine own_iload C X at_257 rfl (pc' := 259) rfl ?_
      refine own_iload C X at_259 rfl (pc' := 261) rfl ?_
      obtain ⟨x0, e_x0⟩ : ∃ z : Int32, cp.toInt8.toInt32 = z := ⟨_, rfl⟩
      refine own_i2b C X at_261 e_x0 (pc' := 262) rfl ?_
      refine own_bastore C X at_262 A_be (by decide) (i := 2) (Nat.le_of_ble_eq_true rfl) (own_i2bn e_x0) ge_be (pc' := 263) rfl ?_
      intro T h X K_ A_be_
      have A_be : own_IA Z h be .byte [t0, t1, x0, t3, t4, t5, t6, t7] := A_be_
      have A_bi := A_bi.keep K_ (ninS ne_bi_be nin0)
      refine own_goto C X at_263 (pc' := 442) (by decide) (by decide) ?_
      refine own_iload C X at_442 rfl (pc' := 444) rfl ?_
      refine own_aload C X at_444 rfl rfl (pc' := 446) rfl ?_
      refine own_iload C X at_446 rfl (pc' := 448) rfl ?_
      refine own_callS C X at_448 (own_m_enc1 l Z a0 hw cp bi (2 : Int32) _ n0 (own_big C X) [t0, t1, t2, t3, t4, t5, t6, t7] 2 A_bi (by decide) (Nat.le_of_ble_eq_true rfl) ge_bi 3 (by decide) q1) (hw _ (List.mem_of_getElem? (i := 2) rfl)) (hw _ (List.mem_of_getElem? (i := 3) rfl)) (hw _ (List.mem_of_getElem? (i := 4) rfl)) (hw _ (List.mem_of_getElem? (i := 5) rfl)) (by decide) own_pd_4587 rfl rfl (Nat.le_of_ble_eq_true rfl) (Nat.le_of_ble_eq_true rfl) (Nat.le_of_ble_eq_true rfl) (Nat.le_of_ble_eq_true rfl) (av := [(.int cp), (.ref bi), (.int (2 : Int32))]) (S := []) rfl (pc' := 451) rfl ?_
      intro T h v X hQ
      obtain ⟨rfl, K_, A_bi_⟩ := hQ
      have A_bi : own_IA Z h bi .byte [t0, t1, cp.toInt8.toInt32, t3, t4, t5, t6, t7] := A_bi_
      have A_be := A_be.keep K_ (ninS (Ne.symm ne_bi_be) nin0)
      show own_Go p e below n0 (own_Fin room_1 s (fun v h => v = some (.int 1))) (T.setTop (mkF m 451 #[.val (.int i0), .val (.int i1), .val (.int i2), .val (.int i3), .val (.int (i0 &&& (3 : Int32))), .val (.int (i1 &&& (2147483647 : Int32))), .val (.int cp), .val (.int (1 : Int32)), .val (.int (2 : Int32)), .val (.ref bi), .val (.ref be), .unset] [(.int (3 : Int32))]))
      refine own_istore C X at_451 (L' := #[.val (.int i0), .val (.int i1), .val (.int i2), .val (.int i3), .val (.int (i0 &&& (3 : Int32))), .val (.int (i1 &&& (2147483647 : Int32))), .val (.int cp), .val (.int (1 : Int32)), .val (.int (2 : Int32)), .val (.ref bi), .val (.ref be), .val (.int (3 : Int32))]) rfl (pc' := 453) rfl ?_
      refine own_iload C X at_453 rfl (pc' := 455) rfl ?_
      refine own_iload C X at_455 rfl (pc' := 457) rfl ?_
      refine own_iload C X at_457 rfl (pc' := 459) rfl ?_
      refine own_iadd C X at_459 (z := 3) (by decide) (pc' := 460) rfl ?_
      refine own_icmp_ne C X at_460 (pcT := 559) (pc' := 463) (by decide) (by decide) rfl (fun hc460 => absurd hc460 (by decide)) (fun hc460 => ?_)
      refine own_aload C X at_463 rfl rfl (pc' := 465) rfl ?_
      refine own_iconst C X at_465 (v := 0) (by decide) (pc' := 466) rfl ?_
      refine own_baload C X at_466 A_bi (by decide) (i := 0) rfl (pc' := 467) rfl ?_
      refine own_aload C X at_467 rfl rfl (pc' := 469) rfl ?_
      refine own_iconst C X at_469 (v := 0) (by decide) (pc' := 470) rfl ?_
      refine own_baload C X at_470 A_be (by decide) (i := 0) rfl (pc' := 471) rfl ?_
      refine own_icmp_ne C X at_471 (pcT := 559) (pc' := 474) (by decide) (by decide) rfl (fun hc471 => absurd hc471 (not_not_intro rfl)) (fun hc471 => ?_)
      refine own_aload C X at_474 rfl rfl (pc' := 476) rfl ?_
      refine own_iconst C X at_476 (v := 1) (by decide) (pc' := 477) rfl ?_
      refine own_baload C X at_477 A_bi (by decide) (i := 1) rfl (pc' := 478) rfl ?_
      refine own_aload C X at_478 rfl rfl (pc' := 480) rfl ?_
      refine own_iconst C X at_480 (v := 1) (by decide) (pc' := 481) rfl ?_
      refine own_baload C X at_481 A_be (by decide) (i := 1) rfl (pc' := 482) rfl ?_
      refine own_icmp_ne C X at_482 (pcT := 559) (pc' := 485) (by decide) (by decide) rfl (fun hc482 => absurd hc482 (not_not_intro rfl)) (fun hc482 => ?_)
      refine own_aload C X at_485 rfl rfl (pc' := 487) rfl ?_
      refine own_iconst C X at_487 (v := 2) (by decide) (pc' := 488) rfl ?_
      refine own_baload C X at_488 A_bi (by decide) (i := 2) rfl (pc' := 489) rfl ?_
      refine own_aload C X at_489 rfl rfl (pc' := 491) rfl ?_
      refine own_iconst C X at_491 (v := 2) (by decide) (pc' := 492) rfl ?_
      refine own_baload C X at_492 A_be (by decide) (i := 2) rfl (pc' := 493) rfl ?_
      refine own_icmp_ne C X at_493 (pcT := 559) (pc' := 496) (by decide) (by decide) rfl (fun hc493 => absurd hc493 (not_not_intro (e_x0))) (fun hc493 => ?_)
      refine own_aload C X at_496 rfl rfl (pc' := 498) rfl ?_
      refine own_iconst C X at_498 (v := 3) (by decide) (pc' := 499) rfl ?_
      refine own_baload C X at_499 A_bi (by decide) (i := 3) rfl (pc' := 500) rfl ?_
      refine own_aload C X at_500 rfl rfl (pc' := 502) rfl ?_
      refine own_iconst C X at_502 (v := 3) (by decide) (pc' := 503) rfl ?_
      refine own_baload C X at_503 A_be (by decide) (i := 3) rfl (pc' := 504) rfl ?_
      refine own_icmp_ne C X at_504 (pcT := 559) (pc' := 507) (by decide) (by decide) rfl (fun hc504 => absurd hc504 (not_not_intro rfl)) (fun hc504 => ?_)
      refine own_aload C X at_507 rfl rfl (pc' := 509) rfl ?_
      refine own_iconst C X at_509 (v := 4) (by decide) (pc' := 510) rfl ?_
      refine own_baload C X at_510 A_bi (by decide) (i := 4) rfl (pc' := 511) rfl ?_
      refine own_aload C X at_511 rfl rfl (pc' := 513) rfl ?_
      refine own_iconst C X at_513 (v := 4) (by decide) (pc' := 514) rfl ?_
      refine own_baload C X at_514 A_be (by decide) (i := 4) rfl (pc' := 515) rfl ?_
      refine own_icmp_ne C X at_515 (pcT := 559) (pc' := 518) (by decide) (by decide) rfl (fun hc515 => absurd hc515 (not_not_intro rfl)) (fun hc515 => ?_)
      refine own_aload C X at_518 rfl rfl (pc' := 520) rfl ?_
      refine own_iconst C X at_520 (v := 5) (by decide) (pc' := 521) rfl ?_
      refine own_baload C X at_521 A_bi (by decide) (i := 5) rfl (pc' := 522) rfl ?_
      refine own_aload C X at_522 rfl rfl (pc' := 524) rfl ?_
      refine own_iconst C X at_524 (v := 5) (by decide) (pc' := 525) rfl ?_
      refine own_baload C X at_525 A_be (by decide) (i := 5) rfl (pc' := 526) rfl ?_
      refine own_icmp_ne C X at_526 (pcT := 559) (pc' := 529) (by decide) (by decide) rfl (fun hc526 => absurd hc526 (not_not_intro rfl)) (fun hc526 => ?_)
      refine own_aload C X at_529 rfl rfl (pc' := 531) rfl ?_
      refine own_bipush C X at_531 (v := 6) (by decide) (pc' := 533) rfl ?_
      refine own_baload C X at_533 A_bi (by decide) (i := 6) rfl (pc' := 534) rfl ?_
      refine own_aload C X at_534 rfl rfl (pc' := 536) rfl ?_
      refine own_bipush C X at_536 (v := 6) (by decide) (pc' := 538) rfl ?_
      refine own_baload C X at_538 A_be (by decide) (i := 6) rfl (pc' := 539) rfl ?_
      refine own_icmp_ne C X at_539 (pcT := 559) (pc' := 542) (by decide) (by decide) rfl (fun hc539 => absurd hc539 (not_not_intro rfl)) (fun hc539 => ?_)
      refine own_aload C X at_542 rfl rfl (pc' := 544) rfl ?_
      refine own_bipush C X at_544 (v := 7) (by decide) (pc' := 546) rfl ?_
      refine own_baload C X at_546 A_bi (by decide) (i := 7) rfl (pc' := 547) rfl ?_
      refine own_aload C X at_547 rfl rfl (pc' := 549) rfl ?_
      refine own_bipush C X at_549 (v := 7) (by decide) (pc' := 551) rfl ?_
      refine own_baload C X at_551 A_be (by decide) (i := 7) rfl (pc' := 552) rfl ?_
      refine own_icmp_ne C X at_552 (pcT := 559) (pc' := 555) (by decide) (by decide) rfl (fun hc552 => absurd hc552 (not_not_intro rfl)) (fun hc552 => ?_)
      refine own_iconst C X at_555 (v := 1) (by decide) (pc' := 556) rfl ?_
      refine own_goto C X at_556 (pc' := 560) (by decide) (by decide) ?_
      exact own_ireturn_z C X at_560 (Nat.le_of_ble_eq_true rfl) (Nat.le_of_ble_eq_true rfl) (rfl)
    · refine own_iload C X at_249 rfl (pc' := 251) rfl ?_
      refine own_iconst C X at_251 (v := 1) (by decide) (pc' := 252) rfl ?_
      refine own_icmp_ne C X at_252 (pcT := 266) (pc' := 255) (by decide) (by decide) rfl (fun hc252 => absurd hc252 (by decide)) (fun hc252 => ?_)
      refine own_aload C X at_255 rfl rfl (pc' := 257) rfl ?_
      refine own_iload C X at_257 rfl (pc' := 259) rfl ?_
      refine own_iload C X at_259 rfl (pc' := 261) rfl ?_
      obtain ⟨x0, e_x0⟩ : ∃ z : Int32, cp.toInt8.toInt32 = z := ⟨_, rfl⟩
      refine own_i2b C X at_261 e_x0 (pc' := 262) rfl ?_
      refine own_bastore C X at_262 A_be (by decide) (i := 3) (Nat.le_of_ble_eq_true rfl) (own_i2bn e_x0) ge_be (pc' := 263) rfl ?_
      intro T h X K_ A_be_
      have A_be : own_IA Z h be .byte [t0, t1, t2, x0, t4, t5, t6, t7] := A_be_
      have A_bi := A_bi.keep K_ (ninS ne_bi_be nin0)
      refine own_goto C X at_263 (pc' := 442) (by decide) (by decide) ?_
      refine own_iload C X at_442 rfl (pc' := 444) rfl ?_
      refine own_aload C X at_444 rfl rfl (pc' := 446) rfl ?_
      refine own_iload C X at_446 rfl (pc' := 448) rfl ?_
      refine own_callS C X at_448 (own_m_enc1 l Z a0 hw cp bi (3 : Int32) _ n0 (own_big C X) [t0, t1, t2, t3, t4, t5, t6, t7] 3 A_bi (by decide) (Nat.le_of_ble_eq_true rfl) ge_bi 4 (by decide) q1) (hw _ (List.mem_of_getElem? (i := 2) rfl)) (hw _ (List.mem_of_getElem? (i := 3) rfl)) (hw _ (List.mem_of_getElem? (i := 4) rfl)) (hw _ (List.mem_of_getElem? (i := 5) rfl)) (by decide) own_pd_4587 rfl rfl (Nat.le_of_ble_eq_true rfl) (Nat.le_of_ble_eq_true rfl) (Nat.le_of_ble_eq_true rfl) (Nat.le_of_ble_eq_true rfl) (av := [(.int cp), (.ref bi), (.int (3 : Int32))]) (S := []) rfl (pc' := 451) rfl ?_
      intro T h v X hQ
      obtain ⟨rfl, K_, A_bi_⟩ := hQ
      have A_bi : own_IA Z h bi .byte [t0, t1, t2, cp.toInt8.toInt32, t4, t5, t6, t7] := A_bi_
      have A_be := A_be.keep K_ (ninS (Ne.symm ne_bi_be) nin0)
      show own_Go p e below n0 (own_Fin room_1 s (fun v h => v = some (.int 1))) (T.setTop (mkF m 451 #[.val (.int i0), .val (.int i1), .val (.int i2), .val (.int i3), .val (.int (i0 &&& (3 : Int32))), .val (.int (i1 &&& (2147483647 : Int32))), .val (.int cp), .val (.int (1 : Int32)), .val (.int (3 : Int32)), .val (.ref bi), .val (.ref be), .unset] [(.int (4 : Int32))]))
      refine own_istore C X at_451 (L' := #[.val (.int i0), .val (.int i1), .val (.int i2), .val (.int i3), .val (.int (i0 &&& (3 : Int32))), .val (.int (i1 &&& (2147483647 : Int32))), .val (.int cp), .val (.int (1 : Int32)), .val (.int (3 : Int32)), .val (.ref bi), .val (.ref be), .val (.int (4 : Int32))]) rfl (pc' := 453) rfl ?_
      refine own_iload C X at_453 rfl (pc' := 455) rfl ?_
      refine own_iload C X at_455 rfl (pc' := 457) rfl ?_
      refine own_iload C X at_457 rfl (pc' := 459) rfl ?_
      refine own_iadd C X at_459 (z := 4) (by decide) (pc' := 460) rfl ?_
      refine own_icmp_ne C X at_460 (pcT := 559) (pc' := 463) (by decide) (by decide) rfl (fun hc460 => absurd hc460 (by decide)) (fun hc460 => ?_)
      refine own_aload C X at_463 rfl rfl (pc' := 465) rfl ?_
      refine own_iconst C X at_465 (v := 0) (by decide) (pc' := 466) rfl ?_
      refine own_baload C X at_466 A_bi (by decide) (i := 0) rfl (pc' := 467) rfl ?_
      refine own_aload C X at_467 rfl rfl (pc' := 469) rfl ?_
      refine own_iconst C X at_469 (v := 0) (by decide) (pc' := 470) rfl ?_
      refine own_baload C X at_470 A_be (by decide) (i := 0) rfl (pc' := 471) rfl ?_
      refine own_icmp_ne C X at_471 (pcT := 559) (pc' := 474) (by decide) (by decide) rfl (fun hc471 => absurd hc471 (not_not_intro rfl)) (fun hc471 => ?_)
      refine own_aload C X at_474 rfl rfl (pc' := 476) rfl ?_
      refine own_iconst C X at_476 (v := 1) (by decide) (pc' := 477) rfl ?_
      refine own_baload C X at_477 A_bi (by decide) (i := 1) rfl (pc' := 478) rfl ?_
      refine own_aload C X at_478 rfl rfl (pc' := 480) rfl ?_
      refine own_iconst C X at_480 (v := 1) (by decide) (pc' := 481) rfl ?_
      refine own_baload C X at_481 A_be (by decide) (i := 1) rfl (pc' := 482) rfl ?_
      refine own_icmp_ne C X at_482 (pcT := 559) (pc' := 485) (by decide) (by decide) rfl (fun hc482 => absurd hc482 (not_not_intro rfl)) (fun hc482 => ?_)
      refine own_aload C X at_485 rfl rfl (pc' := 487) rfl ?_
      refine own_iconst C X at_487 (v := 2) (by decide) (pc' := 488) rfl ?_
      refine own_baload C X at_488 A_bi (by decide) (i := 2) rfl (pc' := 489) rfl ?_
      refine own_aload C X at_489 rfl rfl (pc' := 491) rfl ?_
      refine own_iconst C X at_491 (v := 2) (by decide) (pc' := 492) rfl ?_
      refine own_baload C X at_492 A_be (by decide) (i := 2) rfl (pc' := 493) rfl ?_
      refine own_icmp_ne C X at_493 (pcT := 559) (pc' := 496) (by decide) (by decide) rfl (fun hc493 => absurd hc493 (not_not_intro rfl)) (fun hc493 => ?_)
      refine own_aload C X at_496 rfl rfl (pc' := 498) rfl ?_
      refine own_iconst C X at_498 (v := 3) (by decide) (pc' := 499) rfl ?_
      refine own_baload C X at_499 A_bi (by decide) (i := 3) rfl (pc' := 500) rfl ?_
      refine own_aload C X at_500 rfl rfl (pc' := 502) rfl ?_
      refine own_iconst C X at_502 (v := 3) (by decide) (pc' := 503) rfl ?_
      refine own_baload C X at_503 A_be (by decide) (i := 3) rfl (pc' := 504) rfl ?_
      refine own_icmp_ne C X at_504 (pcT := 559) (pc' := 507) (by decide) (by decide) rfl (fun hc504 => absurd hc504 (not_not_intro (e_x0))) (fun hc504 => ?_)
      refine own_aload C X at_507 rfl rfl (pc' := 509) rfl ?_
      refine own_iconst C X at_509 (v := 4) (by decide) (pc' := 510) rfl ?_
      refine own_baload C X at_510 A_bi (by decide) (i := 4) rfl (pc' := 511) rfl ?_
      refine own_aload C X at_511 rfl rfl (pc' := 513) rfl ?_
      refine own_iconst C X at_513 (v := 4) (by decide) (pc' := 514) rfl ?_
      refine own_baload C X at_514 A_be (by decide) (i := 4) rfl (pc' := 515) rfl ?_
      refine own_icmp_ne C X at_515 (pcT := 559) (pc' := 518) (by decide) (by decide) rfl (fun hc515 => absurd hc515 (not_not_intro rfl)) (fun hc515 => ?_)
      refine own_aload C X at_518 rfl rfl (pc' := 520) rfl ?_
      refine own_iconst C X at_520 (v := 5) (by decide) (pc' := 521) rfl ?_
      refine own_baload C X at_521 A_bi (by decide) (i := 5) rfl (pc' := 522) rfl ?_
      refine own_aload C X at_522 rfl rfl (pc' := 524) rfl ?_
      refine own_iconst C X at_524 (v := 5) (by decide) (pc' := 525) rfl ?_
      refine own_baload C X at_525 A_be (by decide) (i := 5) rfl (pc' := 526) rfl ?_
      refine own_icmp_ne C X at_526 (pcT := 559) (pc' := 529) (by decide) (by decide) rfl (fun hc526 => absurd hc526 (not_not_intro rfl)) (fun hc526 => ?_)
      refine own_aload C X at_529 rfl rfl (pc' := 531) rfl ?_
      refine own_bipush C X at_531 (v := 6) (by decide) (pc' := 533) rfl ?_
      refine own_baload C X at_533 A_bi (by decide) (i := 6) rfl (pc' := 534) rfl ?_
      refine own_aload C X at_534 rfl rfl (pc' := 536) rfl ?_
      refine own_bipush C X at_536 (v := 6) (by decide) (pc' := 538) rfl ?_
      refine own_baload C X at_538 A_be (by decide) (i := 6) rfl (pc' := 539) rfl ?_
      refine own_icmp_ne C X at_539 (pcT := 559) (pc' := 542) (by decide) (by decide) rfl (fun hc539 => absurd hc539 (not_not_intro rfl)) (fun hc539 => ?_)
      refine own_aload C X at_542 rfl rfl (pc' := 544) rfl ?_
      refine own_bipush C X at_544 (v := 7) (by decide) (pc' := 546) rfl ?_
      refine own_baload C X at_546 A_bi (by decide) (i := 7) rfl (pc' := 547) rfl ?_
      refine own_aload C X at_547 rfl rfl (pc' := 549) rfl ?_
      refine own_bipush C X at_549 (v := 7) (by decide) (pc' := 551) rfl ?_
      refine own_baload C X at_551 A_be (by decide) (i := 7) rfl (pc' := 552) rfl ?_
      refine own_icmp_ne C X at_552 (pcT := 559) (pc' := 555) (by decide) (by decide) rfl (fun hc552 => absurd hc552 (not_not_intro rfl)) (fun hc552 => ?_)
      refine own_iconst C X at_555 (v := 1) (by decide) (pc' := 556) rfl ?_
      refine own_goto C X at_556 (pc' := 560) (by decide) (by decide) ?_
      exact own_ireturn_z C X at_560 (Nat.le_of_ble_eq_true rfl) (Nat.le_of_ble_eq_true rfl) (rfl)
set_option maxRecDepth 65536 in
set_option maxHeartbeats 40000000 in
theorem own_comes {Post : Tables → Env → Array Value → State → Outcome → State → Prop} (hpost : ∀ tb e args s v u, (limb_1_1.after args s (.returned v) u = true ∧ limb_1_2.after args s (.returned v) u = true ∧ True) → FrameEnd s (.returned v) u (Jvm.fieldLocs frame_1_writes args s ++ Jvm.arrayLocs frame_1_arrays args s ++ Jvm.staticLocs frame_1_statics s) 16 128 → Post tb e args s (.returned v) u) :
    ArmFor flags0 classFile x code maxLocals ret World_1 tables_1 room_1 Calls_1 rest_1 Pre_1 Post := by
  intro l hfl _ _ p e ha hc hk s m args below hf hA hF happ hP
  obtain ⟨hcalls, hrest, hpre⟩ := hP
  obtain ⟨-, -, -, hnamed, -, -, -, hat⟩ := (Spec.applies_iff hf).mp happ
  obtain ⟨hg, hn⟩ := and_e (Cond.before_iff.mp (show (Jvm.Cond.and given_1 narrow_1).before args s = true from hpre))
  obtain ⟨gc, g0⟩ := and_e hg
  obtain ⟨k0, g1⟩ := and_e g0
  obtain ⟨k1, g2⟩ := and_e g1
  obtain ⟨k2, g3⟩ := and_e g2
  obtain ⟨w0, w1, w2, w3, rfl⟩ : ∃ w0 w1 w2 w3 : Value, args = #[w0, w1, w2, w3] := by
    have hs : args.size = 4 := by simpa [Cond.value, given_1] using gc
    obtain ⟨L⟩ := args
    match L, hs with
    | [w0, w1, w2, w3], _ => exact ⟨w0, w1, w2, w3, rfl⟩
  have hw := fun d (hd : d ∈ tables_1) => atoms_spec (ws := Jvm.Cond.code x code maxLocals ret :: tables_1) hat d (List.mem_cons_of_mem _ hd)
  obtain ⟨i0, ei0⟩ := is_v k0
  obtain rfl : w0 = (.int i0) := Option.some.inj ei0
  obtain ⟨i1, ei1⟩ := is_v k1
  obtain rfl : w1 = (.int i1) := Option.some.inj ei1
  obtain ⟨i2, ei2⟩ := is_v k2
  obtain rfl : w2 = (.int i2) := Option.some.inj ei2
  obtain ⟨i3, ei3⟩ := is_v g3
  obtain rfl : w3 = (.int i3) := Option.some.inj ei3
  obtain ⟨n, o, h1, h2, h3, _, L, rfl, ⟨rfl, N⟩, hq⟩ := own_m_law l s _ hw tables_1 i0 i1 i2 i3 s.heap s.heap.size (Nat.le_refl _)  p e ha hc hk s m _ below hf ((Spec.applies_iff_loose hf).mp happ).1 ⟨rfl, State.Warmed39.refl s, rfl⟩ trivial
  refine ⟨n, _, h1, h2, h3, hpost _ _ _ _ _ _ ⟨Cond.after_iff.mpr rfl, Cond.after_iff.mpr (eq_i res_at (Term.int_eval (1)) rfl), trivial⟩ ⟨hq.1, hq.2.1, (hq.2.2.sift fun y hy => Or.inr (N y hy)).mono (by decide) (by decide)⟩⟩
theorem main_1_1 : Claimed_1_1 := own_comes fun _ _ _ _ _ _ h hF => ⟨h.1, hF⟩
theorem main_1_2 : Claimed_1_2 := own_comes fun _ _ _ _ _ _ h hF => ⟨h.2.1, hF⟩
end Jvm.Pilot.@@N@@
namespace Jvm.Pilot.@@N@@
open Jvm Jvm.ClassFile Sem Op Lib Jvm.Free Jvm.Stand Jvm.Pilot.@@N@@.Jvm.D
/-! MADE BY PROGRAM (witnessworld.py) out of the Statement's table words and the real class files: 9 classes; the members and pool entries that the words name. The judged class is class 1, her method 1. -/
namespace start1
open Jvm.ClassFile
def u (s : String) : CpInfo := .utf8 (stringToUtf16 s)
/-- a pool by its gaps: so many unusable entries, then the entry; so many at the end -/
def gap : Nat → List CpInfo → List CpInfo
  | 0, r => r
  | n + 1, r => .unusable :: gap n r
def poolList (es : List (Nat × CpInfo)) (last : Nat) : List CpInfo := es.foldr (fun e r => gap e.1 (e.2 :: r)) (gap last [])
def pool (es : List (Nat × CpInfo)) (last : Nat) : Array CpInfo := ⟨poolList es last⟩
def fileOf (pool : Array CpInfo) (this : Nat) (attrs : Array Attribute := #[]) (ms : Array MethodInfo := #[]) (fl : Nat := 33) (sup : Nat := 0) (ifs : Array Nat := #[]) (fds : Array FieldInfo := #[]) : ClassFile where
  minorVersion := 0
  majorVersion := 65
  constantPool := pool
  accessFlags := fl
  thisClass := this
  superClass := sup
  interfaces := ifs
  fields := fds
  methods := ms
  attributes := attrs
def plain (name : String) (sup : Option ClassId) : Class where
  name := name
  kind := .ordinary
  loader := none
  accessFlags := 33
  super := sup
  interfaces := #[]
  cf := none
  fields := #[]
  methods := #[]
  instanceTypes := #[]
  staticTypes := #[]
  resolved := #[]
  callSites := []
  init := .initialized
  statics := none
  mirror := none

def pool0 : Array CpInfo := pool [(5, u "<init>"), (0, u "()V"), (1, .class_ 10), (1, u "java/lang/Object")] 113

def k0m0 : Method := { name := "<init>", desc := "()V", sig := { parameters := [], returnType := none }, accessFlags := 1, code := none }
/-- java/lang/Object -/
def k0 : Class := { plain "java/lang/Object" none with
  accessFlags := 33
  interfaces := #[]
  cf := some (fileOf pool0 8 #[] #[{ accessFlags := 1, nameIndex := 5, descriptorIndex := 6, attributes := #[] }] 33 0 #[] #[])
  fields := #[]
  methods := #[k0m0]
  instanceTypes := #[]
  staticTypes := #[]
  resolved := Array.replicate 124 none
  statics := none }

def pool1 : Array CpInfo := pool [(2, .class_ 4), (1, u "java/lang/Object"), (0, u "<init>"), (0, u "()V"), (0, .integer 2147483647), (0, .integer 63488), (0, .integer 65536), (0, .integer 1048576), (0, .integer 262144), (0, .methodref 13 14), (0, .class_ 15), (0, .nameAndType 16 17), (0, u "com/example/termwell/termwell/store/Utf8"), (0, u "encode"), (0, u "(I[BI)I"), (0, .class_ 19), (0, u "com/example/termwell/termwell/store/Utf8EncodePinLaw"), (2, u "law"), (0, u "(IIII)Z")] 5

def k1m0 : Method := { name := "<init>", desc := "()V", sig := { parameters := [], returnType := none }, accessFlags := 1, code := none }
def k1c1 : Code := { maxStack := 5, maxLocals := 12, code := code, exceptionTable := #[], attributes := #[] }
def k1m1 : Method := { name := "law", desc := "(IIII)Z", sig := { parameters := [.int, .int, .int, .int], returnType := some .boolean }, accessFlags := 9, code := some k1c1 }
/-- com/example/termwell/termwell/store/Utf8EncodePinLaw -/
def k1 : Class := { plain "com/example/termwell/termwell/store/Utf8EncodePinLaw" (some 0) with
  accessFlags := 49
  interfaces := #[]
  cf := some (fileOf pool1 18 #[] #[{ accessFlags := 1, nameIndex := 5, descriptorIndex := 6, attributes := #[] }, { accessFlags := 9, nameIndex := 22, descriptorIndex := 23, attributes := #[] }] 49 2 #[] #[])
  fields := #[]
  methods := #[k1m0, k1m1]
  instanceTypes := #[]
  staticTypes := #[]
  resolved := Array.replicate 29 none
  statics := none }

def pool2 : Array CpInfo := pool [(4, .class_ 6), (1, u "java/lang/Object"), (0, u "<init>"), (0, u "()V"), (0, .class_ 10), (0, u "com/example/termwell/termwell/store/Utf8"), (102, .integer 65536), (24, u "encode"), (0, u "(I[BI)I"), (28, u "MAX_STRING_UNITS"), (0, u "I"), (2, u "REPLACEMENT"), (0, u "C"), (0, u "MOST_FAST_BYTES"), (0, u "MOST_FAST_UNITS"), (0, u "CHECK_UNITS")] 31

def k2m0 : Method := { name := "<init>", desc := "()V", sig := { parameters := [], returnType := none }, accessFlags := 2, code := none }
def k2c1 : Code := { maxStack := 5, maxLocals := 4, code := prog_248_method_11_code, exceptionTable := #[], attributes := #[] }
def k2m1 : Method := { name := "encode", desc := "(I[BI)I", sig := { parameters := [.int, (.array .byte), .int], returnType := some .int }, accessFlags := 9, code := some k2c1 }
/-- com/example/termwell/termwell/store/Utf8 -/
def k2 : Class := { plain "com/example/termwell/termwell/store/Utf8" (some 0) with
  accessFlags := 49
  interfaces := #[]
  cf := some (fileOf pool2 9 #[] #[{ accessFlags := 2, nameIndex := 7, descriptorIndex := 8, attributes := #[] }, { accessFlags := 9, nameIndex := 138, descriptorIndex := 139, attributes := #[] }] 49 4 #[] #[{ accessFlags := 25, nameIndex := 168, descriptorIndex := 169, attributes := #[] }, { accessFlags := 26, nameIndex := 172, descriptorIndex := 173, attributes := #[] }, { accessFlags := 26, nameIndex := 174, descriptorIndex := 169, attributes := #[] }, { accessFlags := 26, nameIndex := 175, descriptorIndex := 169, attributes := #[] }, { accessFlags := 26, nameIndex := 176, descriptorIndex := 169, attributes := #[] }])
  fields := #[{ name := "MAX_STRING_UNITS", type := .int, accessFlags := 25, slot := 0, constantValue := 0 }, { name := "REPLACEMENT", type := .char, accessFlags := 26, slot := 1, constantValue := 0 }, { name := "MOST_FAST_BYTES", type := .int, accessFlags := 26, slot := 2, constantValue := 0 }, { name := "MOST_FAST_UNITS", type := .int, accessFlags := 26, slot := 3, constantValue := 0 }, { name := "CHECK_UNITS", type := .int, accessFlags := 26, slot := 4, constantValue := 0 }]
  methods := #[k2m0, k2m1]
  instanceTypes := #[]
  staticTypes := #[.int, .char, .int, .int, .int]
  resolved := Array.replicate 208 none
  statics := none }

def pool3 : Array CpInfo := pool [(1, u "java/lang/Cloneable"), (0, .class_ 1), (0, u "java/lang/Object"), (0, .class_ 3)] 3

/-- java/lang/Cloneable -/
def k3 : Class := { plain "java/lang/Cloneable" (some 0) with
  accessFlags := 1537
  interfaces := #[]
  cf := some (fileOf pool3 2 #[] #[] 1537 4 #[] #[])
  fields := #[]
  methods := #[]
  instanceTypes := #[]
  staticTypes := #[]
  resolved := Array.replicate 8 none
  statics := none }

def pool4 : Array CpInfo := pool [(1, u "java/io/Serializable"), (0, .class_ 1), (0, u "java/lang/Object"), (0, .class_ 3)] 3

/-- java/io/Serializable -/
def k4 : Class := { plain "java/io/Serializable" (some 0) with
  accessFlags := 1537
  interfaces := #[]
  cf := some (fileOf pool4 2 #[] #[] 1537 4 #[] #[])
  fields := #[]
  methods := #[]
  instanceTypes := #[]
  staticTypes := #[]
  resolved := Array.replicate 8 none
  statics := none }

/-- the primitive byte -/
def k5 : Class := { plain "byte" none with kind := .primitive 'B', accessFlags := 0x411 }
/-- [B -/
def k6 : Class := { plain "[B" (some 0) with kind := .array 5 .byte, interfaces := #[3, 4], accessFlags := 1041 }

/-- the primitive int -/
def k7 : Class := { plain "int" none with kind := .primitive 'I', accessFlags := 0x411 }
/-- [I -/
def k8 : Class := { plain "[I" (some 0) with kind := .array 7 .int, interfaces := #[3, 4], accessFlags := 1041 }

def heap : Heap := #[]
def classes : Array Class := #[k0, k1, k2, k3, k4, k5, k6, k7, k8]
def interned : List (Array UInt16 × Addr) := []
def slotsUsed : Nat := 0
def theMethod : MethodId := ⟨1, 1⟩
def args0 : Array Value := #[.int 5, .int 6, .int 7, .int 8]
def aboutOver (below : List Frame) : State where
  vm := { classes := classes, interned := interned.toArray }
  heap := heap
  slotsUsed := slotsUsed
  threads := #[{ frames := .invoking theMethod args0 :: below }]
def below0 : List Frame := [.native { method := ⟨0, 0⟩, args := #[] }]
def about1 : State := aboutOver below0
def p0 : Program := .bare "" "" ""
def e0 : Env := launch0.env 0 0 0
theorem w_frames : about1.frames = Frame.invoking theMethod args0 :: below0 := rfl
set_option maxRecDepth 65536 in
theorem w_args : argsFit about1.vm theMethod args0 = true := by decide +kernel
set_option maxRecDepth 65536 in
theorem w_heap : heapFits about1 = true := by decide +kernel
set_option maxRecDepth 65536 in
theorem w_runnable : about1.curStatus? = some .runnable := by decide +kernel
set_option maxRecDepth 65536 in
theorem w_alone : about1.alone = true := by decide +kernel
set_option maxRecDepth 65536 in
theorem w_named : about1.methodNamed? x = some theMethod := by decide +kernel
set_option maxRecDepth 65536 in
theorem w_hears : about1.hears theMethod below0 = true := by decide +kernel
set_option maxRecDepth 65536 in
theorem w_ripe : about1.ripe theMethod args0 below0 = true := by decide +kernel
theorem w_running : about1.status = .running := rfl
set_option maxRecDepth 65536 in
theorem w_room : about1.hasRoom e0.platform room_1 = true :=
  launch0.hasRoom_least _ room_1 (by decide +kernel) (by decide +kernel) (by decide +kernel) (by decide +kernel) (by decide +kernel) (by decide +kernel)
theorem allAtoms_all (ts : List Jvm.Cond) (a : Array Jvm.Value) (st : Jvm.State) : (allAtoms ts).before a st = ts.all (fun c => c.before a st) := by
  induction ts with
  | nil => rfl
  | cons c t ih =>
    show (Jvm.Cond.and c (allAtoms t)).before a st = _
    rw [Jvm.Cond.before_and, ih, List.all_cons]
def words1 : List Jvm.Cond := Jvm.Cond.code x code maxLocals ret :: tables_1
/-- a 'code' word, met by the world's own term for the bytes: nothing is compared byte by byte -/
theorem code_word {y : MethodName} {bytes : ByteArray} {mx : Nat} {rt : Option FieldType} {a : Array Value} {s : State} {m : MethodId} {meth : Method} {c : Code} (h1 : s.methodNamed? y = some m) (h2 : s.vm.method? m = some meth) (h3 : meth.code = some c) (h4 : c.code = bytes)
    (h5 : (c.maxLocals == mx && c.exceptionTable.isEmpty && decide (c.maxStack ≤ mostOperands) && decide (meth.sig.returnType = rt) && !meth.locks && decide (parseMethodDescriptor y.desc = some meth.sig)) = true) : (Jvm.Cond.code y bytes mx rt).before a s = true := by
  simp only [Bool.and_eq_true, beq_iff_eq, Bool.not_eq_true', decide_eq_true_eq] at h5
  obtain ⟨⟨⟨⟨⟨g1, g2⟩, g3⟩, g4⟩, g5⟩, g6⟩ := h5
  simp [Cond.before, Cond.holds, Cond.value, h1, h2, h3, h4, g1, g2, g3, g4, g5, g6]
def isCode : Jvm.Cond → Bool
  | .code _ _ _ _ => true
  | _ => false
theorem all_split {L : List Jvm.Cond} {P : Jvm.Cond → Bool} (h1 : L.all (fun c => isCode c || P c) = true) (h2 : ∀ c ∈ L.filter isCode, P c = true) : L.all P = true := by
  refine List.all_eq_true.mpr fun c hc => ?_
  have h := List.all_eq_true.mp h1 c hc
  rcases Bool.eq_false_or_eq_true (isCode c) with hi | hi
  · exact h2 c (List.mem_filter.mpr ⟨hc, hi⟩)
  · simpa [hi] using h
set_option maxRecDepth 65536 in
theorem w_c0 : (Jvm.Cond.code x code maxLocals ret).before args0 about1 = true := code_word (m := ⟨1, 1⟩) (meth := k1m1) (c := k1c1) (by decide +kernel) rfl rfl rfl (by decide +kernel)
set_option maxRecDepth 65536 in
theorem w_c1 : (Jvm.Cond.code ({ cls := "com/example/termwell/termwell/store/Utf8", name := "encode", desc := "(I[BI)I" } : Jvm.MethodName) prog_248_method_11_code (4 : Nat) (Option.some Jvm.ClassFile.FieldType.int)).before args0 about1 = true := code_word (m := ⟨2, 1⟩) (meth := k2m1) (c := k2c1) (by decide +kernel) rfl rfl rfl (by decide +kernel)
def codes1 : List Jvm.Cond := [Jvm.Cond.code x code maxLocals ret, Jvm.Cond.code ({ cls := "com/example/termwell/termwell/store/Utf8", name := "encode", desc := "(I[BI)I" } : Jvm.MethodName) prog_248_method_11_code (4 : Nat) (Option.some Jvm.ClassFile.FieldType.int)]
set_option maxRecDepth 65536 in
theorem codes_eq : words1.filter isCode = codes1 := rfl
theorem w_codes : ∀ c ∈ words1.filter isCode, c.before args0 about1 = true := by
  rw [codes_eq]
  intro c hc
  simp only [codes1, List.mem_cons, List.not_mem_nil, or_false] at hc
  rcases hc with rfl | rfl
  · exact w_c0
  · exact w_c1
set_option maxRecDepth 65536 in
theorem w_t1 : words1.all (fun c => isCode c || c.before args0 about1) = true := by decide +kernel
theorem w_tables : (allAtoms (Jvm.Cond.code x code maxLocals ret :: tables_1)).before args0 about1 = true := by
  rw [allAtoms_all]
  show words1.all (fun c => c.before args0 about1) = true
  refine all_split ?_ w_codes
  rw [w_t1]
set_option maxRecDepth 65536 in
theorem w_case : (Jvm.Cond.and given_1 narrow_1).before args0 about1 = true := by decide +kernel
theorem w_applies : (headSpec (Jvm.Cond.code x code maxLocals ret :: tables_1) room_1).applies x e0.platform about1 = true :=
  (Spec.applies_iff w_frames).mpr ⟨w_running, w_runnable, w_alone, w_named, w_hears, w_ripe, w_room, w_tables⟩
theorem atStart : AtStart classFile x code maxLocals ret World_1 tables_1 room_1 Calls_1 rest_1 Pre_1 launch0 p0 e0 about1 theMethod args0 below0 :=
  ⟨lists_1, trivial, launch0.admits_env _ _ _, launch0.least_env, fairChoices_fair.cas, fairChoices_fair.clock, w_frames, w_args, w_heap, w_applies, trivial, trivial, w_case⟩
end start1
theorem witness_1 : WitnessClaimed_1 := ⟨start1.p0, start1.e0, start1.about1, start1.theMethod, start1.args0, start1.below0, start1.atStart⟩
end Jvm.Pilot.@@N@@

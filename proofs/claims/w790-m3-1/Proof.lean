import JvmDerived
import JvmDerived.Pilot.@@N@@Statement
import JvmDerived.Pilot.@@N@@Code
set_option linter.unusedVariables false
set_option linter.unusedSimpArgs false
namespace Jvm.Pilot.@@N@@
open Jvm Jvm.ClassFile Sem Op Lib Jvm.Free Jvm.Stand Jvm.LawKit Jvm.RoadKit Bundle Jvm.Pilot.@@N@@.Jvm.D
section OwnKit
def own_Cx (p : Program) (s : State) (m : MethodId) (meth : Method) (c : Code) (Z : State) (n0 : Nat) (own nm : String) (bytes : ByteArray) (ml : Nat) (ret : Option FieldType) : Prop :=
  p.tables.exec = Jvm.exec ∧ c.code = bytes ∧ c.maxLocals = ml ∧ s.vm.findClass own = some m.cls ∧ meth.name = nm ∧ meth.sig.returnType = ret ∧ meth.locks = false ∧ Z.Warmed39 s.vm ∧ n0 ≤ s.heap.size
def own_St (p : Program) (l : Launch) (e : Env) (R : Room) (s : State) (m : MethodId) (args : Array Value) (below : List Frame) (meth : Method) (c : Code) (n0 : Nat) (T : State) (h : Heap) (cells slots : Nat) : Prop :=
  ∃ locs, Stand p l e R s m args below meth c T locs cells slots ∧ Fr n0 locs ∧ T.heap = h
def own_Go (p : Program) (e : Env) (below : List Frame) (n0 : Nat) (F : Option Value → State → List Loc → Prop) (S : State) : Prop :=
  ∃ t v L, Steps p.tables e below S t ∧ t.status = .running ∧ Ended t below (.returned v) ∧ Fr n0 L ∧ F v t L
def own_Fin (R : Room) (s : State) (Q : Option Value → Heap → Prop) : Option Value → State → List Loc → Prop := fun v t L => Q v t.heap ∧ FrameEnd s (.returned v) t L R.cells R.slots
abbrev own_Met (l : Launch) (Z : State) (n0 : Nat) (y : MethodName) (bytes : ByteArray) (ml : Nat) (ret : Option FieldType) (ws : List Jvm.Cond) (rm : Room) (as' : Array Value) (h0 : Heap) (Q : Option Value → Heap → Prop) : Prop :=
  MetFree l y (head1 (Jvm.Cond.code y bytes ml ret :: ws) rm) (fun a U => a = as' ∧ Z.Warmed39 U.vm ∧ U.heap = h0) (fun _ _ _ _ _ => True) (fun _ U o U' => ∃ v L, o = .returned v ∧ (Q v U'.heap ∧ Fr n0 L) ∧ FrameEnd U o U' L rm.cells rm.slots)
variable {p : Program} {l : Launch} {e : Env} {R : Room} {s : State} {m : MethodId} {args : Array Value} {below : List Frame} {meth : Method} {c : Code} {T : State} {cells slots : Nat} {Z : State} {a0 : Array Value} {h h' : Heap} {n0 : Nat} {own nm : String} {bytes : ByteArray} {ml : Nat} {ret : Option FieldType} {Q : Option Value → Heap → Prop} {F : Option Value → State → List Loc → Prop} {pc pc' pcT : Nat} {L L' : Array Slot} {S : List Value}
theorem own_st {A B : State} (k : ∀ t, Steps p.tables e below B t → Steps p.tables e below A t) (g : own_Go p e below n0 F B) : own_Go p e below n0 F A := by
  obtain ⟨t, v, L, h1, r⟩ := g; exact ⟨t, v, L, k t h1, r⟩
theorem own_big (C : own_Cx p s m meth c Z n0 own nm bytes ml ret) (X : own_St p l e R s m args below meth c n0 T h cells slots) : n0 ≤ h.size := by
  obtain ⟨locs, X, -, rfl⟩ := X; exact Nat.le_trans C.2.2.2.2.2.2.2.2 X.same.2.1
/-- a body's contract out of its run -/
theorem own_body {y : MethodName} {ws : List Jvm.Cond} {rm : Room} {as' : Array Value} {h0 : Heap} {Ls : Array Slot} (hpl : plainFor y = true) (hn : n0 ≤ h0.size) (hef : ∀ m, entryFrame m as' ml = mkF m 0 Ls [])
    (run : ∀ p e s m below meth c T, own_Cx p s m meth c Z n0 y.cls y.name bytes ml ret → own_St p l e rm s m as' below meth c n0 T h0 0 0 → own_Go p e below n0 (own_Fin rm s Q) (T.setTop (mkF m 0 Ls []))) :
    own_Met l Z n0 y bytes ml ret ws rm as' h0 Q := by
  refine MetFree.of_bodySF hpl hisR ?_
  intro p e s m args below meth c s₁ Bd hml0 hP hK
  obtain ⟨rfl, hZ, hh⟩ := hP
  have X0 : Stand p l e rm s m args below meth c s₁ [] 0 0 := Stand.of_body Bd
  have e0 : s₁.heap = h0 := by rw [← hh, Bd.state]; rfl
  obtain ⟨t, v, L, g1, g2, g3, g5, g4, g6⟩ := run p e s m below meth c s₁ ⟨Bd.exec, Bd.bytes, hml0, findClass_of_methodNamed Bd.named, (name_of_methodNamed Bd.named Bd.method).1, Bd.returns, Bd.notSynchronized, hZ, by rw [hh]; exact hn⟩ ⟨[], X0, Fr.nil n0, e0⟩
  exact ⟨t, .returned v, castTop (hef m) g1, g2, g3, v, L, rfl, ⟨g4, g5⟩, g6⟩

theorem own_iload (C : own_Cx p s m meth c Z n0 own nm bytes ml ret) (X : own_St p l e R s m args below meth c n0 T h cells slots) {k : Nat} {v : Int32} (hd : decode bytes pc = .ok (.iload k, 2)) (hl : L[k]? = some (.val (.int v))) (hp : pc + 2 = pc') (g : own_Go p e below n0 F (T.setTop (mkF m pc' L (.int v :: S)))) : own_Go p e below n0 F (T.setTop (mkF m pc L (S))) := by
  obtain ⟨locs, X, -, -⟩ := X; subst hp
  exact own_st (fun t k => XS.iload X.here C.1 rfl (hb C.2.1 hd) hl k) g
theorem own_iloadN (C : own_Cx p s m meth c Z n0 own nm bytes ml ret) (X : own_St p l e R s m args below meth c n0 T h cells slots) {k : Fin 4} {v : Int32} (hd : decode bytes pc = .ok (.iload_n k, 1)) (hl : L[k.val]? = some (.val (.int v))) (hp : pc + 1 = pc') (g : own_Go p e below n0 F (T.setTop (mkF m pc' L (.int v :: S)))) : own_Go p e below n0 F (T.setTop (mkF m pc L (S))) := by
  obtain ⟨locs, X, -, -⟩ := X; subst hp
  exact own_st (fun t k => XS.iloadN X.here C.1 rfl (hb C.2.1 hd) hl k) g
theorem own_istore (C : own_Cx p s m meth c Z n0 own nm bytes ml ret) (X : own_St p l e R s m args below meth c n0 T h cells slots) {k : Nat} {v : Int32} (hd : decode bytes pc = .ok (.istore k, 2)) (hl : storeLocals L k (.int v) = some L') (hp : pc + 2 = pc') (g : own_Go p e below n0 F (T.setTop (mkF m pc' L' (S)))) : own_Go p e below n0 F (T.setTop (mkF m pc L (.int v :: S))) := by
  obtain ⟨locs, X, -, -⟩ := X; subst hp
  exact own_st (fun t k => XS.istore X.here C.1 rfl (hb C.2.1 hd) rfl hl k) g
theorem own_istoreN (C : own_Cx p s m meth c Z n0 own nm bytes ml ret) (X : own_St p l e R s m args below meth c n0 T h cells slots) {k : Fin 4} {v : Int32} (hd : decode bytes pc = .ok (.istore_n k, 1)) (hl : storeLocals L k.val (.int v) = some L') (hp : pc + 1 = pc') (g : own_Go p e below n0 F (T.setTop (mkF m pc' L' (S)))) : own_Go p e below n0 F (T.setTop (mkF m pc L (.int v :: S))) := by
  obtain ⟨locs, X, -, -⟩ := X; subst hp
  exact own_st (fun t k => XS.istoreN X.here C.1 rfl (hb C.2.1 hd) rfl hl k) g
theorem own_lload (C : own_Cx p s m meth c Z n0 own nm bytes ml ret) (X : own_St p l e R s m args below meth c n0 T h cells slots) {k : Nat} {v : Int64} (hd : decode bytes pc = .ok (.lload k, 2)) (hl : L[k]? = some (.val (.long v))) (hp : pc + 2 = pc') (g : own_Go p e below n0 F (T.setTop (mkF m pc' L (.long v :: S)))) : own_Go p e below n0 F (T.setTop (mkF m pc L (S))) := by
  obtain ⟨locs, X, -, -⟩ := X; subst hp
  exact own_st (fun t k => XS.lload X.here C.1 rfl (hb C.2.1 hd) hl k) g
theorem own_lloadN (C : own_Cx p s m meth c Z n0 own nm bytes ml ret) (X : own_St p l e R s m args below meth c n0 T h cells slots) {k : Fin 4} {v : Int64} (hd : decode bytes pc = .ok (.lload_n k, 1)) (hl : L[k.val]? = some (.val (.long v))) (hp : pc + 1 = pc') (g : own_Go p e below n0 F (T.setTop (mkF m pc' L (.long v :: S)))) : own_Go p e below n0 F (T.setTop (mkF m pc L (S))) := by
  obtain ⟨locs, X, -, -⟩ := X; subst hp
  exact own_st (fun t k => XS.lloadN X.here C.1 rfl (hb C.2.1 hd) hl k) g
theorem own_lstore (C : own_Cx p s m meth c Z n0 own nm bytes ml ret) (X : own_St p l e R s m args below meth c n0 T h cells slots) {k : Nat} {v : Int64} (hd : decode bytes pc = .ok (.lstore k, 2)) (hl : storeLocals L k (.long v) = some L') (hp : pc + 2 = pc') (g : own_Go p e below n0 F (T.setTop (mkF m pc' L' (S)))) : own_Go p e below n0 F (T.setTop (mkF m pc L (.long v :: S))) := by
  obtain ⟨locs, X, -, -⟩ := X; subst hp
  exact own_st (fun t k => XS.lstore X.here C.1 rfl (hb C.2.1 hd) rfl hl k) g
theorem own_lstoreN (C : own_Cx p s m meth c Z n0 own nm bytes ml ret) (X : own_St p l e R s m args below meth c n0 T h cells slots) {k : Fin 4} {v : Int64} (hd : decode bytes pc = .ok (.lstore_n k, 1)) (hl : storeLocals L k.val (.long v) = some L') (hp : pc + 1 = pc') (g : own_Go p e below n0 F (T.setTop (mkF m pc' L' (S)))) : own_Go p e below n0 F (T.setTop (mkF m pc L (.long v :: S))) := by
  obtain ⟨locs, X, -, -⟩ := X; subst hp
  exact own_st (fun t k => XS.lstoreN X.here C.1 rfl (hb C.2.1 hd) rfl hl k) g
theorem own_aload (C : own_Cx p s m meth c Z n0 own nm bytes ml ret) (X : own_St p l e R s m args below meth c n0 T h cells slots) {k : Nat} {v : Value} (hd : decode bytes pc = .ok (.aload k, 2)) (hl : L[k]? = some (.val v)) (hv : v.isRef = true) (hp : pc + 2 = pc') (g : own_Go p e below n0 F (T.setTop (mkF m pc' L (v :: S)))) : own_Go p e below n0 F (T.setTop (mkF m pc L (S))) := by
  obtain ⟨locs, X, -, -⟩ := X; subst hp
  exact own_st (fun t k => XS.aload X.here C.1 rfl (hb C.2.1 hd) hl hv k) g
theorem own_aloadN (C : own_Cx p s m meth c Z n0 own nm bytes ml ret) (X : own_St p l e R s m args below meth c n0 T h cells slots) {k : Fin 4} {v : Value} (hd : decode bytes pc = .ok (.aload_n k, 1)) (hl : L[k.val]? = some (.val v)) (hv : v.isRef = true) (hp : pc + 1 = pc') (g : own_Go p e below n0 F (T.setTop (mkF m pc' L (v :: S)))) : own_Go p e below n0 F (T.setTop (mkF m pc L (S))) := by
  obtain ⟨locs, X, -, -⟩ := X; subst hp
  exact own_st (fun t k => XS.aloadN X.here C.1 rfl (hb C.2.1 hd) hl hv k) g
theorem own_astore (C : own_Cx p s m meth c Z n0 own nm bytes ml ret) (X : own_St p l e R s m args below meth c n0 T h cells slots) {k : Nat} {v : Value} (hd : decode bytes pc = .ok (.astore k, 2)) (hv : v.isRef = true) (hl : storeLocals L k v = some L') (hp : pc + 2 = pc') (g : own_Go p e below n0 F (T.setTop (mkF m pc' L' (S)))) : own_Go p e below n0 F (T.setTop (mkF m pc L (v :: S))) := by
  obtain ⟨locs, X, -, -⟩ := X; subst hp
  exact own_st (fun t k => XS.astore X.here C.1 rfl (hb C.2.1 hd) rfl hv hl k) g
theorem own_astoreN (C : own_Cx p s m meth c Z n0 own nm bytes ml ret) (X : own_St p l e R s m args below meth c n0 T h cells slots) {k : Fin 4} {v : Value} (hd : decode bytes pc = .ok (.astore_n k, 1)) (hv : v.isRef = true) (hl : storeLocals L k.val v = some L') (hp : pc + 1 = pc') (g : own_Go p e below n0 F (T.setTop (mkF m pc' L' (S)))) : own_Go p e below n0 F (T.setTop (mkF m pc L (v :: S))) := by
  obtain ⟨locs, X, -, -⟩ := X; subst hp
  exact own_st (fun t k => XS.astoreN X.here C.1 rfl (hb C.2.1 hd) rfl hv hl k) g
theorem own_iconst (C : own_Cx p s m meth c Z n0 own nm bytes ml ret) (X : own_St p l e R s m args below meth c n0 T h cells slots) {i : Int} {v : Int32} (hd : decode bytes pc = .ok (.iconst i, 1)) (hv : Int32.ofInt i = v) (hp : pc + 1 = pc') (g : own_Go p e below n0 F (T.setTop (mkF m pc' L (.int v :: S)))) : own_Go p e below n0 F (T.setTop (mkF m pc L (S))) := by
  obtain ⟨locs, X, -, -⟩ := X; subst hp hv
  exact own_st (fun t k => XS.iconst X.here C.1 rfl (hb C.2.1 hd) k) g
theorem own_bipush (C : own_Cx p s m meth c Z n0 own nm bytes ml ret) (X : own_St p l e R s m args below meth c n0 T h cells slots) {i : Int} {v : Int32} (hd : decode bytes pc = .ok (.bipush i, 2)) (hv : (Int8.ofInt i).toInt32 = v) (hp : pc + 2 = pc') (g : own_Go p e below n0 F (T.setTop (mkF m pc' L (.int v :: S)))) : own_Go p e below n0 F (T.setTop (mkF m pc L (S))) := by
  obtain ⟨locs, X, -, -⟩ := X; subst hp hv
  exact own_st (fun t k => XS.bipush X.here C.1 rfl (hb C.2.1 hd) k) g
theorem own_sipush (C : own_Cx p s m meth c Z n0 own nm bytes ml ret) (X : own_St p l e R s m args below meth c n0 T h cells slots) {i : Int} {v : Int32} (hd : decode bytes pc = .ok (.sipush i, 3)) (hv : (Int16.ofInt i).toInt32 = v) (hp : pc + 3 = pc') (g : own_Go p e below n0 F (T.setTop (mkF m pc' L (.int v :: S)))) : own_Go p e below n0 F (T.setTop (mkF m pc L (S))) := by
  obtain ⟨locs, X, -, -⟩ := X; subst hp hv
  exact own_st (fun t k => XS.sipush X.here C.1 rfl (hb C.2.1 hd) k) g
theorem own_lconst (C : own_Cx p s m meth c Z n0 own nm bytes ml ret) (X : own_St p l e R s m args below meth c n0 T h cells slots) {i : Fin 2} {v : Int64} (hd : decode bytes pc = .ok (.lconst i, 1)) (hv : Int64.ofNat i = v) (hp : pc + 1 = pc') (g : own_Go p e below n0 F (T.setTop (mkF m pc' L (.long v :: S)))) : own_Go p e below n0 F (T.setTop (mkF m pc L (S))) := by
  obtain ⟨locs, X, -, -⟩ := X; subst hp hv
  exact own_st (fun t k => XS.lconst X.here C.1 rfl (hb C.2.1 hd) k) g
theorem own_aconst_null (C : own_Cx p s m meth c Z n0 own nm bytes ml ret) (X : own_St p l e R s m args below meth c n0 T h cells slots)  (hd : decode bytes pc = .ok (.aconst_null, 1))  (hp : pc + 1 = pc') (g : own_Go p e below n0 F (T.setTop (mkF m pc' L (.null :: S)))) : own_Go p e below n0 F (T.setTop (mkF m pc L (S))) := by
  obtain ⟨locs, X, -, -⟩ := X; subst hp
  exact own_st (fun t k => XS.aconstNull X.here C.1 rfl (hb C.2.1 hd) k) g
theorem own_iadd (C : own_Cx p s m meth c Z n0 own nm bytes ml ret) (X : own_St p l e R s m args below meth c n0 T h cells slots) {x y z : Int32} (hd : decode bytes pc = .ok (.iadd, 1)) (hz : x + y = z) (hp : pc + 1 = pc') (g : own_Go p e below n0 F (T.setTop (mkF m pc' L (.int z :: S)))) : own_Go p e below n0 F (T.setTop (mkF m pc L (.int y :: .int x :: S))) := by
  obtain ⟨locs, X, -, -⟩ := X; subst hp hz
  exact own_st (fun t k => XS.iadd X.here C.1 rfl (hb C.2.1 hd) rfl k) g
theorem own_ladd (C : own_Cx p s m meth c Z n0 own nm bytes ml ret) (X : own_St p l e R s m args below meth c n0 T h cells slots) {x y z : Int64} (hd : decode bytes pc = .ok (.ladd, 1)) (hz : x + y = z) (hp : pc + 1 = pc') (g : own_Go p e below n0 F (T.setTop (mkF m pc' L (.long z :: S)))) : own_Go p e below n0 F (T.setTop (mkF m pc L (.long y :: .long x :: S))) := by
  obtain ⟨locs, X, -, -⟩ := X; subst hp hz
  exact own_st (fun t k => XS.ladd X.here C.1 rfl (hb C.2.1 hd) rfl k) g
theorem own_isub (C : own_Cx p s m meth c Z n0 own nm bytes ml ret) (X : own_St p l e R s m args below meth c n0 T h cells slots) {x y z : Int32} (hd : decode bytes pc = .ok (.isub, 1)) (hz : x - y = z) (hp : pc + 1 = pc') (g : own_Go p e below n0 F (T.setTop (mkF m pc' L (.int z :: S)))) : own_Go p e below n0 F (T.setTop (mkF m pc L (.int y :: .int x :: S))) := by
  obtain ⟨locs, X, -, -⟩ := X; subst hp hz
  exact own_st (fun t k => XS.isub X.here C.1 rfl (hb C.2.1 hd) rfl k) g
theorem own_lsub (C : own_Cx p s m meth c Z n0 own nm bytes ml ret) (X : own_St p l e R s m args below meth c n0 T h cells slots) {x y z : Int64} (hd : decode bytes pc = .ok (.lsub, 1)) (hz : x - y = z) (hp : pc + 1 = pc') (g : own_Go p e below n0 F (T.setTop (mkF m pc' L (.long z :: S)))) : own_Go p e below n0 F (T.setTop (mkF m pc L (.long y :: .long x :: S))) := by
  obtain ⟨locs, X, -, -⟩ := X; subst hp hz
  exact own_st (fun t k => XS.lsub X.here C.1 rfl (hb C.2.1 hd) rfl k) g
theorem own_imul (C : own_Cx p s m meth c Z n0 own nm bytes ml ret) (X : own_St p l e R s m args below meth c n0 T h cells slots) {x y z : Int32} (hd : decode bytes pc = .ok (.imul, 1)) (hz : x * y = z) (hp : pc + 1 = pc') (g : own_Go p e below n0 F (T.setTop (mkF m pc' L (.int z :: S)))) : own_Go p e below n0 F (T.setTop (mkF m pc L (.int y :: .int x :: S))) := by
  obtain ⟨locs, X, -, -⟩ := X; subst hp hz
  exact own_st (fun t k => XS.imul X.here C.1 rfl (hb C.2.1 hd) rfl k) g
theorem own_lmul (C : own_Cx p s m meth c Z n0 own nm bytes ml ret) (X : own_St p l e R s m args below meth c n0 T h cells slots) {x y z : Int64} (hd : decode bytes pc = .ok (.lmul, 1)) (hz : x * y = z) (hp : pc + 1 = pc') (g : own_Go p e below n0 F (T.setTop (mkF m pc' L (.long z :: S)))) : own_Go p e below n0 F (T.setTop (mkF m pc L (.long y :: .long x :: S))) := by
  obtain ⟨locs, X, -, -⟩ := X; subst hp hz
  exact own_st (fun t k => XS.lmul X.here C.1 rfl (hb C.2.1 hd) rfl k) g
theorem own_iand (C : own_Cx p s m meth c Z n0 own nm bytes ml ret) (X : own_St p l e R s m args below meth c n0 T h cells slots) {x y z : Int32} (hd : decode bytes pc = .ok (.iand, 1)) (hz : x &&& y = z) (hp : pc + 1 = pc') (g : own_Go p e below n0 F (T.setTop (mkF m pc' L (.int z :: S)))) : own_Go p e below n0 F (T.setTop (mkF m pc L (.int y :: .int x :: S))) := by
  obtain ⟨locs, X, -, -⟩ := X; subst hp hz
  exact own_st (fun t k => XS.iand X.here C.1 rfl (hb C.2.1 hd) rfl k) g
theorem own_land (C : own_Cx p s m meth c Z n0 own nm bytes ml ret) (X : own_St p l e R s m args below meth c n0 T h cells slots) {x y z : Int64} (hd : decode bytes pc = .ok (.land, 1)) (hz : x &&& y = z) (hp : pc + 1 = pc') (g : own_Go p e below n0 F (T.setTop (mkF m pc' L (.long z :: S)))) : own_Go p e below n0 F (T.setTop (mkF m pc L (.long y :: .long x :: S))) := by
  obtain ⟨locs, X, -, -⟩ := X; subst hp hz
  exact own_st (fun t k => XS.land X.here C.1 rfl (hb C.2.1 hd) rfl k) g
theorem own_ior (C : own_Cx p s m meth c Z n0 own nm bytes ml ret) (X : own_St p l e R s m args below meth c n0 T h cells slots) {x y z : Int32} (hd : decode bytes pc = .ok (.ior, 1)) (hz : x ||| y = z) (hp : pc + 1 = pc') (g : own_Go p e below n0 F (T.setTop (mkF m pc' L (.int z :: S)))) : own_Go p e below n0 F (T.setTop (mkF m pc L (.int y :: .int x :: S))) := by
  obtain ⟨locs, X, -, -⟩ := X; subst hp hz
  exact own_st (fun t k => XS.ior X.here C.1 rfl (hb C.2.1 hd) rfl k) g
theorem own_lor (C : own_Cx p s m meth c Z n0 own nm bytes ml ret) (X : own_St p l e R s m args below meth c n0 T h cells slots) {x y z : Int64} (hd : decode bytes pc = .ok (.lor, 1)) (hz : x ||| y = z) (hp : pc + 1 = pc') (g : own_Go p e below n0 F (T.setTop (mkF m pc' L (.long z :: S)))) : own_Go p e below n0 F (T.setTop (mkF m pc L (.long y :: .long x :: S))) := by
  obtain ⟨locs, X, -, -⟩ := X; subst hp hz
  exact own_st (fun t k => XS.lor X.here C.1 rfl (hb C.2.1 hd) rfl k) g
theorem own_ixor (C : own_Cx p s m meth c Z n0 own nm bytes ml ret) (X : own_St p l e R s m args below meth c n0 T h cells slots) {x y z : Int32} (hd : decode bytes pc = .ok (.ixor, 1)) (hz : x ^^^ y = z) (hp : pc + 1 = pc') (g : own_Go p e below n0 F (T.setTop (mkF m pc' L (.int z :: S)))) : own_Go p e below n0 F (T.setTop (mkF m pc L (.int y :: .int x :: S))) := by
  obtain ⟨locs, X, -, -⟩ := X; subst hp hz
  exact own_st (fun t k => XS.ixor X.here C.1 rfl (hb C.2.1 hd) rfl k) g
theorem own_lxor (C : own_Cx p s m meth c Z n0 own nm bytes ml ret) (X : own_St p l e R s m args below meth c n0 T h cells slots) {x y z : Int64} (hd : decode bytes pc = .ok (.lxor, 1)) (hz : x ^^^ y = z) (hp : pc + 1 = pc') (g : own_Go p e below n0 F (T.setTop (mkF m pc' L (.long z :: S)))) : own_Go p e below n0 F (T.setTop (mkF m pc L (.long y :: .long x :: S))) := by
  obtain ⟨locs, X, -, -⟩ := X; subst hp hz
  exact own_st (fun t k => XS.lxor X.here C.1 rfl (hb C.2.1 hd) rfl k) g
theorem own_ishl (C : own_Cx p s m meth c Z n0 own nm bytes ml ret) (X : own_St p l e R s m args below meth c n0 T h cells slots) {x y z : Int32} (hd : decode bytes pc = .ok (.ishl, 1)) (hz : x <<< (y &&& 31) = z) (hp : pc + 1 = pc') (g : own_Go p e below n0 F (T.setTop (mkF m pc' L (.int z :: S)))) : own_Go p e below n0 F (T.setTop (mkF m pc L (.int y :: .int x :: S))) := by
  obtain ⟨locs, X, -, -⟩ := X; subst hp hz
  exact own_st (fun t k => XS.ishl X.here C.1 rfl (hb C.2.1 hd) rfl k) g
theorem own_ishr (C : own_Cx p s m meth c Z n0 own nm bytes ml ret) (X : own_St p l e R s m args below meth c n0 T h cells slots) {x y z : Int32} (hd : decode bytes pc = .ok (.ishr, 1)) (hz : x >>> (y &&& 31) = z) (hp : pc + 1 = pc') (g : own_Go p e below n0 F (T.setTop (mkF m pc' L (.int z :: S)))) : own_Go p e below n0 F (T.setTop (mkF m pc L (.int y :: .int x :: S))) := by
  obtain ⟨locs, X, -, -⟩ := X; subst hp hz
  exact own_st (fun t k => XS.ishr X.here C.1 rfl (hb C.2.1 hd) rfl k) g
theorem own_iushr (C : own_Cx p s m meth c Z n0 own nm bytes ml ret) (X : own_St p l e R s m args below meth c n0 T h cells slots) {x y z : Int32} (hd : decode bytes pc = .ok (.iushr, 1)) (hz : (x.toUInt32 >>> (y &&& 31).toUInt32).toInt32 = z) (hp : pc + 1 = pc') (g : own_Go p e below n0 F (T.setTop (mkF m pc' L (.int z :: S)))) : own_Go p e below n0 F (T.setTop (mkF m pc L (.int y :: .int x :: S))) := by
  obtain ⟨locs, X, -, -⟩ := X; subst hp hz
  exact own_st (fun t k => XS.iushr X.here C.1 rfl (hb C.2.1 hd) rfl k) g
theorem own_lshl (C : own_Cx p s m meth c Z n0 own nm bytes ml ret) (X : own_St p l e R s m args below meth c n0 T h cells slots) {x z : Int64} {y : Int32} (hd : decode bytes pc = .ok (.lshl, 1)) (hz : x <<< (y &&& 0x3f).toInt64 = z) (hp : pc + 1 = pc') (g : own_Go p e below n0 F (T.setTop (mkF m pc' L (.long z :: S)))) : own_Go p e below n0 F (T.setTop (mkF m pc L (.int y :: .long x :: S))) := by
  obtain ⟨locs, X, -, -⟩ := X; subst hp hz
  exact own_st (fun t k => XS.lshl X.here C.1 rfl (hb C.2.1 hd) rfl k) g
theorem own_lshr (C : own_Cx p s m meth c Z n0 own nm bytes ml ret) (X : own_St p l e R s m args below meth c n0 T h cells slots) {x z : Int64} {y : Int32} (hd : decode bytes pc = .ok (.lshr, 1)) (hz : x >>> (y &&& 0x3f).toInt64 = z) (hp : pc + 1 = pc') (g : own_Go p e below n0 F (T.setTop (mkF m pc' L (.long z :: S)))) : own_Go p e below n0 F (T.setTop (mkF m pc L (.int y :: .long x :: S))) := by
  obtain ⟨locs, X, -, -⟩ := X; subst hp hz
  exact own_st (fun t k => XS.lshr X.here C.1 rfl (hb C.2.1 hd) rfl k) g
theorem own_lushr (C : own_Cx p s m meth c Z n0 own nm bytes ml ret) (X : own_St p l e R s m args below meth c n0 T h cells slots) {x z : Int64} {y : Int32} (hd : decode bytes pc = .ok (.lushr, 1)) (hz : (x.toUInt64 >>> (y &&& 0x3f).toInt64.toUInt64).toInt64 = z) (hp : pc + 1 = pc') (g : own_Go p e below n0 F (T.setTop (mkF m pc' L (.long z :: S)))) : own_Go p e below n0 F (T.setTop (mkF m pc L (.int y :: .long x :: S))) := by
  obtain ⟨locs, X, -, -⟩ := X; subst hp hz
  exact own_st (fun t k => XS.lushr X.here C.1 rfl (hb C.2.1 hd) rfl k) g
theorem own_idiv (C : own_Cx p s m meth c Z n0 own nm bytes ml ret) (X : own_St p l e R s m args below meth c n0 T h cells slots) {x y z : Int32} (hd : decode bytes pc = .ok (.idiv, 1)) (hy : y ≠ 0) (hz : x / y = z) (hp : pc + 1 = pc') (g : own_Go p e below n0 F (T.setTop (mkF m pc' L (.int z :: S)))) : own_Go p e below n0 F (T.setTop (mkF m pc L (.int y :: .int x :: S))) := by
  obtain ⟨locs, X, -, -⟩ := X; subst hp hz
  exact own_st (fun t k => XS.idiv X.here C.1 rfl (hb C.2.1 hd) rfl hy k) g
theorem own_irem (C : own_Cx p s m meth c Z n0 own nm bytes ml ret) (X : own_St p l e R s m args below meth c n0 T h cells slots) {x y z : Int32} (hd : decode bytes pc = .ok (.irem, 1)) (hy : y ≠ 0) (hz : x % y = z) (hp : pc + 1 = pc') (g : own_Go p e below n0 F (T.setTop (mkF m pc' L (.int z :: S)))) : own_Go p e below n0 F (T.setTop (mkF m pc L (.int y :: .int x :: S))) := by
  obtain ⟨locs, X, -, -⟩ := X; subst hp hz
  exact own_st (fun t k => iremM X C.1 rfl (hb C.2.1 hd) rfl hy k) g
theorem own_ldiv (C : own_Cx p s m meth c Z n0 own nm bytes ml ret) (X : own_St p l e R s m args below meth c n0 T h cells slots) {x y z : Int64} (hd : decode bytes pc = .ok (.ldiv, 1)) (hy : y ≠ 0) (hz : x / y = z) (hp : pc + 1 = pc') (g : own_Go p e below n0 F (T.setTop (mkF m pc' L (.long z :: S)))) : own_Go p e below n0 F (T.setTop (mkF m pc L (.long y :: .long x :: S))) := by
  obtain ⟨locs, X, -, -⟩ := X; subst hp hz
  exact own_st (fun t k => XS.ldiv X.here C.1 rfl (hb C.2.1 hd) rfl hy k) g
theorem own_lrem (C : own_Cx p s m meth c Z n0 own nm bytes ml ret) (X : own_St p l e R s m args below meth c n0 T h cells slots) {x y z : Int64} (hd : decode bytes pc = .ok (.lrem, 1)) (hy : y ≠ 0) (hz : x % y = z) (hp : pc + 1 = pc') (g : own_Go p e below n0 F (T.setTop (mkF m pc' L (.long z :: S)))) : own_Go p e below n0 F (T.setTop (mkF m pc L (.long y :: .long x :: S))) := by
  obtain ⟨locs, X, -, -⟩ := X; subst hp hz
  exact own_st (fun t k => XS.lrem X.here C.1 rfl (hb C.2.1 hd) rfl hy (by rw [lrem_mod]; exact k)) g
theorem own_ineg (C : own_Cx p s m meth c Z n0 own nm bytes ml ret) (X : own_St p l e R s m args below meth c n0 T h cells slots) {x : Int32} {z : Int32} (hd : decode bytes pc = .ok (.ineg, 1)) (hz : -x = z) (hp : pc + 1 = pc') (g : own_Go p e below n0 F (T.setTop (mkF m pc' L (.int z :: S)))) : own_Go p e below n0 F (T.setTop (mkF m pc L (.int x :: S))) := by
  obtain ⟨locs, X, -, -⟩ := X; subst hp hz
  exact own_st (fun t k => XS.ineg X.here C.1 rfl (hb C.2.1 hd) rfl k) g
theorem own_lneg (C : own_Cx p s m meth c Z n0 own nm bytes ml ret) (X : own_St p l e R s m args below meth c n0 T h cells slots) {x : Int64} {z : Int64} (hd : decode bytes pc = .ok (.lneg, 1)) (hz : -x = z) (hp : pc + 1 = pc') (g : own_Go p e below n0 F (T.setTop (mkF m pc' L (.long z :: S)))) : own_Go p e below n0 F (T.setTop (mkF m pc L (.long x :: S))) := by
  obtain ⟨locs, X, -, -⟩ := X; subst hp hz
  exact own_st (fun t k => XS.lneg X.here C.1 rfl (hb C.2.1 hd) rfl k) g
theorem own_i2l (C : own_Cx p s m meth c Z n0 own nm bytes ml ret) (X : own_St p l e R s m args below meth c n0 T h cells slots) {x : Int32} {z : Int64} (hd : decode bytes pc = .ok (.i2l, 1)) (hz : x.toInt64 = z) (hp : pc + 1 = pc') (g : own_Go p e below n0 F (T.setTop (mkF m pc' L (.long z :: S)))) : own_Go p e below n0 F (T.setTop (mkF m pc L (.int x :: S))) := by
  obtain ⟨locs, X, -, -⟩ := X; subst hp hz
  exact own_st (fun t k => XS.i2l X.here C.1 rfl (hb C.2.1 hd) rfl k) g
theorem own_l2i (C : own_Cx p s m meth c Z n0 own nm bytes ml ret) (X : own_St p l e R s m args below meth c n0 T h cells slots) {x : Int64} {z : Int32} (hd : decode bytes pc = .ok (.l2i, 1)) (hz : x.toInt32 = z) (hp : pc + 1 = pc') (g : own_Go p e below n0 F (T.setTop (mkF m pc' L (.int z :: S)))) : own_Go p e below n0 F (T.setTop (mkF m pc L (.long x :: S))) := by
  obtain ⟨locs, X, -, -⟩ := X; subst hp hz
  exact own_st (fun t k => XS.l2i X.here C.1 rfl (hb C.2.1 hd) rfl k) g
theorem own_i2b (C : own_Cx p s m meth c Z n0 own nm bytes ml ret) (X : own_St p l e R s m args below meth c n0 T h cells slots) {x : Int32} {z : Int32} (hd : decode bytes pc = .ok (.i2b, 1)) (hz : x.toInt8.toInt32 = z) (hp : pc + 1 = pc') (g : own_Go p e below n0 F (T.setTop (mkF m pc' L (.int z :: S)))) : own_Go p e below n0 F (T.setTop (mkF m pc L (.int x :: S))) := by
  obtain ⟨locs, X, -, -⟩ := X; subst hp hz
  exact own_st (fun t k => XS.i2b X.here C.1 rfl (hb C.2.1 hd) rfl k) g
theorem own_i2c (C : own_Cx p s m meth c Z n0 own nm bytes ml ret) (X : own_St p l e R s m args below meth c n0 T h cells slots) {x : Int32} {z : Int32} (hd : decode bytes pc = .ok (.i2c, 1)) (hz : x.toUInt32.toUInt16.toUInt32.toInt32 = z) (hp : pc + 1 = pc') (g : own_Go p e below n0 F (T.setTop (mkF m pc' L (.int z :: S)))) : own_Go p e below n0 F (T.setTop (mkF m pc L (.int x :: S))) := by
  obtain ⟨locs, X, -, -⟩ := X; subst hp hz
  exact own_st (fun t k => XS.i2c X.here C.1 rfl (hb C.2.1 hd) rfl k) g
theorem own_i2s (C : own_Cx p s m meth c Z n0 own nm bytes ml ret) (X : own_St p l e R s m args below meth c n0 T h cells slots) {x : Int32} {z : Int32} (hd : decode bytes pc = .ok (.i2s, 1)) (hz : x.toInt16.toInt32 = z) (hp : pc + 1 = pc') (g : own_Go p e below n0 F (T.setTop (mkF m pc' L (.int z :: S)))) : own_Go p e below n0 F (T.setTop (mkF m pc L (.int x :: S))) := by
  obtain ⟨locs, X, -, -⟩ := X; subst hp hz
  exact own_st (fun t k => XS.i2s X.here C.1 rfl (hb C.2.1 hd) rfl k) g
theorem own_iinc (C : own_Cx p s m meth c Z n0 own nm bytes ml ret) (X : own_St p l e R s m args below meth c n0 T h cells slots) {k : Nat} {i : Int} {x d z : Int32} (hd : decode bytes pc = .ok (.iinc k i, 3)) (hl : L[k]? = some (.val (.int x))) (hv : Int32.ofInt i = d) (hz : x + d = z) (hl' : storeLocals L k (.int z) = some L') (hp : pc + 3 = pc') (g : own_Go p e below n0 F (T.setTop (mkF m pc' L' (S)))) : own_Go p e below n0 F (T.setTop (mkF m pc L (S))) := by
  obtain ⟨locs, X, -, -⟩ := X; subst hp hv hz
  exact own_st (fun t k => XS.iinc X.here C.1 rfl (hb C.2.1 hd) hl hl' k) g
theorem own_dup (C : own_Cx p s m meth c Z n0 own nm bytes ml ret) (X : own_St p l e R s m args below meth c n0 T h cells slots) {v : Value} (hd : decode bytes pc = .ok (.dup, 1)) (hc : v.category = 1) (hp : pc + 1 = pc') (g : own_Go p e below n0 F (T.setTop (mkF m pc' L (v :: v :: S)))) : own_Go p e below n0 F (T.setTop (mkF m pc L (v :: S))) := by
  obtain ⟨locs, X, -, -⟩ := X; subst hp
  exact own_st (fun t k => XS.dup X.here C.1 rfl (hb C.2.1 hd) rfl hc k) g
theorem own_pop (C : own_Cx p s m meth c Z n0 own nm bytes ml ret) (X : own_St p l e R s m args below meth c n0 T h cells slots) {v : Value} (hd : decode bytes pc = .ok (.pop, 1)) (hc : v.category = 1) (hp : pc + 1 = pc') (g : own_Go p e below n0 F (T.setTop (mkF m pc' L (S)))) : own_Go p e below n0 F (T.setTop (mkF m pc L (v :: S))) := by
  obtain ⟨locs, X, -, -⟩ := X; subst hp
  exact own_st (fun t k => XS.pop X.here C.1 rfl (hb C.2.1 hd) rfl hc k) g
theorem own_dup_x1 (C : own_Cx p s m meth c Z n0 own nm bytes ml ret) (X : own_St p l e R s m args below meth c n0 T h cells slots) {v w : Value} (hd : decode bytes pc = .ok (.dup_x1, 1)) (hc : v.category = 1) (hc' : w.category = 1) (hp : pc + 1 = pc') (g : own_Go p e below n0 F (T.setTop (mkF m pc' L (v :: w :: v :: S)))) : own_Go p e below n0 F (T.setTop (mkF m pc L (v :: w :: S))) := by
  obtain ⟨locs, X, -, -⟩ := X; subst hp
  exact own_st (fun t k => XS.dupX1 X.here C.1 rfl (hb C.2.1 hd) rfl hc hc' k) g
theorem own_dup2 (C : own_Cx p s m meth c Z n0 own nm bytes ml ret) (X : own_St p l e R s m args below meth c n0 T h cells slots) {v w : Value} (hd : decode bytes pc = .ok (.dup2, 1)) (hc : v.category = 1) (hc' : w.category = 1) (hp : pc + 1 = pc') (g : own_Go p e below n0 F (T.setTop (mkF m pc' L (v :: w :: v :: w :: S)))) : own_Go p e below n0 F (T.setTop (mkF m pc L (v :: w :: S))) := by
  obtain ⟨locs, X, -, -⟩ := X; subst hp
  exact own_st (fun t k => XT.dup2 X.here C.1 rfl (hb C.2.1 hd) rfl hc hc' k) g
theorem own_dup2L (C : own_Cx p s m meth c Z n0 own nm bytes ml ret) (X : own_St p l e R s m args below meth c n0 T h cells slots) {v : Int64} (hd : decode bytes pc = .ok (.dup2, 1))  (hp : pc + 1 = pc') (g : own_Go p e below n0 F (T.setTop (mkF m pc' L (.long v :: .long v :: S)))) : own_Go p e below n0 F (T.setTop (mkF m pc L (.long v :: S))) := by
  obtain ⟨locs, X, -, -⟩ := X; subst hp
  exact own_st (fun t k => XT.dup2L X.here C.1 rfl (hb C.2.1 hd) rfl k) g
theorem own_pop2L (C : own_Cx p s m meth c Z n0 own nm bytes ml ret) (X : own_St p l e R s m args below meth c n0 T h cells slots) {v : Int64} (hd : decode bytes pc = .ok (.pop2, 1))  (hp : pc + 1 = pc') (g : own_Go p e below n0 F (T.setTop (mkF m pc' L (S)))) : own_Go p e below n0 F (T.setTop (mkF m pc L (.long v :: S))) := by
  obtain ⟨locs, X, -, -⟩ := X; subst hp
  exact own_st (fun t k => (by jvm_step X.here [X.here.top, C.1, hb C.2.1 hd, Value.category]; exact k)) g
theorem own_lcmp (C : own_Cx p s m meth c Z n0 own nm bytes ml ret) (X : own_St p l e R s m args below meth c n0 T h cells slots) {x y : Int64} {z : Int32} (hd : decode bytes pc = .ok (.lcmp, 1)) (hz : lcmpW x y = z) (hp : pc + 1 = pc') (g : own_Go p e below n0 F (T.setTop (mkF m pc' L (.int z :: S)))) : own_Go p e below n0 F (T.setTop (mkF m pc L (.long y :: .long x :: S))) := by
  obtain ⟨locs, X, -, -⟩ := X; subst hp hz
  exact own_st (fun t k => XS.lcmp X.here C.1 rfl (hb C.2.1 hd) rfl k) g
theorem own_ldcI (C : own_Cx p s m meth c Z n0 own nm bytes ml ret) (X : own_St p l e R s m args below meth c n0 T h cells slots) {i : Nat} {v : Int32} (hd : decode bytes pc = .ok (.ldc i, 2)) (w : (Jvm.Cond.constant own i v).before a0 Z = true) (hp : pc + 2 = pc') (g : own_Go p e below n0 F (T.setTop (mkF m pc' L (.int v :: S)))) : own_Go p e below n0 F (T.setTop (mkF m pc L (S))) := by
  obtain ⟨locs, X, -, -⟩ := X; subst hp
  exact own_st (fun t k => X.ldcInt C.1 C.2.2.2.1 (mvT C.2.2.2.2.2.2.2.1 w) (g := mkF m pc L S) rfl (hb C.2.1 hd) t k) g
theorem own_ldc2L (C : own_Cx p s m meth c Z n0 own nm bytes ml ret) (X : own_St p l e R s m args below meth c n0 T h cells slots) {i : Nat} {v : Int64} (hd : decode bytes pc = .ok (.ldc2_w i, 3)) (w : (Jvm.Cond.constantLong own i v).before a0 Z = true) (hp : pc + 3 = pc') (g : own_Go p e below n0 F (T.setTop (mkF m pc' L (.long v :: S)))) : own_Go p e below n0 F (T.setTop (mkF m pc L (S))) := by
  obtain ⟨locs, X, -, -⟩ := X; subst hp
  exact own_st (fun t k => X.ldc2Long C.1 C.2.2.2.1 (mvT C.2.2.2.2.2.2.2.1 w) (g := mkF m pc L S) rfl (hb C.2.1 hd) t k) g
theorem own_goto (C : own_Cx p s m meth c Z n0 own nm bytes ml ret) (X : own_St p l e R s m args below meth c n0 T h cells slots) {o : Int} (hd : decode bytes pc = .ok (.goto o, 3)) (ho : 0 ≤ (pc : Int) + o) (hp : ((pc : Int) + o).toNat = pc') (g : own_Go p e below n0 F (T.setTop (mkF m pc' L (S)))) : own_Go p e below n0 F (T.setTop (mkF m pc L (S))) := by
  obtain ⟨locs, X, -, -⟩ := X
  exact own_st (fun t k => XS.goto X.here C.1 rfl rfl (hb C.2.1 hd) ho hp k) g
theorem own_icmp_lt (C : own_Cx p s m meth c Z n0 own nm bytes ml ret) (X : own_St p l e R s m args below meth c n0 T h cells slots) {x y : Int32} {o : Int} (hd : decode bytes pc = .ok (.if_icmp .lt o, 3)) (ho : 0 ≤ (pc : Int) + o) (hq : ((pc : Int) + o).toNat = pcT) (hp : pc + 3 = pc') (gT : x < y → own_Go p e below n0 F (T.setTop (mkF m pcT L (S)))) (gF : ¬ x < y → own_Go p e below n0 F (T.setTop (mkF m pc' L (S)))) : own_Go p e below n0 F (T.setTop (mkF m pc L (.int y :: .int x :: S))) := by
  obtain ⟨locs, X, -, -⟩ := X; subst hp
  by_cases q : x < y
  · exact own_st (fun t k => XS.icmpYes X.here C.1 rfl rfl (hb C.2.1 hd) rfl (tlt q).1 ho hq k) (gT q)
  · exact own_st (fun t k => XS.icmpNo X.here C.1 rfl (hb C.2.1 hd) rfl (flt q).1 k) (gF q)
theorem own_if_lt (C : own_Cx p s m meth c Z n0 own nm bytes ml ret) (X : own_St p l e R s m args below meth c n0 T h cells slots) {x : Int32} {o : Int} (hd : decode bytes pc = .ok (.ifCond .lt o, 3)) (ho : 0 ≤ (pc : Int) + o) (hq : ((pc : Int) + o).toNat = pcT) (hp : pc + 3 = pc') (gT : x < 0 → own_Go p e below n0 F (T.setTop (mkF m pcT L (S)))) (gF : ¬ x < 0 → own_Go p e below n0 F (T.setTop (mkF m pc' L (S)))) : own_Go p e below n0 F (T.setTop (mkF m pc L (.int x :: S))) := by
  obtain ⟨locs, X, -, -⟩ := X; subst hp
  by_cases q : x < 0
  · exact own_st (fun t k => XS.ifYes X.here C.1 rfl rfl (hb C.2.1 hd) rfl ((if0 _ _).trans (tlt q).1) ho hq k) (gT q)
  · exact own_st (fun t k => XS.ifNo X.here C.1 rfl (hb C.2.1 hd) rfl ((if0 _ _).trans (flt q).1) k) (gF q)
theorem own_lcmp_lt (C : own_Cx p s m meth c Z n0 own nm bytes ml ret) (X : own_St p l e R s m args below meth c n0 T h cells slots) {x y : Int64} {o : Int} (hd1 : decode bytes pc = .ok (.lcmp, 1)) (hd : decode bytes (pc + 1) = .ok (.ifCond .lt o, 3)) (ho : 0 ≤ ((pc + 1 : Nat) : Int) + o) (hq : (((pc + 1 : Nat) : Int) + o).toNat = pcT) (hp : pc + 4 = pc') (gT : x < y → own_Go p e below n0 F (T.setTop (mkF m pcT L (S)))) (gF : ¬ x < y → own_Go p e below n0 F (T.setTop (mkF m pc' L (S)))) : own_Go p e below n0 F (T.setTop (mkF m pc L (.long y :: .long x :: S))) := by
  subst hp
  exact own_lcmp C X hd1 rfl rfl (own_if_lt C X hd ho hq rfl (fun q => gT ((lw_lt x y).mp q)) (fun q => gF (fun r => q ((lw_lt x y).mpr r))))
theorem own_icmp_ge (C : own_Cx p s m meth c Z n0 own nm bytes ml ret) (X : own_St p l e R s m args below meth c n0 T h cells slots) {x y : Int32} {o : Int} (hd : decode bytes pc = .ok (.if_icmp .ge o, 3)) (ho : 0 ≤ (pc : Int) + o) (hq : ((pc : Int) + o).toNat = pcT) (hp : pc + 3 = pc') (gT : ¬ x < y → own_Go p e below n0 F (T.setTop (mkF m pcT L (S)))) (gF : x < y → own_Go p e below n0 F (T.setTop (mkF m pc' L (S)))) : own_Go p e below n0 F (T.setTop (mkF m pc L (.int y :: .int x :: S))) := by
  obtain ⟨locs, X, -, -⟩ := X; subst hp
  by_cases q : x < y
  · exact own_st (fun t k => XS.icmpNo X.here C.1 rfl (hb C.2.1 hd) rfl (tlt q).2.1 k) (gF q)
  · exact own_st (fun t k => XS.icmpYes X.here C.1 rfl rfl (hb C.2.1 hd) rfl (flt q).2.1 ho hq k) (gT q)
theorem own_if_ge (C : own_Cx p s m meth c Z n0 own nm bytes ml ret) (X : own_St p l e R s m args below meth c n0 T h cells slots) {x : Int32} {o : Int} (hd : decode bytes pc = .ok (.ifCond .ge o, 3)) (ho : 0 ≤ (pc : Int) + o) (hq : ((pc : Int) + o).toNat = pcT) (hp : pc + 3 = pc') (gT : ¬ x < 0 → own_Go p e below n0 F (T.setTop (mkF m pcT L (S)))) (gF : x < 0 → own_Go p e below n0 F (T.setTop (mkF m pc' L (S)))) : own_Go p e below n0 F (T.setTop (mkF m pc L (.int x :: S))) := by
  obtain ⟨locs, X, -, -⟩ := X; subst hp
  by_cases q : x < 0
  · exact own_st (fun t k => XS.ifNo X.here C.1 rfl (hb C.2.1 hd) rfl ((if0 _ _).trans (tlt q).2.1) k) (gF q)
  · exact own_st (fun t k => XS.ifYes X.here C.1 rfl rfl (hb C.2.1 hd) rfl ((if0 _ _).trans (flt q).2.1) ho hq k) (gT q)
theorem own_lcmp_ge (C : own_Cx p s m meth c Z n0 own nm bytes ml ret) (X : own_St p l e R s m args below meth c n0 T h cells slots) {x y : Int64} {o : Int} (hd1 : decode bytes pc = .ok (.lcmp, 1)) (hd : decode bytes (pc + 1) = .ok (.ifCond .ge o, 3)) (ho : 0 ≤ ((pc + 1 : Nat) : Int) + o) (hq : (((pc + 1 : Nat) : Int) + o).toNat = pcT) (hp : pc + 4 = pc') (gT : ¬ x < y → own_Go p e below n0 F (T.setTop (mkF m pcT L (S)))) (gF : x < y → own_Go p e below n0 F (T.setTop (mkF m pc' L (S)))) : own_Go p e below n0 F (T.setTop (mkF m pc L (.long y :: .long x :: S))) := by
  subst hp
  exact own_lcmp C X hd1 rfl rfl (own_if_ge C X hd ho hq rfl (fun q => gT (fun r => q ((lw_lt x y).mpr r))) (fun q => gF ((lw_lt x y).mp q)))
theorem own_icmp_gt (C : own_Cx p s m meth c Z n0 own nm bytes ml ret) (X : own_St p l e R s m args below meth c n0 T h cells slots) {x y : Int32} {o : Int} (hd : decode bytes pc = .ok (.if_icmp .gt o, 3)) (ho : 0 ≤ (pc : Int) + o) (hq : ((pc : Int) + o).toNat = pcT) (hp : pc + 3 = pc') (gT : y < x → own_Go p e below n0 F (T.setTop (mkF m pcT L (S)))) (gF : ¬ y < x → own_Go p e below n0 F (T.setTop (mkF m pc' L (S)))) : own_Go p e below n0 F (T.setTop (mkF m pc L (.int y :: .int x :: S))) := by
  obtain ⟨locs, X, -, -⟩ := X; subst hp
  by_cases q : y < x
  · exact own_st (fun t k => XS.icmpYes X.here C.1 rfl rfl (hb C.2.1 hd) rfl (tlt q).2.2.1 ho hq k) (gT q)
  · exact own_st (fun t k => XS.icmpNo X.here C.1 rfl (hb C.2.1 hd) rfl (flt q).2.2.1 k) (gF q)
theorem own_if_gt (C : own_Cx p s m meth c Z n0 own nm bytes ml ret) (X : own_St p l e R s m args below meth c n0 T h cells slots) {x : Int32} {o : Int} (hd : decode bytes pc = .ok (.ifCond .gt o, 3)) (ho : 0 ≤ (pc : Int) + o) (hq : ((pc : Int) + o).toNat = pcT) (hp : pc + 3 = pc') (gT : 0 < x → own_Go p e below n0 F (T.setTop (mkF m pcT L (S)))) (gF : ¬ 0 < x → own_Go p e below n0 F (T.setTop (mkF m pc' L (S)))) : own_Go p e below n0 F (T.setTop (mkF m pc L (.int x :: S))) := by
  obtain ⟨locs, X, -, -⟩ := X; subst hp
  by_cases q : 0 < x
  · exact own_st (fun t k => XS.ifYes X.here C.1 rfl rfl (hb C.2.1 hd) rfl ((if0 _ _).trans (tlt q).2.2.1) ho hq k) (gT q)
  · exact own_st (fun t k => XS.ifNo X.here C.1 rfl (hb C.2.1 hd) rfl ((if0 _ _).trans (flt q).2.2.1) k) (gF q)
theorem own_lcmp_gt (C : own_Cx p s m meth c Z n0 own nm bytes ml ret) (X : own_St p l e R s m args below meth c n0 T h cells slots) {x y : Int64} {o : Int} (hd1 : decode bytes pc = .ok (.lcmp, 1)) (hd : decode bytes (pc + 1) = .ok (.ifCond .gt o, 3)) (ho : 0 ≤ ((pc + 1 : Nat) : Int) + o) (hq : (((pc + 1 : Nat) : Int) + o).toNat = pcT) (hp : pc + 4 = pc') (gT : y < x → own_Go p e below n0 F (T.setTop (mkF m pcT L (S)))) (gF : ¬ y < x → own_Go p e below n0 F (T.setTop (mkF m pc' L (S)))) : own_Go p e below n0 F (T.setTop (mkF m pc L (.long y :: .long x :: S))) := by
  subst hp
  exact own_lcmp C X hd1 rfl rfl (own_if_gt C X hd ho hq rfl (fun q => gT ((lw_gt x y).mp q)) (fun q => gF (fun r => q ((lw_gt x y).mpr r))))
theorem own_icmp_le (C : own_Cx p s m meth c Z n0 own nm bytes ml ret) (X : own_St p l e R s m args below meth c n0 T h cells slots) {x y : Int32} {o : Int} (hd : decode bytes pc = .ok (.if_icmp .le o, 3)) (ho : 0 ≤ (pc : Int) + o) (hq : ((pc : Int) + o).toNat = pcT) (hp : pc + 3 = pc') (gT : ¬ y < x → own_Go p e below n0 F (T.setTop (mkF m pcT L (S)))) (gF : y < x → own_Go p e below n0 F (T.setTop (mkF m pc' L (S)))) : own_Go p e below n0 F (T.setTop (mkF m pc L (.int y :: .int x :: S))) := by
  obtain ⟨locs, X, -, -⟩ := X; subst hp
  by_cases q : y < x
  · exact own_st (fun t k => XS.icmpNo X.here C.1 rfl (hb C.2.1 hd) rfl (tlt q).2.2.2 k) (gF q)
  · exact own_st (fun t k => XS.icmpYes X.here C.1 rfl rfl (hb C.2.1 hd) rfl (flt q).2.2.2 ho hq k) (gT q)
theorem own_if_le (C : own_Cx p s m meth c Z n0 own nm bytes ml ret) (X : own_St p l e R s m args below meth c n0 T h cells slots) {x : Int32} {o : Int} (hd : decode bytes pc = .ok (.ifCond .le o, 3)) (ho : 0 ≤ (pc : Int) + o) (hq : ((pc : Int) + o).toNat = pcT) (hp : pc + 3 = pc') (gT : ¬ 0 < x → own_Go p e below n0 F (T.setTop (mkF m pcT L (S)))) (gF : 0 < x → own_Go p e below n0 F (T.setTop (mkF m pc' L (S)))) : own_Go p e below n0 F (T.setTop (mkF m pc L (.int x :: S))) := by
  obtain ⟨locs, X, -, -⟩ := X; subst hp
  by_cases q : 0 < x
  · exact own_st (fun t k => XS.ifNo X.here C.1 rfl (hb C.2.1 hd) rfl ((if0 _ _).trans (tlt q).2.2.2) k) (gF q)
  · exact own_st (fun t k => XS.ifYes X.here C.1 rfl rfl (hb C.2.1 hd) rfl ((if0 _ _).trans (flt q).2.2.2) ho hq k) (gT q)
theorem own_lcmp_le (C : own_Cx p s m meth c Z n0 own nm bytes ml ret) (X : own_St p l e R s m args below meth c n0 T h cells slots) {x y : Int64} {o : Int} (hd1 : decode bytes pc = .ok (.lcmp, 1)) (hd : decode bytes (pc + 1) = .ok (.ifCond .le o, 3)) (ho : 0 ≤ ((pc + 1 : Nat) : Int) + o) (hq : (((pc + 1 : Nat) : Int) + o).toNat = pcT) (hp : pc + 4 = pc') (gT : ¬ y < x → own_Go p e below n0 F (T.setTop (mkF m pcT L (S)))) (gF : y < x → own_Go p e below n0 F (T.setTop (mkF m pc' L (S)))) : own_Go p e below n0 F (T.setTop (mkF m pc L (.long y :: .long x :: S))) := by
  subst hp
  exact own_lcmp C X hd1 rfl rfl (own_if_le C X hd ho hq rfl (fun q => gT (fun r => q ((lw_gt x y).mpr r))) (fun q => gF ((lw_gt x y).mp q)))
theorem own_icmp_eq (C : own_Cx p s m meth c Z n0 own nm bytes ml ret) (X : own_St p l e R s m args below meth c n0 T h cells slots) {x y : Int32} {o : Int} (hd : decode bytes pc = .ok (.if_icmp .eq o, 3)) (ho : 0 ≤ (pc : Int) + o) (hq : ((pc : Int) + o).toNat = pcT) (hp : pc + 3 = pc') (gT : x = y → own_Go p e below n0 F (T.setTop (mkF m pcT L (S)))) (gF : ¬ x = y → own_Go p e below n0 F (T.setTop (mkF m pc' L (S)))) : own_Go p e below n0 F (T.setTop (mkF m pc L (.int y :: .int x :: S))) := by
  obtain ⟨locs, X, -, -⟩ := X; subst hp
  by_cases q : x = y
  · exact own_st (fun t k => XS.icmpYes X.here C.1 rfl rfl (hb C.2.1 hd) rfl (teq q).1 ho hq k) (gT q)
  · exact own_st (fun t k => XS.icmpNo X.here C.1 rfl (hb C.2.1 hd) rfl (feq q).1 k) (gF q)
theorem own_if_eq (C : own_Cx p s m meth c Z n0 own nm bytes ml ret) (X : own_St p l e R s m args below meth c n0 T h cells slots) {x : Int32} {o : Int} (hd : decode bytes pc = .ok (.ifCond .eq o, 3)) (ho : 0 ≤ (pc : Int) + o) (hq : ((pc : Int) + o).toNat = pcT) (hp : pc + 3 = pc') (gT : x = 0 → own_Go p e below n0 F (T.setTop (mkF m pcT L (S)))) (gF : ¬ x = 0 → own_Go p e below n0 F (T.setTop (mkF m pc' L (S)))) : own_Go p e below n0 F (T.setTop (mkF m pc L (.int x :: S))) := by
  obtain ⟨locs, X, -, -⟩ := X; subst hp
  by_cases q : x = 0
  · exact own_st (fun t k => XS.ifYes X.here C.1 rfl rfl (hb C.2.1 hd) rfl ((if0 _ _).trans (teq q).1) ho hq k) (gT q)
  · exact own_st (fun t k => XS.ifNo X.here C.1 rfl (hb C.2.1 hd) rfl ((if0 _ _).trans (feq q).1) k) (gF q)
theorem own_lcmp_eq (C : own_Cx p s m meth c Z n0 own nm bytes ml ret) (X : own_St p l e R s m args below meth c n0 T h cells slots) {x y : Int64} {o : Int} (hd1 : decode bytes pc = .ok (.lcmp, 1)) (hd : decode bytes (pc + 1) = .ok (.ifCond .eq o, 3)) (ho : 0 ≤ ((pc + 1 : Nat) : Int) + o) (hq : (((pc + 1 : Nat) : Int) + o).toNat = pcT) (hp : pc + 4 = pc') (gT : x = y → own_Go p e below n0 F (T.setTop (mkF m pcT L (S)))) (gF : ¬ x = y → own_Go p e below n0 F (T.setTop (mkF m pc' L (S)))) : own_Go p e below n0 F (T.setTop (mkF m pc L (.long y :: .long x :: S))) := by
  subst hp
  exact own_lcmp C X hd1 rfl rfl (own_if_eq C X hd ho hq rfl (fun q => gT ((lw_eq x y).mp q)) (fun q => gF (fun r => q ((lw_eq x y).mpr r))))
theorem own_icmp_ne (C : own_Cx p s m meth c Z n0 own nm bytes ml ret) (X : own_St p l e R s m args below meth c n0 T h cells slots) {x y : Int32} {o : Int} (hd : decode bytes pc = .ok (.if_icmp .ne o, 3)) (ho : 0 ≤ (pc : Int) + o) (hq : ((pc : Int) + o).toNat = pcT) (hp : pc + 3 = pc') (gT : ¬ x = y → own_Go p e below n0 F (T.setTop (mkF m pcT L (S)))) (gF : x = y → own_Go p e below n0 F (T.setTop (mkF m pc' L (S)))) : own_Go p e below n0 F (T.setTop (mkF m pc L (.int y :: .int x :: S))) := by
  obtain ⟨locs, X, -, -⟩ := X; subst hp
  by_cases q : x = y
  · exact own_st (fun t k => XS.icmpNo X.here C.1 rfl (hb C.2.1 hd) rfl (teq q).2 k) (gF q)
  · exact own_st (fun t k => XS.icmpYes X.here C.1 rfl rfl (hb C.2.1 hd) rfl (feq q).2 ho hq k) (gT q)
theorem own_if_ne (C : own_Cx p s m meth c Z n0 own nm bytes ml ret) (X : own_St p l e R s m args below meth c n0 T h cells slots) {x : Int32} {o : Int} (hd : decode bytes pc = .ok (.ifCond .ne o, 3)) (ho : 0 ≤ (pc : Int) + o) (hq : ((pc : Int) + o).toNat = pcT) (hp : pc + 3 = pc') (gT : ¬ x = 0 → own_Go p e below n0 F (T.setTop (mkF m pcT L (S)))) (gF : x = 0 → own_Go p e below n0 F (T.setTop (mkF m pc' L (S)))) : own_Go p e below n0 F (T.setTop (mkF m pc L (.int x :: S))) := by
  obtain ⟨locs, X, -, -⟩ := X; subst hp
  by_cases q : x = 0
  · exact own_st (fun t k => XS.ifNo X.here C.1 rfl (hb C.2.1 hd) rfl ((if0 _ _).trans (teq q).2) k) (gF q)
  · exact own_st (fun t k => XS.ifYes X.here C.1 rfl rfl (hb C.2.1 hd) rfl ((if0 _ _).trans (feq q).2) ho hq k) (gT q)
theorem own_lcmp_ne (C : own_Cx p s m meth c Z n0 own nm bytes ml ret) (X : own_St p l e R s m args below meth c n0 T h cells slots) {x y : Int64} {o : Int} (hd1 : decode bytes pc = .ok (.lcmp, 1)) (hd : decode bytes (pc + 1) = .ok (.ifCond .ne o, 3)) (ho : 0 ≤ ((pc + 1 : Nat) : Int) + o) (hq : (((pc + 1 : Nat) : Int) + o).toNat = pcT) (hp : pc + 4 = pc') (gT : ¬ x = y → own_Go p e below n0 F (T.setTop (mkF m pcT L (S)))) (gF : x = y → own_Go p e below n0 F (T.setTop (mkF m pc' L (S)))) : own_Go p e below n0 F (T.setTop (mkF m pc L (.long y :: .long x :: S))) := by
  subst hp
  exact own_lcmp C X hd1 rfl rfl (own_if_ne C X hd ho hq rfl (fun q => gT (fun r => q ((lw_eq x y).mpr r))) (fun q => gF ((lw_eq x y).mp q)))
theorem own_acmp_eq (C : own_Cx p s m meth c Z n0 own nm bytes ml ret) (X : own_St p l e R s m args below meth c n0 T h cells slots) {v w : Value} {o : Int} (hd : decode bytes pc = .ok (.if_acmp .eq o, 3)) (hv : v.isRef = true) (hw : w.isRef = true) (ho : 0 ≤ (pc : Int) + o) (hq : ((pc : Int) + o).toNat = pcT) (hp : pc + 3 = pc') (gT : v = w → own_Go p e below n0 F (T.setTop (mkF m pcT L (S)))) (gF : ¬ v = w → own_Go p e below n0 F (T.setTop (mkF m pc' L (S)))) : own_Go p e below n0 F (T.setTop (mkF m pc L (w :: v :: S))) := by
  obtain ⟨locs, X, -, -⟩ := X; subst hp
  by_cases q : v = w
  · exact own_st (fun t k => XT.acmpYes X.here C.1 rfl rfl (hb C.2.1 hd) rfl hv hw (XT.aa_eq_t q) ho hq k) (gT q)
  · exact own_st (fun t k => XT.acmpNo X.here C.1 rfl (hb C.2.1 hd) rfl hv hw (XT.aa_eq_f q) k) (gF q)
theorem own_acmp_ne (C : own_Cx p s m meth c Z n0 own nm bytes ml ret) (X : own_St p l e R s m args below meth c n0 T h cells slots) {v w : Value} {o : Int} (hd : decode bytes pc = .ok (.if_acmp .ne o, 3)) (hv : v.isRef = true) (hw : w.isRef = true) (ho : 0 ≤ (pc : Int) + o) (hq : ((pc : Int) + o).toNat = pcT) (hp : pc + 3 = pc') (gT : ¬ v = w → own_Go p e below n0 F (T.setTop (mkF m pcT L (S)))) (gF : v = w → own_Go p e below n0 F (T.setTop (mkF m pc' L (S)))) : own_Go p e below n0 F (T.setTop (mkF m pc L (w :: v :: S))) := by
  obtain ⟨locs, X, -, -⟩ := X; subst hp
  by_cases q : v = w
  · exact own_st (fun t k => XT.acmpNo X.here C.1 rfl (hb C.2.1 hd) rfl hv hw (XT.aa_ne_f q) k) (gF q)
  · exact own_st (fun t k => XT.acmpYes X.here C.1 rfl rfl (hb C.2.1 hd) rfl hv hw (XT.aa_ne_t q) ho hq k) (gT q)
theorem own_ireturn {z : Int32} (C : own_Cx p s m meth c Z n0 own nm bytes ml (some .int)) (X : own_St p l e R s m args below meth c n0 T h cells slots) (hd : decode bytes pc = .ok (.ireturn, 1))  (hc : cells ≤ R.cells) (hs : slots ≤ R.slots) (hq : Q (some (.int z)) h) : own_Go p e below n0 (own_Fin R s Q) (T.setTop (mkF m pc L (.int z :: S))) := by
  obtain ⟨locs, X, N, rfl⟩ := X
  have hlk : meth.locks = false := C.2.2.2.2.2.2.1
  obtain ⟨fs, hr, hrun, hended, hW, hsame⟩ := X.leave (v := some (.int z)) (fun h => by rw [C.2.2.2.2.2.1] at h; cases h) hlk
  exact ⟨_, _, locs, retOut X C.1 C.2.2.2.2.2.1 rfl (Or.inl ⟨rfl, by simp, _, rfl⟩) (hb C.2.1 hd) hr, hrun, hended, N, hq, ⟨_, rfl⟩, hW, hsame.mono hc hs⟩
theorem own_ireturn_z {z : Int32} (C : own_Cx p s m meth c Z n0 own nm bytes ml (some .boolean)) (X : own_St p l e R s m args below meth c n0 T h cells slots) (hd : decode bytes pc = .ok (.ireturn, 1))  (hc : cells ≤ R.cells) (hs : slots ≤ R.slots) (hq : Q (some (.int (nar .boolean z))) h) : own_Go p e below n0 (own_Fin R s Q) (T.setTop (mkF m pc L (.int z :: S))) := by
  obtain ⟨locs, X, N, rfl⟩ := X
  have hlk : meth.locks = false := C.2.2.2.2.2.2.1
  obtain ⟨fs, hr, hrun, hended, hW, hsame⟩ := X.leave (v := some (.int (nar .boolean z))) (fun h => by rw [C.2.2.2.2.2.1] at h; cases h) hlk
  exact ⟨_, _, locs, retN X C.1 (t := .boolean) C.2.2.2.2.2.1 (by simp) (hb C.2.1 hd) hr, hrun, hended, N, hq, ⟨_, rfl⟩, hW, hsame.mono hc hs⟩
theorem own_ireturn_b {z : Int32} (C : own_Cx p s m meth c Z n0 own nm bytes ml (some .byte)) (X : own_St p l e R s m args below meth c n0 T h cells slots) (hd : decode bytes pc = .ok (.ireturn, 1))  (hc : cells ≤ R.cells) (hs : slots ≤ R.slots) (hq : Q (some (.int (nar .byte z))) h) : own_Go p e below n0 (own_Fin R s Q) (T.setTop (mkF m pc L (.int z :: S))) := by
  obtain ⟨locs, X, N, rfl⟩ := X
  have hlk : meth.locks = false := C.2.2.2.2.2.2.1
  obtain ⟨fs, hr, hrun, hended, hW, hsame⟩ := X.leave (v := some (.int (nar .byte z))) (fun h => by rw [C.2.2.2.2.2.1] at h; cases h) hlk
  exact ⟨_, _, locs, retN X C.1 (t := .byte) C.2.2.2.2.2.1 (by simp) (hb C.2.1 hd) hr, hrun, hended, N, hq, ⟨_, rfl⟩, hW, hsame.mono hc hs⟩
theorem own_ireturn_c {z : Int32} (C : own_Cx p s m meth c Z n0 own nm bytes ml (some .char)) (X : own_St p l e R s m args below meth c n0 T h cells slots) (hd : decode bytes pc = .ok (.ireturn, 1))  (hc : cells ≤ R.cells) (hs : slots ≤ R.slots) (hq : Q (some (.int (nar .char z))) h) : own_Go p e below n0 (own_Fin R s Q) (T.setTop (mkF m pc L (.int z :: S))) := by
  obtain ⟨locs, X, N, rfl⟩ := X
  have hlk : meth.locks = false := C.2.2.2.2.2.2.1
  obtain ⟨fs, hr, hrun, hended, hW, hsame⟩ := X.leave (v := some (.int (nar .char z))) (fun h => by rw [C.2.2.2.2.2.1] at h; cases h) hlk
  exact ⟨_, _, locs, retN X C.1 (t := .char) C.2.2.2.2.2.1 (by simp) (hb C.2.1 hd) hr, hrun, hended, N, hq, ⟨_, rfl⟩, hW, hsame.mono hc hs⟩
theorem own_lreturn {z : Int64} (C : own_Cx p s m meth c Z n0 own nm bytes ml (some .long)) (X : own_St p l e R s m args below meth c n0 T h cells slots) (hd : decode bytes pc = .ok (.lreturn, 1))  (hc : cells ≤ R.cells) (hs : slots ≤ R.slots) (hq : Q (some (.long z)) h) : own_Go p e below n0 (own_Fin R s Q) (T.setTop (mkF m pc L (.long z :: S))) := by
  obtain ⟨locs, X, N, rfl⟩ := X
  have hlk : meth.locks = false := C.2.2.2.2.2.2.1
  obtain ⟨fs, hr, hrun, hended, hW, hsame⟩ := X.leave (v := some (.long z)) (fun h => by rw [C.2.2.2.2.2.1] at h; cases h) hlk
  exact ⟨_, _, locs, retOut X C.1 C.2.2.2.2.2.1 rfl (Or.inr (Or.inl ⟨rfl, rfl, _, rfl⟩)) (hb C.2.1 hd) hr, hrun, hended, N, hq, ⟨_, rfl⟩, hW, hsame.mono hc hs⟩
theorem own_areturn {v : Value} {ty : FieldType} (C : own_Cx p s m meth c Z n0 own nm bytes ml (some ty)) (X : own_St p l e R s m args below meth c n0 T h cells slots) (hd : decode bytes pc = .ok (.areturn, 1)) (ht : ty.isReference = true) (hv : v.isRef = true) (hn : narrow ty v = v) (hc : cells ≤ R.cells) (hs : slots ≤ R.slots) (hq : Q (some v) h) : own_Go p e below n0 (own_Fin R s Q) (T.setTop (mkF m pc L (v :: S))) := by
  obtain ⟨locs, X, N, rfl⟩ := X
  have hlk : meth.locks = false := C.2.2.2.2.2.2.1
  obtain ⟨fs, hr, hrun, hended, hW, hsame⟩ := X.leave (v := some v) (fun h => by rw [C.2.2.2.2.2.1] at h; cases h) hlk
  exact ⟨_, _, locs, retOut X C.1 C.2.2.2.2.2.1 hn (Or.inr (Or.inr (Or.inr (Or.inr ⟨rfl, ht, hv⟩)))) (hb C.2.1 hd) hr, hrun, hended, N, hq, ⟨_, rfl⟩, hW, hsame.mono hc hs⟩
theorem own_return  (C : own_Cx p s m meth c Z n0 own nm bytes ml (none)) (X : own_St p l e R s m args below meth c n0 T h cells slots) (hd : decode bytes pc = .ok (.return_, 1))  (hc : cells ≤ R.cells) (hs : slots ≤ R.slots) (hq : Q (none) h) : own_Go p e below n0 (own_Fin R s Q) (T.setTop (mkF m pc L ([]))) := by
  obtain ⟨locs, X, N, rfl⟩ := X
  have hlk : meth.locks = false := C.2.2.2.2.2.2.1
  obtain ⟨fs, hr, hrun, hended, hW, hsame⟩ := X.leave (v := none) (fun _ => rfl) hlk
  exact ⟨_, _, locs, X.returnOut C.1 C.2.2.2.2.2.1 (hb C.2.1 hd) hr, hrun, hended, N, hq, ⟨_, rfl⟩, hW, hsame.mono hc hs⟩
end OwnKit
end Jvm.Pilot.@@N@@
namespace Jvm.Pilot.@@N@@
open Jvm Jvm.ClassFile Sem Op Lib Jvm.Free Jvm.Stand Jvm.LawKit Jvm.RoadKit Bundle Jvm.Pilot.@@N@@.Jvm.D
section OwnKitTwo
variable {p : Program} {l : Launch} {e : Env} {R : Room} {s : State} {m : MethodId} {args : Array Value} {below : List Frame} {meth : Method} {c : Code} {T : State} {cells slots : Nat} {Z : State} {a0 : Array Value} {h h' : Heap} {n0 : Nat} {own nm : String} {bytes : ByteArray} {ml : Nat} {ret : Option FieldType} {F : Option Value → State → List Loc → Prop} {pc pc' pcT : Nat} {L L' : Array Slot} {S : List Value} {a b : Addr} {ty : FieldType} {ws : List Addr}
/-! arrays by their lists -/
def own_IA (Z : State) (h : Heap) (a : Addr) (ty : FieldType) (xs : List Int32) : Prop := ∃ c : Cell, Arr Z h a c ty ∧ c.slots.toList = xs.map Value.int ∧ xs.length < 2 ^ 31 ∧ ∀ x ∈ xs, fits ty (.int x) = true
def own_JA (Z : State) (h : Heap) (a : Addr) (xs : List Int64) : Prop := ∃ c : Cell, Arr Z h a c .long ∧ c.slots.toList = xs.map Value.long ∧ xs.length < 2 ^ 31
theorem own_IA.keep {xs : List Int32} (A : own_IA Z h a ty xs) (K : Keep h h' ws) (q : a ∉ ws) : own_IA Z h' a ty xs := by
  obtain ⟨c, A, r⟩ := A; exact ⟨c, ⟨K.2.1 a c A.1 q, A.2⟩, r⟩
theorem own_JA.keep {xs : List Int64} (A : own_JA Z h a xs) (K : Keep h h' ws) (q : a ∉ ws) : own_JA Z h' a xs := by
  obtain ⟨c, A, r⟩ := A; exact ⟨c, ⟨K.2.1 a c A.1 q, A.2⟩, r⟩
theorem own_IA.lt {xs : List Int32} (A : own_IA Z h a ty xs) : a < h.size := by obtain ⟨c, A, r⟩ := A; exact A.lt
theorem own_JA.lt {xs : List Int64} (A : own_JA Z h a xs) : a < h.size := by obtain ⟨c, A, r⟩ := A; exact A.lt
theorem own_ix {j : Int32} {i : Nat} (hj : j.toInt = (i : Int)) : ¬ j < 0 ∧ j.toNatClampNeg = i := by
  refine ⟨?_, ?_⟩
  · rw [Int32.lt_iff_toInt_lt, hj]; show ¬ (i : Int) < 0; omega
  · simp only [Int32.toNatClampNeg, hj, Int.toNat_natCast]
theorem own_sz {α : Type} {f : α → Value} {c : Cell} {xs : List α} (e : c.slots.toList = xs.map f) : c.slots.size = xs.length := by
  have := congrArg List.length e; simpa using this
theorem own_in {α : Type} {f : α → Value} {c : Cell} {xs : List α} (e : c.slots.toList = xs.map f) {j : Int32} {i : Nat} (hj : j.toInt = (i : Int)) (hi : i < xs.length) : ¬ (j < 0 ∨ c.slots.size ≤ j.toNatClampNeg) := by
  obtain ⟨q1, q2⟩ := own_ix hj
  rw [own_sz e, q2]
  exact fun q => q.elim q1 (fun q => Nat.lt_irrefl _ (Nat.lt_of_lt_of_le hi q))
theorem own_at {α : Type} {f : α → Value} {c : Cell} {xs : List α} (e : c.slots.toList = xs.map f) {j : Int32} {i : Nat} (hj : j.toInt = (i : Int)) {v : α} (hv : xs[i]? = some v) : c.slots[j.toNatClampNeg]? = some (f v) := by
  rw [(own_ix hj).2, ← Array.getElem?_toList, e, List.getElem?_map, hv]; rfl
theorem own_lt_of {α : Type} {xs : List α} {i : Nat} {v : α} (hv : xs[i]? = some v) : i < xs.length := (List.getElem?_eq_some_iff.mp hv).1
theorem own_set {α : Type} {f : α → Value} {c : Cell} {xs : List α} (e : c.slots.toList = xs.map f) {j : Int32} {i : Nat} (hj : j.toInt = (i : Int)) {v : α} : (c.setSlot j.toNatClampNeg (f v)).slots.toList = (xs.set i v).map f := by
  rw [(own_ix hj).2]; simp only [Cell.setSlot, Array.toList_setIfInBounds, e, List.map_set]
theorem own_iaload (C : own_Cx p s m meth c Z n0 own nm bytes ml ret) (X : own_St p l e R s m args below meth c n0 T h cells slots) {j v : Int32} {i : Nat} {xs : List Int32} (hd : decode bytes pc = .ok (.iaload, 1)) (A : own_IA Z h a .int xs) (hj : j.toInt = (i : Int)) (hv : xs[i]? = some v) (hp : pc + 1 = pc')
    (g : own_Go p e below n0 F (T.setTop (mkF m pc' L (.int v :: S)))) : own_Go p e below n0 F (T.setTop (mkF m pc L (.int j :: .ref a :: S))) := by
  obtain ⟨locs, X, -, rfl⟩ := X; subst hp; obtain ⟨cl, A, ec, -⟩ := A
  exact own_st (fun t k => X.iaload C.1 A.1 (State.isArrayOf_alike C.2.2.2.2.2.2.2.1.alike A.2.1) A.2.2 (own_in ec hj (own_lt_of hv)) (own_at ec hj hv) (g := mkF m pc L (.int j :: .ref a :: S)) rfl rfl (hb C.2.1 hd) t k) g
theorem own_baload (C : own_Cx p s m meth c Z n0 own nm bytes ml ret) (X : own_St p l e R s m args below meth c n0 T h cells slots) {j v : Int32} {i : Nat} {xs : List Int32} (hd : decode bytes pc = .ok (.baload, 1)) (A : own_IA Z h a .byte xs) (hj : j.toInt = (i : Int)) (hv : xs[i]? = some v) (hp : pc + 1 = pc')
    (g : own_Go p e below n0 F (T.setTop (mkF m pc' L (.int v :: S)))) : own_Go p e below n0 F (T.setTop (mkF m pc L (.int j :: .ref a :: S))) := by
  obtain ⟨locs, X, -, rfl⟩ := X; subst hp; obtain ⟨cl, A, ec, -⟩ := A
  exact own_st (fun t k => X.baloadBytes C.1 A.1 (State.isArrayOf_alike C.2.2.2.2.2.2.2.1.alike A.2.1) A.2.2 (own_in ec hj (own_lt_of hv)) (own_at ec hj hv) (g := mkF m pc L (.int j :: .ref a :: S)) rfl rfl (hb C.2.1 hd) t k) g
theorem own_laload (C : own_Cx p s m meth c Z n0 own nm bytes ml ret) (X : own_St p l e R s m args below meth c n0 T h cells slots) {j : Int32} {v : Int64} {i : Nat} {xs : List Int64} (hd : decode bytes pc = .ok (.laload, 1)) (A : own_JA Z h a xs) (hj : j.toInt = (i : Int)) (hv : xs[i]? = some v) (hp : pc + 1 = pc')
    (g : own_Go p e below n0 F (T.setTop (mkF m pc' L (.long v :: S)))) : own_Go p e below n0 F (T.setTop (mkF m pc L (.int j :: .ref a :: S))) := by
  obtain ⟨locs, X, -, rfl⟩ := X; subst hp; obtain ⟨cl, A, ec, -⟩ := A
  exact own_st (fun t k => X.laload C.1 A.1 (State.isArrayOf_alike C.2.2.2.2.2.2.2.1.alike A.2.1) A.2.2 (own_in ec hj (own_lt_of hv)) (own_at ec hj hv) (g := mkF m pc L (.int j :: .ref a :: S)) rfl rfl (hb C.2.1 hd) t k) g
theorem own_len {α : Type} {f : α → Value} {c : Cell} {xs : List α} (e : c.slots.toList = xs.map f) (hb : xs.length < 2 ^ 31) {n : Int32} (hn : n.toInt = (xs.length : Int)) : c.slots.size.toInt32 = n := by
  rw [own_sz e]; exact Int32.toInt_inj.mp (by rw [len_toInt hb, hn])
theorem own_alenI (C : own_Cx p s m meth c Z n0 own nm bytes ml ret) (X : own_St p l e R s m args below meth c n0 T h cells slots) {n : Int32} {xs : List Int32} (hd : decode bytes pc = .ok (.arraylength, 1)) (A : own_IA Z h a ty xs) (hn : n.toInt = (xs.length : Int)) (hp : pc + 1 = pc')
    (g : own_Go p e below n0 F (T.setTop (mkF m pc' L (.int n :: S)))) : own_Go p e below n0 F (T.setTop (mkF m pc L (.ref a :: S))) := by
  obtain ⟨locs, X, -, rfl⟩ := X; subst hp; obtain ⟨cl, A, ec, hb1, -⟩ := A
  have := own_len ec hb1 hn; subst this
  exact own_st (fun t k => X.arraylength C.1 A.1 (State.isArrayOf_alike C.2.2.2.2.2.2.2.1.alike A.2.1) (g := mkF m pc L (.ref a :: S)) rfl rfl (hb C.2.1 hd) t k) g
theorem own_alenJ (C : own_Cx p s m meth c Z n0 own nm bytes ml ret) (X : own_St p l e R s m args below meth c n0 T h cells slots) {n : Int32} {xs : List Int64} (hd : decode bytes pc = .ok (.arraylength, 1)) (A : own_JA Z h a xs) (hn : n.toInt = (xs.length : Int)) (hp : pc + 1 = pc')
    (g : own_Go p e below n0 F (T.setTop (mkF m pc' L (.int n :: S)))) : own_Go p e below n0 F (T.setTop (mkF m pc L (.ref a :: S))) := by
  obtain ⟨locs, X, -, rfl⟩ := X; subst hp; obtain ⟨cl, A, ec, hb1⟩ := A
  have := own_len ec hb1 hn; subst this
  exact own_st (fun t k => X.arraylength C.1 A.1 (State.isArrayOf_alike C.2.2.2.2.2.2.2.1.alike A.2.1) (g := mkF m pc L (.ref a :: S)) rfl rfl (hb C.2.1 hd) t k) g
theorem own_fitset {xs : List Int32} {i : Nat} {v : Int32} (hf : ∀ x ∈ xs, fits ty (.int x) = true) (hv : fits ty (.int v) = true) : ∀ x ∈ xs.set i v, fits ty (.int x) = true := fun x hx =>
  (List.mem_or_eq_of_mem_set hx).elim (hf x) (fun q => q ▸ hv)
theorem own_bastore (C : own_Cx p s m meth c Z n0 own nm bytes ml ret) (X : own_St p l e R s m args below meth c n0 T h cells slots) {j x v : Int32} {i : Nat} {xs : List Int32} (hd : decode bytes pc = .ok (.bastore, 1)) (A : own_IA Z h a .byte xs) (hj : j.toInt = (i : Int)) (hi : i < xs.length) (hx : x.toInt8.toInt32 = v) (ha : n0 ≤ a) (hp : pc + 1 = pc')
    (g : ∀ T' h', own_St p l e R s m args below meth c n0 T' h' cells slots → Keep h h' [a] → own_IA Z h' a .byte (xs.set i v) → own_Go p e below n0 F (T'.setTop (mkF m pc' L S))) : own_Go p e below n0 F (T.setTop (mkF m pc L (.int x :: .int j :: .ref a :: S))) := by
  obtain ⟨locs, X, N, e0⟩ := X; subst hp; subst hx; obtain ⟨cl, A, ec, hl, hf⟩ := A
  obtain ⟨T', h2, X', e', W, st⟩ := stB X C.1 C.2.2.2.2.2.2.2.1 e0 A (own_in ec hj hi) (g := mkF m pc L (.int x :: .int j :: .ref a :: S)) rfl rfl (hb C.2.1 hd)
  exact own_st st (g T' h2 ⟨_, X', Fr.snoc X' N ha, e'⟩ (Keep.of_wr W) ⟨_, A.same W, own_set ec hj, by simpa using hl, own_fitset hf (fits_nar_byte x)⟩)
theorem own_iastore (C : own_Cx p s m meth c Z n0 own nm bytes ml ret) (X : own_St p l e R s m args below meth c n0 T h cells slots) {j x : Int32} {i : Nat} {xs : List Int32} (hd : decode bytes pc = .ok (.iastore, 1)) (A : own_IA Z h a .int xs) (hj : j.toInt = (i : Int)) (hi : i < xs.length) (ha : n0 ≤ a) (hp : pc + 1 = pc')
    (g : ∀ T' h', own_St p l e R s m args below meth c n0 T' h' cells slots → Keep h h' [a] → own_IA Z h' a .int (xs.set i x) → own_Go p e below n0 F (T'.setTop (mkF m pc' L S))) : own_Go p e below n0 F (T.setTop (mkF m pc L (.int x :: .int j :: .ref a :: S))) := by
  obtain ⟨locs, X, N, e0⟩ := X; subst hp; obtain ⟨cl, A, ec, hl, hf⟩ := A
  obtain ⟨T', h2, X', e', W, st⟩ := stI X C.1 C.2.2.2.2.2.2.2.1 e0 A (own_in ec hj hi) (g := mkF m pc L (.int x :: .int j :: .ref a :: S)) rfl rfl (hb C.2.1 hd)
  exact own_st st (g T' h2 ⟨_, X', Fr.snoc X' N ha, e'⟩ (Keep.of_wr W) ⟨_, A.same W, own_set ec hj, by simpa using hl, own_fitset hf rfl⟩)
theorem own_lastore (C : own_Cx p s m meth c Z n0 own nm bytes ml ret) (X : own_St p l e R s m args below meth c n0 T h cells slots) {j : Int32} {x : Int64} {i : Nat} {xs : List Int64} (hd : decode bytes pc = .ok (.lastore, 1)) (A : own_JA Z h a xs) (hj : j.toInt = (i : Int)) (hi : i < xs.length) (ha : n0 ≤ a) (hp : pc + 1 = pc')
    (g : ∀ T' h', own_St p l e R s m args below meth c n0 T' h' cells slots → Keep h h' [a] → own_JA Z h' a (xs.set i x) → own_Go p e below n0 F (T'.setTop (mkF m pc' L S))) : own_Go p e below n0 F (T.setTop (mkF m pc L (.long x :: .int j :: .ref a :: S))) := by
  obtain ⟨locs, X, N, e0⟩ := X; subst hp; obtain ⟨cl, A, ec, hl⟩ := A
  obtain ⟨T', h2, X', e', W, st⟩ := stJ X C.1 C.2.2.2.2.2.2.2.1 e0 A (own_in ec hj hi) (g := mkF m pc L (.long x :: .int j :: .ref a :: S)) rfl rfl (hb C.2.1 hd)
  exact own_st st (g T' h2 ⟨_, X', Fr.snoc X' N ha, e'⟩ (Keep.of_wr W) ⟨_, A.same W, own_set ec hj, by simpa using hl⟩)
theorem own_keep_ext (E : Ext h h') : Keep h h' [] := (Keep.refl h []).ext E
theorem own_newI (C : own_Cx p s m meth c Z n0 own nm bytes ml ret) (X : own_St p l e R s m args below meth c n0 T h cells slots) {aty : ArrayType} {n : Int32} {k cap : Nat} (hd : decode bytes pc = .ok (.newarray aty, 2)) (hty : newarray.typeOf aty = ty) (w : (Jvm.Cond.arrayClass ty).before a0 Z = true) (hn : n.toInt = (k : Int)) (hcap : k ≤ cap) (hb8 : cap * 8 ≤ 536870912)
    (hc : cells + 1 ≤ R.cells) (hs : slots + cap ≤ R.slots) (hdef : defaultValue ty = .int 0) (hfit : fits ty (.int 0) = true) (hp : pc + 2 = pc')
    (g : ∀ T' h' a, a = h.size → own_St p l e R s m args below meth c n0 T' h' (cells + 1) (slots + cap) → Keep h h' [] → n0 ≤ a → own_IA Z h' a ty (List.replicate k 0) → own_Go p e below n0 F (T'.setTop (mkF m pc' L (.ref a :: S)))) : own_Go p e below n0 F (T.setTop (mkF m pc L (.int n :: S))) := by
  have hbig := own_big C X
  obtain ⟨locs, X, N, e0⟩ := X; subst hp; subst hty
  obtain ⟨q1, q2⟩ := own_ix hn
  obtain ⟨T', h2, cA, X', e', E, A, st⟩ := newP X C.1 C.2.2.2.2.2.2.2.1 w e0 (g := mkF m pc L (.int n :: S)) rfl (hb C.2.1 hd) rfl q1 (cap := cap) (by rw [q2]; exact hcap) hb8 hc hs
  refine own_st st (g T' h2 _ rfl ⟨_, X', N, e'⟩ (own_keep_ext E) hbig ⟨_, A, ?_, ?_, ?_⟩)
  · simp [newA, q2, hdef]
  · have := n.toInt_lt; simp only [List.length_replicate]; omega
  · intro x hx; obtain ⟨-, rfl⟩ := List.mem_replicate.mp hx; exact hfit
theorem own_newJ (C : own_Cx p s m meth c Z n0 own nm bytes ml ret) (X : own_St p l e R s m args below meth c n0 T h cells slots) {n : Int32} {k cap : Nat} (hd : decode bytes pc = .ok (.newarray .long, 2)) (w : (Jvm.Cond.arrayClass .long).before a0 Z = true) (hn : n.toInt = (k : Int)) (hcap : k ≤ cap) (hb8 : cap * 8 ≤ 536870912)
    (hc : cells + 1 ≤ R.cells) (hs : slots + cap ≤ R.slots) (hp : pc + 2 = pc')
    (g : ∀ T' h' a, a = h.size → own_St p l e R s m args below meth c n0 T' h' (cells + 1) (slots + cap) → Keep h h' [] → n0 ≤ a → own_JA Z h' a (List.replicate k 0) → own_Go p e below n0 F (T'.setTop (mkF m pc' L (.ref a :: S)))) : own_Go p e below n0 F (T.setTop (mkF m pc L (.int n :: S))) := by
  have hbig := own_big C X
  obtain ⟨locs, X, N, e0⟩ := X; subst hp
  obtain ⟨q1, q2⟩ := own_ix hn
  obtain ⟨T', h2, cA, X', e', E, A, st⟩ := newP (aty := .long) X C.1 C.2.2.2.2.2.2.2.1 w e0 (g := mkF m pc L (.int n :: S)) rfl (hb C.2.1 hd) rfl q1 (cap := cap) (by rw [q2]; exact hcap) hb8 hc hs
  refine own_st st (g T' h2 _ rfl ⟨_, X', N, e'⟩ (own_keep_ext E) hbig ⟨_, A, ?_, ?_⟩)
  · simp [newA, q2, defaultValue, newarray.typeOf]
  · have := n.toInt_lt; simp only [List.length_replicate]; omega
/-! objects by the list of their fields: name, descriptor, value -/
def own_Ob (Z : State) (a0 : Array Value) (h : Heap) (a : Addr) (K : String) (fs : List (String × String × Value)) : Prop :=
  Exa Z h a K ∧ (fs.map (·.1)).Nodup ∧ ∀ f ∈ fs, Fld Z h a K f.1 f.2.1 f.2.2 ∧ Laid Z a0 K K f.1 f.2.1 ∧ ∃ t, parseFieldDescriptor f.2.1 = some t
theorem own_Ob.keep {K : String} {fs : List (String × String × Value)} (O : own_Ob Z a0 h a K fs) (W : Keep h h' ws) (q : a ∉ ws) : own_Ob Z a0 h' a K fs :=
  ⟨O.1.keep W, O.2.1, fun f hf => ⟨(O.2.2 f hf).1.keep W q, (O.2.2 f hf).2⟩⟩
theorem own_Ob.lt {K : String} {fs : List (String × String × Value)} (O : own_Ob Z a0 h a K fs) : a < h.size := O.1.lt
theorem own_Ob.put {K n d : String} {fs : List (String × String × Value)} {v w : Value} {i : Nat} (O : own_Ob Z a0 h a K fs) (hi : fs[i]? = some (n, d, w)) (W : Wr h h' a (Jvm.RoadKit.slotOf Z K n d) v) : own_Ob Z a0 h' a K (fs.set i (n, d, v)) := by
  obtain ⟨hlt, hget⟩ := List.getElem?_eq_some_iff.mp hi
  have hmem : (n, d, w) ∈ fs := hget ▸ List.getElem_mem hlt
  have hnames : (fs.set i (n, d, v)).map (·.1) = fs.map (·.1) := by
    rw [List.map_set]
    apply List.ext_getElem? ; intro k
    by_cases hk : i = k
    · subst hk; rw [List.getElem?_set_self (by simpa using hlt), List.getElem?_map, hi]; rfl
    · rw [List.getElem?_set_ne hk]
  refine ⟨O.1.wr W, by rw [hnames]; exact O.2.1, fun f hf => ?_⟩
  obtain ⟨k, hk, hfk⟩ := List.getElem_of_mem hf
  have hk' : (fs.set i (n, d, v))[k]? = some f := List.getElem?_eq_some_iff.mpr ⟨hk, hfk⟩
  by_cases hik : i = k
  · subst hik
    rw [List.getElem?_set_self hlt] at hk'; cases hk'
    exact ⟨(O.2.2 _ hmem).1.same W, (O.2.2 _ hmem).2⟩
  · rw [List.getElem?_set_ne hik] at hk'
    obtain ⟨hlk, hgk⟩ := List.getElem?_eq_some_iff.mp hk'
    have hfm : f ∈ fs := hgk ▸ List.getElem_mem hlk
    obtain ⟨F, La, t, ht⟩ := O.2.2 f hfm
    obtain ⟨-, La', t', ht'⟩ := O.2.2 _ hmem
    refine ⟨F.other W (Or.inr (slot_ne La La' (fun hne => ?_) ht ht')), La, t, ht⟩
    have hnd := List.pairwise_iff_getElem.mp O.2.1
    rcases Nat.lt_or_gt_of_ne hik with q | q
    · exact hnd i k (by simpa using hlt) (by simpa using hlk) q (by simp [hget, hgk, hne])
    · exact hnd k i (by simpa using hlk) (by simpa using hlt) q (by simp [hget, hgk, hne])
theorem own_Ob.get {K n d : String} {fs : List (String × String × Value)} {v : Value} {i : Nat} (O : own_Ob Z a0 h a K fs) (hi : fs[i]? = some (n, d, v)) : Fld Z h a K n d v := by
  obtain ⟨hlt, hget⟩ := List.getElem?_eq_some_iff.mp hi
  exact (O.2.2 (n, d, v) (hget ▸ List.getElem_mem hlt)).1
theorem own_getfield (C : own_Cx p s m meth c Z n0 own nm bytes ml ret) (X : own_St p l e R s m args below meth c n0 T h cells slots) {K n d : String} {idx i : Nat} {fs : List (String × String × Value)} {v : Value} (hd : decode bytes pc = .ok (.getfield idx, 3)) (w : (Jvm.Cond.fieldLink own idx K n d).before a0 Z = true) (O : own_Ob Z a0 h a K fs) (hi : fs[i]? = some (n, d, v)) (hp : pc + 3 = pc')
    (g : ∀ T', own_St p l e R s m args below meth c n0 T' h cells slots → own_Go p e below n0 F (T'.setTop (mkF m pc' L (v :: S)))) : own_Go p e below n0 F (T.setTop (mkF m pc L (.ref a :: S))) := by
  obtain ⟨locs, X, N, e0⟩ := X; subst hp
  obtain ⟨T', X', e', st⟩ := getF X C.1 C.2.2.2.2.2.2.2.1 C.2.2.2.1 (host := "") (Or.inl w) Via.refl e0 (O.get hi) (g := mkF m pc L (.ref a :: S)) rfl rfl (hb C.2.1 hd)
  exact own_st st (g T' ⟨_, X', N, e'⟩)
theorem own_putfield (C : own_Cx p s m meth c Z n0 own nm bytes ml ret) (X : own_St p l e R s m args below meth c n0 T h cells slots) {K n d : String} {idx i kk : Nat} {fs : List (String × String × Value)} {v old : Value} (hd : decode bytes pc = .ok (.putfield idx, 3)) (w : (Jvm.Cond.fieldLink own idx K n d).before a0 Z = true)
    (lay : (Jvm.Cond.lays K K n d).before a0 Z = true ∨ ((Jvm.Cond.laysFinal K K n d).before a0 Z = true ∧ own = K ∧ nm = "<init>")) (wi : (Jvm.Cond.instantiable K kk).before a0 Z = true) (O : own_Ob Z a0 h a K fs) (hi : fs[i]? = some (n, d, old)) (hty : parseFieldDescriptor d = some ty) (hn : narrow ty v = v) (hf : fits ty v = true) (ha : n0 ≤ a) (hp : pc + 3 = pc')
    (g : ∀ T' h', own_St p l e R s m args below meth c n0 T' h' cells slots → Keep h h' [a] → own_Ob Z a0 h' a K (fs.set i (n, d, v)) → own_Go p e below n0 F (T'.setTop (mkF m pc' L S))) : own_Go p e below n0 F (T.setTop (mkF m pc L (v :: .ref a :: S))) := by
  obtain ⟨locs, X, N, e0⟩ := X; subst hp
  obtain ⟨T', h2, X', e', W, st⟩ := putF X C.1 C.2.2.2.2.2.2.2.1 C.2.2.2.1 (host := "") (Or.inl w) Via.refl e0 (O.get hi) O.1 (lay.imp id (fun q => ⟨q.1, q.2.1, C.2.2.2.2.1.trans q.2.2⟩)) wi hty hn hf (g := mkF m pc L (v :: .ref a :: S)) rfl rfl (hb C.2.1 hd)
  exact own_st st (g T' h2 ⟨_, X', Fr.snoc X' N ha, e'⟩ (Keep.of_wr W) (O.put hi W))
theorem own_new (C : own_Cx p s m meth c Z n0 own nm bytes ml ret) (X : own_St p l e R s m args below meth c n0 T h cells slots) {K : String} {idx k : Nat} (hd : decode bytes pc = .ok (.new idx, 3)) (w : (Jvm.Cond.classLink own idx K).before a0 Z = true) (wi : (Jvm.Cond.instantiable K k).before a0 Z = true) (wz : (Jvm.Cond.initialized K).before a0 Z = true)
    (hc : cells + 1 ≤ R.cells) (hs : slots + k ≤ R.slots) (fs : List (String × String × Value)) (hnd : (fs.map (·.1)).Nodup) (hfs : ∀ f ∈ fs, Laid Z a0 K K f.1 f.2.1 ∧ ∃ t, parseFieldDescriptor f.2.1 = some t ∧ defaultValue t = f.2.2) (hp : pc + 3 = pc')
    (g : ∀ T' h' a, a = h.size → own_St p l e R s m args below meth c n0 T' h' (cells + 1) (slots + k) → Keep h h' [] → n0 ≤ a → own_Ob Z a0 h' a K fs → own_Go p e below n0 F (T'.setTop (mkF m pc' L (.ref a :: S)))) : own_Go p e below n0 F (T.setTop (mkF m pc L S)) := by
  have hbig := own_big C X
  obtain ⟨locs, X, N, e0⟩ := X; subst hp
  obtain ⟨T', h2, X', e', E, A, D, -, st⟩ := newO X C.1 C.2.2.2.2.2.2.2.1 C.2.2.2.1 w wi wz e0 (g := mkF m pc L S) rfl (hb C.2.1 hd) hc hs
  refine own_st st (g T' h2 _ rfl ⟨_, X', N, e'⟩ (own_keep_ext E) hbig ⟨A, hnd, fun f hf => ?_⟩)
  obtain ⟨La, t, ht, hdv⟩ := hfs f hf
  exact ⟨hdv ▸ D La ht, La, t, ht⟩
theorem own_objinit (C : own_Cx p s m meth c Z n0 own nm bytes ml ret) (X : own_St p l e R s m args below meth c n0 T h cells slots) {idx : Nat} (hd : decode bytes pc = .ok (.invokespecial idx, 3)) (w1 : (Jvm.Cond.methodLink own idx Lib.objectInit).before a0 Z = true) (w2 : (Jvm.Cond.instanceMethod Lib.objectInit).before a0 Z = true) (w3 : (Jvm.Cond.code Lib.objectInit ⟨#[0xb1]⟩ 1 none).before a0 Z = true)
    (hL : L.size = ml) (hf : 1 ≤ R.frames) (hlo : (S.map fun v => v.category).sum + 12 ≤ R.locals) (hp : pc + 3 = pc')
    (g : ∀ T', own_St p l e R s m args below meth c n0 T' h cells slots → own_Go p e below n0 F (T'.setTop (mkF m pc' L S))) : own_Go p e below n0 F (T.setTop (mkF m pc L (.ref a :: S))) := by
  obtain ⟨locs, X, N, e0⟩ := X; subst hp
  obtain ⟨T', X', e', st⟩ := initO X C.1 C.2.2.2.2.2.2.2.1 C.2.2.2.1 w1 w2 w3 e0 (g := mkF m pc L (.ref a :: S)) rfl (by rw [C.2.2.1]; exact hL) rfl (hb C.2.1 hd) hf (W := (S.map fun v => v.category).sum) (by show 2 * 0 + _ ≤ _; omega) hlo
  exact own_st st (g T' ⟨_, X', N, e'⟩)
/-! calls -/
theorem own_callS (C : own_Cx p s m meth c Z n0 own nm bytes ml ret) (X : own_St p l e R s m args below meth c n0 T h cells slots) {y : MethodName} {by' : ByteArray} {ml' idx : Nat} {rt ret' : Option FieldType} {ps : List FieldType} {rm : Room} {av : List Value} {Qc : Option Value → Heap → Prop} (hd : decode bytes pc = .ok (.invokestatic idx, 3)) (M : own_Met l Z n0 y by' ml' ret' [] rm av.toArray h Qc)
    (w1 : (Jvm.Cond.methodLink own idx y).before a0 Z = true) (w2 : (Jvm.Cond.static y).before a0 Z = true) (w3 : (Jvm.Cond.initialized y.cls).before a0 Z = true) (w4 : (Jvm.Cond.code y by' ml' ret').before a0 Z = true) (hy : y.cls ≠ "java/lang/invoke/MethodHandle" ∧ y.cls ≠ "java/lang/invoke/VarHandle")
    (hde : parseMethodDescriptor y.desc = some ⟨ps, rt⟩) (hps : av.length = ps.length) (hL : L.size = ml) (hf : rm.frames + 1 ≤ R.frames) (hlo : (S.map fun v => v.category).sum + (ml' + 11) + rm.locals ≤ R.locals) (hc : cells + rm.cells ≤ R.cells) (hs : slots + rm.slots ≤ R.slots) {S0 : List Value} (hS : S0 = av.reverse ++ S) (hp : pc + 3 = pc')
    (g : ∀ T' h' v, own_St p l e R s m args below meth c n0 T' h' (cells + rm.cells) (slots + rm.slots) → Qc v h' → own_Go p e below n0 F (T'.setTop (mkF m pc' L (v.toList ++ S)))) : own_Go p e below n0 F (T.setTop (mkF m pc L S0)) := by
  obtain ⟨locs, X, N, e0⟩ := X; subst hp; subst hS
  have hZ := C.2.2.2.2.2.2.2.1
  obtain ⟨v, _, ⟨T2, L2, k2, n2⟩, -, X2, ⟨Lc, hQ, l2, y2, z2⟩, st⟩ := Jvm.LawKit.callS X C.1 (y := y) C.2.2.2.1 (mvT hZ w1) (mvT hZ w2) (mvT hZ w3) (mvT hZ w4) hy (backOf (W := (S.map fun v => v.category).sum) (Q := fun v h L => Qc v h ∧ Fr n0 L) M hZ w4 w3 hf hlo) (g := mkF m pc L (av.reverse ++ S)) rfl (by rw [C.2.2.1]; exact hL) (argsL := av) (rest := S) (lenOf hde hps) rfl (by show 2 * 0 + _ ≤ _; omega) (hb C.2.1 hd) (fun _ _ => ⟨rfl, e0, hc, hs⟩)
  dsimp only [Pt.U, Pt.locs, Pt.cells, Pt.slots] at X2 l2 y2 z2 st hQ
  subst l2 y2 z2
  exact own_st st (g T2 _ v ⟨_, X2, Fr.app N hQ.2, rfl⟩ hQ.1)
theorem own_callInit (C : own_Cx p s m meth c Z n0 own nm bytes ml ret) (X : own_St p l e R s m args below meth c n0 T h cells slots) {y : MethodName} {by' : ByteArray} {ml' idx : Nat} {rt : Option FieldType} {ps : List FieldType} {rm : Room} {av : List Value} {Qc : Option Value → Heap → Prop} (hd : decode bytes pc = .ok (.invokespecial idx, 3)) (M : own_Met l Z n0 y by' ml' none [] rm (.ref a :: av).toArray h Qc) (hy1 : y.name = "<init>")
    (w1 : (Jvm.Cond.methodLink own idx y).before a0 Z = true) (w2 : (Jvm.Cond.instanceMethod y).before a0 Z = true) (w3 : (Jvm.Cond.initialized y.cls).before a0 Z = true) (w4 : (Jvm.Cond.code y by' ml' none).before a0 Z = true) (hy : y.cls ≠ "java/lang/invoke/MethodHandle" ∧ y.cls ≠ "java/lang/invoke/VarHandle")
    (hde : parseMethodDescriptor y.desc = some ⟨ps, rt⟩) (hps : av.length = ps.length) (hL : L.size = ml) (hf : rm.frames + 1 ≤ R.frames) (hlo : (S.map fun v => v.category).sum + (ml' + 11) + rm.locals ≤ R.locals) (hc : cells + rm.cells ≤ R.cells) (hs : slots + rm.slots ≤ R.slots) {S0 : List Value} (hS : S0 = av.reverse ++ .ref a :: S) (hp : pc + 3 = pc')
    (g : ∀ T' h' v, own_St p l e R s m args below meth c n0 T' h' (cells + rm.cells) (slots + rm.slots) → Qc v h' → own_Go p e below n0 F (T'.setTop (mkF m pc' L (v.toList ++ S)))) : own_Go p e below n0 F (T.setTop (mkF m pc L S0)) := by
  obtain ⟨locs, X, N, e0⟩ := X; subst hp; subst hS
  have hZ := C.2.2.2.2.2.2.2.1
  obtain ⟨v, _, ⟨T2, L2, k2, n2⟩, -, X2, ⟨Lc, hQ, l2, y2, z2⟩, st⟩ := X.specialBack C.1 (y := y) hy1 C.2.2.2.1 (mvT hZ w1) (mvT hZ w2) (mvT hZ w4) hy (backOf (W := (S.map fun v => v.category).sum) (Q := fun v h L => Qc v h ∧ Fr n0 L) M hZ w4 w3 hf hlo) (g := mkF m pc L (av.reverse ++ .ref a :: S)) rfl (by rw [C.2.2.1]; exact hL) (Steps.refl _) (a := a) (argsL := av) (rest := S) (lenOf hde hps) rfl (by show 2 * 0 + _ ≤ _; omega) (hb C.2.1 hd) (fun _ _ => ⟨rfl, e0, hc, hs⟩)
  dsimp only [Pt.U, Pt.locs, Pt.cells, Pt.slots] at X2 l2 y2 z2 st hQ
  subst l2 y2 z2
  exact own_st (fun t k => st.trans k) (g T2 _ v ⟨_, X2, Fr.app N hQ.2, rfl⟩ hQ.1)
theorem own_callV (C : own_Cx p s m meth c Z n0 own nm bytes ml ret) (X : own_St p l e R s m args below meth c n0 T h cells slots) {y : MethodName} {by' : ByteArray} {ml' idx : Nat} {rt ret' : Option FieldType} {ps : List FieldType} {rm : Room} {av : List Value} {Qc : Option Value → Heap → Prop} (hd : decode bytes pc = .ok (.invokevirtual idx, 3)) (M : own_Met l Z n0 y by' ml' ret' [] rm (.ref a :: av).toArray h Qc)
    (E : Exa Z h a y.cls) (w1 : (Jvm.Cond.methodLink own idx y).before a0 Z = true) (wd : (Jvm.Cond.declares y).before a0 Z = true) (ws : (Jvm.Cond.selects y.cls y y).before a0 Z = true) (w2 : (Jvm.Cond.instanceMethod y).before a0 Z = true) (w3 : (Jvm.Cond.initialized y.cls).before a0 Z = true) (w4 : (Jvm.Cond.code y by' ml' ret').before a0 Z = true) (hy : y.cls ≠ "java/lang/invoke/MethodHandle" ∧ y.cls ≠ "java/lang/invoke/VarHandle")
    (hde : parseMethodDescriptor y.desc = some ⟨ps, rt⟩) (hps : av.length = ps.length) (hL : L.size = ml) (hf : rm.frames + 1 ≤ R.frames) (hlo : (S.map fun v => v.category).sum + (ml' + 11) + rm.locals ≤ R.locals) (hc : cells + rm.cells ≤ R.cells) (hs : slots + rm.slots ≤ R.slots) {S0 : List Value} (hS : S0 = av.reverse ++ .ref a :: S) (hp : pc + 3 = pc')
    (g : ∀ T' h' v, own_St p l e R s m args below meth c n0 T' h' (cells + rm.cells) (slots + rm.slots) → Qc v h' → own_Go p e below n0 F (T'.setTop (mkF m pc' L (v.toList ++ S)))) : own_Go p e below n0 F (T.setTop (mkF m pc L S0)) := by
  obtain ⟨locs, X, N, e0⟩ := X; subst hp; subst hS
  have hZ := C.2.2.2.2.2.2.2.1
  obtain ⟨cq, kq, qa, qb, qc⟩ := isOf hZ e0 E
  obtain ⟨v, _, ⟨T2, L2, k2, n2⟩, -, X2, ⟨Lc, hQ, l2, y2, z2⟩, st⟩ := X.virtualBack C.1 (y := y) (z := y) C.2.2.2.1 (mvT hZ w1) (mvT hZ wd) (notFace_of_selects (args := #[]) (mvT hZ ws)) (mvT hZ ws) (mvT hZ w2) hy (backOf (W := (S.map fun v => v.category).sum) (Q := fun v h L => Qc v h ∧ Fr n0 L) M hZ w4 w3 hf hlo) qa qc (g := mkF m pc L (av.reverse ++ .ref a :: S)) rfl (by rw [C.2.2.1]; exact hL) (Steps.refl _) (argsL := av) (rest := S) (lenOf hde hps) rfl (by show 2 * 0 + _ ≤ _; omega) (hb C.2.1 hd) (fun _ _ => ⟨rfl, e0, hc, hs⟩)
  dsimp only [Pt.U, Pt.locs, Pt.cells, Pt.slots] at X2 l2 y2 z2 st hQ
  subst l2 y2 z2
  exact own_st (fun t k => st.trans k) (g T2 _ v ⟨_, X2, Fr.app N hQ.2, rfl⟩ hQ.1)
/-- a private method selects itself (turned from the worked claim gauge-weight) -/
theorem own_selP {s : State} {args : Array Value} {n : Nat} {y : MethodName} (hy : y.cls ≠ "java/lang/invoke/MethodHandle" ∧ y.cls ≠ "java/lang/invoke/VarHandle") (hins : (Jvm.Cond.instantiable y.cls n).before args s = true) (hpriv : (Jvm.Cond.privateMethod y).before args s = true) (hinst : (Jvm.Cond.instanceMethod y).before args s = true) :
    (Jvm.Cond.selects y.cls y y).before args s = true := by
  obtain ⟨c, k, hc, hk, -, hniab, -, -⟩ := Cond.instantiable_spec hins
  have hni : k.isInterface = false := (Bool.or_eq_false_iff.mp hniab).1
  obtain ⟨mk, methM, hnamed, hmethM, -, -⟩ := Cond.instanceMethod_spec hinst
  have hfound : s.methodFound? y.cls y.name y.desc = some mk := State.methodFound?_of_named hnamed hy
  have hcls : mk.cls = c := Option.some.inj ((findClass_of_methodNamed hnamed).symm.trans hc)
  have hsel : selectMethod {} s.vm c mk = .method mk := selectMethod_private hmethM (Cond.privateMethod_at hpriv mk methM hnamed hmethM)
  simp only [Cond.before, Cond.holds, Cond.value, hc, hfound, hnamed, hsel, hcls, hk]
  simp; exact hni
theorem own_callP (C : own_Cx p s m meth c Z n0 own nm bytes ml ret) (X : own_St p l e R s m args below meth c n0 T h cells slots) {y : MethodName} {by' : ByteArray} {ml' idx : Nat} {rt ret' : Option FieldType} {ps : List FieldType} {rm : Room} {av : List Value} {Qc : Option Value → Heap → Prop} (hd : decode bytes pc = .ok (.invokevirtual idx, 3)) (M : own_Met l Z n0 y by' ml' ret' [] rm (.ref a :: av).toArray h Qc)
    (E : Exa Z h a y.cls) (w1 : (Jvm.Cond.methodLink own idx y).before a0 Z = true) {kk : Nat} (wi : (Jvm.Cond.instantiable y.cls kk).before a0 Z = true) (wp : (Jvm.Cond.privateMethod y).before a0 Z = true) (w2 : (Jvm.Cond.instanceMethod y).before a0 Z = true) (w3 : (Jvm.Cond.initialized y.cls).before a0 Z = true) (w4 : (Jvm.Cond.code y by' ml' ret').before a0 Z = true) (hy : y.cls ≠ "java/lang/invoke/MethodHandle" ∧ y.cls ≠ "java/lang/invoke/VarHandle")
    (hde : parseMethodDescriptor y.desc = some ⟨ps, rt⟩) (hps : av.length = ps.length) (hL : L.size = ml) (hf : rm.frames + 1 ≤ R.frames) (hlo : (S.map fun v => v.category).sum + (ml' + 11) + rm.locals ≤ R.locals) (hc : cells + rm.cells ≤ R.cells) (hs : slots + rm.slots ≤ R.slots) {S0 : List Value} (hS : S0 = av.reverse ++ .ref a :: S) (hp : pc + 3 = pc')
    (g : ∀ T' h' v, own_St p l e R s m args below meth c n0 T' h' (cells + rm.cells) (slots + rm.slots) → Qc v h' → own_Go p e below n0 F (T'.setTop (mkF m pc' L (v.toList ++ S)))) : own_Go p e below n0 F (T.setTop (mkF m pc L S0)) := by
  obtain ⟨locs, X, N, e0⟩ := X; subst hp; subst hS
  have hZ := C.2.2.2.2.2.2.2.1
  obtain ⟨cq, q1, q2⟩ := E.cell
  obtain ⟨v, _, ⟨T2, L2, k2, n2⟩, -, X2, ⟨Lc, hQ, l2, y2, z2⟩, st⟩ := X.privateBack C.1 (y := y) C.2.2.2.1 (mvT hZ w1) (mvT hZ w2) (mvT hZ (own_selP hy wi wp w2)) (Cond.privateMethod_at (mvP hZ wp (args := #[]))) (mvT hZ w4) hy (backOf (W := (S.map fun v => v.category).sum) (Q := fun v h L => Qc v h ∧ Fr n0 L) M hZ w4 w3 hf hlo) (g := mkF m pc L (av.reverse ++ .ref a :: S)) rfl (by rw [C.2.2.1]; exact hL) (Steps.refl _) (a := a) (by rw [e0]; exact q1) q2 (argsL := av) (rest := S) (lenOf hde hps) rfl (by show 2 * 0 + _ ≤ _; omega) (hb C.2.1 hd) (fun _ _ => ⟨rfl, e0, hc, hs⟩)
  dsimp only [Pt.U, Pt.locs, Pt.cells, Pt.slots] at X2 l2 y2 z2 st hQ
  subst l2 y2 z2
  exact own_st (fun t k => st.trans k) (g T2 _ v ⟨_, X2, Fr.app N hQ.2, rfl⟩ hQ.1)
end OwnKitTwo
end Jvm.Pilot.@@N@@
namespace Jvm.Pilot.@@N@@
open Jvm Jvm.ClassFile Sem Op Lib Jvm.Free Jvm.Stand Jvm.LawKit Jvm.RoadKit Bundle Jvm.Pilot.@@N@@.Jvm.D
section OwnKitThree
theorem own_i2b2 (x : Int32) : x.toInt8.toInt32.toInt8.toInt32 = x.toInt8.toInt32 := by simp
theorem own_i2bn {y t : Int32} (e : y.toInt8.toInt32 = t) : t.toInt8.toInt32 = t := by rw [← e]; simp
theorem own_ibd {Z : State} {h : Heap} {a : Addr} {ty : FieldType} {xs : List Int32} {i : Nat} {v : Int32} (A : own_IA Z h a ty xs) (e : xs[i]? = some v) : i < 2 ^ 31 := by
  obtain ⟨c, -, -, hl, -⟩ := A; exact Nat.lt_trans (own_lt_of e) hl
theorem own_ixadd {o d : Int32} {k n : Nat} (hk : o.toInt = (k : Int)) (hd : d.toInt = (n : Int)) (hb : k + n < 2 ^ 31) : (o + d).toInt = ((k + n : Nat) : Int) := by
  have := c_iadd o d; have := rng32 (o + d); omega
theorem own_orI (a b : Int32) (k : Nat) (hk : k ≤ 31) (P : Int) (hP : P = (2 ^ k : Nat)) (h1 : a.toInt % P = 0) (h2 : 0 ≤ b.toInt) (h3 : b.toInt < P) (h4 : 0 ≤ a.toInt) (h5 : a.toInt + b.toInt < 2147483648) : (a ||| b).toInt = a.toInt + b.toInt := by
  have := c_or a b k hk P hP h1 h2 h3; have := rng32 (a ||| b); omega
theorem own_addI (a b : Int32) (h1 : -2147483648 ≤ a.toInt + b.toInt) (h2 : a.toInt + b.toInt < 2147483648) : (a + b).toInt = a.toInt + b.toInt := by
  have := c_iadd a b; have := rng32 (a + b); omega
theorem own_subI (a b : Int32) (h1 : -2147483648 ≤ a.toInt - b.toInt) (h2 : a.toInt - b.toInt < 2147483648) : (a - b).toInt = a.toInt - b.toInt := by
  have := c_isub a b; have := rng32 (a - b); omega
theorem own_ba3 (y : Int32) : (y.toInt8.toInt32 &&& 7).toInt = y.toInt % 8 := by
  have e1 : (y.toInt8.toInt32 &&& 7).toInt = y.toInt8.toInt32.toInt % (2 ^ 3 : Nat) := c_mask _ 7 3 (by decide) (by decide)
  have e2 := c_i2b y
  omega
theorem own_ba4 (y : Int32) : (y.toInt8.toInt32 &&& 15).toInt = y.toInt % 16 := by
  have e1 : (y.toInt8.toInt32 &&& 15).toInt = y.toInt8.toInt32.toInt % (2 ^ 4 : Nat) := c_mask _ 15 4 (by decide) (by decide)
  have e2 := c_i2b y
  omega
theorem own_ba5 (y : Int32) : (y.toInt8.toInt32 &&& 31).toInt = y.toInt % 32 := by
  have e1 : (y.toInt8.toInt32 &&& 31).toInt = y.toInt8.toInt32.toInt % (2 ^ 5 : Nat) := c_mask _ 31 5 (by decide) (by decide)
  have e2 := c_i2b y
  omega
theorem own_ba6 (y : Int32) : (y.toInt8.toInt32 &&& 63).toInt = y.toInt % 64 := by
  have e1 : (y.toInt8.toInt32 &&& 63).toInt = y.toInt8.toInt32.toInt % (2 ^ 6 : Nat) := c_mask _ 63 6 (by decide) (by decide)
  have e2 := c_i2b y
  omega
theorem own_ba7 (y : Int32) : (y.toInt8.toInt32 &&& 127).toInt = y.toInt % 128 := by
  have e1 : (y.toInt8.toInt32 &&& 127).toInt = y.toInt8.toInt32.toInt % (2 ^ 7 : Nat) := c_mask _ 127 7 (by decide) (by decide)
  have e2 := c_i2b y
  omega
theorem own_ba8 (y : Int32) : (y.toInt8.toInt32 &&& 255).toInt = y.toInt % 256 := by
  have e1 : (y.toInt8.toInt32 &&& 255).toInt = y.toInt8.toInt32.toInt % (2 ^ 8 : Nat) := c_mask _ 255 8 (by decide) (by decide)
  have e2 := c_i2b y
  omega
theorem own_cont (q : Int32) : (((128 : Int32) ||| (q &&& 63)).toInt8.toInt32 &&& 63).toInt = q.toInt % 64 := by
  have e1 : (q &&& 63).toInt = q.toInt % (2 ^ 6 : Nat) := c_mask q 63 6 (by decide) (by decide)
  have z : (128 : Int32).toInt = 128 := rfl
  have e2 := own_orI 128 (q &&& 63) 7 (by decide) 128 (by decide) (by decide) (by omega) (by omega) (by decide) (by omega)
  rw [own_ba6, e2]; omega
theorem own_acc (x y : Int32) (h1 : 0 ≤ x.toInt) (h2 : x.toInt * 64 + 63 < 2147483648) (h3 : 0 ≤ y.toInt) (h4 : y.toInt < 64) : ((x <<< (6 &&& 31)) ||| y).toInt = x.toInt * 64 + y.toInt := by
  have e1 := c_ishl x 6 6 (by decide)
  have e2 := rng32 (x <<< (6 &&& 31))
  have e3 : (x <<< (6 &&& 31)).toInt = x.toInt * 64 := by omega
  rw [own_orI (x <<< (6 &&& 31)) y 6 (by decide) 64 (by decide) (by omega) h3 h4 (by omega) (by omega), e3]
end OwnKitThree
end Jvm.Pilot.@@N@@
namespace Jvm.Pilot.@@N@@
open Jvm Jvm.ClassFile Sem Op Lib Jvm.Free Jvm.Stand Jvm.LawKit Jvm.RoadKit Bundle Jvm.Pilot.@@N@@.Jvm.D
def own_sl (b : Int32) : Int32 := if (b &&& 255) < 128 then 1 else if (b &&& 255) < 224 then 2 else if (b &&& 255) < 240 then 3 else 4
theorem own_slI (b : Int32) (k : Int) (h : (b &&& 255).toInt = k) : (k < 128 → own_sl b = 1) ∧ (128 ≤ k → k < 224 → own_sl b = 2) ∧ (224 ≤ k → k < 240 → own_sl b = 3) ∧ (240 ≤ k → own_sl b = 4) := by
  have a1 : ((b &&& 255) < 128) ↔ k < 128 := by rw [Int32.lt_iff_toInt_lt, h]; exact Iff.rfl
  have a2 : ((b &&& 255) < 224) ↔ k < 224 := by rw [Int32.lt_iff_toInt_lt, h]; exact Iff.rfl
  have a3 : ((b &&& 255) < 240) ↔ k < 240 := by rw [Int32.lt_iff_toInt_lt, h]; exact Iff.rfl
  refine ⟨fun q => ?_, fun q r => ?_, fun q r => ?_, fun q => ?_⟩
  · rw [own_sl, if_pos (a1.mpr q)]
  · rw [own_sl, if_neg (fun z => by have := a1.mp z; omega), if_pos (a2.mpr r)]
  · rw [own_sl, if_neg (fun z => by have := a1.mp z; omega), if_neg (fun z => by have := a2.mp z; omega), if_pos (a3.mpr r)]
  · rw [own_sl, if_neg (fun z => by have := a1.mp z; omega), if_neg (fun z => by have := a2.mp z; omega), if_neg (fun z => by have := a3.mp z; omega)]
theorem own_lt1 {c : Int32} : c < 128 ↔ c.toInt < 128 := Int32.lt_iff_toInt_lt
theorem own_lt2 {c : Int32} : c < 2048 ↔ c.toInt < 2048 := Int32.lt_iff_toInt_lt
theorem own_lt3 {c : Int32} : c < 65536 ↔ c.toInt < 65536 := Int32.lt_iff_toInt_lt
theorem own_msk (x : Int32) : (x &&& 2147483647).toInt = x.toInt % 2147483648 := c_mask x 2147483647 31 (by decide) (by decide)
theorem own_rem (x n : Int32) (hn0 : 0 < n.toInt) : 0 ≤ ((x &&& 2147483647) % n).toInt ∧ ((x &&& 2147483647) % n).toInt < n.toInt := by
  have e1 := own_msk x
  have e2 := ((c_iremV (x &&& 2147483647) n).1 (by omega) hn0)
  omega
theorem own_ushr (c q : Int32) (k : Nat) (hk : q.toBitVec.toNat % 32 = k) (h0 : 0 < k) (hc : 0 ≤ c.toInt) : ((c.toUInt32 >>> (q &&& 31).toUInt32).toInt32).toInt = c.toInt / (2 ^ k : Nat) := by
  rw [c_iushr c q k hk h0]; have := c.toInt_lt; rw [Int.emod_eq_of_lt hc (by omega)]
theorem own_four (c : Int32) : c < 128 ∨ (¬ c < 128 ∧ c < 2048) ∨ (¬ c < 128 ∧ ¬ c < 2048 ∧ c < 65536) ∨ (¬ c < 128 ∧ ¬ c < 2048 ∧ ¬ c < 65536) := by
  by_cases q1 : c < 128
  · exact Or.inl q1
  · by_cases q2 : c < 2048
    · exact Or.inr (Or.inl ⟨q1, q2⟩)
    · by_cases q3 : c < 65536
      · exact Or.inr (Or.inr (Or.inl ⟨q1, q2, q3⟩))
      · exact Or.inr (Or.inr (Or.inr ⟨q1, q2, q3⟩))
theorem own_sl1 (c : Int32) (h0 : 0 ≤ c.toInt) (q1 : c < 128) : own_sl c.toInt8.toInt32 = 1 := by
  rw [own_lt1] at q1
  exact (own_slI _ c.toInt (by rw [own_ba8]; omega)).1 q1
theorem own_sl2 (c : Int32) (h0 : 0 ≤ c.toInt) (q1 : ¬ c < 128) (q2 : c < 2048) : own_sl ((192 : Int32) ||| ((c.toUInt32 >>> ((6 : Int32) &&& 31).toUInt32).toInt32)).toInt8.toInt32 = 2 := by
  rw [own_lt1] at q1; rw [own_lt2] at q2
  have e1 := own_ushr c 6 6 (by decide) (by decide) h0
  have z : (192 : Int32).toInt = 192 := rfl
  have e2 := own_orI 192 (((c.toUInt32 >>> ((6 : Int32) &&& 31).toUInt32).toInt32)) 6 (by decide) 64 (by decide) (by decide) (by omega) (by omega) (by decide) (by omega)
  exact (own_slI _ (192 + c.toInt / 64) (by rw [own_ba8]; omega)).2.1 (by omega) (by omega)
theorem own_sl3 (c : Int32) (h0 : 0 ≤ c.toInt) (q1 : ¬ c < 128) (q2 : ¬ c < 2048) (q3 : c < 65536) : own_sl ((224 : Int32) ||| ((c.toUInt32 >>> ((12 : Int32) &&& 31).toUInt32).toInt32)).toInt8.toInt32 = 3 := by
  rw [own_lt2] at q2; rw [own_lt3] at q3
  have e1 := own_ushr c 12 12 (by decide) (by decide) h0
  have z : (224 : Int32).toInt = 224 := rfl
  have e2 := own_orI 224 (((c.toUInt32 >>> ((12 : Int32) &&& 31).toUInt32).toInt32)) 5 (by decide) 32 (by decide) (by decide) (by omega) (by omega) (by decide) (by omega)
  exact (own_slI _ (224 + c.toInt / 4096) (by rw [own_ba8]; omega)).2.2.1 (by omega) (by omega)
theorem own_sl4 (c : Int32) (h0 : 0 ≤ c.toInt) (h1 : c.toInt < 1114112) (q1 : ¬ c < 128) (q2 : ¬ c < 2048) (q3 : ¬ c < 65536) : own_sl ((240 : Int32) ||| ((c.toUInt32 >>> ((18 : Int32) &&& 31).toUInt32).toInt32)).toInt8.toInt32 = 4 := by
  rw [own_lt3] at q3
  have e1 := own_ushr c 18 18 (by decide) (by decide) h0
  have z : (240 : Int32).toInt = 240 := rfl
  have e2 := own_orI 240 (((c.toUInt32 >>> ((18 : Int32) &&& 31).toUInt32).toInt32)) 4 (by decide) 16 (by decide) (by decide) (by omega) (by omega) (by decide) (by omega)
  exact (own_slI _ (240 + c.toInt / 262144) (by rw [own_ba8]; omega)).2.2.2 (by omega)
theorem own_contu (c q : Int32) (k : Nat) (hk : q.toBitVec.toNat % 32 = k) (h0 : 0 < k) (hc : 0 ≤ c.toInt) : (((128 : Int32) ||| ((c.toUInt32 >>> (q &&& 31).toUInt32).toInt32 &&& 63)).toInt8.toInt32 &&& 63).toInt = c.toInt / (2 ^ k : Nat) % 64 := by
  rw [own_cont, own_ushr c q k hk h0 hc]
theorem own_w1 (c : Int32) (h0 : 0 ≤ c.toInt) (q1 : c < 128) : (c.toInt8.toInt32 &&& (255 : Int32)) = c := by
  rw [own_lt1] at q1
  apply Int32.toInt_inj.mp; rw [own_ba8]; omega
theorem own_w2 (c : Int32) (h0 : 0 ≤ c.toInt) (q1 : ¬ c < 128) (q2 : c < 2048) : (((((192 : Int32) ||| ((c.toUInt32 >>> ((6 : Int32) &&& 31).toUInt32).toInt32)).toInt8.toInt32 &&& (31 : Int32)) <<< ((6 : Int32) &&& 31)) ||| (((128 : Int32) ||| (c &&& (63 : Int32))).toInt8.toInt32 &&& (63 : Int32))) = c := by
  rw [own_lt1] at q1; rw [own_lt2] at q2
  have e1 := own_ushr c 6 6 (by decide) (by decide) h0
  have z : (192 : Int32).toInt = 192 := rfl
  have e2 := own_orI 192 (((c.toUInt32 >>> ((6 : Int32) &&& 31).toUInt32).toInt32)) 6 (by decide) 64 (by decide) (by decide) (by omega) (by omega) (by decide) (by omega)
  have e3 := own_ba5 ((192 : Int32) ||| (((c.toUInt32 >>> ((6 : Int32) &&& 31).toUInt32).toInt32)))
  have e4 := own_cont c
  apply Int32.toInt_inj.mp
  rw [own_acc _ _ (by omega) (by omega) (by omega) (by omega)]; omega
theorem own_w3 (c : Int32) (h0 : 0 ≤ c.toInt) (q1 : ¬ c < 128) (q2 : ¬ c < 2048) (q3 : c < 65536) : (((((((224 : Int32) ||| ((c.toUInt32 >>> ((12 : Int32) &&& 31).toUInt32).toInt32)).toInt8.toInt32 &&& (15 : Int32)) <<< ((6 : Int32) &&& 31)) ||| (((128 : Int32) ||| (((c.toUInt32 >>> ((6 : Int32) &&& 31).toUInt32).toInt32) &&& (63 : Int32))).toInt8.toInt32 &&& (63 : Int32))) <<< ((6 : Int32) &&& 31)) ||| (((128 : Int32) ||| (c &&& (63 : Int32))).toInt8.toInt32 &&& (63 : Int32))) = c := by
  rw [own_lt2] at q2; rw [own_lt3] at q3
  have e1 := own_ushr c 12 12 (by decide) (by decide) h0
  have z : (224 : Int32).toInt = 224 := rfl
  have e2 := own_orI 224 (((c.toUInt32 >>> ((12 : Int32) &&& 31).toUInt32).toInt32)) 5 (by decide) 32 (by decide) (by decide) (by omega) (by omega) (by decide) (by omega)
  have e3 := own_ba4 ((224 : Int32) ||| (((c.toUInt32 >>> ((12 : Int32) &&& 31).toUInt32).toInt32)))
  have e6 := own_contu c 6 6 (by decide) (by decide) h0
  have e4 := own_cont c
  have e7 := own_acc (((224 : Int32) ||| (((c.toUInt32 >>> ((12 : Int32) &&& 31).toUInt32).toInt32))).toInt8.toInt32 &&& 15) (((128 : Int32) ||| ((((c.toUInt32 >>> ((6 : Int32) &&& 31).toUInt32).toInt32)) &&& 63)).toInt8.toInt32 &&& 63) (by omega) (by omega) (by omega) (by omega)
  apply Int32.toInt_inj.mp
  rw [own_acc _ _ (by omega) (by omega) (by omega) (by omega)]; omega
theorem own_w4 (c : Int32) (h0 : 0 ≤ c.toInt) (h1 : c.toInt < 1114112) (q1 : ¬ c < 128) (q2 : ¬ c < 2048) (q3 : ¬ c < 65536) : (((((((((240 : Int32) ||| ((c.toUInt32 >>> ((18 : Int32) &&& 31).toUInt32).toInt32)).toInt8.toInt32 &&& (7 : Int32)) <<< ((6 : Int32) &&& 31)) ||| (((128 : Int32) ||| (((c.toUInt32 >>> ((12 : Int32) &&& 31).toUInt32).toInt32) &&& (63 : Int32))).toInt8.toInt32 &&& (63 : Int32))) <<< ((6 : Int32) &&& 31)) ||| (((128 : Int32) ||| (((c.toUInt32 >>> ((6 : Int32) &&& 31).toUInt32).toInt32) &&& (63 : Int32))).toInt8.toInt32 &&& (63 : Int32))) <<< ((6 : Int32) &&& 31)) ||| (((128 : Int32) ||| (c &&& (63 : Int32))).toInt8.toInt32 &&& (63 : Int32))) = c := by
  rw [own_lt3] at q3
  have e1 := own_ushr c 18 18 (by decide) (by decide) h0
  have z : (240 : Int32).toInt = 240 := rfl
  have e2 := own_orI 240 (((c.toUInt32 >>> ((18 : Int32) &&& 31).toUInt32).toInt32)) 4 (by decide) 16 (by decide) (by decide) (by omega) (by omega) (by decide) (by omega)
  have e3 := own_ba3 ((240 : Int32) ||| (((c.toUInt32 >>> ((18 : Int32) &&& 31).toUInt32).toInt32)))
  have e6 := own_contu c 6 6 (by decide) (by decide) h0
  have e8 := own_contu c 12 12 (by decide) (by decide) h0
  have e4 := own_cont c
  have e7 := own_acc (((240 : Int32) ||| (((c.toUInt32 >>> ((18 : Int32) &&& 31).toUInt32).toInt32))).toInt8.toInt32 &&& 7) (((128 : Int32) ||| ((((c.toUInt32 >>> ((12 : Int32) &&& 31).toUInt32).toInt32)) &&& 63)).toInt8.toInt32 &&& 63) (by omega) (by omega) (by omega) (by omega)
  have e10 := own_acc (((((240 : Int32) ||| (((c.toUInt32 >>> ((18 : Int32) &&& 31).toUInt32).toInt32))).toInt8.toInt32 &&& 7) <<< (6 &&& 31)) ||| (((128 : Int32) ||| ((((c.toUInt32 >>> ((12 : Int32) &&& 31).toUInt32).toInt32)) &&& 63)).toInt8.toInt32 &&& 63)) (((128 : Int32) ||| ((((c.toUInt32 >>> ((6 : Int32) &&& 31).toUInt32).toInt32)) &&& 63)).toInt8.toInt32 &&& 63) (by omega) (by omega) (by omega) (by omega)
  apply Int32.toInt_inj.mp
  rw [own_acc _ _ (by omega) (by omega) (by omega) (by omega)]; omega
theorem own_big4 (c : Int32) (h1 : c.toInt < 1114112) : c < 2097152 := by rw [Int32.lt_iff_toInt_lt]; show c.toInt < (2097152 : Int); omega
def own_pb (n : Int32) : Int32 := if n = 1 then 7 else 5 * n + 1
theorem own_pn_com_example_termwell_termwell_store_Utf8 : plainName "com/example/termwell/termwell/store/Utf8" = true := by first | (simp [plainName, overriddenIn]; done) | decide +kernel
theorem own_ef_sl (b : Int32) (m : MethodId) : entryFrame m #[(.int b)] 3 = mkF m 0 #[.val (.int b), .unset, .unset] [] := by first | (simp [entryFrame, mkF, argsToLocals, Value.category]; done) | rfl
theorem own_d5_0 : decode prog_248_method_12_code 0 = .ok (.iload_n 0, 1) := by decide +kernel
theorem own_d5_1 : decode prog_248_method_12_code 1 = .ok (.sipush 255, 3) := by decide +kernel
theorem own_d5_4 : decode prog_248_method_12_code 4 = .ok (.iand, 1) := by decide +kernel
theorem own_d5_5 : decode prog_248_method_12_code 5 = .ok (.istore_n 1, 1) := by decide +kernel
theorem own_d5_6 : decode prog_248_method_12_code 6 = .ok (.iload_n 1, 1) := by decide +kernel
theorem own_d5_7 : decode prog_248_method_12_code 7 = .ok (.sipush 128, 3) := by decide +kernel
theorem own_d5_10 : decode prog_248_method_12_code 10 = .ok (.if_icmp .ge 8, 3) := by decide +kernel
theorem own_d5_18 : decode prog_248_method_12_code 18 = .ok (.iload_n 1, 1) := by decide +kernel
theorem own_d5_19 : decode prog_248_method_12_code 19 = .ok (.sipush 224, 3) := by decide +kernel
theorem own_d5_22 : decode prog_248_method_12_code 22 = .ok (.if_icmp .ge 8, 3) := by decide +kernel
theorem own_d5_30 : decode prog_248_method_12_code 30 = .ok (.iload_n 1, 1) := by decide +kernel
theorem own_d5_31 : decode prog_248_method_12_code 31 = .ok (.sipush 240, 3) := by decide +kernel
theorem own_d5_34 : decode prog_248_method_12_code 34 = .ok (.if_icmp .ge 8, 3) := by decide +kernel
theorem own_d5_42 : decode prog_248_method_12_code 42 = .ok (.iconst 4, 1) := by decide +kernel
theorem own_d5_43 : decode prog_248_method_12_code 43 = .ok (.istore_n 2, 1) := by decide +kernel
theorem own_d5_44 : decode prog_248_method_12_code 44 = .ok (.iload_n 2, 1) := by decide +kernel
theorem own_d5_45 : decode prog_248_method_12_code 45 = .ok (.ireturn, 1) := by decide +kernel
theorem own_d5_37 : decode prog_248_method_12_code 37 = .ok (.iconst 3, 1) := by decide +kernel
theorem own_d5_38 : decode prog_248_method_12_code 38 = .ok (.istore_n 2, 1) := by decide +kernel
theorem own_d5_39 : decode prog_248_method_12_code 39 = .ok (.goto 5, 3) := by decide +kernel
theorem own_d5_25 : decode prog_248_method_12_code 25 = .ok (.iconst 2, 1) := by decide +kernel
theorem own_d5_26 : decode prog_248_method_12_code 26 = .ok (.istore_n 2, 1) := by decide +kernel
theorem own_d5_27 : decode prog_248_method_12_code 27 = .ok (.goto 17, 3) := by decide +kernel
theorem own_d5_13 : decode prog_248_method_12_code 13 = .ok (.iconst 1, 1) := by decide +kernel
theorem own_d5_14 : decode prog_248_method_12_code 14 = .ok (.istore_n 2, 1) := by decide +kernel
theorem own_d5_15 : decode prog_248_method_12_code 15 = .ok (.goto 29, 3) := by decide +kernel
set_option maxRecDepth 65536 in
set_option maxHeartbeats 40000000 in
theorem own_m_sl (l : Launch) (Z : State) (a0 : Array Value) (hw : ∀ d ∈ tables_1, d.before a0 Z = true) (b : Int32) (h0 : Heap) (n0 : Nat) (hn0 : n0 ≤ h0.size)  : own_Met l Z n0 (⟨"com/example/termwell/termwell/store/Utf8", "sequenceLength", "(B)I"⟩ : MethodName) prog_248_method_12_code 3 (some .int) [] ({ frames := 0, cells := 0, slots := 0, locals := 0 } : Room) #[(.int b)] h0 (fun v h => v = some (.int (own_sl b)) ∧ h0 = h) := by
  refine own_body (plainFor_of_name own_pn_com_example_termwell_termwell_store_Utf8) hn0 (own_ef_sl b) ?_
  intro p e s m below meth c T C X
  refine own_iloadN C X own_d5_0 rfl (pc' := 1) rfl ?_
  refine own_sipush C X own_d5_1 (v := 255) (by decide) (pc' := 4) rfl ?_
  refine own_iand C X own_d5_4 rfl (pc' := 5) rfl ?_
  refine own_istoreN C X own_d5_5 (L' := #[.val (.int b), .val (.int (b &&& (255 : Int32))), .unset]) rfl (pc' := 6) rfl ?_
  refine own_iloadN C X own_d5_6 rfl (pc' := 7) rfl ?_
  refine own_sipush C X own_d5_7 (v := 128) (by decide) (pc' := 10) rfl ?_
  refine own_icmp_ge C X own_d5_10 (pcT := 18) (pc' := 13) (by decide) (by decide) rfl (fun hc10 => ?_) (fun hc10 => ?_)
  · refine own_iloadN C X own_d5_18 rfl (pc' := 19) rfl ?_
    refine own_sipush C X own_d5_19 (v := 224) (by decide) (pc' := 22) rfl ?_
    refine own_icmp_ge C X own_d5_22 (pcT := 30) (pc' := 25) (by decide) (by decide) rfl (fun hc22 => ?_) (fun hc22 => ?_)
    · refine own_iloadN C X own_d5_30 rfl (pc' := 31) rfl ?_
      refine own_sipush C X own_d5_31 (v := 240) (by decide) (pc' := 34) rfl ?_
      refine own_icmp_ge C X own_d5_34 (pcT := 42) (pc' := 37) (by decide) (by decide) rfl (fun hc34 => ?_) (fun hc34 => ?_)
      · refine own_iconst C X own_d5_42 (v := 4) (by decide) (pc' := 43) rfl ?_
        refine own_istoreN C X own_d5_43 (L' := #[.val (.int b), .val (.int (b &&& (255 : Int32))), .val (.int (4 : Int32))]) rfl (pc' := 44) rfl ?_
        refine own_iloadN C X own_d5_44 rfl (pc' := 45) rfl ?_
        exact own_ireturn C X own_d5_45 (Nat.le_of_ble_eq_true rfl) (Nat.le_of_ble_eq_true rfl) (⟨by rw [own_sl]; simp only [hc10, hc22, hc34, if_true, if_false], rfl⟩)
      · refine own_iconst C X own_d5_37 (v := 3) (by decide) (pc' := 38) rfl ?_
        refine own_istoreN C X own_d5_38 (L' := #[.val (.int b), .val (.int (b &&& (255 : Int32))), .val (.int (3 : Int32))]) rfl (pc' := 39) rfl ?_
        refine own_goto C X own_d5_39 (pc' := 44) (by decide) (by decide) ?_
        refine own_iloadN C X own_d5_44 rfl (pc' := 45) rfl ?_
        exact own_ireturn C X own_d5_45 (Nat.le_of_ble_eq_true rfl) (Nat.le_of_ble_eq_true rfl) (⟨by rw [own_sl]; simp only [hc10, hc22, hc34, if_true, if_false], rfl⟩)
    · refine own_iconst C X own_d5_25 (v := 2) (by decide) (pc' := 26) rfl ?_
      refine own_istoreN C X own_d5_26 (L' := #[.val (.int b), .val (.int (b &&& (255 : Int32))), .val (.int (2 : Int32))]) rfl (pc' := 27) rfl ?_
      refine own_goto C X own_d5_27 (pc' := 44) (by decide) (by decide) ?_
      refine own_iloadN C X own_d5_44 rfl (pc' := 45) rfl ?_
      exact own_ireturn C X own_d5_45 (Nat.le_of_ble_eq_true rfl) (Nat.le_of_ble_eq_true rfl) (⟨by rw [own_sl]; simp only [hc10, hc22, if_true, if_false], rfl⟩)
  · refine own_iconst C X own_d5_13 (v := 1) (by decide) (pc' := 14) rfl ?_
    refine own_istoreN C X own_d5_14 (L' := #[.val (.int b), .val (.int (b &&& (255 : Int32))), .val (.int (1 : Int32))]) rfl (pc' := 15) rfl ?_
    refine own_goto C X own_d5_15 (pc' := 44) (by decide) (by decide) ?_
    refine own_iloadN C X own_d5_44 rfl (pc' := 45) rfl ?_
    exact own_ireturn C X own_d5_45 (Nat.le_of_ble_eq_true rfl) (Nat.le_of_ble_eq_true rfl) (⟨by rw [own_sl]; simp only [hc10, if_true, if_false], rfl⟩)
def own_el (c : Int32) : Int32 := if c < 128 then 1 else if c < 2048 then 2 else if c < 65536 then 3 else 4
theorem own_ef_el (b : Int32) (m : MethodId) : entryFrame m #[(.int b)] 2 = mkF m 0 #[.val (.int b), .unset] [] := by first | (simp [entryFrame, mkF, argsToLocals, Value.category]; done) | rfl
theorem own_d1_0 : decode prog_248_method_10_code 0 = .ok (.iload_n 0, 1) := by decide +kernel
theorem own_d1_1 : decode prog_248_method_10_code 1 = .ok (.sipush 128, 3) := by decide +kernel
theorem own_d1_4 : decode prog_248_method_10_code 4 = .ok (.if_icmp .ge 8, 3) := by decide +kernel
theorem own_d1_12 : decode prog_248_method_10_code 12 = .ok (.iload_n 0, 1) := by decide +kernel
theorem own_d1_13 : decode prog_248_method_10_code 13 = .ok (.sipush 2048, 3) := by decide +kernel
theorem own_d1_16 : decode prog_248_method_10_code 16 = .ok (.if_icmp .ge 8, 3) := by decide +kernel
theorem own_d1_24 : decode prog_248_method_10_code 24 = .ok (.iload_n 0, 1) := by decide +kernel
theorem own_d1_25 : decode prog_248_method_10_code 25 = .ok (.ldc 113, 2) := by decide +kernel
theorem own_d1_27 : decode prog_248_method_10_code 27 = .ok (.if_icmp .ge 8, 3) := by decide +kernel
theorem own_d1_35 : decode prog_248_method_10_code 35 = .ok (.iconst 4, 1) := by decide +kernel
theorem own_d1_36 : decode prog_248_method_10_code 36 = .ok (.istore_n 1, 1) := by decide +kernel
theorem own_d1_37 : decode prog_248_method_10_code 37 = .ok (.iload_n 1, 1) := by decide +kernel
theorem own_d1_38 : decode prog_248_method_10_code 38 = .ok (.ireturn, 1) := by decide +kernel
theorem own_d1_30 : decode prog_248_method_10_code 30 = .ok (.iconst 3, 1) := by decide +kernel
theorem own_d1_31 : decode prog_248_method_10_code 31 = .ok (.istore_n 1, 1) := by decide +kernel
theorem own_d1_32 : decode prog_248_method_10_code 32 = .ok (.goto 5, 3) := by decide +kernel
theorem own_d1_19 : decode prog_248_method_10_code 19 = .ok (.iconst 2, 1) := by decide +kernel
theorem own_d1_20 : decode prog_248_method_10_code 20 = .ok (.istore_n 1, 1) := by decide +kernel
theorem own_d1_21 : decode prog_248_method_10_code 21 = .ok (.goto 16, 3) := by decide +kernel
theorem own_d1_7 : decode prog_248_method_10_code 7 = .ok (.iconst 1, 1) := by decide +kernel
theorem own_d1_8 : decode prog_248_method_10_code 8 = .ok (.istore_n 1, 1) := by decide +kernel
theorem own_d1_9 : decode prog_248_method_10_code 9 = .ok (.goto 28, 3) := by decide +kernel
set_option maxRecDepth 65536 in
set_option maxHeartbeats 40000000 in
theorem own_m_el (l : Launch) (Z : State) (a0 : Array Value) (hw : ∀ d ∈ tables_1, d.before a0 Z = true) (b : Int32) (h0 : Heap) (n0 : Nat) (hn0 : n0 ≤ h0.size)  : own_Met l Z n0 (⟨"com/example/termwell/termwell/store/Utf8", "encodedLength", "(I)I"⟩ : MethodName) prog_248_method_10_code 2 (some .int) [] ({ frames := 0, cells := 0, slots := 0, locals := 0 } : Room) #[(.int b)] h0 (fun v h => v = some (.int (own_el b)) ∧ h0 = h) := by
  refine own_body (plainFor_of_name own_pn_com_example_termwell_termwell_store_Utf8) hn0 (own_ef_el b) ?_
  intro p e s m below meth c T C X
  refine own_iloadN C X own_d1_0 rfl (pc' := 1) rfl ?_
  refine own_sipush C X own_d1_1 (v := 128) (by decide) (pc' := 4) rfl ?_
  refine own_icmp_ge C X own_d1_4 (pcT := 12) (pc' := 7) (by decide) (by decide) rfl (fun hc4 => ?_) (fun hc4 => ?_)
  · refine own_iloadN C X own_d1_12 rfl (pc' := 13) rfl ?_
    refine own_sipush C X own_d1_13 (v := 2048) (by decide) (pc' := 16) rfl ?_
    refine own_icmp_ge C X own_d1_16 (pcT := 24) (pc' := 19) (by decide) (by decide) rfl (fun hc16 => ?_) (fun hc16 => ?_)
    · refine own_iloadN C X own_d1_24 rfl (pc' := 25) rfl ?_
      refine own_ldcI C X own_d1_25 (hw _ (List.mem_of_getElem? (i := 20) rfl)) (pc' := 27) rfl ?_
      refine own_icmp_ge C X own_d1_27 (pcT := 35) (pc' := 30) (by decide) (by decide) rfl (fun hc27 => ?_) (fun hc27 => ?_)
      · refine own_iconst C X own_d1_35 (v := 4) (by decide) (pc' := 36) rfl ?_
        refine own_istoreN C X own_d1_36 (L' := #[.val (.int b), .val (.int (4 : Int32))]) rfl (pc' := 37) rfl ?_
        refine own_iloadN C X own_d1_37 rfl (pc' := 38) rfl ?_
        exact own_ireturn C X own_d1_38 (Nat.le_of_ble_eq_true rfl) (Nat.le_of_ble_eq_true rfl) (⟨by rw [own_el]; simp only [hc4, hc16, hc27, if_true, if_false], rfl⟩)
      · refine own_iconst C X own_d1_30 (v := 3) (by decide) (pc' := 31) rfl ?_
        refine own_istoreN C X own_d1_31 (L' := #[.val (.int b), .val (.int (3 : Int32))]) rfl (pc' := 32) rfl ?_
        refine own_goto C X own_d1_32 (pc' := 37) (by decide) (by decide) ?_
        refine own_iloadN C X own_d1_37 rfl (pc' := 38) rfl ?_
        exact own_ireturn C X own_d1_38 (Nat.le_of_ble_eq_true rfl) (Nat.le_of_ble_eq_true rfl) (⟨by rw [own_el]; simp only [hc4, hc16, hc27, if_true, if_false], rfl⟩)
    · refine own_iconst C X own_d1_19 (v := 2) (by decide) (pc' := 20) rfl ?_
      refine own_istoreN C X own_d1_20 (L' := #[.val (.int b), .val (.int (2 : Int32))]) rfl (pc' := 21) rfl ?_
      refine own_goto C X own_d1_21 (pc' := 37) (by decide) (by decide) ?_
      refine own_iloadN C X own_d1_37 rfl (pc' := 38) rfl ?_
      exact own_ireturn C X own_d1_38 (Nat.le_of_ble_eq_true rfl) (Nat.le_of_ble_eq_true rfl) (⟨by rw [own_el]; simp only [hc4, hc16, if_true, if_false], rfl⟩)
  · refine own_iconst C X own_d1_7 (v := 1) (by decide) (pc' := 8) rfl ?_
    refine own_istoreN C X own_d1_8 (L' := #[.val (.int b), .val (.int (1 : Int32))]) rfl (pc' := 9) rfl ?_
    refine own_goto C X own_d1_9 (pc' := 37) (by decide) (by decide) ?_
    refine own_iloadN C X own_d1_37 rfl (pc' := 38) rfl ?_
    exact own_ireturn C X own_d1_38 (Nat.le_of_ble_eq_true rfl) (Nat.le_of_ble_eq_true rfl) (⟨by rw [own_el]; simp only [hc4, if_true, if_false], rfl⟩)
theorem own_el1 (c : Int32) (q1 : c < 128) : own_el c = 1 := by rw [own_el]; simp only [q1, if_true, if_false]
theorem own_el2 (c : Int32) (q1 : ¬ c < 128) (q2 : c < 2048) : own_el c = 2 := by rw [own_el]; simp only [q1, q2, if_true, if_false]
theorem own_el3 (c : Int32) (q1 : ¬ c < 128) (q2 : ¬ c < 2048) (q3 : c < 65536) : own_el c = 3 := by rw [own_el]; simp only [q1, q2, q3, if_true, if_false]
theorem own_el4 (c : Int32) (q1 : ¬ c < 128) (q2 : ¬ c < 2048) (q3 : ¬ c < 65536) : own_el c = 4 := by rw [own_el]; simp only [q1, q2, q3, if_true, if_false]
theorem own_ef_enc1 (cv : Int32) (a : Addr) (o : Int32) (m : MethodId) : entryFrame m #[(.int cv), (.ref a), (.int o)] 4 = mkF m 0 #[.val (.int cv), .val (.ref a), .val (.int o), .unset] [] := by first | (simp [entryFrame, mkF, argsToLocals, Value.category]; done) | rfl
theorem own_d3_0 : decode prog_248_method_11_code 0 = .ok (.iload_n 2, 1) := by decide +kernel
theorem own_d3_1 : decode prog_248_method_11_code 1 = .ok (.istore_n 3, 1) := by decide +kernel
theorem own_d3_2 : decode prog_248_method_11_code 2 = .ok (.iload_n 0, 1) := by decide +kernel
theorem own_d3_3 : decode prog_248_method_11_code 3 = .ok (.sipush 128, 3) := by decide +kernel
theorem own_d3_6 : decode prog_248_method_11_code 6 = .ok (.if_icmp .ge 14, 3) := by decide +kernel
theorem own_d3_9 : decode prog_248_method_11_code 9 = .ok (.aload_n 1, 1) := by decide +kernel
theorem own_d3_10 : decode prog_248_method_11_code 10 = .ok (.iload_n 3, 1) := by decide +kernel
theorem own_d3_11 : decode prog_248_method_11_code 11 = .ok (.iinc 3 1, 3) := by decide +kernel
theorem own_d3_14 : decode prog_248_method_11_code 14 = .ok (.iload_n 0, 1) := by decide +kernel
theorem own_d3_15 : decode prog_248_method_11_code 15 = .ok (.i2b, 1) := by decide +kernel
theorem own_d3_16 : decode prog_248_method_11_code 16 = .ok (.bastore, 1) := by decide +kernel
theorem own_d3_17 : decode prog_248_method_11_code 17 = .ok (.goto 166, 3) := by decide +kernel
theorem own_d3_183 : decode prog_248_method_11_code 183 = .ok (.iload_n 3, 1) := by decide +kernel
theorem own_d3_184 : decode prog_248_method_11_code 184 = .ok (.ireturn, 1) := by decide +kernel
set_option maxRecDepth 65536 in
set_option maxHeartbeats 40000000 in
theorem own_m_enc1 (l : Launch) (Z : State) (a0 : Array Value) (hw : ∀ d ∈ tables_1, d.before a0 Z = true) (cv : Int32) (a : Addr) (o : Int32) (h0 : Heap) (n0 : Nat) (hn0 : n0 ≤ h0.size) (xs : List Int32) (k : Nat) (A : own_IA Z h0 a .byte xs) (hk : o.toInt = (k : Int)) (hl : k + 1 ≤ xs.length) (ge_a : n0 ≤ a) (r : Int32) (hr : (o + (1 : Int32)) = r) (q1 : cv < 128) : own_Met l Z n0 (⟨"com/example/termwell/termwell/store/Utf8", "encode", "(I[BI)I"⟩ : MethodName) prog_248_method_11_code 4 (some .int) [] ({ frames := 0, cells := 0, slots := 0, locals := 0 } : Room) #[(.int cv), (.ref a), (.int o)] h0 (fun v h => v = some (.int r) ∧ Keep h0 h [a] ∧ own_IA Z h a .byte (List.set xs (k) cv.toInt8.toInt32)) := by
  refine own_body (plainFor_of_name own_pn_com_example_termwell_termwell_store_Utf8) hn0 (own_ef_enc1 cv a o) ?_
  intro p e s m below meth c T C X
  have KK := Keep.refl h0 [a]
  have hB : k + 1 < 2 ^ 31 := Nat.lt_of_le_of_lt hl (by obtain ⟨_, _, _, q, _⟩ := A; exact q)
  refine own_iloadN C X own_d3_0 rfl (pc' := 1) rfl ?_
  refine own_istoreN C X own_d3_1 (L' := #[.val (.int cv), .val (.ref a), .val (.int o), .val (.int o)]) rfl (pc' := 2) rfl ?_
  refine own_iloadN C X own_d3_2 rfl (pc' := 3) rfl ?_
  refine own_sipush C X own_d3_3 (v := 128) (by decide) (pc' := 6) rfl ?_
  refine own_icmp_ge C X own_d3_6 (pcT := 20) (pc' := 9) (by decide) (by decide) rfl (fun hc6 => absurd hc6 (not_not_intro q1)) (fun hc6 => ?_)
  refine own_aloadN C X own_d3_9 rfl rfl (pc' := 10) rfl ?_
  refine own_iloadN C X own_d3_10 rfl (pc' := 11) rfl ?_
  refine own_iinc C X own_d3_11 rfl (d := 1) (by decide) rfl (L' := #[.val (.int cv), .val (.ref a), .val (.int o), .val (.int (o + (1 : Int32)))]) rfl (pc' := 14) rfl ?_
  refine own_iloadN C X own_d3_14 rfl (pc' := 15) rfl ?_
  refine own_i2b C X own_d3_15 rfl (pc' := 16) rfl ?_
  refine own_bastore C X own_d3_16 A hk (i := k) (by first | omega | (simp only [List.length_set]; omega)) (own_i2b2 _) ge_a (pc' := 17) rfl ?_
  intro T h X K_ A_
  have A : own_IA Z h a .byte (List.set xs (k) cv.toInt8.toInt32) := A_
  have KK := KK.trans K_ (allS (Or.inl (by simp)) all0)
  refine own_goto C X own_d3_17 (pc' := 183) (by decide) (by decide) ?_
  refine own_iloadN C X own_d3_183 rfl (pc' := 184) rfl ?_
  exact own_ireturn C X own_d3_184 (Nat.le_of_ble_eq_true rfl) (Nat.le_of_ble_eq_true rfl) (⟨congrArg (fun z => some (Value.int z)) hr, KK, A⟩)
theorem own_ef_enc2 (cv : Int32) (a : Addr) (o : Int32) (m : MethodId) : entryFrame m #[(.int cv), (.ref a), (.int o)] 4 = mkF m 0 #[.val (.int cv), .val (.ref a), .val (.int o), .unset] [] := by first | (simp [entryFrame, mkF, argsToLocals, Value.category]; done) | rfl
theorem own_d3_20 : decode prog_248_method_11_code 20 = .ok (.iload_n 0, 1) := by decide +kernel
theorem own_d3_21 : decode prog_248_method_11_code 21 = .ok (.sipush 2048, 3) := by decide +kernel
theorem own_d3_24 : decode prog_248_method_11_code 24 = .ok (.if_icmp .ge 36, 3) := by decide +kernel
theorem own_d3_27 : decode prog_248_method_11_code 27 = .ok (.aload_n 1, 1) := by decide +kernel
theorem own_d3_28 : decode prog_248_method_11_code 28 = .ok (.iload_n 3, 1) := by decide +kernel
theorem own_d3_29 : decode prog_248_method_11_code 29 = .ok (.iinc 3 1, 3) := by decide +kernel
theorem own_d3_32 : decode prog_248_method_11_code 32 = .ok (.sipush 192, 3) := by decide +kernel
theorem own_d3_35 : decode prog_248_method_11_code 35 = .ok (.iload_n 0, 1) := by decide +kernel
theorem own_d3_36 : decode prog_248_method_11_code 36 = .ok (.bipush 6, 2) := by decide +kernel
theorem own_d3_38 : decode prog_248_method_11_code 38 = .ok (.iushr, 1) := by decide +kernel
theorem own_d3_39 : decode prog_248_method_11_code 39 = .ok (.ior, 1) := by decide +kernel
theorem own_d3_40 : decode prog_248_method_11_code 40 = .ok (.i2b, 1) := by decide +kernel
theorem own_d3_41 : decode prog_248_method_11_code 41 = .ok (.bastore, 1) := by decide +kernel
theorem own_d3_42 : decode prog_248_method_11_code 42 = .ok (.aload_n 1, 1) := by decide +kernel
theorem own_d3_43 : decode prog_248_method_11_code 43 = .ok (.iload_n 3, 1) := by decide +kernel
theorem own_d3_44 : decode prog_248_method_11_code 44 = .ok (.iinc 3 1, 3) := by decide +kernel
theorem own_d3_47 : decode prog_248_method_11_code 47 = .ok (.sipush 128, 3) := by decide +kernel
theorem own_d3_50 : decode prog_248_method_11_code 50 = .ok (.iload_n 0, 1) := by decide +kernel
theorem own_d3_51 : decode prog_248_method_11_code 51 = .ok (.bipush 63, 2) := by decide +kernel
theorem own_d3_53 : decode prog_248_method_11_code 53 = .ok (.iand, 1) := by decide +kernel
theorem own_d3_54 : decode prog_248_method_11_code 54 = .ok (.ior, 1) := by decide +kernel
theorem own_d3_55 : decode prog_248_method_11_code 55 = .ok (.i2b, 1) := by decide +kernel
theorem own_d3_56 : decode prog_248_method_11_code 56 = .ok (.bastore, 1) := by decide +kernel
theorem own_d3_57 : decode prog_248_method_11_code 57 = .ok (.goto 126, 3) := by decide +kernel
set_option maxRecDepth 65536 in
set_option maxHeartbeats 40000000 in
theorem own_m_enc2 (l : Launch) (Z : State) (a0 : Array Value) (hw : ∀ d ∈ tables_1, d.before a0 Z = true) (cv : Int32) (a : Addr) (o : Int32) (h0 : Heap) (n0 : Nat) (hn0 : n0 ≤ h0.size) (xs : List Int32) (k : Nat) (A : own_IA Z h0 a .byte xs) (hk : o.toInt = (k : Int)) (hl : k + 2 ≤ xs.length) (ge_a : n0 ≤ a) (r : Int32) (hr : ((o + (1 : Int32)) + (1 : Int32)) = r) (q1 : ¬ cv < 128) (q2 : cv < 2048) : own_Met l Z n0 (⟨"com/example/termwell/termwell/store/Utf8", "encode", "(I[BI)I"⟩ : MethodName) prog_248_method_11_code 4 (some .int) [] ({ frames := 0, cells := 0, slots := 0, locals := 0 } : Room) #[(.int cv), (.ref a), (.int o)] h0 (fun v h => v = some (.int r) ∧ Keep h0 h [a] ∧ own_IA Z h a .byte (List.set (List.set xs (k) ((192 : Int32) ||| ((cv.toUInt32 >>> ((6 : Int32) &&& 31).toUInt32).toInt32)).toInt8.toInt32) (k + 1) ((128 : Int32) ||| (cv &&& (63 : Int32))).toInt8.toInt32)) := by
  refine own_body (plainFor_of_name own_pn_com_example_termwell_termwell_store_Utf8) hn0 (own_ef_enc2 cv a o) ?_
  intro p e s m below meth c T C X
  have KK := Keep.refl h0 [a]
  have hB : k + 2 < 2 ^ 31 := Nat.lt_of_le_of_lt hl (by obtain ⟨_, _, _, q, _⟩ := A; exact q)
  refine own_iloadN C X own_d3_0 rfl (pc' := 1) rfl ?_
  refine own_istoreN C X own_d3_1 (L' := #[.val (.int cv), .val (.ref a), .val (.int o), .val (.int o)]) rfl (pc' := 2) rfl ?_
  refine own_iloadN C X own_d3_2 rfl (pc' := 3) rfl ?_
  refine own_sipush C X own_d3_3 (v := 128) (by decide) (pc' := 6) rfl ?_
  refine own_icmp_ge C X own_d3_6 (pcT := 20) (pc' := 9) (by decide) (by decide) rfl (fun hc6 => ?_) (fun hc6 => absurd hc6 (q1))
  refine own_iloadN C X own_d3_20 rfl (pc' := 21) rfl ?_
  refine own_sipush C X own_d3_21 (v := 2048) (by decide) (pc' := 24) rfl ?_
  refine own_icmp_ge C X own_d3_24 (pcT := 60) (pc' := 27) (by decide) (by decide) rfl (fun hc24 => absurd hc24 (not_not_intro q2)) (fun hc24 => ?_)
  refine own_aloadN C X own_d3_27 rfl rfl (pc' := 28) rfl ?_
  refine own_iloadN C X own_d3_28 rfl (pc' := 29) rfl ?_
  refine own_iinc C X own_d3_29 rfl (d := 1) (by decide) rfl (L' := #[.val (.int cv), .val (.ref a), .val (.int o), .val (.int (o + (1 : Int32)))]) rfl (pc' := 32) rfl ?_
  refine own_sipush C X own_d3_32 (v := 192) (by decide) (pc' := 35) rfl ?_
  refine own_iloadN C X own_d3_35 rfl (pc' := 36) rfl ?_
  refine own_bipush C X own_d3_36 (v := 6) (by decide) (pc' := 38) rfl ?_
  refine own_iushr C X own_d3_38 rfl (pc' := 39) rfl ?_
  refine own_ior C X own_d3_39 rfl (pc' := 40) rfl ?_
  refine own_i2b C X own_d3_40 rfl (pc' := 41) rfl ?_
  refine own_bastore C X own_d3_41 A hk (i := k) (by first | omega | (simp only [List.length_set]; omega)) (own_i2b2 _) ge_a (pc' := 42) rfl ?_
  intro T h X K_ A_
  have A : own_IA Z h a .byte (List.set xs (k) ((192 : Int32) ||| ((cv.toUInt32 >>> ((6 : Int32) &&& 31).toUInt32).toInt32)).toInt8.toInt32) := A_
  have KK := KK.trans K_ (allS (Or.inl (by simp)) all0)
  refine own_aloadN C X own_d3_42 rfl rfl (pc' := 43) rfl ?_
  refine own_iloadN C X own_d3_43 rfl (pc' := 44) rfl ?_
  refine own_iinc C X own_d3_44 rfl (d := 1) (by decide) rfl (L' := #[.val (.int cv), .val (.ref a), .val (.int o), .val (.int ((o + (1 : Int32)) + (1 : Int32)))]) rfl (pc' := 47) rfl ?_
  refine own_sipush C X own_d3_47 (v := 128) (by decide) (pc' := 50) rfl ?_
  refine own_iloadN C X own_d3_50 rfl (pc' := 51) rfl ?_
  refine own_bipush C X own_d3_51 (v := 63) (by decide) (pc' := 53) rfl ?_
  refine own_iand C X own_d3_53 rfl (pc' := 54) rfl ?_
  refine own_ior C X own_d3_54 rfl (pc' := 55) rfl ?_
  refine own_i2b C X own_d3_55 rfl (pc' := 56) rfl ?_
  refine own_bastore C X own_d3_56 A (own_ixadd hk (by decide : (1 : Int32).toInt = ((1 : Nat) : Int)) (by omega)) (i := k + 1) (by first | omega | (simp only [List.length_set]; omega)) (own_i2b2 _) ge_a (pc' := 57) rfl ?_
  intro T h X K_ A_
  have A : own_IA Z h a .byte (List.set (List.set xs (k) ((192 : Int32) ||| ((cv.toUInt32 >>> ((6 : Int32) &&& 31).toUInt32).toInt32)).toInt8.toInt32) (k + 1) ((128 : Int32) ||| (cv &&& (63 : Int32))).toInt8.toInt32) := A_
  have KK := KK.trans K_ (allS (Or.inl (by simp)) all0)
  refine own_goto C X own_d3_57 (pc' := 183) (by decide) (by decide) ?_
  refine own_iloadN C X own_d3_183 rfl (pc' := 184) rfl ?_
  exact own_ireturn C X own_d3_184 (Nat.le_of_ble_eq_true rfl) (Nat.le_of_ble_eq_true rfl) (⟨congrArg (fun z => some (Value.int z)) hr, KK, A⟩)
theorem own_ef_enc3 (cv : Int32) (a : Addr) (o : Int32) (m : MethodId) : entryFrame m #[(.int cv), (.ref a), (.int o)] 4 = mkF m 0 #[.val (.int cv), .val (.ref a), .val (.int o), .unset] [] := by first | (simp [entryFrame, mkF, argsToLocals, Value.category]; done) | rfl
theorem own_d3_60 : decode prog_248_method_11_code 60 = .ok (.iload_n 0, 1) := by decide +kernel
theorem own_d3_61 : decode prog_248_method_11_code 61 = .ok (.ldc 113, 2) := by decide +kernel
theorem own_d3_63 : decode prog_248_method_11_code 63 = .ok (.if_icmp .ge 54, 3) := by decide +kernel
theorem own_d3_66 : decode prog_248_method_11_code 66 = .ok (.aload_n 1, 1) := by decide +kernel
theorem own_d3_67 : decode prog_248_method_11_code 67 = .ok (.iload_n 3, 1) := by decide +kernel
theorem own_d3_68 : decode prog_248_method_11_code 68 = .ok (.iinc 3 1, 3) := by decide +kernel
theorem own_d3_71 : decode prog_248_method_11_code 71 = .ok (.sipush 224, 3) := by decide +kernel
theorem own_d3_74 : decode prog_248_method_11_code 74 = .ok (.iload_n 0, 1) := by decide +kernel
theorem own_d3_75 : decode prog_248_method_11_code 75 = .ok (.bipush 12, 2) := by decide +kernel
theorem own_d3_77 : decode prog_248_method_11_code 77 = .ok (.iushr, 1) := by decide +kernel
theorem own_d3_78 : decode prog_248_method_11_code 78 = .ok (.ior, 1) := by decide +kernel
theorem own_d3_79 : decode prog_248_method_11_code 79 = .ok (.i2b, 1) := by decide +kernel
theorem own_d3_80 : decode prog_248_method_11_code 80 = .ok (.bastore, 1) := by decide +kernel
theorem own_d3_81 : decode prog_248_method_11_code 81 = .ok (.aload_n 1, 1) := by decide +kernel
theorem own_d3_82 : decode prog_248_method_11_code 82 = .ok (.iload_n 3, 1) := by decide +kernel
theorem own_d3_83 : decode prog_248_method_11_code 83 = .ok (.iinc 3 1, 3) := by decide +kernel
theorem own_d3_86 : decode prog_248_method_11_code 86 = .ok (.sipush 128, 3) := by decide +kernel
theorem own_d3_89 : decode prog_248_method_11_code 89 = .ok (.iload_n 0, 1) := by decide +kernel
theorem own_d3_90 : decode prog_248_method_11_code 90 = .ok (.bipush 6, 2) := by decide +kernel
theorem own_d3_92 : decode prog_248_method_11_code 92 = .ok (.iushr, 1) := by decide +kernel
theorem own_d3_93 : decode prog_248_method_11_code 93 = .ok (.bipush 63, 2) := by decide +kernel
theorem own_d3_95 : decode prog_248_method_11_code 95 = .ok (.iand, 1) := by decide +kernel
theorem own_d3_96 : decode prog_248_method_11_code 96 = .ok (.ior, 1) := by decide +kernel
theorem own_d3_97 : decode prog_248_method_11_code 97 = .ok (.i2b, 1) := by decide +kernel
theorem own_d3_98 : decode prog_248_method_11_code 98 = .ok (.bastore, 1) := by decide +kernel
theorem own_d3_99 : decode prog_248_method_11_code 99 = .ok (.aload_n 1, 1) := by decide +kernel
theorem own_d3_100 : decode prog_248_method_11_code 100 = .ok (.iload_n 3, 1) := by decide +kernel
theorem own_d3_101 : decode prog_248_method_11_code 101 = .ok (.iinc 3 1, 3) := by decide +kernel
theorem own_d3_104 : decode prog_248_method_11_code 104 = .ok (.sipush 128, 3) := by decide +kernel
theorem own_d3_107 : decode prog_248_method_11_code 107 = .ok (.iload_n 0, 1) := by decide +kernel
theorem own_d3_108 : decode prog_248_method_11_code 108 = .ok (.bipush 63, 2) := by decide +kernel
theorem own_d3_110 : decode prog_248_method_11_code 110 = .ok (.iand, 1) := by decide +kernel
theorem own_d3_111 : decode prog_248_method_11_code 111 = .ok (.ior, 1) := by decide +kernel
theorem own_d3_112 : decode prog_248_method_11_code 112 = .ok (.i2b, 1) := by decide +kernel
theorem own_d3_113 : decode prog_248_method_11_code 113 = .ok (.bastore, 1) := by decide +kernel
theorem own_d3_114 : decode prog_248_method_11_code 114 = .ok (.goto 69, 3) := by decide +kernel
set_option maxRecDepth 65536 in
set_option maxHeartbeats 40000000 in
theorem own_m_enc3 (l : Launch) (Z : State) (a0 : Array Value) (hw : ∀ d ∈ tables_1, d.before a0 Z = true) (cv : Int32) (a : Addr) (o : Int32) (h0 : Heap) (n0 : Nat) (hn0 : n0 ≤ h0.size) (xs : List Int32) (k : Nat) (A : own_IA Z h0 a .byte xs) (hk : o.toInt = (k : Int)) (hl : k + 3 ≤ xs.length) (ge_a : n0 ≤ a) (r : Int32) (hr : (((o + (1 : Int32)) + (1 : Int32)) + (1 : Int32)) = r) (q1 : ¬ cv < 128) (q2 : ¬ cv < 2048) (q3 : cv < 65536) : own_Met l Z n0 (⟨"com/example/termwell/termwell/store/Utf8", "encode", "(I[BI)I"⟩ : MethodName) prog_248_method_11_code 4 (some .int) [] ({ frames := 0, cells := 0, slots := 0, locals := 0 } : Room) #[(.int cv), (.ref a), (.int o)] h0 (fun v h => v = some (.int r) ∧ Keep h0 h [a] ∧ own_IA Z h a .byte (List.set (List.set (List.set xs (k) ((224 : Int32) ||| ((cv.toUInt32 >>> ((12 : Int32) &&& 31).toUInt32).toInt32)).toInt8.toInt32) (k + 1) ((128 : Int32) ||| (((cv.toUInt32 >>> ((6 : Int32) &&& 31).toUInt32).toInt32) &&& (63 : Int32))).toInt8.toInt32) (k + 1 + 1) ((128 : Int32) ||| (cv &&& (63 : Int32))).toInt8.toInt32)) := by
  refine own_body (plainFor_of_name own_pn_com_example_termwell_termwell_store_Utf8) hn0 (own_ef_enc3 cv a o) ?_
  intro p e s m below meth c T C X
  have KK := Keep.refl h0 [a]
  have hB : k + 3 < 2 ^ 31 := Nat.lt_of_le_of_lt hl (by obtain ⟨_, _, _, q, _⟩ := A; exact q)
  refine own_iloadN C X own_d3_0 rfl (pc' := 1) rfl ?_
  refine own_istoreN C X own_d3_1 (L' := #[.val (.int cv), .val (.ref a), .val (.int o), .val (.int o)]) rfl (pc' := 2) rfl ?_
  refine own_iloadN C X own_d3_2 rfl (pc' := 3) rfl ?_
  refine own_sipush C X own_d3_3 (v := 128) (by decide) (pc' := 6) rfl ?_
  refine own_icmp_ge C X own_d3_6 (pcT := 20) (pc' := 9) (by decide) (by decide) rfl (fun hc6 => ?_) (fun hc6 => absurd hc6 (q1))
  refine own_iloadN C X own_d3_20 rfl (pc' := 21) rfl ?_
  refine own_sipush C X own_d3_21 (v := 2048) (by decide) (pc' := 24) rfl ?_
  refine own_icmp_ge C X own_d3_24 (pcT := 60) (pc' := 27) (by decide) (by decide) rfl (fun hc24 => ?_) (fun hc24 => absurd hc24 (q2))
  refine own_iloadN C X own_d3_60 rfl (pc' := 61) rfl ?_
  refine own_ldcI C X own_d3_61 (hw _ (List.mem_of_getElem? (i := 20) rfl)) (pc' := 63) rfl ?_
  refine own_icmp_ge C X own_d3_63 (pcT := 117) (pc' := 66) (by decide) (by decide) rfl (fun hc63 => absurd hc63 (not_not_intro q3)) (fun hc63 => ?_)
  refine own_aloadN C X own_d3_66 rfl rfl (pc' := 67) rfl ?_
  refine own_iloadN C X own_d3_67 rfl (pc' := 68) rfl ?_
  refine own_iinc C X own_d3_68 rfl (d := 1) (by decide) rfl (L' := #[.val (.int cv), .val (.ref a), .val (.int o), .val (.int (o + (1 : Int32)))]) rfl (pc' := 71) rfl ?_
  refine own_sipush C X own_d3_71 (v := 224) (by decide) (pc' := 74) rfl ?_
  refine own_iloadN C X own_d3_74 rfl (pc' := 75) rfl ?_
  refine own_bipush C X own_d3_75 (v := 12) (by decide) (pc' := 77) rfl ?_
  refine own_iushr C X own_d3_77 rfl (pc' := 78) rfl ?_
  refine own_ior C X own_d3_78 rfl (pc' := 79) rfl ?_
  refine own_i2b C X own_d3_79 rfl (pc' := 80) rfl ?_
  refine own_bastore C X own_d3_80 A hk (i := k) (by first | omega | (simp only [List.length_set]; omega)) (own_i2b2 _) ge_a (pc' := 81) rfl ?_
  intro T h X K_ A_
  have A : own_IA Z h a .byte (List.set xs (k) ((224 : Int32) ||| ((cv.toUInt32 >>> ((12 : Int32) &&& 31).toUInt32).toInt32)).toInt8.toInt32) := A_
  have KK := KK.trans K_ (allS (Or.inl (by simp)) all0)
  refine own_aloadN C X own_d3_81 rfl rfl (pc' := 82) rfl ?_
  refine own_iloadN C X own_d3_82 rfl (pc' := 83) rfl ?_
  refine own_iinc C X own_d3_83 rfl (d := 1) (by decide) rfl (L' := #[.val (.int cv), .val (.ref a), .val (.int o), .val (.int ((o + (1 : Int32)) + (1 : Int32)))]) rfl (pc' := 86) rfl ?_
  refine own_sipush C X own_d3_86 (v := 128) (by decide) (pc' := 89) rfl ?_
  refine own_iloadN C X own_d3_89 rfl (pc' := 90) rfl ?_
  refine own_bipush C X own_d3_90 (v := 6) (by decide) (pc' := 92) rfl ?_
  refine own_iushr C X own_d3_92 rfl (pc' := 93) rfl ?_
  refine own_bipush C X own_d3_93 (v := 63) (by decide) (pc' := 95) rfl ?_
  refine own_iand C X own_d3_95 rfl (pc' := 96) rfl ?_
  refine own_ior C X own_d3_96 rfl (pc' := 97) rfl ?_
  refine own_i2b C X own_d3_97 rfl (pc' := 98) rfl ?_
  refine own_bastore C X own_d3_98 A (own_ixadd hk (by decide : (1 : Int32).toInt = ((1 : Nat) : Int)) (by omega)) (i := k + 1) (by first | omega | (simp only [List.length_set]; omega)) (own_i2b2 _) ge_a (pc' := 99) rfl ?_
  intro T h X K_ A_
  have A : own_IA Z h a .byte (List.set (List.set xs (k) ((224 : Int32) ||| ((cv.toUInt32 >>> ((12 : Int32) &&& 31).toUInt32).toInt32)).toInt8.toInt32) (k + 1) ((128 : Int32) ||| (((cv.toUInt32 >>> ((6 : Int32) &&& 31).toUInt32).toInt32) &&& (63 : Int32))).toInt8.toInt32) := A_
  have KK := KK.trans K_ (allS (Or.inl (by simp)) all0)
  refine own_aloadN C X own_d3_99 rfl rfl (pc' := 100) rfl ?_
  refine own_iloadN C X own_d3_100 rfl (pc' := 101) rfl ?_
  refine own_iinc C X own_d3_101 rfl (d := 1) (by decide) rfl (L' := #[.val (.int cv), .val (.ref a), .val (.int o), .val (.int (((o + (1 : Int32)) + (1 : Int32)) + (1 : Int32)))]) rfl (pc' := 104) rfl ?_
  refine own_sipush C X own_d3_104 (v := 128) (by decide) (pc' := 107) rfl ?_
  refine own_iloadN C X own_d3_107 rfl (pc' := 108) rfl ?_
  refine own_bipush C X own_d3_108 (v := 63) (by decide) (pc' := 110) rfl ?_
  refine own_iand C X own_d3_110 rfl (pc' := 111) rfl ?_
  refine own_ior C X own_d3_111 rfl (pc' := 112) rfl ?_
  refine own_i2b C X own_d3_112 rfl (pc' := 113) rfl ?_
  refine own_bastore C X own_d3_113 A (own_ixadd (own_ixadd hk (by decide : (1 : Int32).toInt = ((1 : Nat) : Int)) (by omega)) (by decide : (1 : Int32).toInt = ((1 : Nat) : Int)) (by omega)) (i := k + 1 + 1) (by first | omega | (simp only [List.length_set]; omega)) (own_i2b2 _) ge_a (pc' := 114) rfl ?_
  intro T h X K_ A_
  have A : own_IA Z h a .byte (List.set (List.set (List.set xs (k) ((224 : Int32) ||| ((cv.toUInt32 >>> ((12 : Int32) &&& 31).toUInt32).toInt32)).toInt8.toInt32) (k + 1) ((128 : Int32) ||| (((cv.toUInt32 >>> ((6 : Int32) &&& 31).toUInt32).toInt32) &&& (63 : Int32))).toInt8.toInt32) (k + 1 + 1) ((128 : Int32) ||| (cv &&& (63 : Int32))).toInt8.toInt32) := A_
  have KK := KK.trans K_ (allS (Or.inl (by simp)) all0)
  refine own_goto C X own_d3_114 (pc' := 183) (by decide) (by decide) ?_
  refine own_iloadN C X own_d3_183 rfl (pc' := 184) rfl ?_
  exact own_ireturn C X own_d3_184 (Nat.le_of_ble_eq_true rfl) (Nat.le_of_ble_eq_true rfl) (⟨congrArg (fun z => some (Value.int z)) hr, KK, A⟩)
theorem own_ef_enc4 (cv : Int32) (a : Addr) (o : Int32) (m : MethodId) : entryFrame m #[(.int cv), (.ref a), (.int o)] 4 = mkF m 0 #[.val (.int cv), .val (.ref a), .val (.int o), .unset] [] := by first | (simp [entryFrame, mkF, argsToLocals, Value.category]; done) | rfl
theorem own_d3_117 : decode prog_248_method_11_code 117 = .ok (.aload_n 1, 1) := by decide +kernel
theorem own_d3_118 : decode prog_248_method_11_code 118 = .ok (.iload_n 3, 1) := by decide +kernel
theorem own_d3_119 : decode prog_248_method_11_code 119 = .ok (.iinc 3 1, 3) := by decide +kernel
theorem own_d3_122 : decode prog_248_method_11_code 122 = .ok (.sipush 240, 3) := by decide +kernel
theorem own_d3_125 : decode prog_248_method_11_code 125 = .ok (.iload_n 0, 1) := by decide +kernel
theorem own_d3_126 : decode prog_248_method_11_code 126 = .ok (.bipush 18, 2) := by decide +kernel
theorem own_d3_128 : decode prog_248_method_11_code 128 = .ok (.iushr, 1) := by decide +kernel
theorem own_d3_129 : decode prog_248_method_11_code 129 = .ok (.ior, 1) := by decide +kernel
theorem own_d3_130 : decode prog_248_method_11_code 130 = .ok (.i2b, 1) := by decide +kernel
theorem own_d3_131 : decode prog_248_method_11_code 131 = .ok (.bastore, 1) := by decide +kernel
theorem own_d3_132 : decode prog_248_method_11_code 132 = .ok (.aload_n 1, 1) := by decide +kernel
theorem own_d3_133 : decode prog_248_method_11_code 133 = .ok (.iload_n 3, 1) := by decide +kernel
theorem own_d3_134 : decode prog_248_method_11_code 134 = .ok (.iinc 3 1, 3) := by decide +kernel
theorem own_d3_137 : decode prog_248_method_11_code 137 = .ok (.sipush 128, 3) := by decide +kernel
theorem own_d3_140 : decode prog_248_method_11_code 140 = .ok (.iload_n 0, 1) := by decide +kernel
theorem own_d3_141 : decode prog_248_method_11_code 141 = .ok (.bipush 12, 2) := by decide +kernel
theorem own_d3_143 : decode prog_248_method_11_code 143 = .ok (.iushr, 1) := by decide +kernel
theorem own_d3_144 : decode prog_248_method_11_code 144 = .ok (.bipush 63, 2) := by decide +kernel
theorem own_d3_146 : decode prog_248_method_11_code 146 = .ok (.iand, 1) := by decide +kernel
theorem own_d3_147 : decode prog_248_method_11_code 147 = .ok (.ior, 1) := by decide +kernel
theorem own_d3_148 : decode prog_248_method_11_code 148 = .ok (.i2b, 1) := by decide +kernel
theorem own_d3_149 : decode prog_248_method_11_code 149 = .ok (.bastore, 1) := by decide +kernel
theorem own_d3_150 : decode prog_248_method_11_code 150 = .ok (.aload_n 1, 1) := by decide +kernel
theorem own_d3_151 : decode prog_248_method_11_code 151 = .ok (.iload_n 3, 1) := by decide +kernel
theorem own_d3_152 : decode prog_248_method_11_code 152 = .ok (.iinc 3 1, 3) := by decide +kernel
theorem own_d3_155 : decode prog_248_method_11_code 155 = .ok (.sipush 128, 3) := by decide +kernel
theorem own_d3_158 : decode prog_248_method_11_code 158 = .ok (.iload_n 0, 1) := by decide +kernel
theorem own_d3_159 : decode prog_248_method_11_code 159 = .ok (.bipush 6, 2) := by decide +kernel
theorem own_d3_161 : decode prog_248_method_11_code 161 = .ok (.iushr, 1) := by decide +kernel
theorem own_d3_162 : decode prog_248_method_11_code 162 = .ok (.bipush 63, 2) := by decide +kernel
theorem own_d3_164 : decode prog_248_method_11_code 164 = .ok (.iand, 1) := by decide +kernel
theorem own_d3_165 : decode prog_248_method_11_code 165 = .ok (.ior, 1) := by decide +kernel
theorem own_d3_166 : decode prog_248_method_11_code 166 = .ok (.i2b, 1) := by decide +kernel
theorem own_d3_167 : decode prog_248_method_11_code 167 = .ok (.bastore, 1) := by decide +kernel
theorem own_d3_168 : decode prog_248_method_11_code 168 = .ok (.aload_n 1, 1) := by decide +kernel
theorem own_d3_169 : decode prog_248_method_11_code 169 = .ok (.iload_n 3, 1) := by decide +kernel
theorem own_d3_170 : decode prog_248_method_11_code 170 = .ok (.iinc 3 1, 3) := by decide +kernel
theorem own_d3_173 : decode prog_248_method_11_code 173 = .ok (.sipush 128, 3) := by decide +kernel
theorem own_d3_176 : decode prog_248_method_11_code 176 = .ok (.iload_n 0, 1) := by decide +kernel
theorem own_d3_177 : decode prog_248_method_11_code 177 = .ok (.bipush 63, 2) := by decide +kernel
theorem own_d3_179 : decode prog_248_method_11_code 179 = .ok (.iand, 1) := by decide +kernel
theorem own_d3_180 : decode prog_248_method_11_code 180 = .ok (.ior, 1) := by decide +kernel
theorem own_d3_181 : decode prog_248_method_11_code 181 = .ok (.i2b, 1) := by decide +kernel
theorem own_d3_182 : decode prog_248_method_11_code 182 = .ok (.bastore, 1) := by decide +kernel
set_option maxRecDepth 65536 in
set_option maxHeartbeats 40000000 in
theorem own_m_enc4 (l : Launch) (Z : State) (a0 : Array Value) (hw : ∀ d ∈ tables_1, d.before a0 Z = true) (cv : Int32) (a : Addr) (o : Int32) (h0 : Heap) (n0 : Nat) (hn0 : n0 ≤ h0.size) (xs : List Int32) (k : Nat) (A : own_IA Z h0 a .byte xs) (hk : o.toInt = (k : Int)) (hl : k + 4 ≤ xs.length) (ge_a : n0 ≤ a) (r : Int32) (hr : ((((o + (1 : Int32)) + (1 : Int32)) + (1 : Int32)) + (1 : Int32)) = r) (q1 : ¬ cv < 128) (q2 : ¬ cv < 2048) (q3 : ¬ cv < 65536) : own_Met l Z n0 (⟨"com/example/termwell/termwell/store/Utf8", "encode", "(I[BI)I"⟩ : MethodName) prog_248_method_11_code 4 (some .int) [] ({ frames := 0, cells := 0, slots := 0, locals := 0 } : Room) #[(.int cv), (.ref a), (.int o)] h0 (fun v h => v = some (.int r) ∧ Keep h0 h [a] ∧ own_IA Z h a .byte (List.set (List.set (List.set (List.set xs (k) ((240 : Int32) ||| ((cv.toUInt32 >>> ((18 : Int32) &&& 31).toUInt32).toInt32)).toInt8.toInt32) (k + 1) ((128 : Int32) ||| (((cv.toUInt32 >>> ((12 : Int32) &&& 31).toUInt32).toInt32) &&& (63 : Int32))).toInt8.toInt32) (k + 1 + 1) ((128 : Int32) ||| (((cv.toUInt32 >>> ((6 : Int32) &&& 31).toUInt32).toInt32) &&& (63 : Int32))).toInt8.toInt32) (k + 1 + 1 + 1) ((128 : Int32) ||| (cv &&& (63 : Int32))).toInt8.toInt32)) := by
  refine own_body (plainFor_of_name own_pn_com_example_termwell_termwell_store_Utf8) hn0 (own_ef_enc4 cv a o) ?_
  intro p e s m below meth c T C X
  have KK := Keep.refl h0 [a]
  have hB : k + 4 < 2 ^ 31 := Nat.lt_of_le_of_lt hl (by obtain ⟨_, _, _, q, _⟩ := A; exact q)
  refine own_iloadN C X own_d3_0 rfl (pc' := 1) rfl ?_
  refine own_istoreN C X own_d3_1 (L' := #[.val (.int cv), .val (.ref a), .val (.int o), .val (.int o)]) rfl (pc' := 2) rfl ?_
  refine own_iloadN C X own_d3_2 rfl (pc' := 3) rfl ?_
  refine own_sipush C X own_d3_3 (v := 128) (by decide) (pc' := 6) rfl ?_
  refine own_icmp_ge C X own_d3_6 (pcT := 20) (pc' := 9) (by decide) (by decide) rfl (fun hc6 => ?_) (fun hc6 => absurd hc6 (q1))
  refine own_iloadN C X own_d3_20 rfl (pc' := 21) rfl ?_
  refine own_sipush C X own_d3_21 (v := 2048) (by decide) (pc' := 24) rfl ?_
  refine own_icmp_ge C X own_d3_24 (pcT := 60) (pc' := 27) (by decide) (by decide) rfl (fun hc24 => ?_) (fun hc24 => absurd hc24 (q2))
  refine own_iloadN C X own_d3_60 rfl (pc' := 61) rfl ?_
  refine own_ldcI C X own_d3_61 (hw _ (List.mem_of_getElem? (i := 20) rfl)) (pc' := 63) rfl ?_
  refine own_icmp_ge C X own_d3_63 (pcT := 117) (pc' := 66) (by decide) (by decide) rfl (fun hc63 => ?_) (fun hc63 => absurd hc63 (q3))
  refine own_aloadN C X own_d3_117 rfl rfl (pc' := 118) rfl ?_
  refine own_iloadN C X own_d3_118 rfl (pc' := 119) rfl ?_
  refine own_iinc C X own_d3_119 rfl (d := 1) (by decide) rfl (L' := #[.val (.int cv), .val (.ref a), .val (.int o), .val (.int (o + (1 : Int32)))]) rfl (pc' := 122) rfl ?_
  refine own_sipush C X own_d3_122 (v := 240) (by decide) (pc' := 125) rfl ?_
  refine own_iloadN C X own_d3_125 rfl (pc' := 126) rfl ?_
  refine own_bipush C X own_d3_126 (v := 18) (by decide) (pc' := 128) rfl ?_
  refine own_iushr C X own_d3_128 rfl (pc' := 129) rfl ?_
  refine own_ior C X own_d3_129 rfl (pc' := 130) rfl ?_
  refine own_i2b C X own_d3_130 rfl (pc' := 131) rfl ?_
  refine own_bastore C X own_d3_131 A hk (i := k) (by first | omega | (simp only [List.length_set]; omega)) (own_i2b2 _) ge_a (pc' := 132) rfl ?_
  intro T h X K_ A_
  have A : own_IA Z h a .byte (List.set xs (k) ((240 : Int32) ||| ((cv.toUInt32 >>> ((18 : Int32) &&& 31).toUInt32).toInt32)).toInt8.toInt32) := A_
  have KK := KK.trans K_ (allS (Or.inl (by simp)) all0)
  refine own_aloadN C X own_d3_132 rfl rfl (pc' := 133) rfl ?_
  refine own_iloadN C X own_d3_133 rfl (pc' := 134) rfl ?_
  refine own_iinc C X own_d3_134 rfl (d := 1) (by decide) rfl (L' := #[.val (.int cv), .val (.ref a), .val (.int o), .val (.int ((o + (1 : Int32)) + (1 : Int32)))]) rfl (pc' := 137) rfl ?_
  refine own_sipush C X own_d3_137 (v := 128) (by decide) (pc' := 140) rfl ?_
  refine own_iloadN C X own_d3_140 rfl (pc' := 141) rfl ?_
  refine own_bipush C X own_d3_141 (v := 12) (by decide) (pc' := 143) rfl ?_
  refine own_iushr C X own_d3_143 rfl (pc' := 144) rfl ?_
  refine own_bipush C X own_d3_144 (v := 63) (by decide) (pc' := 146) rfl ?_
  refine own_iand C X own_d3_146 rfl (pc' := 147) rfl ?_
  refine own_ior C X own_d3_147 rfl (pc' := 148) rfl ?_
  refine own_i2b C X own_d3_148 rfl (pc' := 149) rfl ?_
  refine own_bastore C X own_d3_149 A (own_ixadd hk (by decide : (1 : Int32).toInt = ((1 : Nat) : Int)) (by omega)) (i := k + 1) (by first | omega | (simp only [List.length_set]; omega)) (own_i2b2 _) ge_a (pc' := 150) rfl ?_
  intro T h X K_ A_
  have A : own_IA Z h a .byte (List.set (List.set xs (k) ((240 : Int32) ||| ((cv.toUInt32 >>> ((18 : Int32) &&& 31).toUInt32).toInt32)).toInt8.toInt32) (k + 1) ((128 : Int32) ||| (((cv.toUInt32 >>> ((12 : Int32) &&& 31).toUInt32).toInt32) &&& (63 : Int32))).toInt8.toInt32) := A_
  have KK := KK.trans K_ (allS (Or.inl (by simp)) all0)
  refine own_aloadN C X own_d3_150 rfl rfl (pc' := 151) rfl ?_
  refine own_iloadN C X own_d3_151 rfl (pc' := 152) rfl ?_
  refine own_iinc C X own_d3_152 rfl (d := 1) (by decide) rfl (L' := #[.val (.int cv), .val (.ref a), .val (.int o), .val (.int (((o + (1 : Int32)) + (1 : Int32)) + (1 : Int32)))]) rfl (pc' := 155) rfl ?_
  refine own_sipush C X own_d3_155 (v := 128) (by decide) (pc' := 158) rfl ?_
  refine own_iloadN C X own_d3_158 rfl (pc' := 159) rfl ?_
  refine own_bipush C X own_d3_159 (v := 6) (by decide) (pc' := 161) rfl ?_
  refine own_iushr C X own_d3_161 rfl (pc' := 162) rfl ?_
  refine own_bipush C X own_d3_162 (v := 63) (by decide) (pc' := 164) rfl ?_
  refine own_iand C X own_d3_164 rfl (pc' := 165) rfl ?_
  refine own_ior C X own_d3_165 rfl (pc' := 166) rfl ?_
  refine own_i2b C X own_d3_166 rfl (pc' := 167) rfl ?_
  refine own_bastore C X own_d3_167 A (own_ixadd (own_ixadd hk (by decide : (1 : Int32).toInt = ((1 : Nat) : Int)) (by omega)) (by decide : (1 : Int32).toInt = ((1 : Nat) : Int)) (by omega)) (i := k + 1 + 1) (by first | omega | (simp only [List.length_set]; omega)) (own_i2b2 _) ge_a (pc' := 168) rfl ?_
  intro T h X K_ A_
  have A : own_IA Z h a .byte (List.set (List.set (List.set xs (k) ((240 : Int32) ||| ((cv.toUInt32 >>> ((18 : Int32) &&& 31).toUInt32).toInt32)).toInt8.toInt32) (k + 1) ((128 : Int32) ||| (((cv.toUInt32 >>> ((12 : Int32) &&& 31).toUInt32).toInt32) &&& (63 : Int32))).toInt8.toInt32) (k + 1 + 1) ((128 : Int32) ||| (((cv.toUInt32 >>> ((6 : Int32) &&& 31).toUInt32).toInt32) &&& (63 : Int32))).toInt8.toInt32) := A_
  have KK := KK.trans K_ (allS (Or.inl (by simp)) all0)
  refine own_aloadN C X own_d3_168 rfl rfl (pc' := 169) rfl ?_
  refine own_iloadN C X own_d3_169 rfl (pc' := 170) rfl ?_
  refine own_iinc C X own_d3_170 rfl (d := 1) (by decide) rfl (L' := #[.val (.int cv), .val (.ref a), .val (.int o), .val (.int ((((o + (1 : Int32)) + (1 : Int32)) + (1 : Int32)) + (1 : Int32)))]) rfl (pc' := 173) rfl ?_
  refine own_sipush C X own_d3_173 (v := 128) (by decide) (pc' := 176) rfl ?_
  refine own_iloadN C X own_d3_176 rfl (pc' := 177) rfl ?_
  refine own_bipush C X own_d3_177 (v := 63) (by decide) (pc' := 179) rfl ?_
  refine own_iand C X own_d3_179 rfl (pc' := 180) rfl ?_
  refine own_ior C X own_d3_180 rfl (pc' := 181) rfl ?_
  refine own_i2b C X own_d3_181 rfl (pc' := 182) rfl ?_
  refine own_bastore C X own_d3_182 A (own_ixadd (own_ixadd (own_ixadd hk (by decide : (1 : Int32).toInt = ((1 : Nat) : Int)) (by omega)) (by decide : (1 : Int32).toInt = ((1 : Nat) : Int)) (by omega)) (by decide : (1 : Int32).toInt = ((1 : Nat) : Int)) (by omega)) (i := k + 1 + 1 + 1) (by first | omega | (simp only [List.length_set]; omega)) (own_i2b2 _) ge_a (pc' := 183) rfl ?_
  intro T h X K_ A_
  have A : own_IA Z h a .byte (List.set (List.set (List.set (List.set xs (k) ((240 : Int32) ||| ((cv.toUInt32 >>> ((18 : Int32) &&& 31).toUInt32).toInt32)).toInt8.toInt32) (k + 1) ((128 : Int32) ||| (((cv.toUInt32 >>> ((12 : Int32) &&& 31).toUInt32).toInt32) &&& (63 : Int32))).toInt8.toInt32) (k + 1 + 1) ((128 : Int32) ||| (((cv.toUInt32 >>> ((6 : Int32) &&& 31).toUInt32).toInt32) &&& (63 : Int32))).toInt8.toInt32) (k + 1 + 1 + 1) ((128 : Int32) ||| (cv &&& (63 : Int32))).toInt8.toInt32) := A_
  have KK := KK.trans K_ (allS (Or.inl (by simp)) all0)
  refine own_iloadN C X own_d3_183 rfl (pc' := 184) rfl ?_
  exact own_ireturn C X own_d3_184 (Nat.le_of_ble_eq_true rfl) (Nat.le_of_ble_eq_true rfl) (⟨congrArg (fun z => some (Value.int z)) hr, KK, A⟩)
theorem own_pn_com_example_termwell_termwell_store_Utf8EncodedLengthPinLaw : plainName "com/example/termwell/termwell/store/Utf8EncodedLengthPinLaw" = true := by first | (simp [plainName, overriddenIn]; done) | decide +kernel
theorem own_ef_pb (n : Int32) (m : MethodId) : entryFrame m #[(.int n)] 1 = mkF m 0 #[.val (.int n)] [] := by first | (simp [entryFrame, mkF, argsToLocals, Value.category]; done) | rfl
theorem own_d2_0 : decode method_2_code 0 = .ok (.iload_n 0, 1) := by decide +kernel
theorem own_d2_1 : decode method_2_code 1 = .ok (.iconst 1, 1) := by decide +kernel
theorem own_d2_2 : decode method_2_code 2 = .ok (.if_icmp .ne 8, 3) := by decide +kernel
theorem own_d2_10 : decode method_2_code 10 = .ok (.iconst 5, 1) := by decide +kernel
theorem own_d2_11 : decode method_2_code 11 = .ok (.iload_n 0, 1) := by decide +kernel
theorem own_d2_12 : decode method_2_code 12 = .ok (.imul, 1) := by decide +kernel
theorem own_d2_13 : decode method_2_code 13 = .ok (.iconst 1, 1) := by decide +kernel
theorem own_d2_14 : decode method_2_code 14 = .ok (.iadd, 1) := by decide +kernel
theorem own_d2_15 : decode method_2_code 15 = .ok (.ireturn, 1) := by decide +kernel
theorem own_d2_5 : decode method_2_code 5 = .ok (.bipush 7, 2) := by decide +kernel
theorem own_d2_7 : decode method_2_code 7 = .ok (.goto 8, 3) := by decide +kernel
set_option maxRecDepth 65536 in
set_option maxHeartbeats 40000000 in
theorem own_m_pb (l : Launch) (Z : State) (a0 : Array Value) (hw : ∀ d ∈ tables_1, d.before a0 Z = true) (n : Int32) (h0 : Heap) (n0 : Nat) (hn0 : n0 ≤ h0.size) (r : Int32) (hr : own_pb n = r) : own_Met l Z n0 (⟨"com/example/termwell/termwell/store/Utf8EncodedLengthPinLaw", "payloadBits", "(I)I"⟩ : MethodName) method_2_code 1 (some .int) [] ({ frames := 0, cells := 0, slots := 0, locals := 0 } : Room) #[(.int n)] h0 (fun v h => v = some (.int r) ∧ h0 = h) := by
  refine own_body (plainFor_of_name own_pn_com_example_termwell_termwell_store_Utf8EncodedLengthPinLaw) hn0 (own_ef_pb n) ?_
  intro p e s m below meth c T C X
  refine own_iloadN C X own_d2_0 rfl (pc' := 1) rfl ?_
  refine own_iconst C X own_d2_1 (v := 1) (by decide) (pc' := 2) rfl ?_
  refine own_icmp_ne C X own_d2_2 (pcT := 10) (pc' := 5) (by decide) (by decide) rfl (fun hc2 => ?_) (fun hc2 => ?_)
  · refine own_iconst C X own_d2_10 (v := 5) (by decide) (pc' := 11) rfl ?_
    refine own_iloadN C X own_d2_11 rfl (pc' := 12) rfl ?_
    refine own_imul C X own_d2_12 rfl (pc' := 13) rfl ?_
    refine own_iconst C X own_d2_13 (v := 1) (by decide) (pc' := 14) rfl ?_
    refine own_iadd C X own_d2_14 rfl (pc' := 15) rfl ?_
    exact own_ireturn C X own_d2_15 (Nat.le_of_ble_eq_true rfl) (Nat.le_of_ble_eq_true rfl) (⟨by rw [← hr, own_pb]; simp only [hc2, if_true, if_false], rfl⟩)
  · refine own_bipush C X own_d2_5 (v := 7) (by decide) (pc' := 7) rfl ?_
    refine own_goto C X own_d2_7 (pc' := 15) (by decide) (by decide) ?_
    exact own_ireturn C X own_d2_15 (Nat.le_of_ble_eq_true rfl) (Nat.le_of_ble_eq_true rfl) (⟨by rw [← hr, own_pb]; simp only [hc2, if_true, if_false], rfl⟩)
theorem own_ef_ca1 (a : Addr) (m : MethodId) : entryFrame m #[(.ref a), (.int (0 : Int32)), (.int (1 : Int32))] 6 = mkF m 0 #[.val (.ref a), .val (.int (0 : Int32)), .val (.int (1 : Int32)), .unset, .unset, .unset] [] := by first | (simp [entryFrame, mkF, argsToLocals, Value.category]; done) | rfl
theorem own_d4_0 : decode prog_248_method_13_code 0 = .ok (.aload_n 0, 1) := by decide +kernel
theorem own_d4_1 : decode prog_248_method_13_code 1 = .ok (.iload_n 1, 1) := by decide +kernel
theorem own_d4_2 : decode prog_248_method_13_code 2 = .ok (.baload, 1) := by decide +kernel
theorem own_pd_1907 : parseMethodDescriptor "(B)I" = some ⟨[.byte], some .int⟩ := by decide +kernel
theorem own_d4_3 : decode prog_248_method_13_code 3 = .ok (.invokestatic 114, 3) := by decide +kernel
theorem own_d4_6 : decode prog_248_method_13_code 6 = .ok (.istore_n 3, 1) := by decide +kernel
theorem own_d4_7 : decode prog_248_method_13_code 7 = .ok (.iload_n 3, 1) := by decide +kernel
theorem own_d4_8 : decode prog_248_method_13_code 8 = .ok (.iconst 1, 1) := by decide +kernel
theorem own_d4_9 : decode prog_248_method_13_code 9 = .ok (.if_icmp .ne 13, 3) := by decide +kernel
theorem own_d4_12 : decode prog_248_method_13_code 12 = .ok (.aload_n 0, 1) := by decide +kernel
theorem own_d4_13 : decode prog_248_method_13_code 13 = .ok (.iload_n 1, 1) := by decide +kernel
theorem own_d4_14 : decode prog_248_method_13_code 14 = .ok (.baload, 1) := by decide +kernel
theorem own_d4_15 : decode prog_248_method_13_code 15 = .ok (.sipush 255, 3) := by decide +kernel
theorem own_d4_18 : decode prog_248_method_13_code 18 = .ok (.iand, 1) := by decide +kernel
theorem own_d4_19 : decode prog_248_method_13_code 19 = .ok (.goto 11, 3) := by decide +kernel
theorem own_d4_30 : decode prog_248_method_13_code 30 = .ok (.istore 4, 2) := by decide +kernel
theorem own_d4_32 : decode prog_248_method_13_code 32 = .ok (.iconst 1, 1) := by decide +kernel
theorem own_d4_33 : decode prog_248_method_13_code 33 = .ok (.istore 5, 2) := by decide +kernel
theorem own_d4_35 : decode prog_248_method_13_code 35 = .ok (.iload 5, 2) := by decide +kernel
theorem own_d4_37 : decode prog_248_method_13_code 37 = .ok (.iload_n 3, 1) := by decide +kernel
theorem own_d4_38 : decode prog_248_method_13_code 38 = .ok (.if_icmp .ge 38, 3) := by decide +kernel
theorem own_d4_76 : decode prog_248_method_13_code 76 = .ok (.iload 4, 2) := by decide +kernel
theorem own_d4_78 : decode prog_248_method_13_code 78 = .ok (.ireturn, 1) := by decide +kernel
set_option maxRecDepth 65536 in
set_option maxHeartbeats 40000000 in
theorem own_m_ca1 (l : Launch) (Z : State) (a0 : Array Value) (hw : ∀ d ∈ tables_1, d.before a0 Z = true) (a : Addr) (h0 : Heap) (n0 : Nat) (hn0 : n0 ≤ h0.size) (xs : List Int32) (A : own_IA Z h0 a .byte xs) (v0 : Int32) (e0 : xs[0]? = some v0) (hsl : own_sl v0 = 1) : own_Met l Z n0 (⟨"com/example/termwell/termwell/store/Utf8", "characterAt", "([BII)I"⟩ : MethodName) prog_248_method_13_code 6 (some .int) [] ({ frames := 1, cells := 0, slots := 0, locals := 20 } : Room) #[(.ref a), (.int (0 : Int32)), (.int (1 : Int32))] h0 (fun v h => v = some (.int (v0 &&& (255 : Int32))) ∧ h0 = h) := by
  refine own_body (plainFor_of_name own_pn_com_example_termwell_termwell_store_Utf8) hn0 (own_ef_ca1 a) ?_
  intro p e s m below meth c T C X
  refine own_aloadN C X own_d4_0 rfl rfl (pc' := 1) rfl ?_
  refine own_iloadN C X own_d4_1 rfl (pc' := 2) rfl ?_
  refine own_baload C X own_d4_2 A (by decide) (i := 0) e0 (pc' := 3) rfl ?_
  refine own_callS C X own_d4_3 (own_m_sl l Z a0 hw v0 _ n0 (own_big C X)) (hw _ (List.mem_of_getElem? (i := 17) rfl)) (hw _ (List.mem_of_getElem? (i := 18) rfl)) (hw _ (List.mem_of_getElem? (i := 4) rfl)) (hw _ (List.mem_of_getElem? (i := 19) rfl)) (by decide) own_pd_1907 rfl rfl (Nat.le_of_ble_eq_true rfl) (Nat.le_of_ble_eq_true rfl) (Nat.le_of_ble_eq_true rfl) (Nat.le_of_ble_eq_true rfl) (av := [(.int v0)]) (S := []) rfl (pc' := 6) rfl ?_
  intro T h v X hQ
  obtain ⟨rfl, rfl⟩ := hQ
  show own_Go p e below n0 (own_Fin ({ frames := 1, cells := 0, slots := 0, locals := 20 } : Room) s (fun v h => v = some (.int (v0 &&& (255 : Int32))) ∧ h0 = h)) (T.setTop (mkF m 6 #[.val (.ref a), .val (.int (0 : Int32)), .val (.int (1 : Int32)), .unset, .unset, .unset] [(.int (own_sl v0))]))
  rw [hsl]
  show own_Go p e below n0 (own_Fin ({ frames := 1, cells := 0, slots := 0, locals := 20 } : Room) s (fun v h => v = some (.int (v0 &&& (255 : Int32))) ∧ h0 = h)) (T.setTop (mkF m 6 #[.val (.ref a), .val (.int (0 : Int32)), .val (.int (1 : Int32)), .unset, .unset, .unset] [(.int (1 : Int32))]))
  refine own_istoreN C X own_d4_6 (L' := #[.val (.ref a), .val (.int (0 : Int32)), .val (.int (1 : Int32)), .val (.int (1 : Int32)), .unset, .unset]) rfl (pc' := 7) rfl ?_
  refine own_iloadN C X own_d4_7 rfl (pc' := 8) rfl ?_
  refine own_iconst C X own_d4_8 (v := 1) (by decide) (pc' := 9) rfl ?_
  refine own_icmp_ne C X own_d4_9 (pcT := 22) (pc' := 12) (by decide) (by decide) rfl (fun hc9 => absurd hc9 (by decide)) (fun hc9 => ?_)
  refine own_aloadN C X own_d4_12 rfl rfl (pc' := 13) rfl ?_
  refine own_iloadN C X own_d4_13 rfl (pc' := 14) rfl ?_
  refine own_baload C X own_d4_14 A (by decide) (i := 0) e0 (pc' := 15) rfl ?_
  refine own_sipush C X own_d4_15 (v := 255) (by decide) (pc' := 18) rfl ?_
  refine own_iand C X own_d4_18 rfl (pc' := 19) rfl ?_
  refine own_goto C X own_d4_19 (pc' := 30) (by decide) (by decide) ?_
  refine own_istore C X own_d4_30 (L' := #[.val (.ref a), .val (.int (0 : Int32)), .val (.int (1 : Int32)), .val (.int (1 : Int32)), .val (.int (v0 &&& (255 : Int32))), .unset]) rfl (pc' := 32) rfl ?_
  refine own_iconst C X own_d4_32 (v := 1) (by decide) (pc' := 33) rfl ?_
  refine own_istore C X own_d4_33 (L' := #[.val (.ref a), .val (.int (0 : Int32)), .val (.int (1 : Int32)), .val (.int (1 : Int32)), .val (.int (v0 &&& (255 : Int32))), .val (.int (1 : Int32))]) rfl (pc' := 35) rfl ?_
  refine own_iload C X own_d4_35 rfl (pc' := 37) rfl ?_
  refine own_iloadN C X own_d4_37 rfl (pc' := 38) rfl ?_
  refine own_icmp_ge C X own_d4_38 (pcT := 76) (pc' := 41) (by decide) (by decide) rfl (fun hc38 => ?_) (fun hc38 => absurd hc38 (by decide))
  refine own_iload C X own_d4_76 rfl (pc' := 78) rfl ?_
  exact own_ireturn C X own_d4_78 (Nat.le_of_ble_eq_true rfl) (Nat.le_of_ble_eq_true rfl) (⟨rfl, rfl⟩)
theorem own_ef_ca2 (a : Addr) (m : MethodId) : entryFrame m #[(.ref a), (.int (0 : Int32)), (.int (2 : Int32))] 6 = mkF m 0 #[.val (.ref a), .val (.int (0 : Int32)), .val (.int (2 : Int32)), .unset, .unset, .unset] [] := by first | (simp [entryFrame, mkF, argsToLocals, Value.category]; done) | rfl
theorem own_d4_22 : decode prog_248_method_13_code 22 = .ok (.aload_n 0, 1) := by decide +kernel
theorem own_d4_23 : decode prog_248_method_13_code 23 = .ok (.iload_n 1, 1) := by decide +kernel
theorem own_d4_24 : decode prog_248_method_13_code 24 = .ok (.baload, 1) := by decide +kernel
theorem own_d4_25 : decode prog_248_method_13_code 25 = .ok (.bipush 127, 2) := by decide +kernel
theorem own_d4_27 : decode prog_248_method_13_code 27 = .ok (.iload_n 3, 1) := by decide +kernel
theorem own_d4_28 : decode prog_248_method_13_code 28 = .ok (.ishr, 1) := by decide +kernel
theorem own_d4_29 : decode prog_248_method_13_code 29 = .ok (.iand, 1) := by decide +kernel
theorem own_d4_41 : decode prog_248_method_13_code 41 = .ok (.iload 4, 2) := by decide +kernel
theorem own_d4_43 : decode prog_248_method_13_code 43 = .ok (.bipush 6, 2) := by decide +kernel
theorem own_d4_45 : decode prog_248_method_13_code 45 = .ok (.ishl, 1) := by decide +kernel
theorem own_d4_46 : decode prog_248_method_13_code 46 = .ok (.iload_n 1, 1) := by decide +kernel
theorem own_d4_47 : decode prog_248_method_13_code 47 = .ok (.iload 5, 2) := by decide +kernel
theorem own_d4_49 : decode prog_248_method_13_code 49 = .ok (.iadd, 1) := by decide +kernel
theorem own_d4_50 : decode prog_248_method_13_code 50 = .ok (.iload_n 2, 1) := by decide +kernel
theorem own_d4_51 : decode prog_248_method_13_code 51 = .ok (.if_icmp .ge 15, 3) := by decide +kernel
theorem own_d4_54 : decode prog_248_method_13_code 54 = .ok (.aload_n 0, 1) := by decide +kernel
theorem own_d4_55 : decode prog_248_method_13_code 55 = .ok (.iload_n 1, 1) := by decide +kernel
theorem own_d4_56 : decode prog_248_method_13_code 56 = .ok (.iload 5, 2) := by decide +kernel
theorem own_d4_58 : decode prog_248_method_13_code 58 = .ok (.iadd, 1) := by decide +kernel
theorem own_d4_59 : decode prog_248_method_13_code 59 = .ok (.baload, 1) := by decide +kernel
theorem own_d4_60 : decode prog_248_method_13_code 60 = .ok (.bipush 63, 2) := by decide +kernel
theorem own_d4_62 : decode prog_248_method_13_code 62 = .ok (.iand, 1) := by decide +kernel
theorem own_d4_63 : decode prog_248_method_13_code 63 = .ok (.goto 4, 3) := by decide +kernel
theorem own_d4_67 : decode prog_248_method_13_code 67 = .ok (.ior, 1) := by decide +kernel
theorem own_d4_68 : decode prog_248_method_13_code 68 = .ok (.istore 4, 2) := by decide +kernel
theorem own_d4_70 : decode prog_248_method_13_code 70 = .ok (.iinc 5 1, 3) := by decide +kernel
theorem own_d4_73 : decode prog_248_method_13_code 73 = .ok (.goto (-38), 3) := by decide +kernel
set_option maxRecDepth 65536 in
set_option maxHeartbeats 40000000 in
theorem own_m_ca2 (l : Launch) (Z : State) (a0 : Array Value) (hw : ∀ d ∈ tables_1, d.before a0 Z = true) (a : Addr) (h0 : Heap) (n0 : Nat) (hn0 : n0 ≤ h0.size) (xs : List Int32) (A : own_IA Z h0 a .byte xs) (v0 v1 : Int32) (e0 : xs[0]? = some v0) (e1 : xs[1]? = some v1) (hsl : own_sl v0 = 2) : own_Met l Z n0 (⟨"com/example/termwell/termwell/store/Utf8", "characterAt", "([BII)I"⟩ : MethodName) prog_248_method_13_code 6 (some .int) [] ({ frames := 1, cells := 0, slots := 0, locals := 20 } : Room) #[(.ref a), (.int (0 : Int32)), (.int (2 : Int32))] h0 (fun v h => v = some (.int (((v0 &&& (31 : Int32)) <<< ((6 : Int32) &&& 31)) ||| (v1 &&& (63 : Int32)))) ∧ h0 = h) := by
  refine own_body (plainFor_of_name own_pn_com_example_termwell_termwell_store_Utf8) hn0 (own_ef_ca2 a) ?_
  intro p e s m below meth c T C X
  refine own_aloadN C X own_d4_0 rfl rfl (pc' := 1) rfl ?_
  refine own_iloadN C X own_d4_1 rfl (pc' := 2) rfl ?_
  refine own_baload C X own_d4_2 A (by decide) (i := 0) e0 (pc' := 3) rfl ?_
  refine own_callS C X own_d4_3 (own_m_sl l Z a0 hw v0 _ n0 (own_big C X)) (hw _ (List.mem_of_getElem? (i := 17) rfl)) (hw _ (List.mem_of_getElem? (i := 18) rfl)) (hw _ (List.mem_of_getElem? (i := 4) rfl)) (hw _ (List.mem_of_getElem? (i := 19) rfl)) (by decide) own_pd_1907 rfl rfl (Nat.le_of_ble_eq_true rfl) (Nat.le_of_ble_eq_true rfl) (Nat.le_of_ble_eq_true rfl) (Nat.le_of_ble_eq_true rfl) (av := [(.int v0)]) (S := []) rfl (pc' := 6) rfl ?_
  intro T h v X hQ
  obtain ⟨rfl, rfl⟩ := hQ
  show own_Go p e below n0 (own_Fin ({ frames := 1, cells := 0, slots := 0, locals := 20 } : Room) s (fun v h => v = some (.int (((v0 &&& (31 : Int32)) <<< ((6 : Int32) &&& 31)) ||| (v1 &&& (63 : Int32)))) ∧ h0 = h)) (T.setTop (mkF m 6 #[.val (.ref a), .val (.int (0 : Int32)), .val (.int (2 : Int32)), .unset, .unset, .unset] [(.int (own_sl v0))]))
  rw [hsl]
  show own_Go p e below n0 (own_Fin ({ frames := 1, cells := 0, slots := 0, locals := 20 } : Room) s (fun v h => v = some (.int (((v0 &&& (31 : Int32)) <<< ((6 : Int32) &&& 31)) ||| (v1 &&& (63 : Int32)))) ∧ h0 = h)) (T.setTop (mkF m 6 #[.val (.ref a), .val (.int (0 : Int32)), .val (.int (2 : Int32)), .unset, .unset, .unset] [(.int (2 : Int32))]))
  refine own_istoreN C X own_d4_6 (L' := #[.val (.ref a), .val (.int (0 : Int32)), .val (.int (2 : Int32)), .val (.int (2 : Int32)), .unset, .unset]) rfl (pc' := 7) rfl ?_
  refine own_iloadN C X own_d4_7 rfl (pc' := 8) rfl ?_
  refine own_iconst C X own_d4_8 (v := 1) (by decide) (pc' := 9) rfl ?_
  refine own_icmp_ne C X own_d4_9 (pcT := 22) (pc' := 12) (by decide) (by decide) rfl (fun hc9 => ?_) (fun hc9 => absurd hc9 (by decide))
  refine own_aloadN C X own_d4_22 rfl rfl (pc' := 23) rfl ?_
  refine own_iloadN C X own_d4_23 rfl (pc' := 24) rfl ?_
  refine own_baload C X own_d4_24 A (by decide) (i := 0) e0 (pc' := 25) rfl ?_
  refine own_bipush C X own_d4_25 (v := 127) (by decide) (pc' := 27) rfl ?_
  refine own_iloadN C X own_d4_27 rfl (pc' := 28) rfl ?_
  refine own_ishr C X own_d4_28 (z := 31) (by decide) (pc' := 29) rfl ?_
  refine own_iand C X own_d4_29 rfl (pc' := 30) rfl ?_
  refine own_istore C X own_d4_30 (L' := #[.val (.ref a), .val (.int (0 : Int32)), .val (.int (2 : Int32)), .val (.int (2 : Int32)), .val (.int (v0 &&& (31 : Int32))), .unset]) rfl (pc' := 32) rfl ?_
  refine own_iconst C X own_d4_32 (v := 1) (by decide) (pc' := 33) rfl ?_
  refine own_istore C X own_d4_33 (L' := #[.val (.ref a), .val (.int (0 : Int32)), .val (.int (2 : Int32)), .val (.int (2 : Int32)), .val (.int (v0 &&& (31 : Int32))), .val (.int (1 : Int32))]) rfl (pc' := 35) rfl ?_
  refine own_iload C X own_d4_35 rfl (pc' := 37) rfl ?_
  refine own_iloadN C X own_d4_37 rfl (pc' := 38) rfl ?_
  refine own_icmp_ge C X own_d4_38 (pcT := 76) (pc' := 41) (by decide) (by decide) rfl (fun hc38 => absurd hc38 (by decide)) (fun hc38 => ?_)
  refine own_iload C X own_d4_41 rfl (pc' := 43) rfl ?_
  refine own_bipush C X own_d4_43 (v := 6) (by decide) (pc' := 45) rfl ?_
  refine own_ishl C X own_d4_45 rfl (pc' := 46) rfl ?_
  refine own_iloadN C X own_d4_46 rfl (pc' := 47) rfl ?_
  refine own_iload C X own_d4_47 rfl (pc' := 49) rfl ?_
  refine own_iadd C X own_d4_49 (z := 1) (by decide) (pc' := 50) rfl ?_
  refine own_iloadN C X own_d4_50 rfl (pc' := 51) rfl ?_
  refine own_icmp_ge C X own_d4_51 (pcT := 66) (pc' := 54) (by decide) (by decide) rfl (fun hc51 => absurd hc51 (by decide)) (fun hc51 => ?_)
  refine own_aloadN C X own_d4_54 rfl rfl (pc' := 55) rfl ?_
  refine own_iloadN C X own_d4_55 rfl (pc' := 56) rfl ?_
  refine own_iload C X own_d4_56 rfl (pc' := 58) rfl ?_
  refine own_iadd C X own_d4_58 (z := 1) (by decide) (pc' := 59) rfl ?_
  refine own_baload C X own_d4_59 A (by decide) (i := 1) e1 (pc' := 60) rfl ?_
  refine own_bipush C X own_d4_60 (v := 63) (by decide) (pc' := 62) rfl ?_
  refine own_iand C X own_d4_62 rfl (pc' := 63) rfl ?_
  refine own_goto C X own_d4_63 (pc' := 67) (by decide) (by decide) ?_
  refine own_ior C X own_d4_67 rfl (pc' := 68) rfl ?_
  refine own_istore C X own_d4_68 (L' := #[.val (.ref a), .val (.int (0 : Int32)), .val (.int (2 : Int32)), .val (.int (2 : Int32)), .val (.int (((v0 &&& (31 : Int32)) <<< ((6 : Int32) &&& 31)) ||| (v1 &&& (63 : Int32)))), .val (.int (1 : Int32))]) rfl (pc' := 70) rfl ?_
  refine own_iinc C X own_d4_70 rfl (d := 1) (by decide) (z := 2) (by decide) (L' := #[.val (.ref a), .val (.int (0 : Int32)), .val (.int (2 : Int32)), .val (.int (2 : Int32)), .val (.int (((v0 &&& (31 : Int32)) <<< ((6 : Int32) &&& 31)) ||| (v1 &&& (63 : Int32)))), .val (.int (2 : Int32))]) rfl (pc' := 73) rfl ?_
  refine own_goto C X own_d4_73 (pc' := 35) (by decide) (by decide) ?_
  refine own_iload C X own_d4_35 rfl (pc' := 37) rfl ?_
  refine own_iloadN C X own_d4_37 rfl (pc' := 38) rfl ?_
  refine own_icmp_ge C X own_d4_38 (pcT := 76) (pc' := 41) (by decide) (by decide) rfl (fun hc38_2 => ?_) (fun hc38_2 => absurd hc38_2 (by decide))
  refine own_iload C X own_d4_76 rfl (pc' := 78) rfl ?_
  exact own_ireturn C X own_d4_78 (Nat.le_of_ble_eq_true rfl) (Nat.le_of_ble_eq_true rfl) (⟨rfl, rfl⟩)
theorem own_ef_ca3 (a : Addr) (m : MethodId) : entryFrame m #[(.ref a), (.int (0 : Int32)), (.int (3 : Int32))] 6 = mkF m 0 #[.val (.ref a), .val (.int (0 : Int32)), .val (.int (3 : Int32)), .unset, .unset, .unset] [] := by first | (simp [entryFrame, mkF, argsToLocals, Value.category]; done) | rfl
set_option maxRecDepth 65536 in
set_option maxHeartbeats 40000000 in
theorem own_m_ca3 (l : Launch) (Z : State) (a0 : Array Value) (hw : ∀ d ∈ tables_1, d.before a0 Z = true) (a : Addr) (h0 : Heap) (n0 : Nat) (hn0 : n0 ≤ h0.size) (xs : List Int32) (A : own_IA Z h0 a .byte xs) (v0 v1 v2 : Int32) (e0 : xs[0]? = some v0) (e1 : xs[1]? = some v1) (e2 : xs[2]? = some v2) (hsl : own_sl v0 = 3) : own_Met l Z n0 (⟨"com/example/termwell/termwell/store/Utf8", "characterAt", "([BII)I"⟩ : MethodName) prog_248_method_13_code 6 (some .int) [] ({ frames := 1, cells := 0, slots := 0, locals := 20 } : Room) #[(.ref a), (.int (0 : Int32)), (.int (3 : Int32))] h0 (fun v h => v = some (.int (((((v0 &&& (15 : Int32)) <<< ((6 : Int32) &&& 31)) ||| (v1 &&& (63 : Int32))) <<< ((6 : Int32) &&& 31)) ||| (v2 &&& (63 : Int32)))) ∧ h0 = h) := by
  refine own_body (plainFor_of_name own_pn_com_example_termwell_termwell_store_Utf8) hn0 (own_ef_ca3 a) ?_
  intro p e s m below meth c T C X
  refine own_aloadN C X own_d4_0 rfl rfl (pc' := 1) rfl ?_
  refine own_iloadN C X own_d4_1 rfl (pc' := 2) rfl ?_
  refine own_baload C X own_d4_2 A (by decide) (i := 0) e0 (pc' := 3) rfl ?_
  refine own_callS C X own_d4_3 (own_m_sl l Z a0 hw v0 _ n0 (own_big C X)) (hw _ (List.mem_of_getElem? (i := 17) rfl)) (hw _ (List.mem_of_getElem? (i := 18) rfl)) (hw _ (List.mem_of_getElem? (i := 4) rfl)) (hw _ (List.mem_of_getElem? (i := 19) rfl)) (by decide) own_pd_1907 rfl rfl (Nat.le_of_ble_eq_true rfl) (Nat.le_of_ble_eq_true rfl) (Nat.le_of_ble_eq_true rfl) (Nat.le_of_ble_eq_true rfl) (av := [(.int v0)]) (S := []) rfl (pc' := 6) rfl ?_
  intro T h v X hQ
  obtain ⟨rfl, rfl⟩ := hQ
  show own_Go p e below n0 (own_Fin ({ frames := 1, cells := 0, slots := 0, locals := 20 } : Room) s (fun v h => v = some (.int (((((v0 &&& (15 : Int32)) <<< ((6 : Int32) &&& 31)) ||| (v1 &&& (63 : Int32))) <<< ((6 : Int32) &&& 31)) ||| (v2 &&& (63 : Int32)))) ∧ h0 = h)) (T.setTop (mkF m 6 #[.val (.ref a), .val (.int (0 : Int32)), .val (.int (3 : Int32)), .unset, .unset, .unset] [(.int (own_sl v0))]))
  rw [hsl]
  show own_Go p e below n0 (own_Fin ({ frames := 1, cells := 0, slots := 0, locals := 20 } : Room) s (fun v h => v = some (.int (((((v0 &&& (15 : Int32)) <<< ((6 : Int32) &&& 31)) ||| (v1 &&& (63 : Int32))) <<< ((6 : Int32) &&& 31)) ||| (v2 &&& (63 : Int32)))) ∧ h0 = h)) (T.setTop (mkF m 6 #[.val (.ref a), .val (.int (0 : Int32)), .val (.int (3 : Int32)), .unset, .unset, .unset] [(.int (3 : Int32))]))
  refine own_istoreN C X own_d4_6 (L' := #[.val (.ref a), .val (.int (0 : Int32)), .val (.int (3 : Int32)), .val (.int (3 : Int32)), .unset, .unset]) rfl (pc' := 7) rfl ?_
  refine own_iloadN C X own_d4_7 rfl (pc' := 8) rfl ?_
  refine own_iconst C X own_d4_8 (v := 1) (by decide) (pc' := 9) rfl ?_
  refine own_icmp_ne C X own_d4_9 (pcT := 22) (pc' := 12) (by decide) (by decide) rfl (fun hc9 => ?_) (fun hc9 => absurd hc9 (by decide))
  refine own_aloadN C X own_d4_22 rfl rfl (pc' := 23) rfl ?_
  refine own_iloadN C X own_d4_23 rfl (pc' := 24) rfl ?_
  refine own_baload C X own_d4_24 A (by decide) (i := 0) e0 (pc' := 25) rfl ?_
  refine own_bipush C X own_d4_25 (v := 127) (by decide) (pc' := 27) rfl ?_
  refine own_iloadN C X own_d4_27 rfl (pc' := 28) rfl ?_
  refine own_ishr C X own_d4_28 (z := 15) (by decide) (pc' := 29) rfl ?_
  refine own_iand C X own_d4_29 rfl (pc' := 30) rfl ?_
  refine own_istore C X own_d4_30 (L' := #[.val (.ref a), .val (.int (0 : Int32)), .val (.int (3 : Int32)), .val (.int (3 : Int32)), .val (.int (v0 &&& (15 : Int32))), .unset]) rfl (pc' := 32) rfl ?_
  refine own_iconst C X own_d4_32 (v := 1) (by decide) (pc' := 33) rfl ?_
  refine own_istore C X own_d4_33 (L' := #[.val (.ref a), .val (.int (0 : Int32)), .val (.int (3 : Int32)), .val (.int (3 : Int32)), .val (.int (v0 &&& (15 : Int32))), .val (.int (1 : Int32))]) rfl (pc' := 35) rfl ?_
  refine own_iload C X own_d4_35 rfl (pc' := 37) rfl ?_
  refine own_iloadN C X own_d4_37 rfl (pc' := 38) rfl ?_
  refine own_icmp_ge C X own_d4_38 (pcT := 76) (pc' := 41) (by decide) (by decide) rfl (fun hc38 => absurd hc38 (by decide)) (fun hc38 => ?_)
  refine own_iload C X own_d4_41 rfl (pc' := 43) rfl ?_
  refine own_bipush C X own_d4_43 (v := 6) (by decide) (pc' := 45) rfl ?_
  refine own_ishl C X own_d4_45 rfl (pc' := 46) rfl ?_
  refine own_iloadN C X own_d4_46 rfl (pc' := 47) rfl ?_
  refine own_iload C X own_d4_47 rfl (pc' := 49) rfl ?_
  refine own_iadd C X own_d4_49 (z := 1) (by decide) (pc' := 50) rfl ?_
  refine own_iloadN C X own_d4_50 rfl (pc' := 51) rfl ?_
  refine own_icmp_ge C X own_d4_51 (pcT := 66) (pc' := 54) (by decide) (by decide) rfl (fun hc51 => absurd hc51 (by decide)) (fun hc51 => ?_)
  refine own_aloadN C X own_d4_54 rfl rfl (pc' := 55) rfl ?_
  refine own_iloadN C X own_d4_55 rfl (pc' := 56) rfl ?_
  refine own_iload C X own_d4_56 rfl (pc' := 58) rfl ?_
  refine own_iadd C X own_d4_58 (z := 1) (by decide) (pc' := 59) rfl ?_
  refine own_baload C X own_d4_59 A (by decide) (i := 1) e1 (pc' := 60) rfl ?_
  refine own_bipush C X own_d4_60 (v := 63) (by decide) (pc' := 62) rfl ?_
  refine own_iand C X own_d4_62 rfl (pc' := 63) rfl ?_
  refine own_goto C X own_d4_63 (pc' := 67) (by decide) (by decide) ?_
  refine own_ior C X own_d4_67 rfl (pc' := 68) rfl ?_
  refine own_istore C X own_d4_68 (L' := #[.val (.ref a), .val (.int (0 : Int32)), .val (.int (3 : Int32)), .val (.int (3 : Int32)), .val (.int (((v0 &&& (15 : Int32)) <<< ((6 : Int32) &&& 31)) ||| (v1 &&& (63 : Int32)))), .val (.int (1 : Int32))]) rfl (pc' := 70) rfl ?_
  refine own_iinc C X own_d4_70 rfl (d := 1) (by decide) (z := 2) (by decide) (L' := #[.val (.ref a), .val (.int (0 : Int32)), .val (.int (3 : Int32)), .val (.int (3 : Int32)), .val (.int (((v0 &&& (15 : Int32)) <<< ((6 : Int32) &&& 31)) ||| (v1 &&& (63 : Int32)))), .val (.int (2 : Int32))]) rfl (pc' := 73) rfl ?_
  refine own_goto C X own_d4_73 (pc' := 35) (by decide) (by decide) ?_
  refine own_iload C X own_d4_35 rfl (pc' := 37) rfl ?_
  refine own_iloadN C X own_d4_37 rfl (pc' := 38) rfl ?_
  refine own_icmp_ge C X own_d4_38 (pcT := 76) (pc' := 41) (by decide) (by decide) rfl (fun hc38_2 => absurd hc38_2 (by decide)) (fun hc38_2 => ?_)
  refine own_iload C X own_d4_41 rfl (pc' := 43) rfl ?_
  refine own_bipush C X own_d4_43 (v := 6) (by decide) (pc' := 45) rfl ?_
  refine own_ishl C X own_d4_45 rfl (pc' := 46) rfl ?_
  refine own_iloadN C X own_d4_46 rfl (pc' := 47) rfl ?_
  refine own_iload C X own_d4_47 rfl (pc' := 49) rfl ?_
  refine own_iadd C X own_d4_49 (z := 2) (by decide) (pc' := 50) rfl ?_
  refine own_iloadN C X own_d4_50 rfl (pc' := 51) rfl ?_
  refine own_icmp_ge C X own_d4_51 (pcT := 66) (pc' := 54) (by decide) (by decide) rfl (fun hc51_2 => absurd hc51_2 (by decide)) (fun hc51_2 => ?_)
  refine own_aloadN C X own_d4_54 rfl rfl (pc' := 55) rfl ?_
  refine own_iloadN C X own_d4_55 rfl (pc' := 56) rfl ?_
  refine own_iload C X own_d4_56 rfl (pc' := 58) rfl ?_
  refine own_iadd C X own_d4_58 (z := 2) (by decide) (pc' := 59) rfl ?_
  refine own_baload C X own_d4_59 A (by decide) (i := 2) e2 (pc' := 60) rfl ?_
  refine own_bipush C X own_d4_60 (v := 63) (by decide) (pc' := 62) rfl ?_
  refine own_iand C X own_d4_62 rfl (pc' := 63) rfl ?_
  refine own_goto C X own_d4_63 (pc' := 67) (by decide) (by decide) ?_
  refine own_ior C X own_d4_67 rfl (pc' := 68) rfl ?_
  refine own_istore C X own_d4_68 (L' := #[.val (.ref a), .val (.int (0 : Int32)), .val (.int (3 : Int32)), .val (.int (3 : Int32)), .val (.int (((((v0 &&& (15 : Int32)) <<< ((6 : Int32) &&& 31)) ||| (v1 &&& (63 : Int32))) <<< ((6 : Int32) &&& 31)) ||| (v2 &&& (63 : Int32)))), .val (.int (2 : Int32))]) rfl (pc' := 70) rfl ?_
  refine own_iinc C X own_d4_70 rfl (d := 1) (by decide) (z := 3) (by decide) (L' := #[.val (.ref a), .val (.int (0 : Int32)), .val (.int (3 : Int32)), .val (.int (3 : Int32)), .val (.int (((((v0 &&& (15 : Int32)) <<< ((6 : Int32) &&& 31)) ||| (v1 &&& (63 : Int32))) <<< ((6 : Int32) &&& 31)) ||| (v2 &&& (63 : Int32)))), .val (.int (3 : Int32))]) rfl (pc' := 73) rfl ?_
  refine own_goto C X own_d4_73 (pc' := 35) (by decide) (by decide) ?_
  refine own_iload C X own_d4_35 rfl (pc' := 37) rfl ?_
  refine own_iloadN C X own_d4_37 rfl (pc' := 38) rfl ?_
  refine own_icmp_ge C X own_d4_38 (pcT := 76) (pc' := 41) (by decide) (by decide) rfl (fun hc38_3 => ?_) (fun hc38_3 => absurd hc38_3 (by decide))
  refine own_iload C X own_d4_76 rfl (pc' := 78) rfl ?_
  exact own_ireturn C X own_d4_78 (Nat.le_of_ble_eq_true rfl) (Nat.le_of_ble_eq_true rfl) (⟨rfl, rfl⟩)
theorem own_ef_ca4 (a : Addr) (m : MethodId) : entryFrame m #[(.ref a), (.int (0 : Int32)), (.int (4 : Int32))] 6 = mkF m 0 #[.val (.ref a), .val (.int (0 : Int32)), .val (.int (4 : Int32)), .unset, .unset, .unset] [] := by first | (simp [entryFrame, mkF, argsToLocals, Value.category]; done) | rfl
set_option maxRecDepth 65536 in
set_option maxHeartbeats 40000000 in
theorem own_m_ca4 (l : Launch) (Z : State) (a0 : Array Value) (hw : ∀ d ∈ tables_1, d.before a0 Z = true) (a : Addr) (h0 : Heap) (n0 : Nat) (hn0 : n0 ≤ h0.size) (xs : List Int32) (A : own_IA Z h0 a .byte xs) (v0 v1 v2 v3 : Int32) (e0 : xs[0]? = some v0) (e1 : xs[1]? = some v1) (e2 : xs[2]? = some v2) (e3 : xs[3]? = some v3) (hsl : own_sl v0 = 4) : own_Met l Z n0 (⟨"com/example/termwell/termwell/store/Utf8", "characterAt", "([BII)I"⟩ : MethodName) prog_248_method_13_code 6 (some .int) [] ({ frames := 1, cells := 0, slots := 0, locals := 20 } : Room) #[(.ref a), (.int (0 : Int32)), (.int (4 : Int32))] h0 (fun v h => v = some (.int (((((((v0 &&& (7 : Int32)) <<< ((6 : Int32) &&& 31)) ||| (v1 &&& (63 : Int32))) <<< ((6 : Int32) &&& 31)) ||| (v2 &&& (63 : Int32))) <<< ((6 : Int32) &&& 31)) ||| (v3 &&& (63 : Int32)))) ∧ h0 = h) := by
  refine own_body (plainFor_of_name own_pn_com_example_termwell_termwell_store_Utf8) hn0 (own_ef_ca4 a) ?_
  intro p e s m below meth c T C X
  refine own_aloadN C X own_d4_0 rfl rfl (pc' := 1) rfl ?_
  refine own_iloadN C X own_d4_1 rfl (pc' := 2) rfl ?_
  refine own_baload C X own_d4_2 A (by decide) (i := 0) e0 (pc' := 3) rfl ?_
  refine own_callS C X own_d4_3 (own_m_sl l Z a0 hw v0 _ n0 (own_big C X)) (hw _ (List.mem_of_getElem? (i := 17) rfl)) (hw _ (List.mem_of_getElem? (i := 18) rfl)) (hw _ (List.mem_of_getElem? (i := 4) rfl)) (hw _ (List.mem_of_getElem? (i := 19) rfl)) (by decide) own_pd_1907 rfl rfl (Nat.le_of_ble_eq_true rfl) (Nat.le_of_ble_eq_true rfl) (Nat.le_of_ble_eq_true rfl) (Nat.le_of_ble_eq_true rfl) (av := [(.int v0)]) (S := []) rfl (pc' := 6) rfl ?_
  intro T h v X hQ
  obtain ⟨rfl, rfl⟩ := hQ
  show own_Go p e below n0 (own_Fin ({ frames := 1, cells := 0, slots := 0, locals := 20 } : Room) s (fun v h => v = some (.int (((((((v0 &&& (7 : Int32)) <<< ((6 : Int32) &&& 31)) ||| (v1 &&& (63 : Int32))) <<< ((6 : Int32) &&& 31)) ||| (v2 &&& (63 : Int32))) <<< ((6 : Int32) &&& 31)) ||| (v3 &&& (63 : Int32)))) ∧ h0 = h)) (T.setTop (mkF m 6 #[.val (.ref a), .val (.int (0 : Int32)), .val (.int (4 : Int32)), .unset, .unset, .unset] [(.int (own_sl v0))]))
  rw [hsl]
  show own_Go p e below n0 (own_Fin ({ frames := 1, cells := 0, slots := 0, locals := 20 } : Room) s (fun v h => v = some (.int (((((((v0 &&& (7 : Int32)) <<< ((6 : Int32) &&& 31)) ||| (v1 &&& (63 : Int32))) <<< ((6 : Int32) &&& 31)) ||| (v2 &&& (63 : Int32))) <<< ((6 : Int32) &&& 31)) ||| (v3 &&& (63 : Int32)))) ∧ h0 = h)) (T.setTop (mkF m 6 #[.val (.ref a), .val (.int (0 : Int32)), .val (.int (4 : Int32)), .unset, .unset, .unset] [(.int (4 : Int32))]))
  refine own_istoreN C X own_d4_6 (L' := #[.val (.ref a), .val (.int (0 : Int32)), .val (.int (4 : Int32)), .val (.int (4 : Int32)), .unset, .unset]) rfl (pc' := 7) rfl ?_
  refine own_iloadN C X own_d4_7 rfl (pc' := 8) rfl ?_
  refine own_iconst C X own_d4_8 (v := 1) (by decide) (pc' := 9) rfl ?_
  refine own_icmp_ne C X own_d4_9 (pcT := 22) (pc' := 12) (by decide) (by decide) rfl (fun hc9 => ?_) (fun hc9 => absurd hc9 (by decide))
  refine own_aloadN C X own_d4_22 rfl rfl (pc' := 23) rfl ?_
  refine own_iloadN C X own_d4_23 rfl (pc' := 24) rfl ?_
  refine own_baload C X own_d4_24 A (by decide) (i := 0) e0 (pc' := 25) rfl ?_
  refine own_bipush C X own_d4_25 (v := 127) (by decide) (pc' := 27) rfl ?_
  refine own_iloadN C X own_d4_27 rfl (pc' := 28) rfl ?_
  refine own_ishr C X own_d4_28 (z := 7) (by decide) (pc' := 29) rfl ?_
  refine own_iand C X own_d4_29 rfl (pc' := 30) rfl ?_
  refine own_istore C X own_d4_30 (L' := #[.val (.ref a), .val (.int (0 : Int32)), .val (.int (4 : Int32)), .val (.int (4 : Int32)), .val (.int (v0 &&& (7 : Int32))), .unset]) rfl (pc' := 32) rfl ?_
  refine own_iconst C X own_d4_32 (v := 1) (by decide) (pc' := 33) rfl ?_
  refine own_istore C X own_d4_33 (L' := #[.val (.ref a), .val (.int (0 : Int32)), .val (.int (4 : Int32)), .val (.int (4 : Int32)), .val (.int (v0 &&& (7 : Int32))), .val (.int (1 : Int32))]) rfl (pc' := 35) rfl ?_
  refine own_iload C X own_d4_35 rfl (pc' := 37) rfl ?_
  refine own_iloadN C X own_d4_37 rfl (pc' := 38) rfl ?_
  refine own_icmp_ge C X own_d4_38 (pcT := 76) (pc' := 41) (by decide) (by decide) rfl (fun hc38 => absurd hc38 (by decide)) (fun hc38 => ?_)
  refine own_iload C X own_d4_41 rfl (pc' := 43) rfl ?_
  refine own_bipush C X own_d4_43 (v := 6) (by decide) (pc' := 45) rfl ?_
  refine own_ishl C X own_d4_45 rfl (pc' := 46) rfl ?_
  refine own_iloadN C X own_d4_46 rfl (pc' := 47) rfl ?_
  refine own_iload C X own_d4_47 rfl (pc' := 49) rfl ?_
  refine own_iadd C X own_d4_49 (z := 1) (by decide) (pc' := 50) rfl ?_
  refine own_iloadN C X own_d4_50 rfl (pc' := 51) rfl ?_
  refine own_icmp_ge C X own_d4_51 (pcT := 66) (pc' := 54) (by decide) (by decide) rfl (fun hc51 => absurd hc51 (by decide)) (fun hc51 => ?_)
  refine own_aloadN C X own_d4_54 rfl rfl (pc' := 55) rfl ?_
  refine own_iloadN C X own_d4_55 rfl (pc' := 56) rfl ?_
  refine own_iload C X own_d4_56 rfl (pc' := 58) rfl ?_
  refine own_iadd C X own_d4_58 (z := 1) (by decide) (pc' := 59) rfl ?_
  refine own_baload C X own_d4_59 A (by decide) (i := 1) e1 (pc' := 60) rfl ?_
  refine own_bipush C X own_d4_60 (v := 63) (by decide) (pc' := 62) rfl ?_
  refine own_iand C X own_d4_62 rfl (pc' := 63) rfl ?_
  refine own_goto C X own_d4_63 (pc' := 67) (by decide) (by decide) ?_
  refine own_ior C X own_d4_67 rfl (pc' := 68) rfl ?_
  refine own_istore C X own_d4_68 (L' := #[.val (.ref a), .val (.int (0 : Int32)), .val (.int (4 : Int32)), .val (.int (4 : Int32)), .val (.int (((v0 &&& (7 : Int32)) <<< ((6 : Int32) &&& 31)) ||| (v1 &&& (63 : Int32)))), .val (.int (1 : Int32))]) rfl (pc' := 70) rfl ?_
  refine own_iinc C X own_d4_70 rfl (d := 1) (by decide) (z := 2) (by decide) (L' := #[.val (.ref a), .val (.int (0 : Int32)), .val (.int (4 : Int32)), .val (.int (4 : Int32)), .val (.int (((v0 &&& (7 : Int32)) <<< ((6 : Int32) &&& 31)) ||| (v1 &&& (63 : Int32)))), .val (.int (2 : Int32))]) rfl (pc' := 73) rfl ?_
  refine own_goto C X own_d4_73 (pc' := 35) (by decide) (by decide) ?_
  refine own_iload C X own_d4_35 rfl (pc' := 37) rfl ?_
  refine own_iloadN C X own_d4_37 rfl (pc' := 38) rfl ?_
  refine own_icmp_ge C X own_d4_38 (pcT := 76) (pc' := 41) (by decide) (by decide) rfl (fun hc38_2 => absurd hc38_2 (by decide)) (fun hc38_2 => ?_)
  refine own_iload C X own_d4_41 rfl (pc' := 43) rfl ?_
  refine own_bipush C X own_d4_43 (v := 6) (by decide) (pc' := 45) rfl ?_
  refine own_ishl C X own_d4_45 rfl (pc' := 46) rfl ?_
  refine own_iloadN C X own_d4_46 rfl (pc' := 47) rfl ?_
  refine own_iload C X own_d4_47 rfl (pc' := 49) rfl ?_
  refine own_iadd C X own_d4_49 (z := 2) (by decide) (pc' := 50) rfl ?_
  refine own_iloadN C X own_d4_50 rfl (pc' := 51) rfl ?_
  refine own_icmp_ge C X own_d4_51 (pcT := 66) (pc' := 54) (by decide) (by decide) rfl (fun hc51_2 => absurd hc51_2 (by decide)) (fun hc51_2 => ?_)
  refine own_aloadN C X own_d4_54 rfl rfl (pc' := 55) rfl ?_
  refine own_iloadN C X own_d4_55 rfl (pc' := 56) rfl ?_
  refine own_iload C X own_d4_56 rfl (pc' := 58) rfl ?_
  refine own_iadd C X own_d4_58 (z := 2) (by decide) (pc' := 59) rfl ?_
  refine own_baload C X own_d4_59 A (by decide) (i := 2) e2 (pc' := 60) rfl ?_
  refine own_bipush C X own_d4_60 (v := 63) (by decide) (pc' := 62) rfl ?_
  refine own_iand C X own_d4_62 rfl (pc' := 63) rfl ?_
  refine own_goto C X own_d4_63 (pc' := 67) (by decide) (by decide) ?_
  refine own_ior C X own_d4_67 rfl (pc' := 68) rfl ?_
  refine own_istore C X own_d4_68 (L' := #[.val (.ref a), .val (.int (0 : Int32)), .val (.int (4 : Int32)), .val (.int (4 : Int32)), .val (.int (((((v0 &&& (7 : Int32)) <<< ((6 : Int32) &&& 31)) ||| (v1 &&& (63 : Int32))) <<< ((6 : Int32) &&& 31)) ||| (v2 &&& (63 : Int32)))), .val (.int (2 : Int32))]) rfl (pc' := 70) rfl ?_
  refine own_iinc C X own_d4_70 rfl (d := 1) (by decide) (z := 3) (by decide) (L' := #[.val (.ref a), .val (.int (0 : Int32)), .val (.int (4 : Int32)), .val (.int (4 : Int32)), .val (.int (((((v0 &&& (7 : Int32)) <<< ((6 : Int32) &&& 31)) ||| (v1 &&& (63 : Int32))) <<< ((6 : Int32) &&& 31)) ||| (v2 &&& (63 : Int32)))), .val (.int (3 : Int32))]) rfl (pc' := 73) rfl ?_
  refine own_goto C X own_d4_73 (pc' := 35) (by decide) (by decide) ?_
  refine own_iload C X own_d4_35 rfl (pc' := 37) rfl ?_
  refine own_iloadN C X own_d4_37 rfl (pc' := 38) rfl ?_
  refine own_icmp_ge C X own_d4_38 (pcT := 76) (pc' := 41) (by decide) (by decide) rfl (fun hc38_3 => absurd hc38_3 (by decide)) (fun hc38_3 => ?_)
  refine own_iload C X own_d4_41 rfl (pc' := 43) rfl ?_
  refine own_bipush C X own_d4_43 (v := 6) (by decide) (pc' := 45) rfl ?_
  refine own_ishl C X own_d4_45 rfl (pc' := 46) rfl ?_
  refine own_iloadN C X own_d4_46 rfl (pc' := 47) rfl ?_
  refine own_iload C X own_d4_47 rfl (pc' := 49) rfl ?_
  refine own_iadd C X own_d4_49 (z := 3) (by decide) (pc' := 50) rfl ?_
  refine own_iloadN C X own_d4_50 rfl (pc' := 51) rfl ?_
  refine own_icmp_ge C X own_d4_51 (pcT := 66) (pc' := 54) (by decide) (by decide) rfl (fun hc51_3 => absurd hc51_3 (by decide)) (fun hc51_3 => ?_)
  refine own_aloadN C X own_d4_54 rfl rfl (pc' := 55) rfl ?_
  refine own_iloadN C X own_d4_55 rfl (pc' := 56) rfl ?_
  refine own_iload C X own_d4_56 rfl (pc' := 58) rfl ?_
  refine own_iadd C X own_d4_58 (z := 3) (by decide) (pc' := 59) rfl ?_
  refine own_baload C X own_d4_59 A (by decide) (i := 3) e3 (pc' := 60) rfl ?_
  refine own_bipush C X own_d4_60 (v := 63) (by decide) (pc' := 62) rfl ?_
  refine own_iand C X own_d4_62 rfl (pc' := 63) rfl ?_
  refine own_goto C X own_d4_63 (pc' := 67) (by decide) (by decide) ?_
  refine own_ior C X own_d4_67 rfl (pc' := 68) rfl ?_
  refine own_istore C X own_d4_68 (L' := #[.val (.ref a), .val (.int (0 : Int32)), .val (.int (4 : Int32)), .val (.int (4 : Int32)), .val (.int (((((((v0 &&& (7 : Int32)) <<< ((6 : Int32) &&& 31)) ||| (v1 &&& (63 : Int32))) <<< ((6 : Int32) &&& 31)) ||| (v2 &&& (63 : Int32))) <<< ((6 : Int32) &&& 31)) ||| (v3 &&& (63 : Int32)))), .val (.int (3 : Int32))]) rfl (pc' := 70) rfl ?_
  refine own_iinc C X own_d4_70 rfl (d := 1) (by decide) (z := 4) (by decide) (L' := #[.val (.ref a), .val (.int (0 : Int32)), .val (.int (4 : Int32)), .val (.int (4 : Int32)), .val (.int (((((((v0 &&& (7 : Int32)) <<< ((6 : Int32) &&& 31)) ||| (v1 &&& (63 : Int32))) <<< ((6 : Int32) &&& 31)) ||| (v2 &&& (63 : Int32))) <<< ((6 : Int32) &&& 31)) ||| (v3 &&& (63 : Int32)))), .val (.int (4 : Int32))]) rfl (pc' := 73) rfl ?_
  refine own_goto C X own_d4_73 (pc' := 35) (by decide) (by decide) ?_
  refine own_iload C X own_d4_35 rfl (pc' := 37) rfl ?_
  refine own_iloadN C X own_d4_37 rfl (pc' := 38) rfl ?_
  refine own_icmp_ge C X own_d4_38 (pcT := 76) (pc' := 41) (by decide) (by decide) rfl (fun hc38_4 => ?_) (fun hc38_4 => absurd hc38_4 (by decide))
  refine own_iload C X own_d4_76 rfl (pc' := 78) rfl ?_
  exact own_ireturn C X own_d4_78 (Nat.le_of_ble_eq_true rfl) (Nat.le_of_ble_eq_true rfl) (⟨rfl, rfl⟩)
theorem own_ef_law (i0 : Int32) (m : MethodId) : entryFrame m #[(.int i0)] maxLocals = mkF m 0 #[.val (.int i0), .unset, .unset, .unset, .unset, .unset, .unset] [] := by first | (simp [entryFrame, mkF, argsToLocals, Value.category, maxLocals]; done) | rfl
theorem own_pd_1963 : parseMethodDescriptor "(I)I" = some ⟨[.int], some .int⟩ := by decide +kernel
theorem own_pd_4587 : parseMethodDescriptor "(I[BI)I" = some ⟨[.int, (.array .byte), .int], some .int⟩ := by decide +kernel
theorem own_pd_4576 : parseMethodDescriptor "([BII)I" = some ⟨[(.array .byte), .int, .int], some .int⟩ := by decide +kernel
set_option maxRecDepth 65536 in
set_option maxHeartbeats 40000000 in
theorem own_m_law (l : Launch) (Z : State) (a0 : Array Value) (hw : ∀ d ∈ tables_1, d.before a0 Z = true) (ws : List Jvm.Cond) (i0 : Int32) (h0 : Heap) (n0 : Nat) (hn0 : n0 ≤ h0.size)  : own_Met l Z n0 x code maxLocals ret ws room_1 #[(.int i0)] h0 (fun v h => v = some (.int 1)) := by
  refine own_body (plainFor_of_name own_pn_com_example_termwell_termwell_store_Utf8EncodedLengthPinLaw) hn0 (own_ef_law i0) ?_
  intro p e s m below meth c T C X
  refine own_iloadN C X at_0 rfl (pc' := 1) rfl ?_
  refine own_ldcI C X at_1 (hw _ (List.mem_of_getElem? (i := 0) rfl)) (pc' := 3) rfl ?_
  refine own_iand C X at_3 rfl (pc' := 4) rfl ?_
  refine own_ldcI C X at_4 (hw _ (List.mem_of_getElem? (i := 1) rfl)) (pc' := 6) rfl ?_
  obtain ⟨cp, e_cp⟩ : ∃ z : Int32, ((i0 &&& (2147483647 : Int32)) % (1114112 : Int32)) = z := ⟨_, rfl⟩
  refine own_irem C X at_6 (by decide) e_cp (pc' := 7) rfl ?_
  obtain ⟨hz, h1⟩ := own_rem i0 (1114112 : Int32) (by decide)
  rw [e_cp] at hz h1
  replace h1 : cp.toInt < 1114112 := h1
  refine own_istoreN C X at_7 (L' := #[.val (.int i0), .val (.int cp), .unset, .unset, .unset, .unset, .unset]) rfl (pc' := 8) rfl ?_
  rcases own_four cp with q1 | ⟨q1, q2⟩ | ⟨q1, q2, q3⟩ | ⟨q1, q2, q3⟩
  · refine own_iloadN C X at_8 rfl (pc' := 9) rfl ?_
    refine own_callS C X at_9 (own_m_el l Z a0 hw cp _ n0 (own_big C X)) (hw _ (List.mem_of_getElem? (i := 2) rfl)) (hw _ (List.mem_of_getElem? (i := 3) rfl)) (hw _ (List.mem_of_getElem? (i := 4) rfl)) (hw _ (List.mem_of_getElem? (i := 5) rfl)) (by decide) own_pd_1963 rfl rfl (Nat.le_of_ble_eq_true rfl) (Nat.le_of_ble_eq_true rfl) (Nat.le_of_ble_eq_true rfl) (Nat.le_of_ble_eq_true rfl) (av := [(.int cp)]) (S := []) rfl (pc' := 12) rfl ?_
    intro T h v X hQ
    obtain ⟨rfl, rfl⟩ := hQ
    show own_Go p e below n0 (own_Fin room_1 s (fun v h => v = some (.int 1))) (T.setTop (mkF m 12 #[.val (.int i0), .val (.int cp), .unset, .unset, .unset, .unset, .unset] [(.int (own_el cp))]))
    rw [own_el1 cp q1]
    show own_Go p e below n0 (own_Fin room_1 s (fun v h => v = some (.int 1))) (T.setTop (mkF m 12 #[.val (.int i0), .val (.int cp), .unset, .unset, .unset, .unset, .unset] [(.int (1 : Int32))]))
    refine own_istoreN C X at_12 (L' := #[.val (.int i0), .val (.int cp), .val (.int (1 : Int32)), .unset, .unset, .unset, .unset]) rfl (pc' := 13) rfl ?_
    refine own_iloadN C X at_13 rfl (pc' := 14) rfl ?_
    refine own_iconst C X at_14 (v := 1) (by decide) (pc' := 15) rfl ?_
    refine own_icmp_lt C X at_15 (pcT := 23) (pc' := 18) (by decide) (by decide) rfl (fun hc15 => absurd hc15 (by decide)) (fun hc15 => ?_)
    refine own_iloadN C X at_18 rfl (pc' := 19) rfl ?_
    refine own_iconst C X at_19 (v := 4) (by decide) (pc' := 20) rfl ?_
    refine own_icmp_le C X at_20 (pcT := 25) (pc' := 23) (by decide) (by decide) rfl (fun hc20 => ?_) (fun hc20 => absurd hc20 (by decide))
    refine own_iloadN C X at_25 rfl (pc' := 26) rfl ?_
    refine own_iconst C X at_26 (v := 1) (by decide) (pc' := 27) rfl ?_
    refine own_iloadN C X at_27 rfl (pc' := 28) rfl ?_
    refine own_callS C X at_28 (own_m_pb l Z a0 hw (1 : Int32) _ n0 (own_big C X) 7 (by decide)) (hw _ (List.mem_of_getElem? (i := 6) rfl)) (hw _ (List.mem_of_getElem? (i := 7) rfl)) (hw _ (List.mem_of_getElem? (i := 8) rfl)) (hw _ (List.mem_of_getElem? (i := 9) rfl)) (by decide) own_pd_1963 rfl rfl (Nat.le_of_ble_eq_true rfl) (Nat.le_of_ble_eq_true rfl) (Nat.le_of_ble_eq_true rfl) (Nat.le_of_ble_eq_true rfl) (av := [(.int (1 : Int32))]) (S := [(.int (1 : Int32)), (.int cp)]) rfl (pc' := 31) rfl ?_
    intro T h v X hQ
    obtain ⟨rfl, rfl⟩ := hQ
    show own_Go p e below n0 (own_Fin room_1 s (fun v h => v = some (.int 1))) (T.setTop (mkF m 31 #[.val (.int i0), .val (.int cp), .val (.int (1 : Int32)), .unset, .unset, .unset, .unset] [(.int (7 : Int32)), (.int (1 : Int32)), (.int cp)]))
    refine own_ishl C X at_31 (z := 128) (by decide) (pc' := 32) rfl ?_
    refine own_icmp_ge C X at_32 (pcT := 39) (pc' := 35) (by decide) (by decide) rfl (fun hc32 => absurd hc32 (not_not_intro q1)) (fun hc32 => ?_)
    refine own_iconst C X at_35 (v := 1) (by decide) (pc' := 36) rfl ?_
    refine own_goto C X at_36 (pc' := 40) (by decide) (by decide) ?_
    refine own_istoreN C X at_40 (L' := #[.val (.int i0), .val (.int cp), .val (.int (1 : Int32)), .val (.int (1 : Int32)), .unset, .unset, .unset]) rfl (pc' := 41) rfl ?_
    refine own_iloadN C X at_41 rfl (pc' := 42) rfl ?_
    refine own_iconst C X at_42 (v := 1) (by decide) (pc' := 43) rfl ?_
    refine own_icmp_eq C X at_43 (pcT := 58) (pc' := 46) (by decide) (by decide) rfl (fun hc43 => ?_) (fun hc43 => absurd hc43 (by decide))
    refine own_iconst C X at_58 (v := 1) (by decide) (pc' := 59) rfl ?_
    refine own_goto C X at_59 (pc' := 63) (by decide) (by decide) ?_
    refine own_istore C X at_63 (L' := #[.val (.int i0), .val (.int cp), .val (.int (1 : Int32)), .val (.int (1 : Int32)), .val (.int (1 : Int32)), .unset, .unset]) rfl (pc' := 65) rfl ?_
    refine own_iconst C X at_65 (v := 4) (by decide) (pc' := 66) rfl ?_
    refine own_newI C X at_66 (ty := .byte) rfl (hw _ (List.mem_of_getElem? (i := 10) rfl)) (by decide) (k := 4) (cap := 4) (Nat.le_of_ble_eq_true rfl) (by decide) (Nat.le_of_ble_eq_true rfl) (Nat.le_of_ble_eq_true rfl) rfl rfl (pc' := 68) rfl ?_
    intro T h bb e_bb X K_ ge_bb A_bb_
    have A_bb : own_IA Z h bb .byte [(0 : Int32), (0 : Int32), (0 : Int32), (0 : Int32)] := A_bb_
    refine own_astore C X at_68 rfl (L' := #[.val (.int i0), .val (.int cp), .val (.int (1 : Int32)), .val (.int (1 : Int32)), .val (.int (1 : Int32)), .val (.ref bb), .unset]) rfl (pc' := 70) rfl ?_
    refine own_iloadN C X at_70 rfl (pc' := 71) rfl ?_
    refine own_aload C X at_71 rfl rfl (pc' := 73) rfl ?_
    refine own_iconst C X at_73 (v := 0) (by decide) (pc' := 74) rfl ?_
    refine own_callS C X at_74 (own_m_enc1 l Z a0 hw cp bb (0 : Int32) _ n0 (own_big C X) [(0 : Int32), (0 : Int32), (0 : Int32), (0 : Int32)] 0 A_bb (by decide) (Nat.le_of_ble_eq_true rfl) ge_bb 1 (by decide) q1) (hw _ (List.mem_of_getElem? (i := 11) rfl)) (hw _ (List.mem_of_getElem? (i := 12) rfl)) (hw _ (List.mem_of_getElem? (i := 4) rfl)) (hw _ (List.mem_of_getElem? (i := 13) rfl)) (by decide) own_pd_4587 rfl rfl (Nat.le_of_ble_eq_true rfl) (Nat.le_of_ble_eq_true rfl) (Nat.le_of_ble_eq_true rfl) (Nat.le_of_ble_eq_true rfl) (av := [(.int cp), (.ref bb), (.int (0 : Int32))]) (S := []) rfl (pc' := 77) rfl ?_
    intro T h v X hQ
    obtain ⟨rfl, K_, A_bb_⟩ := hQ
    have A_bb : own_IA Z h bb .byte [cp.toInt8.toInt32, (0 : Int32), (0 : Int32), (0 : Int32)] := A_bb_
    show own_Go p e below n0 (own_Fin room_1 s (fun v h => v = some (.int 1))) (T.setTop (mkF m 77 #[.val (.int i0), .val (.int cp), .val (.int (1 : Int32)), .val (.int (1 : Int32)), .val (.int (1 : Int32)), .val (.ref bb), .unset] [(.int (1 : Int32))]))
    refine own_istore C X at_77 (L' := #[.val (.int i0), .val (.int cp), .val (.int (1 : Int32)), .val (.int (1 : Int32)), .val (.int (1 : Int32)), .val (.ref bb), .val (.int (1 : Int32))]) rfl (pc' := 79) rfl ?_
    refine own_iloadN C X at_79 rfl (pc' := 80) rfl ?_
    refine own_if_eq C X at_80 (pcT := 110) (pc' := 83) (by decide) (by decide) rfl (fun hc80 => absurd hc80 (by decide)) (fun hc80 => ?_)
    refine own_iload C X at_83 rfl (pc' := 85) rfl ?_
    refine own_if_eq C X at_85 (pcT := 110) (pc' := 88) (by decide) (by decide) rfl (fun hc85 => absurd hc85 (by decide)) (fun hc85 => ?_)
    refine own_iload C X at_88 rfl (pc' := 90) rfl ?_
    refine own_iloadN C X at_90 rfl (pc' := 91) rfl ?_
    refine own_icmp_ne C X at_91 (pcT := 110) (pc' := 94) (by decide) (by decide) rfl (fun hc91 => absurd hc91 (by decide)) (fun hc91 => ?_)
    refine own_aload C X at_94 rfl rfl (pc' := 96) rfl ?_
    refine own_iconst C X at_96 (v := 0) (by decide) (pc' := 97) rfl ?_
    refine own_iload C X at_97 rfl (pc' := 99) rfl ?_
    refine own_callS C X at_99 (own_m_ca1 l Z a0 hw bb _ n0 (own_big C X) [cp.toInt8.toInt32, (0 : Int32), (0 : Int32), (0 : Int32)] A_bb _ rfl (own_sl1 cp hz q1)) (hw _ (List.mem_of_getElem? (i := 14) rfl)) (hw _ (List.mem_of_getElem? (i := 15) rfl)) (hw _ (List.mem_of_getElem? (i := 4) rfl)) (hw _ (List.mem_of_getElem? (i := 16) rfl)) (by decide) own_pd_4576 rfl rfl (Nat.le_of_ble_eq_true rfl) (Nat.le_of_ble_eq_true rfl) (Nat.le_of_ble_eq_true rfl) (Nat.le_of_ble_eq_true rfl) (av := [(.ref bb), (.int (0 : Int32)), (.int (1 : Int32))]) (S := []) rfl (pc' := 102) rfl ?_
    intro T h v X hQ
    obtain ⟨rfl, rfl⟩ := hQ
    show own_Go p e below n0 (own_Fin room_1 s (fun v h => v = some (.int 1))) (T.setTop (mkF m 102 #[.val (.int i0), .val (.int cp), .val (.int (1 : Int32)), .val (.int (1 : Int32)), .val (.int (1 : Int32)), .val (.ref bb), .val (.int (1 : Int32))] [(.int (cp.toInt8.toInt32 &&& (255 : Int32)))]))
    refine own_iloadN C X at_102 rfl (pc' := 103) rfl ?_
    refine own_icmp_ne C X at_103 (pcT := 110) (pc' := 106) (by decide) (by decide) rfl (fun hc103 => absurd hc103 (not_not_intro (own_w1 cp hz q1))) (fun hc103 => ?_)
    refine own_iconst C X at_106 (v := 1) (by decide) (pc' := 107) rfl ?_
    refine own_goto C X at_107 (pc' := 111) (by decide) (by decide) ?_
    exact own_ireturn_z C X at_111 (Nat.le_of_ble_eq_true rfl) (Nat.le_of_ble_eq_true rfl) (rfl)
  · refine own_iloadN C X at_8 rfl (pc' := 9) rfl ?_
    refine own_callS C X at_9 (own_m_el l Z a0 hw cp _ n0 (own_big C X)) (hw _ (List.mem_of_getElem? (i := 2) rfl)) (hw _ (List.mem_of_getElem? (i := 3) rfl)) (hw _ (List.mem_of_getElem? (i := 4) rfl)) (hw _ (List.mem_of_getElem? (i := 5) rfl)) (by decide) own_pd_1963 rfl rfl (Nat.le_of_ble_eq_true rfl) (Nat.le_of_ble_eq_true rfl) (Nat.le_of_ble_eq_true rfl) (Nat.le_of_ble_eq_true rfl) (av := [(.int cp)]) (S := []) rfl (pc' := 12) rfl ?_
    intro T h v X hQ
    obtain ⟨rfl, rfl⟩ := hQ
    show own_Go p e below n0 (own_Fin room_1 s (fun v h => v = some (.int 1))) (T.setTop (mkF m 12 #[.val (.int i0), .val (.int cp), .unset, .unset, .unset, .unset, .unset] [(.int (own_el cp))]))
    rw [own_el2 cp q1 q2]
    show own_Go p e below n0 (own_Fin room_1 s (fun v h => v = some (.int 1))) (T.setTop (mkF m 12 #[.val (.int i0), .val (.int cp), .unset, .unset, .unset, .unset, .unset] [(.int (2 : Int32))]))
    refine own_istoreN C X at_12 (L' := #[.val (.int i0), .val (.int cp), .val (.int (2 : Int32)), .unset, .unset, .unset, .unset]) rfl (pc' := 13) rfl ?_
    refine own_iloadN C X at_13 rfl (pc' := 14) rfl ?_
    refine own_iconst C X at_14 (v := 1) (by decide) (pc' := 15) rfl ?_
    refine own_icmp_lt C X at_15 (pcT := 23) (pc' := 18) (by decide) (by decide) rfl (fun hc15 => absurd hc15 (by decide)) (fun hc15 => ?_)
    refine own_iloadN C X at_18 rfl (pc' := 19) rfl ?_
    refine own_iconst C X at_19 (v := 4) (by decide) (pc' := 20) rfl ?_
    refine own_icmp_le C X at_20 (pcT := 25) (pc' := 23) (by decide) (by decide) rfl (fun hc20 => ?_) (fun hc20 => absurd hc20 (by decide))
    refine own_iloadN C X at_25 rfl (pc' := 26) rfl ?_
    refine own_iconst C X at_26 (v := 1) (by decide) (pc' := 27) rfl ?_
    refine own_iloadN C X at_27 rfl (pc' := 28) rfl ?_
    refine own_callS C X at_28 (own_m_pb l Z a0 hw (2 : Int32) _ n0 (own_big C X) 11 (by decide)) (hw _ (List.mem_of_getElem? (i := 6) rfl)) (hw _ (List.mem_of_getElem? (i := 7) rfl)) (hw _ (List.mem_of_getElem? (i := 8) rfl)) (hw _ (List.mem_of_getElem? (i := 9) rfl)) (by decide) own_pd_1963 rfl rfl (Nat.le_of_ble_eq_true rfl) (Nat.le_of_ble_eq_true rfl) (Nat.le_of_ble_eq_true rfl) (Nat.le_of_ble_eq_true rfl) (av := [(.int (2 : Int32))]) (S := [(.int (1 : Int32)), (.int cp)]) rfl (pc' := 31) rfl ?_
    intro T h v X hQ
    obtain ⟨rfl, rfl⟩ := hQ
    show own_Go p e below n0 (own_Fin room_1 s (fun v h => v = some (.int 1))) (T.setTop (mkF m 31 #[.val (.int i0), .val (.int cp), .val (.int (2 : Int32)), .unset, .unset, .unset, .unset] [(.int (11 : Int32)), (.int (1 : Int32)), (.int cp)]))
    refine own_ishl C X at_31 (z := 2048) (by decide) (pc' := 32) rfl ?_
    refine own_icmp_ge C X at_32 (pcT := 39) (pc' := 35) (by decide) (by decide) rfl (fun hc32 => absurd hc32 (not_not_intro q2)) (fun hc32 => ?_)
    refine own_iconst C X at_35 (v := 1) (by decide) (pc' := 36) rfl ?_
    refine own_goto C X at_36 (pc' := 40) (by decide) (by decide) ?_
    refine own_istoreN C X at_40 (L' := #[.val (.int i0), .val (.int cp), .val (.int (2 : Int32)), .val (.int (1 : Int32)), .unset, .unset, .unset]) rfl (pc' := 41) rfl ?_
    refine own_iloadN C X at_41 rfl (pc' := 42) rfl ?_
    refine own_iconst C X at_42 (v := 1) (by decide) (pc' := 43) rfl ?_
    refine own_icmp_eq C X at_43 (pcT := 58) (pc' := 46) (by decide) (by decide) rfl (fun hc43 => absurd hc43 (by decide)) (fun hc43 => ?_)
    refine own_iloadN C X at_46 rfl (pc' := 47) rfl ?_
    refine own_iconst C X at_47 (v := 1) (by decide) (pc' := 48) rfl ?_
    refine own_iloadN C X at_48 rfl (pc' := 49) rfl ?_
    refine own_iconst C X at_49 (v := 1) (by decide) (pc' := 50) rfl ?_
    refine own_isub C X at_50 (z := 1) (by decide) (pc' := 51) rfl ?_
    refine own_callS C X at_51 (own_m_pb l Z a0 hw (1 : Int32) _ n0 (own_big C X) 7 (by decide)) (hw _ (List.mem_of_getElem? (i := 6) rfl)) (hw _ (List.mem_of_getElem? (i := 7) rfl)) (hw _ (List.mem_of_getElem? (i := 8) rfl)) (hw _ (List.mem_of_getElem? (i := 9) rfl)) (by decide) own_pd_1963 rfl rfl (Nat.le_of_ble_eq_true rfl) (Nat.le_of_ble_eq_true rfl) (Nat.le_of_ble_eq_true rfl) (Nat.le_of_ble_eq_true rfl) (av := [(.int (1 : Int32))]) (S := [(.int (1 : Int32)), (.int cp)]) rfl (pc' := 54) rfl ?_
    intro T h v X hQ
    obtain ⟨rfl, rfl⟩ := hQ
    show own_Go p e below n0 (own_Fin room_1 s (fun v h => v = some (.int 1))) (T.setTop (mkF m 54 #[.val (.int i0), .val (.int cp), .val (.int (2 : Int32)), .val (.int (1 : Int32)), .unset, .unset, .unset] [(.int (7 : Int32)), (.int (1 : Int32)), (.int cp)]))
    refine own_ishl C X at_54 (z := 128) (by decide) (pc' := 55) rfl ?_
    refine own_icmp_lt C X at_55 (pcT := 62) (pc' := 58) (by decide) (by decide) rfl (fun hc55 => absurd hc55 (q1)) (fun hc55 => ?_)
    refine own_iconst C X at_58 (v := 1) (by decide) (pc' := 59) rfl ?_
    refine own_goto C X at_59 (pc' := 63) (by decide) (by decide) ?_
    refine own_istore C X at_63 (L' := #[.val (.int i0), .val (.int cp), .val (.int (2 : Int32)), .val (.int (1 : Int32)), .val (.int (1 : Int32)), .unset, .unset]) rfl (pc' := 65) rfl ?_
    refine own_iconst C X at_65 (v := 4) (by decide) (pc' := 66) rfl ?_
    refine own_newI C X at_66 (ty := .byte) rfl (hw _ (List.mem_of_getElem? (i := 10) rfl)) (by decide) (k := 4) (cap := 4) (Nat.le_of_ble_eq_true rfl) (by decide) (Nat.le_of_ble_eq_true rfl) (Nat.le_of_ble_eq_true rfl) rfl rfl (pc' := 68) rfl ?_
    intro T h bb e_bb X K_ ge_bb A_bb_
    have A_bb : own_IA Z h bb .byte [(0 : Int32), (0 : Int32), (0 : Int32), (0 : Int32)] := A_bb_
    refine own_astore C X at_68 rfl (L' := #[.val (.int i0), .val (.int cp), .val (.int (2 : Int32)), .val (.int (1 : Int32)), .val (.int (1 : Int32)), .val (.ref bb), .unset]) rfl (pc' := 70) rfl ?_
    refine own_iloadN C X at_70 rfl (pc' := 71) rfl ?_
    refine own_aload C X at_71 rfl rfl (pc' := 73) rfl ?_
    refine own_iconst C X at_73 (v := 0) (by decide) (pc' := 74) rfl ?_
    refine own_callS C X at_74 (own_m_enc2 l Z a0 hw cp bb (0 : Int32) _ n0 (own_big C X) [(0 : Int32), (0 : Int32), (0 : Int32), (0 : Int32)] 0 A_bb (by decide) (Nat.le_of_ble_eq_true rfl) ge_bb 2 (by decide) q1 q2) (hw _ (List.mem_of_getElem? (i := 11) rfl)) (hw _ (List.mem_of_getElem? (i := 12) rfl)) (hw _ (List.mem_of_getElem? (i := 4) rfl)) (hw _ (List.mem_of_getElem? (i := 13) rfl)) (by decide) own_pd_4587 rfl rfl (Nat.le_of_ble_eq_true rfl) (Nat.le_of_ble_eq_true rfl) (Nat.le_of_ble_eq_true rfl) (Nat.le_of_ble_eq_true rfl) (av := [(.int cp), (.ref bb), (.int (0 : Int32))]) (S := []) rfl (pc' := 77) rfl ?_
    intro T h v X hQ
    obtain ⟨rfl, K_, A_bb_⟩ := hQ
    have A_bb : own_IA Z h bb .byte [((192 : Int32) ||| ((cp.toUInt32 >>> ((6 : Int32) &&& 31).toUInt32).toInt32)).toInt8.toInt32, ((128 : Int32) ||| (cp &&& (63 : Int32))).toInt8.toInt32, (0 : Int32), (0 : Int32)] := A_bb_
    show own_Go p e below n0 (own_Fin room_1 s (fun v h => v = some (.int 1))) (T.setTop (mkF m 77 #[.val (.int i0), .val (.int cp), .val (.int (2 : Int32)), .val (.int (1 : Int32)), .val (.int (1 : Int32)), .val (.ref bb), .unset] [(.int (2 : Int32))]))
    refine own_istore C X at_77 (L' := #[.val (.int i0), .val (.int cp), .val (.int (2 : Int32)), .val (.int (1 : Int32)), .val (.int (1 : Int32)), .val (.ref bb), .val (.int (2 : Int32))]) rfl (pc' := 79) rfl ?_
    refine own_iloadN C X at_79 rfl (pc' := 80) rfl ?_
    refine own_if_eq C X at_80 (pcT := 110) (pc' := 83) (by decide) (by decide) rfl (fun hc80 => absurd hc80 (by decide)) (fun hc80 => ?_)
    refine own_iload C X at_83 rfl (pc' := 85) rfl ?_
    refine own_if_eq C X at_85 (pcT := 110) (pc' := 88) (by decide) (by decide) rfl (fun hc85 => absurd hc85 (by decide)) (fun hc85 => ?_)
    refine own_iload C X at_88 rfl (pc' := 90) rfl ?_
    refine own_iloadN C X at_90 rfl (pc' := 91) rfl ?_
    refine own_icmp_ne C X at_91 (pcT := 110) (pc' := 94) (by decide) (by decide) rfl (fun hc91 => absurd hc91 (by decide)) (fun hc91 => ?_)
    refine own_aload C X at_94 rfl rfl (pc' := 96) rfl ?_
    refine own_iconst C X at_96 (v := 0) (by decide) (pc' := 97) rfl ?_
    refine own_iload C X at_97 rfl (pc' := 99) rfl ?_
    refine own_callS C X at_99 (own_m_ca2 l Z a0 hw bb _ n0 (own_big C X) [((192 : Int32) ||| ((cp.toUInt32 >>> ((6 : Int32) &&& 31).toUInt32).toInt32)).toInt8.toInt32, ((128 : Int32) ||| (cp &&& (63 : Int32))).toInt8.toInt32, (0 : Int32), (0 : Int32)] A_bb _ _ rfl rfl (own_sl2 cp hz q1 q2)) (hw _ (List.mem_of_getElem? (i := 14) rfl)) (hw _ (List.mem_of_getElem? (i := 15) rfl)) (hw _ (List.mem_of_getElem? (i := 4) rfl)) (hw _ (List.mem_of_getElem? (i := 16) rfl)) (by decide) own_pd_4576 rfl rfl (Nat.le_of_ble_eq_true rfl) (Nat.le_of_ble_eq_true rfl) (Nat.le_of_ble_eq_true rfl) (Nat.le_of_ble_eq_true rfl) (av := [(.ref bb), (.int (0 : Int32)), (.int (2 : Int32))]) (S := []) rfl (pc' := 102) rfl ?_
    intro T h v X hQ
    obtain ⟨rfl, rfl⟩ := hQ
    show own_Go p e below n0 (own_Fin room_1 s (fun v h => v = some (.int 1))) (T.setTop (mkF m 102 #[.val (.int i0), .val (.int cp), .val (.int (2 : Int32)), .val (.int (1 : Int32)), .val (.int (1 : Int32)), .val (.ref bb), .val (.int (2 : Int32))] [(.int (((((192 : Int32) ||| ((cp.toUInt32 >>> ((6 : Int32) &&& 31).toUInt32).toInt32)).toInt8.toInt32 &&& (31 : Int32)) <<< ((6 : Int32) &&& 31)) ||| (((128 : Int32) ||| (cp &&& (63 : Int32))).toInt8.toInt32 &&& (63 : Int32))))]))
    refine own_iloadN C X at_102 rfl (pc' := 103) rfl ?_
    refine own_icmp_ne C X at_103 (pcT := 110) (pc' := 106) (by decide) (by decide) rfl (fun hc103 => absurd hc103 (not_not_intro (own_w2 cp hz q1 q2))) (fun hc103 => ?_)
    refine own_iconst C X at_106 (v := 1) (by decide) (pc' := 107) rfl ?_
    refine own_goto C X at_107 (pc' := 111) (by decide) (by decide) ?_
    exact own_ireturn_z C X at_111 (Nat.le_of_ble_eq_true rfl) (Nat.le_of_ble_eq_true rfl) (rfl)
  · refine own_iloadN C X at_8 rfl (pc' := 9) rfl ?_
    refine own_callS C X at_9 (own_m_el l Z a0 hw cp _ n0 (own_big C X)) (hw _ (List.mem_of_getElem? (i := 2) rfl)) (hw _ (List.mem_of_getElem? (i := 3) rfl)) (hw _ (List.mem_of_getElem? (i := 4) rfl)) (hw _ (List.mem_of_getElem? (i := 5) rfl)) (by decide) own_pd_1963 rfl rfl (Nat.le_of_ble_eq_true rfl) (Nat.le_of_ble_eq_true rfl) (Nat.le_of_ble_eq_true rfl) (Nat.le_of_ble_eq_true rfl) (av := [(.int cp)]) (S := []) rfl (pc' := 12) rfl ?_
    intro T h v X hQ
    obtain ⟨rfl, rfl⟩ := hQ
    show own_Go p e below n0 (own_Fin room_1 s (fun v h => v = some (.int 1))) (T.setTop (mkF m 12 #[.val (.int i0), .val (.int cp), .unset, .unset, .unset, .unset, .unset] [(.int (own_el cp))]))
    rw [own_el3 cp q1 q2 q3]
    show own_Go p e below n0 (own_Fin room_1 s (fun v h => v = some (.int 1))) (T.setTop (mkF m 12 #[.val (.int i0), .val (.int cp), .unset, .unset, .unset, .unset, .unset] [(.int (3 : Int32))]))
    refine own_istoreN C X at_12 (L' := #[.val (.int i0), .val (.int cp), .val (.int (3 : Int32)), .unset, .unset, .unset, .unset]) rfl (pc' := 13) rfl ?_
    refine own_iloadN C X at_13 rfl (pc' := 14) rfl ?_
    refine own_iconst C X at_14 (v := 1) (by decide) (pc' := 15) rfl ?_
    refine own_icmp_lt C X at_15 (pcT := 23) (pc' := 18) (by decide) (by decide) rfl (fun hc15 => absurd hc15 (by decide)) (fun hc15 => ?_)
    refine own_iloadN C X at_18 rfl (pc' := 19) rfl ?_
    refine own_iconst C X at_19 (v := 4) (by decide) (pc' := 20) rfl ?_
    refine own_icmp_le C X at_20 (pcT := 25) (pc' := 23) (by decide) (by decide) rfl (fun hc20 => ?_) (fun hc20 => absurd hc20 (by decide))
    refine own_iloadN C X at_25 rfl (pc' := 26) rfl ?_
    refine own_iconst C X at_26 (v := 1) (by decide) (pc' := 27) rfl ?_
    refine own_iloadN C X at_27 rfl (pc' := 28) rfl ?_
    refine own_callS C X at_28 (own_m_pb l Z a0 hw (3 : Int32) _ n0 (own_big C X) 16 (by decide)) (hw _ (List.mem_of_getElem? (i := 6) rfl)) (hw _ (List.mem_of_getElem? (i := 7) rfl)) (hw _ (List.mem_of_getElem? (i := 8) rfl)) (hw _ (List.mem_of_getElem? (i := 9) rfl)) (by decide) own_pd_1963 rfl rfl (Nat.le_of_ble_eq_true rfl) (Nat.le_of_ble_eq_true rfl) (Nat.le_of_ble_eq_true rfl) (Nat.le_of_ble_eq_true rfl) (av := [(.int (3 : Int32))]) (S := [(.int (1 : Int32)), (.int cp)]) rfl (pc' := 31) rfl ?_
    intro T h v X hQ
    obtain ⟨rfl, rfl⟩ := hQ
    show own_Go p e below n0 (own_Fin room_1 s (fun v h => v = some (.int 1))) (T.setTop (mkF m 31 #[.val (.int i0), .val (.int cp), .val (.int (3 : Int32)), .unset, .unset, .unset, .unset] [(.int (16 : Int32)), (.int (1 : Int32)), (.int cp)]))
    refine own_ishl C X at_31 (z := 65536) (by decide) (pc' := 32) rfl ?_
    refine own_icmp_ge C X at_32 (pcT := 39) (pc' := 35) (by decide) (by decide) rfl (fun hc32 => absurd hc32 (not_not_intro q3)) (fun hc32 => ?_)
    refine own_iconst C X at_35 (v := 1) (by decide) (pc' := 36) rfl ?_
    refine own_goto C X at_36 (pc' := 40) (by decide) (by decide) ?_
    refine own_istoreN C X at_40 (L' := #[.val (.int i0), .val (.int cp), .val (.int (3 : Int32)), .val (.int (1 : Int32)), .unset, .unset, .unset]) rfl (pc' := 41) rfl ?_
    refine own_iloadN C X at_41 rfl (pc' := 42) rfl ?_
    refine own_iconst C X at_42 (v := 1) (by decide) (pc' := 43) rfl ?_
    refine own_icmp_eq C X at_43 (pcT := 58) (pc' := 46) (by decide) (by decide) rfl (fun hc43 => absurd hc43 (by decide)) (fun hc43 => ?_)
    refine own_iloadN C X at_46 rfl (pc' := 47) rfl ?_
    refine own_iconst C X at_47 (v := 1) (by decide) (pc' := 48) rfl ?_
    refine own_iloadN C X at_48 rfl (pc' := 49) rfl ?_
    refine own_iconst C X at_49 (v := 1) (by decide) (pc' := 50) rfl ?_
    refine own_isub C X at_50 (z := 2) (by decide) (pc' := 51) rfl ?_
    refine own_callS C X at_51 (own_m_pb l Z a0 hw (2 : Int32) _ n0 (own_big C X) 11 (by decide)) (hw _ (List.mem_of_getElem? (i := 6) rfl)) (hw _ (List.mem_of_getElem? (i := 7) rfl)) (hw _ (List.mem_of_getElem? (i := 8) rfl)) (hw _ (List.mem_of_getElem? (i := 9) rfl)) (by decide) own_pd_1963 rfl rfl (Nat.le_of_ble_eq_true rfl) (Nat.le_of_ble_eq_true rfl) (Nat.le_of_ble_eq_true rfl) (Nat.le_of_ble_eq_true rfl) (av := [(.int (2 : Int32))]) (S := [(.int (1 : Int32)), (.int cp)]) rfl (pc' := 54) rfl ?_
    intro T h v X hQ
    obtain ⟨rfl, rfl⟩ := hQ
    show own_Go p e below n0 (own_Fin room_1 s (fun v h => v = some (.int 1))) (T.setTop (mkF m 54 #[.val (.int i0), .val (.int cp), .val (.int (3 : Int32)), .val (.int (1 : Int32)), .unset, .unset, .unset] [(.int (11 : Int32)), (.int (1 : Int32)), (.int cp)]))
    refine own_ishl C X at_54 (z := 2048) (by decide) (pc' := 55) rfl ?_
    refine own_icmp_lt C X at_55 (pcT := 62) (pc' := 58) (by decide) (by decide) rfl (fun hc55 => absurd hc55 (q2)) (fun hc55 => ?_)
    refine own_iconst C X at_58 (v := 1) (by decide) (pc' := 59) rfl ?_
    refine own_goto C X at_59 (pc' := 63) (by decide) (by decide) ?_
    refine own_istore C X at_63 (L' := #[.val (.int i0), .val (.int cp), .val (.int (3 : Int32)), .val (.int (1 : Int32)), .val (.int (1 : Int32)), .unset, .unset]) rfl (pc' := 65) rfl ?_
    refine own_iconst C X at_65 (v := 4) (by decide) (pc' := 66) rfl ?_
    refine own_newI C X at_66 (ty := .byte) rfl (hw _ (List.mem_of_getElem? (i := 10) rfl)) (by decide) (k := 4) (cap := 4) (Nat.le_of_ble_eq_true rfl) (by decide) (Nat.le_of_ble_eq_true rfl) (Nat.le_of_ble_eq_true rfl) rfl rfl (pc' := 68) rfl ?_
    intro T h bb e_bb X K_ ge_bb A_bb_
    have A_bb : own_IA Z h bb .byte [(0 : Int32), (0 : Int32), (0 : Int32), (0 : Int32)] := A_bb_
    refine own_astore C X at_68 rfl (L' := #[.val (.int i0), .val (.int cp), .val (.int (3 : Int32)), .val (.int (1 : Int32)), .val (.int (1 : Int32)), .val (.ref bb), .unset]) rfl (pc' := 70) rfl ?_
    refine own_iloadN C X at_70 rfl (pc' := 71) rfl ?_
    refine own_aload C X at_71 rfl rfl (pc' := 73) rfl ?_
    refine own_iconst C X at_73 (v := 0) (by decide) (pc' := 74) rfl ?_
    refine own_callS C X at_74 (own_m_enc3 l Z a0 hw cp bb (0 : Int32) _ n0 (own_big C X) [(0 : Int32), (0 : Int32), (0 : Int32), (0 : Int32)] 0 A_bb (by decide) (Nat.le_of_ble_eq_true rfl) ge_bb 3 (by decide) q1 q2 q3) (hw _ (List.mem_of_getElem? (i := 11) rfl)) (hw _ (List.mem_of_getElem? (i := 12) rfl)) (hw _ (List.mem_of_getElem? (i := 4) rfl)) (hw _ (List.mem_of_getElem? (i := 13) rfl)) (by decide) own_pd_4587 rfl rfl (Nat.le_of_ble_eq_true rfl) (Nat.le_of_ble_eq_true rfl) (Nat.le_of_ble_eq_true rfl) (Nat.le_of_ble_eq_true rfl) (av := [(.int cp), (.ref bb), (.int (0 : Int32))]) (S := []) rfl (pc' := 77) rfl ?_
    intro T h v X hQ
    obtain ⟨rfl, K_, A_bb_⟩ := hQ
    have A_bb : own_IA Z h bb .byte [((224 : Int32) ||| ((cp.toUInt32 >>> ((12 : Int32) &&& 31).toUInt32).toInt32)).toInt8.toInt32, ((128 : Int32) ||| (((cp.toUInt32 >>> ((6 : Int32) &&& 31).toUInt32).toInt32) &&& (63 : Int32))).toInt8.toInt32, ((128 : Int32) ||| (cp &&& (63 : Int32))).toInt8.toInt32, (0 : Int32)] := A_bb_
    show own_Go p e below n0 (own_Fin room_1 s (fun v h => v = some (.int 1))) (T.setTop (mkF m 77 #[.val (.int i0), .val (.int cp), .val (.int (3 : Int32)), .val (.int (1 : Int32)), .val (.int (1 : Int32)), .val (.ref bb), .unset] [(.int (3 : Int32))]))
    refine own_istore C X at_77 (L' := #[.val (.int i0), .val (.int cp), .val (.int (3 : Int32)), .val (.int (1 : Int32)), .val (.int (1 : Int32)), .val (.ref bb), .val (.int (3 : Int32))]) rfl (pc' := 79) rfl ?_
    refine own_iloadN C X at_79 rfl (pc' := 80) rfl ?_
    refine own_if_eq C X at_80 (pcT := 110) (pc' := 83) (by decide) (by decide) rfl (fun hc80 => absurd hc80 (by decide)) (fun hc80 => ?_)
    refine own_iload C X at_83 rfl (pc' := 85) rfl ?_
    refine own_if_eq C X at_85 (pcT := 110) (pc' := 88) (by decide) (by decide) rfl (fun hc85 => absurd hc85 (by decide)) (fun hc85 => ?_)
    refine own_iload C X at_88 rfl (pc' := 90) rfl ?_
    refine own_iloadN C X at_90 rfl (pc' := 91) rfl ?_
    refine own_icmp_ne C X at_91 (pcT := 110) (pc' := 94) (by decide) (by decide) rfl (fun hc91 => absurd hc91 (by decide)) (fun hc91 => ?_)
    refine own_aload C X at_94 rfl rfl (pc' := 96) rfl ?_
    refine own_iconst C X at_96 (v := 0) (by decide) (pc' := 97) rfl ?_
    refine own_iload C X at_97 rfl (pc' := 99) rfl ?_
    refine own_callS C X at_99 (own_m_ca3 l Z a0 hw bb _ n0 (own_big C X) [((224 : Int32) ||| ((cp.toUInt32 >>> ((12 : Int32) &&& 31).toUInt32).toInt32)).toInt8.toInt32, ((128 : Int32) ||| (((cp.toUInt32 >>> ((6 : Int32) &&& 31).toUInt32).toInt32) &&& (63 : Int32))).toInt8.toInt32, ((128 : Int32) ||| (cp &&& (63 : Int32))).toInt8.toInt32, (0 : Int32)] A_bb _ _ _ rfl rfl rfl (own_sl3 cp hz q1 q2 q3)) (hw _ (List.mem_of_getElem? (i := 14) rfl)) (hw _ (List.mem_of_getElem? (i := 15) rfl)) (hw _ (List.mem_of_getElem? (i := 4) rfl)) (hw _ (List.mem_of_getElem? (i := 16) rfl)) (by decide) own_pd_4576 rfl rfl (Nat.le_of_ble_eq_true rfl) (Nat.le_of_ble_eq_true rfl) (Nat.le_of_ble_eq_true rfl) (Nat.le_of_ble_eq_true rfl) (av := [(.ref bb), (.int (0 : Int32)), (.int (3 : Int32))]) (S := []) rfl (pc' := 102) rfl ?_
    intro T h v X hQ
    obtain ⟨rfl, rfl⟩ := hQ
    show own_Go p e below n0 (own_Fin room_1 s (fun v h => v = some (.int 1))) (T.setTop (mkF m 102 #[.val (.int i0), .val (.int cp), .val (.int (3 : Int32)), .val (.int (1 : Int32)), .val (.int (1 : Int32)), .val (.ref bb), .val (.int (3 : Int32))] [(.int (((((((224 : Int32) ||| ((cp.toUInt32 >>> ((12 : Int32) &&& 31).toUInt32).toInt32)).toInt8.toInt32 &&& (15 : Int32)) <<< ((6 : Int32) &&& 31)) ||| (((128 : Int32) ||| (((cp.toUInt32 >>> ((6 : Int32) &&& 31).toUInt32).toInt32) &&& (63 : Int32))).toInt8.toInt32 &&& (63 : Int32))) <<< ((6 : Int32) &&& 31)) ||| (((128 : Int32) ||| (cp &&& (63 : Int32))).toInt8.toInt32 &&& (63 : Int32))))]))
    refine own_iloadN C X at_102 rfl (pc' := 103) rfl ?_
    refine own_icmp_ne C X at_103 (pcT := 110) (pc' := 106) (by decide) (by decide) rfl (fun hc103 => absurd hc103 (not_not_intro (own_w3 cp hz q1 q2 q3))) (fun hc103 => ?_)
    refine own_iconst C X at_106 (v := 1) (by decide) (pc' := 107) rfl ?_
    refine own_goto C X at_107 (pc' := 111) (by decide) (by decide) ?_
    exact own_ireturn_z C X at_111 (Nat.le_of_ble_eq_true rfl) (Nat.le_of_ble_eq_true rfl) (rfl)
  · refine own_iloadN C X at_8 rfl (pc' := 9) rfl ?_
    refine own_callS C X at_9 (own_m_el l Z a0 hw cp _ n0 (own_big C X)) (hw _ (List.mem_of_getElem? (i := 2) rfl)) (hw _ (List.mem_of_getElem? (i := 3) rfl)) (hw _ (List.mem_of_getElem? (i := 4) rfl)) (hw _ (List.mem_of_getElem? (i := 5) rfl)) (by decide) own_pd_1963 rfl rfl (Nat.le_of_ble_eq_true rfl) (Nat.le_of_ble_eq_true rfl) (Nat.le_of_ble_eq_true rfl) (Nat.le_of_ble_eq_true rfl) (av := [(.int cp)]) (S := []) rfl (pc' := 12) rfl ?_
    intro T h v X hQ
    obtain ⟨rfl, rfl⟩ := hQ
    show own_Go p e below n0 (own_Fin room_1 s (fun v h => v = some (.int 1))) (T.setTop (mkF m 12 #[.val (.int i0), .val (.int cp), .unset, .unset, .unset, .unset, .unset] [(.int (own_el cp))]))
    rw [own_el4 cp q1 q2 q3]
    show own_Go p e below n0 (own_Fin room_1 s (fun v h => v = some (.int 1))) (T.setTop (mkF m 12 #[.val (.int i0), .val (.int cp), .unset, .unset, .unset, .unset, .unset] [(.int (4 : Int32))]))
    refine own_istoreN C X at_12 (L' := #[.val (.int i0), .val (.int cp), .val (.int (4 : Int32)), .unset, .unset, .unset, .unset]) rfl (pc' := 13) rfl ?_
    refine own_iloadN C X at_13 rfl (pc' := 14) rfl ?_
    refine own_iconst C X at_14 (v := 1) (by decide) (pc' := 15) rfl ?_
    refine own_icmp_lt C X at_15 (pcT := 23) (pc' := 18) (by decide) (by decide) rfl (fun hc15 => absurd hc15 (by decide)) (fun hc15 => ?_)
    refine own_iloadN C X at_18 rfl (pc' := 19) rfl ?_
    refine own_iconst C X at_19 (v := 4) (by decide) (pc' := 20) rfl ?_
    refine own_icmp_le C X at_20 (pcT := 25) (pc' := 23) (by decide) (by decide) rfl (fun hc20 => ?_) (fun hc20 => absurd hc20 (by decide))
    refine own_iloadN C X at_25 rfl (pc' := 26) rfl ?_
    refine own_iconst C X at_26 (v := 1) (by decide) (pc' := 27) rfl ?_
    refine own_iloadN C X at_27 rfl (pc' := 28) rfl ?_
    refine own_callS C X at_28 (own_m_pb l Z a0 hw (4 : Int32) _ n0 (own_big C X) 21 (by decide)) (hw _ (List.mem_of_getElem? (i := 6) rfl)) (hw _ (List.mem_of_getElem? (i := 7) rfl)) (hw _ (List.mem_of_getElem? (i := 8) rfl)) (hw _ (List.mem_of_getElem? (i := 9) rfl)) (by decide) own_pd_1963 rfl rfl (Nat.le_of_ble_eq_true rfl) (Nat.le_of_ble_eq_true rfl) (Nat.le_of_ble_eq_true rfl) (Nat.le_of_ble_eq_true rfl) (av := [(.int (4 : Int32))]) (S := [(.int (1 : Int32)), (.int cp)]) rfl (pc' := 31) rfl ?_
    intro T h v X hQ
    obtain ⟨rfl, rfl⟩ := hQ
    show own_Go p e below n0 (own_Fin room_1 s (fun v h => v = some (.int 1))) (T.setTop (mkF m 31 #[.val (.int i0), .val (.int cp), .val (.int (4 : Int32)), .unset, .unset, .unset, .unset] [(.int (21 : Int32)), (.int (1 : Int32)), (.int cp)]))
    refine own_ishl C X at_31 (z := 2097152) (by decide) (pc' := 32) rfl ?_
    refine own_icmp_ge C X at_32 (pcT := 39) (pc' := 35) (by decide) (by decide) rfl (fun hc32 => absurd hc32 (not_not_intro (own_big4 cp h1))) (fun hc32 => ?_)
    refine own_iconst C X at_35 (v := 1) (by decide) (pc' := 36) rfl ?_
    refine own_goto C X at_36 (pc' := 40) (by decide) (by decide) ?_
    refine own_istoreN C X at_40 (L' := #[.val (.int i0), .val (.int cp), .val (.int (4 : Int32)), .val (.int (1 : Int32)), .unset, .unset, .unset]) rfl (pc' := 41) rfl ?_
    refine own_iloadN C X at_41 rfl (pc' := 42) rfl ?_
    refine own_iconst C X at_42 (v := 1) (by decide) (pc' := 43) rfl ?_
    refine own_icmp_eq C X at_43 (pcT := 58) (pc' := 46) (by decide) (by decide) rfl (fun hc43 => absurd hc43 (by decide)) (fun hc43 => ?_)
    refine own_iloadN C X at_46 rfl (pc' := 47) rfl ?_
    refine own_iconst C X at_47 (v := 1) (by decide) (pc' := 48) rfl ?_
    refine own_iloadN C X at_48 rfl (pc' := 49) rfl ?_
    refine own_iconst C X at_49 (v := 1) (by decide) (pc' := 50) rfl ?_
    refine own_isub C X at_50 (z := 3) (by decide) (pc' := 51) rfl ?_
    refine own_callS C X at_51 (own_m_pb l Z a0 hw (3 : Int32) _ n0 (own_big C X) 16 (by decide)) (hw _ (List.mem_of_getElem? (i := 6) rfl)) (hw _ (List.mem_of_getElem? (i := 7) rfl)) (hw _ (List.mem_of_getElem? (i := 8) rfl)) (hw _ (List.mem_of_getElem? (i := 9) rfl)) (by decide) own_pd_1963 rfl rfl (Nat.le_of_ble_eq_true rfl) (Nat.le_of_ble_eq_true rfl) (Nat.le_of_ble_eq_true rfl) (Nat.le_of_ble_eq_true rfl) (av := [(.int (3 : Int32))]) (S := [(.int (1 : Int32)), (.int cp)]) rfl (pc' := 54) rfl ?_
    intro T h v X hQ
    obtain ⟨rfl, rfl⟩ := hQ
    show own_Go p e below n0 (own_Fin room_1 s (fun v h => v = some (.int 1))) (T.setTop (mkF m 54 #[.val (.int i0), .val (.int cp), .val (.int (4 : Int32)), .val (.int (1 : Int32)), .unset, .unset, .unset] [(.int (16 : Int32)), (.int (1 : Int32)), (.int cp)]))
    refine own_ishl C X at_54 (z := 65536) (by decide) (pc' := 55) rfl ?_
    refine own_icmp_lt C X at_55 (pcT := 62) (pc' := 58) (by decide) (by decide) rfl (fun hc55 => absurd hc55 (q3)) (fun hc55 => ?_)
    refine own_iconst C X at_58 (v := 1) (by decide) (pc' := 59) rfl ?_
    refine own_goto C X at_59 (pc' := 63) (by decide) (by decide) ?_
    refine own_istore C X at_63 (L' := #[.val (.int i0), .val (.int cp), .val (.int (4 : Int32)), .val (.int (1 : Int32)), .val (.int (1 : Int32)), .unset, .unset]) rfl (pc' := 65) rfl ?_
    refine own_iconst C X at_65 (v := 4) (by decide) (pc' := 66) rfl ?_
    refine own_newI C X at_66 (ty := .byte) rfl (hw _ (List.mem_of_getElem? (i := 10) rfl)) (by decide) (k := 4) (cap := 4) (Nat.le_of_ble_eq_true rfl) (by decide) (Nat.le_of_ble_eq_true rfl) (Nat.le_of_ble_eq_true rfl) rfl rfl (pc' := 68) rfl ?_
    intro T h bb e_bb X K_ ge_bb A_bb_
    have A_bb : own_IA Z h bb .byte [(0 : Int32), (0 : Int32), (0 : Int32), (0 : Int32)] := A_bb_
    refine own_astore C X at_68 rfl (L' := #[.val (.int i0), .val (.int cp), .val (.int (4 : Int32)), .val (.int (1 : Int32)), .val (.int (1 : Int32)), .val (.ref bb), .unset]) rfl (pc' := 70) rfl ?_
    refine own_iloadN C X at_70 rfl (pc' := 71) rfl ?_
    refine own_aload C X at_71 rfl rfl (pc' := 73) rfl ?_
    refine own_iconst C X at_73 (v := 0) (by decide) (pc' := 74) rfl ?_
    refine own_callS C X at_74 (own_m_enc4 l Z a0 hw cp bb (0 : Int32) _ n0 (own_big C X) [(0 : Int32), (0 : Int32), (0 : Int32), (0 : Int32)] 0 A_bb (by decide) (Nat.le_of_ble_eq_true rfl) ge_bb 4 (by decide) q1 q2 q3) (hw _ (List.mem_of_getElem? (i := 11) rfl)) (hw _ (List.mem_of_getElem? (i := 12) rfl)) (hw _ (List.mem_of_getElem? (i := 4) rfl)) (hw _ (List.mem_of_getElem? (i := 13) rfl)) (by decide) own_pd_4587 rfl rfl (Nat.le_of_ble_eq_true rfl) (Nat.le_of_ble_eq_true rfl) (Nat.le_of_ble_eq_true rfl) (Nat.le_of_ble_eq_true rfl) (av := [(.int cp), (.ref bb), (.int (0 : Int32))]) (S := []) rfl (pc' := 77) rfl ?_
    intro T h v X hQ
    obtain ⟨rfl, K_, A_bb_⟩ := hQ
    have A_bb : own_IA Z h bb .byte [((240 : Int32) ||| ((cp.toUInt32 >>> ((18 : Int32) &&& 31).toUInt32).toInt32)).toInt8.toInt32, ((128 : Int32) ||| (((cp.toUInt32 >>> ((12 : Int32) &&& 31).toUInt32).toInt32) &&& (63 : Int32))).toInt8.toInt32, ((128 : Int32) ||| (((cp.toUInt32 >>> ((6 : Int32) &&& 31).toUInt32).toInt32) &&& (63 : Int32))).toInt8.toInt32, ((128 : Int32) ||| (cp &&& (63 : Int32))).toInt8.toInt32] := A_bb_
    show own_Go p e below n0 (own_Fin room_1 s (fun v h => v = some (.int 1))) (T.setTop (mkF m 77 #[.val (.int i0), .val (.int cp), .val (.int (4 : Int32)), .val (.int (1 : Int32)), .val (.int (1 : Int32)), .val (.ref bb), .unset] [(.int (4 : Int32))]))
    refine own_istore C X at_77 (L' := #[.val (.int i0), .val (.int cp), .val (.int (4 : Int32)), .val (.int (1 : Int32)), .val (.int (1 : Int32)), .val (.ref bb), .val (.int (4 : Int32))]) rfl (pc' := 79) rfl ?_
    refine own_iloadN C X at_79 rfl (pc' := 80) rfl ?_
    refine own_if_eq C X at_80 (pcT := 110) (pc' := 83) (by decide) (by decide) rfl (fun hc80 => absurd hc80 (by decide)) (fun hc80 => ?_)
    refine own_iload C X at_83 rfl (pc' := 85) rfl ?_
    refine own_if_eq C X at_85 (pcT := 110) (pc' := 88) (by decide) (by decide) rfl (fun hc85 => absurd hc85 (by decide)) (fun hc85 => ?_)
    refine own_iload C X at_88 rfl (pc' := 90) rfl ?_
    refine own_iloadN C X at_90 rfl (pc' := 91) rfl ?_
    refine own_icmp_ne C X at_91 (pcT := 110) (pc' := 94) (by decide) (by decide) rfl (fun hc91 => absurd hc91 (by decide)) (fun hc91 => ?_)
    refine own_aload C X at_94 rfl rfl (pc' := 96) rfl ?_
    refine own_iconst C X at_96 (v := 0) (by decide) (pc' := 97) rfl ?_
    refine own_iload C X at_97 rfl (pc' := 99) rfl ?_
    refine own_callS C X at_99 (own_m_ca4 l Z a0 hw bb _ n0 (own_big C X) [((240 : Int32) ||| ((cp.toUInt32 >>> ((18 : Int32) &&& 31).toUInt32).toInt32)).toInt8.toInt32, ((128 : Int32) ||| (((cp.toUInt32 >>> ((12 : Int32) &&& 31).toUInt32).toInt32) &&& (63 : Int32))).toInt8.toInt32, ((128 : Int32) ||| (((cp.toUInt32 >>> ((6 : Int32) &&& 31).toUInt32).toInt32) &&& (63 : Int32))).toInt8.toInt32, ((128 : Int32) ||| (cp &&& (63 : Int32))).toInt8.toInt32] A_bb _ _ _ _ rfl rfl rfl rfl (own_sl4 cp hz h1 q1 q2 q3)) (hw _ (List.mem_of_getElem? (i := 14) rfl)) (hw _ (List.mem_of_getElem? (i := 15) rfl)) (hw _ (List.mem_of_getElem? (i := 4) rfl)) (hw _ (List.mem_of_getElem? (i := 16) rfl)) (by decide) own_pd_4576 rfl rfl (Nat.le_of_ble_eq_true rfl) (Nat.le_of_ble_eq_true rfl) (Nat.le_of_ble_eq_true rfl) (Nat.le_of_ble_eq_true rfl) (av := [(.ref bb), (.int (0 : Int32)), (.int (4 : Int32))]) (S := []) rfl (pc' := 102) rfl ?_
    intro T h v X hQ
    obtain ⟨rfl, rfl⟩ := hQ
    show own_Go p e below n0 (own_Fin room_1 s (fun v h => v = some (.int 1))) (T.setTop (mkF m 102 #[.val (.int i0), .val (.int cp), .val (.int (4 : Int32)), .val (.int (1 : Int32)), .val (.int (1 : Int32)), .val (.ref bb), .val (.int (4 : Int32))] [(.int (((((((((240 : Int32) ||| ((cp.toUInt32 >>> ((18 : Int32) &&& 31).toUInt32).toInt32)).toInt8.toInt32 &&& (7 : Int32)) <<< ((6 : Int32) &&& 31)) ||| (((128 : Int32) ||| (((cp.toUInt32 >>> ((12 : Int32) &&& 31).toUInt32).toInt32) &&& (63 : Int32))).toInt8.toInt32 &&& (63 : Int32))) <<< ((6 : Int32) &&& 31)) ||| (((128 : Int32) ||| (((cp.toUInt32 >>> ((6 : Int32) &&& 31).toUInt32).toInt32) &&& (63 : Int32))).toInt8.toInt32 &&& (63 : Int32))) <<< ((6 : Int32) &&& 31)) ||| (((128 : Int32) ||| (cp &&& (63 : Int32))).toInt8.toInt32 &&& (63 : Int32))))]))
    refine own_iloadN C X at_102 rfl (pc' := 103) rfl ?_
    refine own_icmp_ne C X at_103 (pcT := 110) (pc' := 106) (by decide) (by decide) rfl (fun hc103 => absurd hc103 (not_not_intro (own_w4 cp hz h1 q1 q2 q3))) (fun hc103 => ?_)
    refine own_iconst C X at_106 (v := 1) (by decide) (pc' := 107) rfl ?_
    refine own_goto C X at_107 (pc' := 111) (by decide) (by decide) ?_
    exact own_ireturn_z C X at_111 (Nat.le_of_ble_eq_true rfl) (Nat.le_of_ble_eq_true rfl) (rfl)
set_option maxRecDepth 65536 in
set_option maxHeartbeats 40000000 in
theorem own_comes {Post : Tables → Env → Array Value → State → Outcome → State → Prop} (hpost : ∀ tb e args s v u, (limb_1_1.after args s (.returned v) u = true ∧ limb_1_2.after args s (.returned v) u = true ∧ True) → FrameEnd s (.returned v) u (Jvm.fieldLocs frame_1_writes args s ++ Jvm.arrayLocs frame_1_arrays args s ++ Jvm.staticLocs frame_1_statics s) 16 128 → Post tb e args s (.returned v) u) :
    ArmFor flags0 classFile x code maxLocals ret World_1 tables_1 room_1 Calls_1 rest_1 Pre_1 Post := by
  intro l hfl _ _ p e ha hc hk s m args below hf hA hF happ hP
  obtain ⟨hcalls, hrest, hpre⟩ := hP
  obtain ⟨-, -, -, hnamed, -, -, -, hat⟩ := (Spec.applies_iff hf).mp happ
  obtain ⟨hg, hn⟩ := and_e (Cond.before_iff.mp (show (Jvm.Cond.and given_1 narrow_1).before args s = true from hpre))
  obtain ⟨gc, g0⟩ := and_e hg
  obtain ⟨w0, rfl⟩ : ∃ w0 : Value, args = #[w0] := by
    have hs : args.size = 1 := by simpa [Cond.value, given_1] using gc
    obtain ⟨L⟩ := args
    match L, hs with
    | [w0], _ => exact ⟨w0, rfl⟩
  have hw := fun d (hd : d ∈ tables_1) => atoms_spec (ws := Jvm.Cond.code x code maxLocals ret :: tables_1) hat d (List.mem_cons_of_mem _ hd)
  obtain ⟨i0, ei0⟩ := is_v g0
  obtain rfl : w0 = (.int i0) := Option.some.inj ei0
  obtain ⟨n, o, h1, h2, h3, _, L, rfl, ⟨rfl, N⟩, hq⟩ := own_m_law l s _ hw tables_1 i0 s.heap s.heap.size (Nat.le_refl _)  p e ha hc hk s m _ below hf ((Spec.applies_iff_loose hf).mp happ).1 ⟨rfl, State.Warmed39.refl s, rfl⟩ trivial
  refine ⟨n, _, h1, h2, h3, hpost _ _ _ _ _ _ ⟨Cond.after_iff.mpr rfl, Cond.after_iff.mpr (eq_i res_at (Term.int_eval (1)) rfl), trivial⟩ ⟨hq.1, hq.2.1, (hq.2.2.sift fun y hy => Or.inr (N y hy)).mono (by decide) (by decide)⟩⟩
theorem main_1_1 : Claimed_1_1 := own_comes fun _ _ _ _ _ _ h hF => ⟨h.1, hF⟩
theorem main_1_2 : Claimed_1_2 := own_comes fun _ _ _ _ _ _ h hF => ⟨h.2.1, hF⟩
end Jvm.Pilot.@@N@@
namespace Jvm.Pilot.@@N@@
open Jvm Jvm.ClassFile Sem Op Lib Jvm.Free Jvm.Stand Jvm.Pilot.@@N@@.Jvm.D
/-! MADE BY PROGRAM (witnessworld.py) out of the Statement's table words and the real class files: 9 classes; the members and pool entries that the words name. The judged class is class 1, her method 2. -/
namespace start1
open Jvm.ClassFile
def u (s : String) : CpInfo := .utf8 (stringToUtf16 s)
/-- a pool by its gaps: so many unusable entries, then the entry; so many at the end -/
def gap : Nat → List CpInfo → List CpInfo
  | 0, r => r
  | n + 1, r => .unusable :: gap n r
def poolList (es : List (Nat × CpInfo)) (last : Nat) : List CpInfo := es.foldr (fun e r => gap e.1 (e.2 :: r)) (gap last [])
def pool (es : List (Nat × CpInfo)) (last : Nat) : Array CpInfo := ⟨poolList es last⟩
def fileOf (pool : Array CpInfo) (this : Nat) (attrs : Array Attribute := #[]) (ms : Array MethodInfo := #[]) (fl : Nat := 33) (sup : Nat := 0) (ifs : Array Nat := #[]) (fds : Array FieldInfo := #[]) : ClassFile where
  minorVersion := 0
  majorVersion := 65
  constantPool := pool
  accessFlags := fl
  thisClass := this
  superClass := sup
  interfaces := ifs
  fields := fds
  methods := ms
  attributes := attrs
def plain (name : String) (sup : Option ClassId) : Class where
  name := name
  kind := .ordinary
  loader := none
  accessFlags := 33
  super := sup
  interfaces := #[]
  cf := none
  fields := #[]
  methods := #[]
  instanceTypes := #[]
  staticTypes := #[]
  resolved := #[]
  callSites := []
  init := .initialized
  statics := none
  mirror := none

def pool0 : Array CpInfo := pool [(5, u "<init>"), (0, u "()V"), (1, .class_ 10), (1, u "java/lang/Object")] 113

def k0m0 : Method := { name := "<init>", desc := "()V", sig := { parameters := [], returnType := none }, accessFlags := 1, code := none }
/-- java/lang/Object -/
def k0 : Class := { plain "java/lang/Object" none with
  accessFlags := 33
  interfaces := #[]
  cf := some (fileOf pool0 8 #[] #[{ accessFlags := 1, nameIndex := 5, descriptorIndex := 6, attributes := #[] }] 33 0 #[] #[])
  fields := #[]
  methods := #[k0m0]
  instanceTypes := #[]
  staticTypes := #[]
  resolved := Array.replicate 124 none
  statics := none }

def pool1 : Array CpInfo := pool [(2, .class_ 4), (1, u "java/lang/Object"), (0, u "<init>"), (0, u "()V"), (0, .integer 2147483647), (0, .integer 1114112), (0, .methodref 10 11), (0, .class_ 12), (0, .nameAndType 13 14), (0, u "com/example/termwell/termwell/store/Utf8"), (0, u "encodedLength"), (0, u "(I)I"), (0, .methodref 16 17), (0, .class_ 18), (0, .nameAndType 19 14), (0, u "com/example/termwell/termwell/store/Utf8EncodedLengthPinLaw"), (0, u "payloadBits"), (0, .methodref 10 21), (0, .nameAndType 22 23), (0, u "encode"), (0, u "(I[BI)I"), (0, .methodref 10 25), (0, .nameAndType 26 27), (0, u "characterAt"), (0, u "([BII)I"), (3, u "law"), (0, u "(I)Z")] 4

def k1m0 : Method := { name := "<init>", desc := "()V", sig := { parameters := [], returnType := none }, accessFlags := 2, code := none }
def k1c1 : Code := { maxStack := 2, maxLocals := 1, code := method_2_code, exceptionTable := #[], attributes := #[] }
def k1m1 : Method := { name := "payloadBits", desc := "(I)I", sig := { parameters := [.int], returnType := some .int }, accessFlags := 10, code := some k1c1 }
def k1c2 : Code := { maxStack := 4, maxLocals := 7, code := code, exceptionTable := #[], attributes := #[] }
def k1m2 : Method := { name := "law", desc := "(I)Z", sig := { parameters := [.int], returnType := some .boolean }, accessFlags := 9, code := some k1c2 }
/-- com/example/termwell/termwell/store/Utf8EncodedLengthPinLaw -/
def k1 : Class := { plain "com/example/termwell/termwell/store/Utf8EncodedLengthPinLaw" (some 0) with
  accessFlags := 49
  interfaces := #[]
  cf := some (fileOf pool1 16 #[] #[{ accessFlags := 2, nameIndex := 5, descriptorIndex := 6, attributes := #[] }, { accessFlags := 10, nameIndex := 19, descriptorIndex := 14, attributes := #[] }, { accessFlags := 9, nameIndex := 31, descriptorIndex := 32, attributes := #[] }] 49 2 #[] #[])
  fields := #[]
  methods := #[k1m0, k1m1, k1m2]
  instanceTypes := #[]
  staticTypes := #[]
  resolved := Array.replicate 37 none
  statics := none }

def pool2 : Array CpInfo := pool [(4, .class_ 6), (1, u "java/lang/Object"), (0, u "<init>"), (0, u "()V"), (0, .class_ 10), (0, u "com/example/termwell/termwell/store/Utf8"), (23, u "(I)I"), (78, .integer 65536), (0, .methodref 9 115), (0, .nameAndType 116 117), (0, u "sequenceLength"), (0, u "(B)I"), (14, u "encodedLength"), (5, u "encode"), (0, u "(I[BI)I"), (28, u "MAX_STRING_UNITS"), (0, u "I"), (2, u "REPLACEMENT"), (0, u "C"), (0, u "MOST_FAST_BYTES"), (0, u "MOST_FAST_UNITS"), (0, u "CHECK_UNITS"), (10, u "characterAt"), (0, u "([BII)I")] 19

def k2m0 : Method := { name := "<init>", desc := "()V", sig := { parameters := [], returnType := none }, accessFlags := 2, code := none }
def k2c1 : Code := { maxStack := 2, maxLocals := 2, code := prog_248_method_10_code, exceptionTable := #[], attributes := #[] }
def k2m1 : Method := { name := "encodedLength", desc := "(I)I", sig := { parameters := [.int], returnType := some .int }, accessFlags := 9, code := some k2c1 }
def k2c2 : Code := { maxStack := 5, maxLocals := 4, code := prog_248_method_11_code, exceptionTable := #[], attributes := #[] }
def k2m2 : Method := { name := "encode", desc := "(I[BI)I", sig := { parameters := [.int, (.array .byte), .int], returnType := some .int }, accessFlags := 9, code := some k2c2 }
def k2c3 : Code := { maxStack := 2, maxLocals := 3, code := prog_248_method_12_code, exceptionTable := #[], attributes := #[] }
def k2m3 : Method := { name := "sequenceLength", desc := "(B)I", sig := { parameters := [.byte], returnType := some .int }, accessFlags := 9, code := some k2c3 }
def k2c4 : Code := { maxStack := 4, maxLocals := 6, code := prog_248_method_13_code, exceptionTable := #[], attributes := #[] }
def k2m4 : Method := { name := "characterAt", desc := "([BII)I", sig := { parameters := [(.array .byte), .int, .int], returnType := some .int }, accessFlags := 9, code := some k2c4 }
/-- com/example/termwell/termwell/store/Utf8 -/
def k2 : Class := { plain "com/example/termwell/termwell/store/Utf8" (some 0) with
  accessFlags := 49
  interfaces := #[]
  cf := some (fileOf pool2 9 #[] #[{ accessFlags := 2, nameIndex := 7, descriptorIndex := 8, attributes := #[] }, { accessFlags := 9, nameIndex := 132, descriptorIndex := 34, attributes := #[] }, { accessFlags := 9, nameIndex := 138, descriptorIndex := 139, attributes := #[] }, { accessFlags := 9, nameIndex := 116, descriptorIndex := 117, attributes := #[] }, { accessFlags := 9, nameIndex := 187, descriptorIndex := 188, attributes := #[] }] 49 4 #[] #[{ accessFlags := 25, nameIndex := 168, descriptorIndex := 169, attributes := #[] }, { accessFlags := 26, nameIndex := 172, descriptorIndex := 173, attributes := #[] }, { accessFlags := 26, nameIndex := 174, descriptorIndex := 169, attributes := #[] }, { accessFlags := 26, nameIndex := 175, descriptorIndex := 169, attributes := #[] }, { accessFlags := 26, nameIndex := 176, descriptorIndex := 169, attributes := #[] }])
  fields := #[{ name := "MAX_STRING_UNITS", type := .int, accessFlags := 25, slot := 0, constantValue := 0 }, { name := "REPLACEMENT", type := .char, accessFlags := 26, slot := 1, constantValue := 0 }, { name := "MOST_FAST_BYTES", type := .int, accessFlags := 26, slot := 2, constantValue := 0 }, { name := "MOST_FAST_UNITS", type := .int, accessFlags := 26, slot := 3, constantValue := 0 }, { name := "CHECK_UNITS", type := .int, accessFlags := 26, slot := 4, constantValue := 0 }]
  methods := #[k2m0, k2m1, k2m2, k2m3, k2m4]
  instanceTypes := #[]
  staticTypes := #[.int, .char, .int, .int, .int]
  resolved := Array.replicate 208 none
  statics := none }

def pool3 : Array CpInfo := pool [(1, u "java/lang/Cloneable"), (0, .class_ 1), (0, u "java/lang/Object"), (0, .class_ 3)] 3

/-- java/lang/Cloneable -/
def k3 : Class := { plain "java/lang/Cloneable" (some 0) with
  accessFlags := 1537
  interfaces := #[]
  cf := some (fileOf pool3 2 #[] #[] 1537 4 #[] #[])
  fields := #[]
  methods := #[]
  instanceTypes := #[]
  staticTypes := #[]
  resolved := Array.replicate 8 none
  statics := none }

def pool4 : Array CpInfo := pool [(1, u "java/io/Serializable"), (0, .class_ 1), (0, u "java/lang/Object"), (0, .class_ 3)] 3

/-- java/io/Serializable -/
def k4 : Class := { plain "java/io/Serializable" (some 0) with
  accessFlags := 1537
  interfaces := #[]
  cf := some (fileOf pool4 2 #[] #[] 1537 4 #[] #[])
  fields := #[]
  methods := #[]
  instanceTypes := #[]
  staticTypes := #[]
  resolved := Array.replicate 8 none
  statics := none }

/-- the primitive byte -/
def k5 : Class := { plain "byte" none with kind := .primitive 'B', accessFlags := 0x411 }
/-- [B -/
def k6 : Class := { plain "[B" (some 0) with kind := .array 5 .byte, interfaces := #[3, 4], accessFlags := 1041 }

/-- the primitive int -/
def k7 : Class := { plain "int" none with kind := .primitive 'I', accessFlags := 0x411 }
/-- [I -/
def k8 : Class := { plain "[I" (some 0) with kind := .array 7 .int, interfaces := #[3, 4], accessFlags := 1041 }

def heap : Heap := #[]
def classes : Array Class := #[k0, k1, k2, k3, k4, k5, k6, k7, k8]
def interned : List (Array UInt16 × Addr) := []
def slotsUsed : Nat := 0
def theMethod : MethodId := ⟨1, 2⟩
def args0 : Array Value := #[.int 5]
def aboutOver (below : List Frame) : State where
  vm := { classes := classes, interned := interned.toArray }
  heap := heap
  slotsUsed := slotsUsed
  threads := #[{ frames := .invoking theMethod args0 :: below }]
def below0 : List Frame := [.native { method := ⟨0, 0⟩, args := #[] }]
def about1 : State := aboutOver below0
def p0 : Program := .bare "" "" ""
def e0 : Env := launch0.env 0 0 0
theorem w_frames : about1.frames = Frame.invoking theMethod args0 :: below0 := rfl
set_option maxRecDepth 65536 in
theorem w_args : argsFit about1.vm theMethod args0 = true := by decide +kernel
set_option maxRecDepth 65536 in
theorem w_heap : heapFits about1 = true := by decide +kernel
set_option maxRecDepth 65536 in
theorem w_runnable : about1.curStatus? = some .runnable := by decide +kernel
set_option maxRecDepth 65536 in
theorem w_alone : about1.alone = true := by decide +kernel
set_option maxRecDepth 65536 in
theorem w_named : about1.methodNamed? x = some theMethod := by decide +kernel
set_option maxRecDepth 65536 in
theorem w_hears : about1.hears theMethod below0 = true := by decide +kernel
set_option maxRecDepth 65536 in
theorem w_ripe : about1.ripe theMethod args0 below0 = true := by decide +kernel
theorem w_running : about1.status = .running := rfl
set_option maxRecDepth 65536 in
theorem w_room : about1.hasRoom e0.platform room_1 = true :=
  launch0.hasRoom_least _ room_1 (by decide +kernel) (by decide +kernel) (by decide +kernel) (by decide +kernel) (by decide +kernel) (by decide +kernel)
theorem allAtoms_all (ts : List Jvm.Cond) (a : Array Jvm.Value) (st : Jvm.State) : (allAtoms ts).before a st = ts.all (fun c => c.before a st) := by
  induction ts with
  | nil => rfl
  | cons c t ih =>
    show (Jvm.Cond.and c (allAtoms t)).before a st = _
    rw [Jvm.Cond.before_and, ih, List.all_cons]
def words1 : List Jvm.Cond := Jvm.Cond.code x code maxLocals ret :: tables_1
/-- a 'code' word, met by the world's own term for the bytes: nothing is compared byte by byte -/
theorem code_word {y : MethodName} {bytes : ByteArray} {mx : Nat} {rt : Option FieldType} {a : Array Value} {s : State} {m : MethodId} {meth : Method} {c : Code} (h1 : s.methodNamed? y = some m) (h2 : s.vm.method? m = some meth) (h3 : meth.code = some c) (h4 : c.code = bytes)
    (h5 : (c.maxLocals == mx && c.exceptionTable.isEmpty && decide (c.maxStack ≤ mostOperands) && decide (meth.sig.returnType = rt) && !meth.locks && decide (parseMethodDescriptor y.desc = some meth.sig)) = true) : (Jvm.Cond.code y bytes mx rt).before a s = true := by
  simp only [Bool.and_eq_true, beq_iff_eq, Bool.not_eq_true', decide_eq_true_eq] at h5
  obtain ⟨⟨⟨⟨⟨g1, g2⟩, g3⟩, g4⟩, g5⟩, g6⟩ := h5
  simp [Cond.before, Cond.holds, Cond.value, h1, h2, h3, h4, g1, g2, g3, g4, g5, g6]
def isCode : Jvm.Cond → Bool
  | .code _ _ _ _ => true
  | _ => false
theorem all_split {L : List Jvm.Cond} {P : Jvm.Cond → Bool} (h1 : L.all (fun c => isCode c || P c) = true) (h2 : ∀ c ∈ L.filter isCode, P c = true) : L.all P = true := by
  refine List.all_eq_true.mpr fun c hc => ?_
  have h := List.all_eq_true.mp h1 c hc
  rcases Bool.eq_false_or_eq_true (isCode c) with hi | hi
  · exact h2 c (List.mem_filter.mpr ⟨hc, hi⟩)
  · simpa [hi] using h
set_option maxRecDepth 65536 in
theorem w_c0 : (Jvm.Cond.code x code maxLocals ret).before args0 about1 = true := code_word (m := ⟨1, 2⟩) (meth := k1m2) (c := k1c2) (by decide +kernel) rfl rfl rfl (by decide +kernel)
set_option maxRecDepth 65536 in
theorem w_c1 : (Jvm.Cond.code ({ cls := "com/example/termwell/termwell/store/Utf8", name := "encodedLength", desc := "(I)I" } : Jvm.MethodName) prog_248_method_10_code (2 : Nat) (Option.some Jvm.ClassFile.FieldType.int)).before args0 about1 = true := code_word (m := ⟨2, 1⟩) (meth := k2m1) (c := k2c1) (by decide +kernel) rfl rfl rfl (by decide +kernel)
set_option maxRecDepth 65536 in
theorem w_c2 : (Jvm.Cond.code ({ cls := "com/example/termwell/termwell/store/Utf8EncodedLengthPinLaw", name := "payloadBits", desc := "(I)I" } : Jvm.MethodName) method_2_code (1 : Nat) (Option.some Jvm.ClassFile.FieldType.int)).before args0 about1 = true := code_word (m := ⟨1, 1⟩) (meth := k1m1) (c := k1c1) (by decide +kernel) rfl rfl rfl (by decide +kernel)
set_option maxRecDepth 65536 in
theorem w_c3 : (Jvm.Cond.code ({ cls := "com/example/termwell/termwell/store/Utf8", name := "encode", desc := "(I[BI)I" } : Jvm.MethodName) prog_248_method_11_code (4 : Nat) (Option.some Jvm.ClassFile.FieldType.int)).before args0 about1 = true := code_word (m := ⟨2, 2⟩) (meth := k2m2) (c := k2c2) (by decide +kernel) rfl rfl rfl (by decide +kernel)
set_option maxRecDepth 65536 in
theorem w_c4 : (Jvm.Cond.code ({ cls := "com/example/termwell/termwell/store/Utf8", name := "characterAt", desc := "([BII)I" } : Jvm.MethodName) prog_248_method_13_code (6 : Nat) (Option.some Jvm.ClassFile.FieldType.int)).before args0 about1 = true := code_word (m := ⟨2, 4⟩) (meth := k2m4) (c := k2c4) (by decide +kernel) rfl rfl rfl (by decide +kernel)
set_option maxRecDepth 65536 in
theorem w_c5 : (Jvm.Cond.code ({ cls := "com/example/termwell/termwell/store/Utf8", name := "sequenceLength", desc := "(B)I" } : Jvm.MethodName) prog_248_method_12_code (3 : Nat) (Option.some Jvm.ClassFile.FieldType.int)).before args0 about1 = true := code_word (m := ⟨2, 3⟩) (meth := k2m3) (c := k2c3) (by decide +kernel) rfl rfl rfl (by decide +kernel)
def codes1 : List Jvm.Cond := [Jvm.Cond.code x code maxLocals ret, Jvm.Cond.code ({ cls := "com/example/termwell/termwell/store/Utf8", name := "encodedLength", desc := "(I)I" } : Jvm.MethodName) prog_248_method_10_code (2 : Nat) (Option.some Jvm.ClassFile.FieldType.int), Jvm.Cond.code ({ cls := "com/example/termwell/termwell/store/Utf8EncodedLengthPinLaw", name := "payloadBits", desc := "(I)I" } : Jvm.MethodName) method_2_code (1 : Nat) (Option.some Jvm.ClassFile.FieldType.int), Jvm.Cond.code ({ cls := "com/example/termwell/termwell/store/Utf8", name := "encode", desc := "(I[BI)I" } : Jvm.MethodName) prog_248_method_11_code (4 : Nat) (Option.some Jvm.ClassFile.FieldType.int), Jvm.Cond.code ({ cls := "com/example/termwell/termwell/store/Utf8", name := "characterAt", desc := "([BII)I" } : Jvm.MethodName) prog_248_method_13_code (6 : Nat) (Option.some Jvm.ClassFile.FieldType.int), Jvm.Cond.code ({ cls := "com/example/termwell/termwell/store/Utf8", name := "sequenceLength", desc := "(B)I" } : Jvm.MethodName) prog_248_method_12_code (3 : Nat) (Option.some Jvm.ClassFile.FieldType.int)]
set_option maxRecDepth 65536 in
theorem codes_eq : words1.filter isCode = codes1 := rfl
theorem w_codes : ∀ c ∈ words1.filter isCode, c.before args0 about1 = true := by
  rw [codes_eq]
  intro c hc
  simp only [codes1, List.mem_cons, List.not_mem_nil, or_false] at hc
  rcases hc with rfl | rfl | rfl | rfl | rfl | rfl
  · exact w_c0
  · exact w_c1
  · exact w_c2
  · exact w_c3
  · exact w_c4
  · exact w_c5
set_option maxRecDepth 65536 in
theorem w_t1 : words1.all (fun c => isCode c || c.before args0 about1) = true := by decide +kernel
theorem w_tables : (allAtoms (Jvm.Cond.code x code maxLocals ret :: tables_1)).before args0 about1 = true := by
  rw [allAtoms_all]
  show words1.all (fun c => c.before args0 about1) = true
  refine all_split ?_ w_codes
  rw [w_t1]
set_option maxRecDepth 65536 in
theorem w_case : (Jvm.Cond.and given_1 narrow_1).before args0 about1 = true := by decide +kernel
theorem w_applies : (headSpec (Jvm.Cond.code x code maxLocals ret :: tables_1) room_1).applies x e0.platform about1 = true :=
  (Spec.applies_iff w_frames).mpr ⟨w_running, w_runnable, w_alone, w_named, w_hears, w_ripe, w_room, w_tables⟩
theorem atStart : AtStart classFile x code maxLocals ret World_1 tables_1 room_1 Calls_1 rest_1 Pre_1 launch0 p0 e0 about1 theMethod args0 below0 :=
  ⟨lists_1, trivial, launch0.admits_env _ _ _, launch0.least_env, fairChoices_fair.cas, fairChoices_fair.clock, w_frames, w_args, w_heap, w_applies, trivial, trivial, w_case⟩
end start1
theorem witness_1 : WitnessClaimed_1 := ⟨start1.p0, start1.e0, start1.about1, start1.theMethod, start1.args0, start1.below0, start1.atStart⟩
end Jvm.Pilot.@@N@@

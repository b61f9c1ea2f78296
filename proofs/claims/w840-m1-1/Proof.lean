import JvmDerived
import JvmDerived.Pilot.@@N@@Statement
import JvmDerived.Pilot.@@N@@Code
set_option linter.unusedVariables false
set_option linter.unusedSimpArgs false
namespace Jvm.Pilot.@@N@@
open Jvm Jvm.ClassFile Sem Op Lib Jvm.Free Jvm.Stand Jvm.LawKit Jvm.RoadKit Bundle Jvm.Pilot.@@N@@.Jvm.D
section OwnKit
def own_Cx (p : Program) (s : State) (m : MethodId) (meth : Method) (c : Code) (Z : State) (n0 : Nat) (own nm : String) (bytes : ByteArray) (ml : Nat) (ret : Option FieldType) : Prop :=
  p.tables.exec = Jvm.exec ∧ c.code = bytes ∧ c.maxLocals = ml ∧ s.vm.findClass own = some m.cls ∧ meth.name = nm ∧ meth.sig.returnType = ret ∧ meth.locks = false ∧ Z.Warmed39 s.vm ∧ n0 ≤ s.heap.size
def own_St (p : Program) (l : Launch) (e : Env) (R : Room) (s : State) (m : MethodId) (args : Array Value) (below : List Frame) (meth : Method) (c : Code) (n0 : Nat) (T : State) (h : Heap) (cells slots : Nat) : Prop :=
  ∃ locs, Stand p l e R s m args below meth c T locs cells slots ∧ Fr n0 locs ∧ T.heap = h
def own_Go (p : Program) (e : Env) (below : List Frame) (n0 : Nat) (F : Option Value → State → List Loc → Prop) (S : State) : Prop :=
  ∃ t v L, Steps p.tables e below S t ∧ t.status = .running ∧ Ended t below (.returned v) ∧ Fr n0 L ∧ F v t L
def own_Fin (R : Room) (s : State) (Q : Option Value → Heap → Prop) : Option Value → State → List Loc → Prop := fun v t L => Q v t.heap ∧ FrameEnd s (.returned v) t L R.cells R.slots
abbrev own_Met (l : Launch) (Z : State) (n0 : Nat) (y : MethodName) (bytes : ByteArray) (ml : Nat) (ret : Option FieldType) (ws : List Jvm.Cond) (rm : Room) (as' : Array Value) (h0 : Heap) (Q : Option Value → Heap → Prop) : Prop :=
  MetFree l y (head1 (Jvm.Cond.code y bytes ml ret :: ws) rm) (fun a U => a = as' ∧ Z.Warmed39 U.vm ∧ U.heap = h0) (fun _ _ _ _ _ => True) (fun _ U o U' => ∃ v L, o = .returned v ∧ (Q v U'.heap ∧ Fr n0 L) ∧ FrameEnd U o U' L rm.cells rm.slots)
variable {p : Program} {l : Launch} {e : Env} {R : Room} {s : State} {m : MethodId} {args : Array Value} {below : List Frame} {meth : Method} {c : Code} {T : State} {cells slots : Nat} {Z : State} {a0 : Array Value} {h h' : Heap} {n0 : Nat} {own nm : String} {bytes : ByteArray} {ml : Nat} {ret : Option FieldType} {Q : Option Value → Heap → Prop} {F : Option Value → State → List Loc → Prop} {pc pc' pcT : Nat} {L L' : Array Slot} {S : List Value}
theorem own_st {A B : State} (k : ∀ t, Steps p.tables e below B t → Steps p.tables e below A t) (g : own_Go p e below n0 F B) : own_Go p e below n0 F A := by
  obtain ⟨t, v, L, h1, r⟩ := g; exact ⟨t, v, L, k t h1, r⟩
theorem own_big (C : own_Cx p s m meth c Z n0 own nm bytes ml ret) (X : own_St p l e R s m args below meth c n0 T h cells slots) : n0 ≤ h.size := by
  obtain ⟨locs, X, -, rfl⟩ := X; exact Nat.le_trans C.2.2.2.2.2.2.2.2 X.same.2.1
/-- a body's contract out of its run -/
theorem own_body {y : MethodName} {ws : List Jvm.Cond} {rm : Room} {as' : Array Value} {h0 : Heap} {Ls : Array Slot} (hpl : plainFor y = true) (hn : n0 ≤ h0.size) (hef : ∀ m, entryFrame m as' ml = mkF m 0 Ls [])
    (run : ∀ p e s m below meth c T, own_Cx p s m meth c Z n0 y.cls y.name bytes ml ret → own_St p l e rm s m as' below meth c n0 T h0 0 0 → own_Go p e below n0 (own_Fin rm s Q) (T.setTop (mkF m 0 Ls []))) :
    own_Met l Z n0 y bytes ml ret ws rm as' h0 Q := by
  refine MetFree.of_bodySF hpl hisR ?_
  intro p e s m args below meth c s₁ Bd hml0 hP hK
  obtain ⟨rfl, hZ, hh⟩ := hP
  have X0 : Stand p l e rm s m args below meth c s₁ [] 0 0 := Stand.of_body Bd
  have e0 : s₁.heap = h0 := by rw [← hh, Bd.state]; rfl
  obtain ⟨t, v, L, g1, g2, g3, g5, g4, g6⟩ := run p e s m below meth c s₁ ⟨Bd.exec, Bd.bytes, hml0, findClass_of_methodNamed Bd.named, (name_of_methodNamed Bd.named Bd.method).1, Bd.returns, Bd.notSynchronized, hZ, by rw [hh]; exact hn⟩ ⟨[], X0, Fr.nil n0, e0⟩
  exact ⟨t, .returned v, castTop (hef m) g1, g2, g3, v, L, rfl, ⟨g4, g5⟩, g6⟩

theorem own_iload (C : own_Cx p s m meth c Z n0 own nm bytes ml ret) (X : own_St p l e R s m args below meth c n0 T h cells slots) {k : Nat} {v : Int32} (hd : decode bytes pc = .ok (.iload k, 2)) (hl : L[k]? = some (.val (.int v))) (hp : pc + 2 = pc') (g : own_Go p e below n0 F (T.setTop (mkF m pc' L (.int v :: S)))) : own_Go p e below n0 F (T.setTop (mkF m pc L (S))) := by
  obtain ⟨locs, X, -, -⟩ := X; subst hp
  exact own_st (fun t k => XS.iload X.here C.1 rfl (hb C.2.1 hd) hl k) g
theorem own_iloadN (C : own_Cx p s m meth c Z n0 own nm bytes ml ret) (X : own_St p l e R s m args below meth c n0 T h cells slots) {k : Fin 4} {v : Int32} (hd : decode bytes pc = .ok (.iload_n k, 1)) (hl : L[k.val]? = some (.val (.int v))) (hp : pc + 1 = pc') (g : own_Go p e below n0 F (T.setTop (mkF m pc' L (.int v :: S)))) : own_Go p e below n0 F (T.setTop (mkF m pc L (S))) := by
  obtain ⟨locs, X, -, -⟩ := X; subst hp
  exact own_st (fun t k => XS.iloadN X.here C.1 rfl (hb C.2.1 hd) hl k) g
theorem own_istore (C : own_Cx p s m meth c Z n0 own nm bytes ml ret) (X : own_St p l e R s m args below meth c n0 T h cells slots) {k : Nat} {v : Int32} (hd : decode bytes pc = .ok (.istore k, 2)) (hl : storeLocals L k (.int v) = some L') (hp : pc + 2 = pc') (g : own_Go p e below n0 F (T.setTop (mkF m pc' L' (S)))) : own_Go p e below n0 F (T.setTop (mkF m pc L (.int v :: S))) := by
  obtain ⟨locs, X, -, -⟩ := X; subst hp
  exact own_st (fun t k => XS.istore X.here C.1 rfl (hb C.2.1 hd) rfl hl k) g
theorem own_istoreN (C : own_Cx p s m meth c Z n0 own nm bytes ml ret) (X : own_St p l e R s m args below meth c n0 T h cells slots) {k : Fin 4} {v : Int32} (hd : decode bytes pc = .ok (.istore_n k, 1)) (hl : storeLocals L k.val (.int v) = some L') (hp : pc + 1 = pc') (g : own_Go p e below n0 F (T.setTop (mkF m pc' L' (S)))) : own_Go p e below n0 F (T.setTop (mkF m pc L (.int v :: S))) := by
  obtain ⟨locs, X, -, -⟩ := X; subst hp
  exact own_st (fun t k => XS.istoreN X.here C.1 rfl (hb C.2.1 hd) rfl hl k) g
theorem own_lload (C : own_Cx p s m meth c Z n0 own nm bytes ml ret) (X : own_St p l e R s m args below meth c n0 T h cells slots) {k : Nat} {v : Int64} (hd : decode bytes pc = .ok (.lload k, 2)) (hl : L[k]? = some (.val (.long v))) (hp : pc + 2 = pc') (g : own_Go p e below n0 F (T.setTop (mkF m pc' L (.long v :: S)))) : own_Go p e below n0 F (T.setTop (mkF m pc L (S))) := by
  obtain ⟨locs, X, -, -⟩ := X; subst hp
  exact own_st (fun t k => XS.lload X.here C.1 rfl (hb C.2.1 hd) hl k) g
theorem own_lloadN (C : own_Cx p s m meth c Z n0 own nm bytes ml ret) (X : own_St p l e R s m args below meth c n0 T h cells slots) {k : Fin 4} {v : Int64} (hd : decode bytes pc = .ok (.lload_n k, 1)) (hl : L[k.val]? = some (.val (.long v))) (hp : pc + 1 = pc') (g : own_Go p e below n0 F (T.setTop (mkF m pc' L (.long v :: S)))) : own_Go p e below n0 F (T.setTop (mkF m pc L (S))) := by
  obtain ⟨locs, X, -, -⟩ := X; subst hp
  exact own_st (fun t k => XS.lloadN X.here C.1 rfl (hb C.2.1 hd) hl k) g
theorem own_lstore (C : own_Cx p s m meth c Z n0 own nm bytes ml ret) (X : own_St p l e R s m args below meth c n0 T h cells slots) {k : Nat} {v : Int64} (hd : decode bytes pc = .ok (.lstore k, 2)) (hl : storeLocals L k (.long v) = some L') (hp : pc + 2 = pc') (g : own_Go p e below n0 F (T.setTop (mkF m pc' L' (S)))) : own_Go p e below n0 F (T.setTop (mkF m pc L (.long v :: S))) := by
  obtain ⟨locs, X, -, -⟩ := X; subst hp
  exact own_st (fun t k => XS.lstore X.here C.1 rfl (hb C.2.1 hd) rfl hl k) g
theorem own_lstoreN (C : own_Cx p s m meth c Z n0 own nm bytes ml ret) (X : own_St p l e R s m args below meth c n0 T h cells slots) {k : Fin 4} {v : Int64} (hd : decode bytes pc = .ok (.lstore_n k, 1)) (hl : storeLocals L k.val (.long v) = some L') (hp : pc + 1 = pc') (g : own_Go p e below n0 F (T.setTop (mkF m pc' L' (S)))) : own_Go p e below n0 F (T.setTop (mkF m pc L (.long v :: S))) := by
  obtain ⟨locs, X, -, -⟩ := X; subst hp
  exact own_st (fun t k => XS.lstoreN X.here C.1 rfl (hb C.2.1 hd) rfl hl k) g
theorem own_aload (C : own_Cx p s m meth c Z n0 own nm bytes ml ret) (X : own_St p l e R s m args below meth c n0 T h cells slots) {k : Nat} {v : Value} (hd : decode bytes pc = .ok (.aload k, 2)) (hl : L[k]? = some (.val v)) (hv : v.isRef = true) (hp : pc + 2 = pc') (g : own_Go p e below n0 F (T.setTop (mkF m pc' L (v :: S)))) : own_Go p e below n0 F (T.setTop (mkF m pc L (S))) := by
  obtain ⟨locs, X, -, -⟩ := X; subst hp
  exact own_st (fun t k => XS.aload X.here C.1 rfl (hb C.2.1 hd) hl hv k) g
theorem own_aloadN (C : own_Cx p s m meth c Z n0 own nm bytes ml ret) (X : own_St p l e R s m args below meth c n0 T h cells slots) {k : Fin 4} {v : Value} (hd : decode bytes pc = .ok (.aload_n k, 1)) (hl : L[k.val]? = some (.val v)) (hv : v.isRef = true) (hp : pc + 1 = pc') (g : own_Go p e below n0 F (T.setTop (mkF m pc' L (v :: S)))) : own_Go p e below n0 F (T.setTop (mkF m pc L (S))) := by
  obtain ⟨locs, X, -, -⟩ := X; subst hp
  exact own_st (fun t k => XS.aloadN X.here C.1 rfl (hb C.2.1 hd) hl hv k) g
theorem own_astore (C : own_Cx p s m meth c Z n0 own nm bytes ml ret) (X : own_St p l e R s m args below meth c n0 T h cells slots) {k : Nat} {v : Value} (hd : decode bytes pc = .ok (.astore k, 2)) (hv : v.isRef = true) (hl : storeLocals L k v = some L') (hp : pc + 2 = pc') (g : own_Go p e below n0 F (T.setTop (mkF m pc' L' (S)))) : own_Go p e below n0 F (T.setTop (mkF m pc L (v :: S))) := by
  obtain ⟨locs, X, -, -⟩ := X; subst hp
  exact own_st (fun t k => XS.astore X.here C.1 rfl (hb C.2.1 hd) rfl hv hl k) g
theorem own_astoreN (C : own_Cx p s m meth c Z n0 own nm bytes ml ret) (X : own_St p l e R s m args below meth c n0 T h cells slots) {k : Fin 4} {v : Value} (hd : decode bytes pc = .ok (.astore_n k, 1)) (hv : v.isRef = true) (hl : storeLocals L k.val v = some L') (hp : pc + 1 = pc') (g : own_Go p e below n0 F (T.setTop (mkF m pc' L' (S)))) : own_Go p e below n0 F (T.setTop (mkF m pc L (v :: S))) := by
  obtain ⟨locs, X, -, -⟩ := X; subst hp
  exact own_st (fun t k => XS.astoreN X.here C.1 rfl (hb C.2.1 hd) rfl hv hl k) g
theorem own_iconst (C : own_Cx p s m meth c Z n0 own nm bytes ml ret) (X : own_St p l e R s m args below meth c n0 T h cells slots) {i : Int} {v : Int32} (hd : decode bytes pc = .ok (.iconst i, 1)) (hv : Int32.ofInt i = v) (hp : pc + 1 = pc') (g : own_Go p e below n0 F (T.setTop (mkF m pc' L (.int v :: S)))) : own_Go p e below n0 F (T.setTop (mkF m pc L (S))) := by
  obtain ⟨locs, X, -, -⟩ := X; subst hp hv
  exact own_st (fun t k => XS.iconst X.here C.1 rfl (hb C.2.1 hd) k) g
theorem own_bipush (C : own_Cx p s m meth c Z n0 own nm bytes ml ret) (X : own_St p l e R s m args below meth c n0 T h cells slots) {i : Int} {v : Int32} (hd : decode bytes pc = .ok (.bipush i, 2)) (hv : (Int8.ofInt i).toInt32 = v) (hp : pc + 2 = pc') (g : own_Go p e below n0 F (T.setTop (mkF m pc' L (.int v :: S)))) : own_Go p e below n0 F (T.setTop (mkF m pc L (S))) := by
  obtain ⟨locs, X, -, -⟩ := X; subst hp hv
  exact own_st (fun t k => XS.bipush X.here C.1 rfl (hb C.2.1 hd) k) g
theorem own_sipush (C : own_Cx p s m meth c Z n0 own nm bytes ml ret) (X : own_St p l e R s m args below meth c n0 T h cells slots) {i : Int} {v : Int32} (hd : decode bytes pc = .ok (.sipush i, 3)) (hv : (Int16.ofInt i).toInt32 = v) (hp : pc + 3 = pc') (g : own_Go p e below n0 F (T.setTop (mkF m pc' L (.int v :: S)))) : own_Go p e below n0 F (T.setTop (mkF m pc L (S))) := by
  obtain ⟨locs, X, -, -⟩ := X; subst hp hv
  exact own_st (fun t k => XS.sipush X.here C.1 rfl (hb C.2.1 hd) k) g
theorem own_lconst (C : own_Cx p s m meth c Z n0 own nm bytes ml ret) (X : own_St p l e R s m args below meth c n0 T h cells slots) {i : Fin 2} {v : Int64} (hd : decode bytes pc = .ok (.lconst i, 1)) (hv : Int64.ofNat i = v) (hp : pc + 1 = pc') (g : own_Go p e below n0 F (T.setTop (mkF m pc' L (.long v :: S)))) : own_Go p e below n0 F (T.setTop (mkF m pc L (S))) := by
  obtain ⟨locs, X, -, -⟩ := X; subst hp hv
  exact own_st (fun t k => XS.lconst X.here C.1 rfl (hb C.2.1 hd) k) g
theorem own_aconst_null (C : own_Cx p s m meth c Z n0 own nm bytes ml ret) (X : own_St p l e R s m args below meth c n0 T h cells slots)  (hd : decode bytes pc = .ok (.aconst_null, 1))  (hp : pc + 1 = pc') (g : own_Go p e below n0 F (T.setTop (mkF m pc' L (.null :: S)))) : own_Go p e below n0 F (T.setTop (mkF m pc L (S))) := by
  obtain ⟨locs, X, -, -⟩ := X; subst hp
  exact own_st (fun t k => XS.aconstNull X.here C.1 rfl (hb C.2.1 hd) k) g
theorem own_iadd (C : own_Cx p s m meth c Z n0 own nm bytes ml ret) (X : own_St p l e R s m args below meth c n0 T h cells slots) {x y z : Int32} (hd : decode bytes pc = .ok (.iadd, 1)) (hz : x + y = z) (hp : pc + 1 = pc') (g : own_Go p e below n0 F (T.setTop (mkF m pc' L (.int z :: S)))) : own_Go p e below n0 F (T.setTop (mkF m pc L (.int y :: .int x :: S))) := by
  obtain ⟨locs, X, -, -⟩ := X; subst hp hz
  exact own_st (fun t k => XS.iadd X.here C.1 rfl (hb C.2.1 hd) rfl k) g
theorem own_ladd (C : own_Cx p s m meth c Z n0 own nm bytes ml ret) (X : own_St p l e R s m args below meth c n0 T h cells slots) {x y z : Int64} (hd : decode bytes pc = .ok (.ladd, 1)) (hz : x + y = z) (hp : pc + 1 = pc') (g : own_Go p e below n0 F (T.setTop (mkF m pc' L (.long z :: S)))) : own_Go p e below n0 F (T.setTop (mkF m pc L (.long y :: .long x :: S))) := by
  obtain ⟨locs, X, -, -⟩ := X; subst hp hz
  exact own_st (fun t k => XS.ladd X.here C.1 rfl (hb C.2.1 hd) rfl k) g
theorem own_isub (C : own_Cx p s m meth c Z n0 own nm bytes ml ret) (X : own_St p l e R s m args below meth c n0 T h cells slots) {x y z : Int32} (hd : decode bytes pc = .ok (.isub, 1)) (hz : x - y = z) (hp : pc + 1 = pc') (g : own_Go p e below n0 F (T.setTop (mkF m pc' L (.int z :: S)))) : own_Go p e below n0 F (T.setTop (mkF m pc L (.int y :: .int x :: S))) := by
  obtain ⟨locs, X, -, -⟩ := X; subst hp hz
  exact own_st (fun t k => XS.isub X.here C.1 rfl (hb C.2.1 hd) rfl k) g
theorem own_lsub (C : own_Cx p s m meth c Z n0 own nm bytes ml ret) (X : own_St p l e R s m args below meth c n0 T h cells slots) {x y z : Int64} (hd : decode bytes pc = .ok (.lsub, 1)) (hz : x - y = z) (hp : pc + 1 = pc') (g : own_Go p e below n0 F (T.setTop (mkF m pc' L (.long z :: S)))) : own_Go p e below n0 F (T.setTop (mkF m pc L (.long y :: .long x :: S))) := by
  obtain ⟨locs, X, -, -⟩ := X; subst hp hz
  exact own_st (fun t k => XS.lsub X.here C.1 rfl (hb C.2.1 hd) rfl k) g
theorem own_imul (C : own_Cx p s m meth c Z n0 own nm bytes ml ret) (X : own_St p l e R s m args below meth c n0 T h cells slots) {x y z : Int32} (hd : decode bytes pc = .ok (.imul, 1)) (hz : x * y = z) (hp : pc + 1 = pc') (g : own_Go p e below n0 F (T.setTop (mkF m pc' L (.int z :: S)))) : own_Go p e below n0 F (T.setTop (mkF m pc L (.int y :: .int x :: S))) := by
  obtain ⟨locs, X, -, -⟩ := X; subst hp hz
  exact own_st (fun t k => XS.imul X.here C.1 rfl (hb C.2.1 hd) rfl k) g
theorem own_lmul (C : own_Cx p s m meth c Z n0 own nm bytes ml ret) (X : own_St p l e R s m args below meth c n0 T h cells slots) {x y z : Int64} (hd : decode bytes pc = .ok (.lmul, 1)) (hz : x * y = z) (hp : pc + 1 = pc') (g : own_Go p e below n0 F (T.setTop (mkF m pc' L (.long z :: S)))) : own_Go p e below n0 F (T.setTop (mkF m pc L (.long y :: .long x :: S))) := by
  obtain ⟨locs, X, -, -⟩ := X; subst hp hz
  exact own_st (fun t k => XS.lmul X.here C.1 rfl (hb C.2.1 hd) rfl k) g
theorem own_iand (C : own_Cx p s m meth c Z n0 own nm bytes ml ret) (X : own_St p l e R s m args below meth c n0 T h cells slots) {x y z : Int32} (hd : decode bytes pc = .ok (.iand, 1)) (hz : x &&& y = z) (hp : pc + 1 = pc') (g : own_Go p e below n0 F (T.setTop (mkF m pc' L (.int z :: S)))) : own_Go p e below n0 F (T.setTop (mkF m pc L (.int y :: .int x :: S))) := by
  obtain ⟨locs, X, -, -⟩ := X; subst hp hz
  exact own_st (fun t k => XS.iand X.here C.1 rfl (hb C.2.1 hd) rfl k) g
theorem own_land (C : own_Cx p s m meth c Z n0 own nm bytes ml ret) (X : own_St p l e R s m args below meth c n0 T h cells slots) {x y z : Int64} (hd : decode bytes pc = .ok (.land, 1)) (hz : x &&& y = z) (hp : pc + 1 = pc') (g : own_Go p e below n0 F (T.setTop (mkF m pc' L (.long z :: S)))) : own_Go p e below n0 F (T.setTop (mkF m pc L (.long y :: .long x :: S))) := by
  obtain ⟨locs, X, -, -⟩ := X; subst hp hz
  exact own_st (fun t k => XS.land X.here C.1 rfl (hb C.2.1 hd) rfl k) g
theorem own_ior (C : own_Cx p s m meth c Z n0 own nm bytes ml ret) (X : own_St p l e R s m args below meth c n0 T h cells slots) {x y z : Int32} (hd : decode bytes pc = .ok (.ior, 1)) (hz : x ||| y = z) (hp : pc + 1 = pc') (g : own_Go p e below n0 F (T.setTop (mkF m pc' L (.int z :: S)))) : own_Go p e below n0 F (T.setTop (mkF m pc L (.int y :: .int x :: S))) := by
  obtain ⟨locs, X, -, -⟩ := X; subst hp hz
  exact own_st (fun t k => XS.ior X.here C.1 rfl (hb C.2.1 hd) rfl k) g
theorem own_lor (C : own_Cx p s m meth c Z n0 own nm bytes ml ret) (X : own_St p l e R s m args below meth c n0 T h cells slots) {x y z : Int64} (hd : decode bytes pc = .ok (.lor, 1)) (hz : x ||| y = z) (hp : pc + 1 = pc') (g : own_Go p e below n0 F (T.setTop (mkF m pc' L (.long z :: S)))) : own_Go p e below n0 F (T.setTop (mkF m pc L (.long y :: .long x :: S))) := by
  obtain ⟨locs, X, -, -⟩ := X; subst hp hz
  exact own_st (fun t k => XS.lor X.here C.1 rfl (hb C.2.1 hd) rfl k) g
theorem own_ixor (C : own_Cx p s m meth c Z n0 own nm bytes ml ret) (X : own_St p l e R s m args below meth c n0 T h cells slots) {x y z : Int32} (hd : decode bytes pc = .ok (.ixor, 1)) (hz : x ^^^ y = z) (hp : pc + 1 = pc') (g : own_Go p e below n0 F (T.setTop (mkF m pc' L (.int z :: S)))) : own_Go p e below n0 F (T.setTop (mkF m pc L (.int y :: .int x :: S))) := by
  obtain ⟨locs, X, -, -⟩ := X; subst hp hz
  exact own_st (fun t k => XS.ixor X.here C.1 rfl (hb C.2.1 hd) rfl k) g
theorem own_lxor (C : own_Cx p s m meth c Z n0 own nm bytes ml ret) (X : own_St p l e R s m args below meth c n0 T h cells slots) {x y z : Int64} (hd : decode bytes pc = .ok (.lxor, 1)) (hz : x ^^^ y = z) (hp : pc + 1 = pc') (g : own_Go p e below n0 F (T.setTop (mkF m pc' L (.long z :: S)))) : own_Go p e below n0 F (T.setTop (mkF m pc L (.long y :: .long x :: S))) := by
  obtain ⟨locs, X, -, -⟩ := X; subst hp hz
  exact own_st (fun t k => XS.lxor X.here C.1 rfl (hb C.2.1 hd) rfl k) g
theorem own_ishl (C : own_Cx p s m meth c Z n0 own nm bytes ml ret) (X : own_St p l e R s m args below meth c n0 T h cells slots) {x y z : Int32} (hd : decode bytes pc = .ok (.ishl, 1)) (hz : x <<< (y &&& 31) = z) (hp : pc + 1 = pc') (g : own_Go p e below n0 F (T.setTop (mkF m pc' L (.int z :: S)))) : own_Go p e below n0 F (T.setTop (mkF m pc L (.int y :: .int x :: S))) := by
  obtain ⟨locs, X, -, -⟩ := X; subst hp hz
  exact own_st (fun t k => XS.ishl X.here C.1 rfl (hb C.2.1 hd) rfl k) g
theorem own_ishr (C : own_Cx p s m meth c Z n0 own nm bytes ml ret) (X : own_St p l e R s m args below meth c n0 T h cells slots) {x y z : Int32} (hd : decode bytes pc = .ok (.ishr, 1)) (hz : x >>> (y &&& 31) = z) (hp : pc + 1 = pc') (g : own_Go p e below n0 F (T.setTop (mkF m pc' L (.int z :: S)))) : own_Go p e below n0 F (T.setTop (mkF m pc L (.int y :: .int x :: S))) := by
  obtain ⟨locs, X, -, -⟩ := X; subst hp hz
  exact own_st (fun t k => XS.ishr X.here C.1 rfl (hb C.2.1 hd) rfl k) g
theorem own_iushr (C : own_Cx p s m meth c Z n0 own nm bytes ml ret) (X : own_St p l e R s m args below meth c n0 T h cells slots) {x y z : Int32} (hd : decode bytes pc = .ok (.iushr, 1)) (hz : (x.toUInt32 >>> (y &&& 31).toUInt32).toInt32 = z) (hp : pc + 1 = pc') (g : own_Go p e below n0 F (T.setTop (mkF m pc' L (.int z :: S)))) : own_Go p e below n0 F (T.setTop (mkF m pc L (.int y :: .int x :: S))) := by
  obtain ⟨locs, X, -, -⟩ := X; subst hp hz
  exact own_st (fun t k => XS.iushr X.here C.1 rfl (hb C.2.1 hd) rfl k) g
theorem own_lshl (C : own_Cx p s m meth c Z n0 own nm bytes ml ret) (X : own_St p l e R s m args below meth c n0 T h cells slots) {x z : Int64} {y : Int32} (hd : decode bytes pc = .ok (.lshl, 1)) (hz : x <<< (y &&& 0x3f).toInt64 = z) (hp : pc + 1 = pc') (g : own_Go p e below n0 F (T.setTop (mkF m pc' L (.long z :: S)))) : own_Go p e below n0 F (T.setTop (mkF m pc L (.int y :: .long x :: S))) := by
  obtain ⟨locs, X, -, -⟩ := X; subst hp hz
  exact own_st (fun t k => XS.lshl X.here C.1 rfl (hb C.2.1 hd) rfl k) g
theorem own_lshr (C : own_Cx p s m meth c Z n0 own nm bytes ml ret) (X : own_St p l e R s m args below meth c n0 T h cells slots) {x z : Int64} {y : Int32} (hd : decode bytes pc = .ok (.lshr, 1)) (hz : x >>> (y &&& 0x3f).toInt64 = z) (hp : pc + 1 = pc') (g : own_Go p e below n0 F (T.setTop (mkF m pc' L (.long z :: S)))) : own_Go p e below n0 F (T.setTop (mkF m pc L (.int y :: .long x :: S))) := by
  obtain ⟨locs, X, -, -⟩ := X; subst hp hz
  exact own_st (fun t k => XS.lshr X.here C.1 rfl (hb C.2.1 hd) rfl k) g
theorem own_lushr (C : own_Cx p s m meth c Z n0 own nm bytes ml ret) (X : own_St p l e R s m args below meth c n0 T h cells slots) {x z : Int64} {y : Int32} (hd : decode bytes pc = .ok (.lushr, 1)) (hz : (x.toUInt64 >>> (y &&& 0x3f).toInt64.toUInt64).toInt64 = z) (hp : pc + 1 = pc') (g : own_Go p e below n0 F (T.setTop (mkF m pc' L (.long z :: S)))) : own_Go p e below n0 F (T.setTop (mkF m pc L (.int y :: .long x :: S))) := by
  obtain ⟨locs, X, -, -⟩ := X; subst hp hz
  exact own_st (fun t k => XS.lushr X.here C.1 rfl (hb C.2.1 hd) rfl k) g
theorem own_idiv (C : own_Cx p s m meth c Z n0 own nm bytes ml ret) (X : own_St p l e R s m args below meth c n0 T h cells slots) {x y z : Int32} (hd : decode bytes pc = .ok (.idiv, 1)) (hy : y ≠ 0) (hz : x / y = z) (hp : pc + 1 = pc') (g : own_Go p e below n0 F (T.setTop (mkF m pc' L (.int z :: S)))) : own_Go p e below n0 F (T.setTop (mkF m pc L (.int y :: .int x :: S))) := by
  obtain ⟨locs, X, -, -⟩ := X; subst hp hz
  exact own_st (fun t k => XS.idiv X.here C.1 rfl (hb C.2.1 hd) rfl hy k) g
theorem own_irem (C : own_Cx p s m meth c Z n0 own nm bytes ml ret) (X : own_St p l e R s m args below meth c n0 T h cells slots) {x y z : Int32} (hd : decode bytes pc = .ok (.irem, 1)) (hy : y ≠ 0) (hz : x % y = z) (hp : pc + 1 = pc') (g : own_Go p e below n0 F (T.setTop (mkF m pc' L (.int z :: S)))) : own_Go p e below n0 F (T.setTop (mkF m pc L (.int y :: .int x :: S))) := by
  obtain ⟨locs, X, -, -⟩ := X; subst hp hz
  exact own_st (fun t k => iremM X C.1 rfl (hb C.2.1 hd) rfl hy k) g
theorem own_ldiv (C : own_Cx p s m meth c Z n0 own nm bytes ml ret) (X : own_St p l e R s m args below meth c n0 T h cells slots) {x y z : Int64} (hd : decode bytes pc = .ok (.ldiv, 1)) (hy : y ≠ 0) (hz : x / y = z) (hp : pc + 1 = pc') (g : own_Go p e below n0 F (T.setTop (mkF m pc' L (.long z :: S)))) : own_Go p e below n0 F (T.setTop (mkF m pc L (.long y :: .long x :: S))) := by
  obtain ⟨locs, X, -, -⟩ := X; subst hp hz
  exact own_st (fun t k => XS.ldiv X.here C.1 rfl (hb C.2.1 hd) rfl hy k) g
theorem own_lrem (C : own_Cx p s m meth c Z n0 own nm bytes ml ret) (X : own_St p l e R s m args below meth c n0 T h cells slots) {x y z : Int64} (hd : decode bytes pc = .ok (.lrem, 1)) (hy : y ≠ 0) (hz : x % y = z) (hp : pc + 1 = pc') (g : own_Go p e below n0 F (T.setTop (mkF m pc' L (.long z :: S)))) : own_Go p e below n0 F (T.setTop (mkF m pc L (.long y :: .long x :: S))) := by
  obtain ⟨locs, X, -, -⟩ := X; subst hp hz
  exact own_st (fun t k => XS.lrem X.here C.1 rfl (hb C.2.1 hd) rfl hy (by rw [lrem_mod]; exact k)) g
theorem own_ineg (C : own_Cx p s m meth c Z n0 own nm bytes ml ret) (X : own_St p l e R s m args below meth c n0 T h cells slots) {x : Int32} {z : Int32} (hd : decode bytes pc = .ok (.ineg, 1)) (hz : -x = z) (hp : pc + 1 = pc') (g : own_Go p e below n0 F (T.setTop (mkF m pc' L (.int z :: S)))) : own_Go p e below n0 F (T.setTop (mkF m pc L (.int x :: S))) := by
  obtain ⟨locs, X, -, -⟩ := X; subst hp hz
  exact own_st (fun t k => XS.ineg X.here C.1 rfl (hb C.2.1 hd) rfl k) g
theorem own_lneg (C : own_Cx p s m meth c Z n0 own nm bytes ml ret) (X : own_St p l e R s m args below meth c n0 T h cells slots) {x : Int64} {z : Int64} (hd : decode bytes pc = .ok (.lneg, 1)) (hz : -x = z) (hp : pc + 1 = pc') (g : own_Go p e below n0 F (T.setTop (mkF m pc' L (.long z :: S)))) : own_Go p e below n0 F (T.setTop (mkF m pc L (.long x :: S))) := by
  obtain ⟨locs, X, -, -⟩ := X; subst hp hz
  exact own_st (fun t k => XS.lneg X.here C.1 rfl (hb C.2.1 hd) rfl k) g
theorem own_i2l (C : own_Cx p s m meth c Z n0 own nm bytes ml ret) (X : own_St p l e R s m args below meth c n0 T h cells slots) {x : Int32} {z : Int64} (hd : decode bytes pc = .ok (.i2l, 1)) (hz : x.toInt64 = z) (hp : pc + 1 = pc') (g : own_Go p e below n0 F (T.setTop (mkF m pc' L (.long z :: S)))) : own_Go p e below n0 F (T.setTop (mkF m pc L (.int x :: S))) := by
  obtain ⟨locs, X, -, -⟩ := X; subst hp hz
  exact own_st (fun t k => XS.i2l X.here C.1 rfl (hb C.2.1 hd) rfl k) g
theorem own_l2i (C : own_Cx p s m meth c Z n0 own nm bytes ml ret) (X : own_St p l e R s m args below meth c n0 T h cells slots) {x : Int64} {z : Int32} (hd : decode bytes pc = .ok (.l2i, 1)) (hz : x.toInt32 = z) (hp : pc + 1 = pc') (g : own_Go p e below n0 F (T.setTop (mkF m pc' L (.int z :: S)))) : own_Go p e below n0 F (T.setTop (mkF m pc L (.long x :: S))) := by
  obtain ⟨locs, X, -, -⟩ := X; subst hp hz
  exact own_st (fun t k => XS.l2i X.here C.1 rfl (hb C.2.1 hd) rfl k) g
theorem own_i2b (C : own_Cx p s m meth c Z n0 own nm bytes ml ret) (X : own_St p l e R s m args below meth c n0 T h cells slots) {x : Int32} {z : Int32} (hd : decode bytes pc = .ok (.i2b, 1)) (hz : x.toInt8.toInt32 = z) (hp : pc + 1 = pc') (g : own_Go p e below n0 F (T.setTop (mkF m pc' L (.int z :: S)))) : own_Go p e below n0 F (T.setTop (mkF m pc L (.int x :: S))) := by
  obtain ⟨locs, X, -, -⟩ := X; subst hp hz
  exact own_st (fun t k => XS.i2b X.here C.1 rfl (hb C.2.1 hd) rfl k) g
theorem own_i2c (C : own_Cx p s m meth c Z n0 own nm bytes ml ret) (X : own_St p l e R s m args below meth c n0 T h cells slots) {x : Int32} {z : Int32} (hd : decode bytes pc = .ok (.i2c, 1)) (hz : x.toUInt32.toUInt16.toUInt32.toInt32 = z) (hp : pc + 1 = pc') (g : own_Go p e below n0 F (T.setTop (mkF m pc' L (.int z :: S)))) : own_Go p e below n0 F (T.setTop (mkF m pc L (.int x :: S))) := by
  obtain ⟨locs, X, -, -⟩ := X; subst hp hz
  exact own_st (fun t k => XS.i2c X.here C.1 rfl (hb C.2.1 hd) rfl k) g
theorem own_i2s (C : own_Cx p s m meth c Z n0 own nm bytes ml ret) (X : own_St p l e R s m args below meth c n0 T h cells slots) {x : Int32} {z : Int32} (hd : decode bytes pc = .ok (.i2s, 1)) (hz : x.toInt16.toInt32 = z) (hp : pc + 1 = pc') (g : own_Go p e below n0 F (T.setTop (mkF m pc' L (.int z :: S)))) : own_Go p e below n0 F (T.setTop (mkF m pc L (.int x :: S))) := by
  obtain ⟨locs, X, -, -⟩ := X; subst hp hz
  exact own_st (fun t k => XS.i2s X.here C.1 rfl (hb C.2.1 hd) rfl k) g
theorem own_iinc (C : own_Cx p s m meth c Z n0 own nm bytes ml ret) (X : own_St p l e R s m args below meth c n0 T h cells slots) {k : Nat} {i : Int} {x d z : Int32} (hd : decode bytes pc = .ok (.iinc k i, 3)) (hl : L[k]? = some (.val (.int x))) (hv : Int32.ofInt i = d) (hz : x + d = z) (hl' : storeLocals L k (.int z) = some L') (hp : pc + 3 = pc') (g : own_Go p e below n0 F (T.setTop (mkF m pc' L' (S)))) : own_Go p e below n0 F (T.setTop (mkF m pc L (S))) := by
  obtain ⟨locs, X, -, -⟩ := X; subst hp hv hz
  exact own_st (fun t k => XS.iinc X.here C.1 rfl (hb C.2.1 hd) hl hl' k) g
theorem own_dup (C : own_Cx p s m meth c Z n0 own nm bytes ml ret) (X : own_St p l e R s m args below meth c n0 T h cells slots) {v : Value} (hd : decode bytes pc = .ok (.dup, 1)) (hc : v.category = 1) (hp : pc + 1 = pc') (g : own_Go p e below n0 F (T.setTop (mkF m pc' L (v :: v :: S)))) : own_Go p e below n0 F (T.setTop (mkF m pc L (v :: S))) := by
  obtain ⟨locs, X, -, -⟩ := X; subst hp
  exact own_st (fun t k => XS.dup X.here C.1 rfl (hb C.2.1 hd) rfl hc k) g
theorem own_pop (C : own_Cx p s m meth c Z n0 own nm bytes ml ret) (X : own_St p l e R s m args below meth c n0 T h cells slots) {v : Value} (hd : decode bytes pc = .ok (.pop, 1)) (hc : v.category = 1) (hp : pc + 1 = pc') (g : own_Go p e below n0 F (T.setTop (mkF m pc' L (S)))) : own_Go p e below n0 F (T.setTop (mkF m pc L (v :: S))) := by
  obtain ⟨locs, X, -, -⟩ := X; subst hp
  exact own_st (fun t k => XS.pop X.here C.1 rfl (hb C.2.1 hd) rfl hc k) g
theorem own_dup_x1 (C : own_Cx p s m meth c Z n0 own nm bytes ml ret) (X : own_St p l e R s m args below meth c n0 T h cells slots) {v w : Value} (hd : decode bytes pc = .ok (.dup_x1, 1)) (hc : v.category = 1) (hc' : w.category = 1) (hp : pc + 1 = pc') (g : own_Go p e below n0 F (T.setTop (mkF m pc' L (v :: w :: v :: S)))) : own_Go p e below n0 F (T.setTop (mkF m pc L (v :: w :: S))) := by
  obtain ⟨locs, X, -, -⟩ := X; subst hp
  exact own_st (fun t k => XS.dupX1 X.here C.1 rfl (hb C.2.1 hd) rfl hc hc' k) g
theorem own_dup2 (C : own_Cx p s m meth c Z n0 own nm bytes ml ret) (X : own_St p l e R s m args below meth c n0 T h cells slots) {v w : Value} (hd : decode bytes pc = .ok (.dup2, 1)) (hc : v.category = 1) (hc' : w.category = 1) (hp : pc + 1 = pc') (g : own_Go p e below n0 F (T.setTop (mkF m pc' L (v :: w :: v :: w :: S)))) : own_Go p e below n0 F (T.setTop (mkF m pc L (v :: w :: S))) := by
  obtain ⟨locs, X, -, -⟩ := X; subst hp
  exact own_st (fun t k => XT.dup2 X.here C.1 rfl (hb C.2.1 hd) rfl hc hc' k) g
theorem own_dup2L (C : own_Cx p s m meth c Z n0 own nm bytes ml ret) (X : own_St p l e R s m args below meth c n0 T h cells slots) {v : Int64} (hd : decode bytes pc = .ok (.dup2, 1))  (hp : pc + 1 = pc') (g : own_Go p e below n0 F (T.setTop (mkF m pc' L (.long v :: .long v :: S)))) : own_Go p e below n0 F (T.setTop (mkF m pc L (.long v :: S))) := by
  obtain ⟨locs, X, -, -⟩ := X; subst hp
  exact own_st (fun t k => XT.dup2L X.here C.1 rfl (hb C.2.1 hd) rfl k) g
theorem own_pop2L (C : own_Cx p s m meth c Z n0 own nm bytes ml ret) (X : own_St p l e R s m args below meth c n0 T h cells slots) {v : Int64} (hd : decode bytes pc = .ok (.pop2, 1))  (hp : pc + 1 = pc') (g : own_Go p e below n0 F (T.setTop (mkF m pc' L (S)))) : own_Go p e below n0 F (T.setTop (mkF m pc L (.long v :: S))) := by
  obtain ⟨locs, X, -, -⟩ := X; subst hp
  exact own_st (fun t k => (by jvm_step X.here [X.here.top, C.1, hb C.2.1 hd, Value.category]; exact k)) g
theorem own_lcmp (C : own_Cx p s m meth c Z n0 own nm bytes ml ret) (X : own_St p l e R s m args below meth c n0 T h cells slots) {x y : Int64} {z : Int32} (hd : decode bytes pc = .ok (.lcmp, 1)) (hz : lcmpW x y = z) (hp : pc + 1 = pc') (g : own_Go p e below n0 F (T.setTop (mkF m pc' L (.int z :: S)))) : own_Go p e below n0 F (T.setTop (mkF m pc L (.long y :: .long x :: S))) := by
  obtain ⟨locs, X, -, -⟩ := X; subst hp hz
  exact own_st (fun t k => XS.lcmp X.here C.1 rfl (hb C.2.1 hd) rfl k) g
theorem own_ldcI (C : own_Cx p s m meth c Z n0 own nm bytes ml ret) (X : own_St p l e R s m args below meth c n0 T h cells slots) {i : Nat} {v : Int32} (hd : decode bytes pc = .ok (.ldc i, 2)) (w : (Jvm.Cond.constant own i v).before a0 Z = true) (hp : pc + 2 = pc') (g : own_Go p e below n0 F (T.setTop (mkF m pc' L (.int v :: S)))) : own_Go p e below n0 F (T.setTop (mkF m pc L (S))) := by
  obtain ⟨locs, X, -, -⟩ := X; subst hp
  exact own_st (fun t k => X.ldcInt C.1 C.2.2.2.1 (mvT C.2.2.2.2.2.2.2.1 w) (g := mkF m pc L S) rfl (hb C.2.1 hd) t k) g
theorem own_ldc2L (C : own_Cx p s m meth c Z n0 own nm bytes ml ret) (X : own_St p l e R s m args below meth c n0 T h cells slots) {i : Nat} {v : Int64} (hd : decode bytes pc = .ok (.ldc2_w i, 3)) (w : (Jvm.Cond.constantLong own i v).before a0 Z = true) (hp : pc + 3 = pc') (g : own_Go p e below n0 F (T.setTop (mkF m pc' L (.long v :: S)))) : own_Go p e below n0 F (T.setTop (mkF m pc L (S))) := by
  obtain ⟨locs, X, -, -⟩ := X; subst hp
  exact own_st (fun t k => X.ldc2Long C.1 C.2.2.2.1 (mvT C.2.2.2.2.2.2.2.1 w) (g := mkF m pc L S) rfl (hb C.2.1 hd) t k) g
theorem own_goto (C : own_Cx p s m meth c Z n0 own nm bytes ml ret) (X : own_St p l e R s m args below meth c n0 T h cells slots) {o : Int} (hd : decode bytes pc = .ok (.goto o, 3)) (ho : 0 ≤ (pc : Int) + o) (hp : ((pc : Int) + o).toNat = pc') (g : own_Go p e below n0 F (T.setTop (mkF m pc' L (S)))) : own_Go p e below n0 F (T.setTop (mkF m pc L (S))) := by
  obtain ⟨locs, X, -, -⟩ := X
  exact own_st (fun t k => XS.goto X.here C.1 rfl rfl (hb C.2.1 hd) ho hp k) g
theorem own_icmp_lt (C : own_Cx p s m meth c Z n0 own nm bytes ml ret) (X : own_St p l e R s m args below meth c n0 T h cells slots) {x y : Int32} {o : Int} (hd : decode bytes pc = .ok (.if_icmp .lt o, 3)) (ho : 0 ≤ (pc : Int) + o) (hq : ((pc : Int) + o).toNat = pcT) (hp : pc + 3 = pc') (gT : x < y → own_Go p e below n0 F (T.setTop (mkF m pcT L (S)))) (gF : ¬ x < y → own_Go p e below n0 F (T.setTop (mkF m pc' L (S)))) : own_Go p e below n0 F (T.setTop (mkF m pc L (.int y :: .int x :: S))) := by
  obtain ⟨locs, X, -, -⟩ := X; subst hp
  by_cases q : x < y
  · exact own_st (fun t k => XS.icmpYes X.here C.1 rfl rfl (hb C.2.1 hd) rfl (tlt q).1 ho hq k) (gT q)
  · exact own_st (fun t k => XS.icmpNo X.here C.1 rfl (hb C.2.1 hd) rfl (flt q).1 k) (gF q)
theorem own_if_lt (C : own_Cx p s m meth c Z n0 own nm bytes ml ret) (X : own_St p l e R s m args below meth c n0 T h cells slots) {x : Int32} {o : Int} (hd : decode bytes pc = .ok (.ifCond .lt o, 3)) (ho : 0 ≤ (pc : Int) + o) (hq : ((pc : Int) + o).toNat = pcT) (hp : pc + 3 = pc') (gT : x < 0 → own_Go p e below n0 F (T.setTop (mkF m pcT L (S)))) (gF : ¬ x < 0 → own_Go p e below n0 F (T.setTop (mkF m pc' L (S)))) : own_Go p e below n0 F (T.setTop (mkF m pc L (.int x :: S))) := by
  obtain ⟨locs, X, -, -⟩ := X; subst hp
  by_cases q : x < 0
  · exact own_st (fun t k => XS.ifYes X.here C.1 rfl rfl (hb C.2.1 hd) rfl ((if0 _ _).trans (tlt q).1) ho hq k) (gT q)
  · exact own_st (fun t k => XS.ifNo X.here C.1 rfl (hb C.2.1 hd) rfl ((if0 _ _).trans (flt q).1) k) (gF q)
theorem own_lcmp_lt (C : own_Cx p s m meth c Z n0 own nm bytes ml ret) (X : own_St p l e R s m args below meth c n0 T h cells slots) {x y : Int64} {o : Int} (hd1 : decode bytes pc = .ok (.lcmp, 1)) (hd : decode bytes (pc + 1) = .ok (.ifCond .lt o, 3)) (ho : 0 ≤ ((pc + 1 : Nat) : Int) + o) (hq : (((pc + 1 : Nat) : Int) + o).toNat = pcT) (hp : pc + 4 = pc') (gT : x < y → own_Go p e below n0 F (T.setTop (mkF m pcT L (S)))) (gF : ¬ x < y → own_Go p e below n0 F (T.setTop (mkF m pc' L (S)))) : own_Go p e below n0 F (T.setTop (mkF m pc L (.long y :: .long x :: S))) := by
  subst hp
  exact own_lcmp C X hd1 rfl rfl (own_if_lt C X hd ho hq rfl (fun q => gT ((lw_lt x y).mp q)) (fun q => gF (fun r => q ((lw_lt x y).mpr r))))
theorem own_icmp_ge (C : own_Cx p s m meth c Z n0 own nm bytes ml ret) (X : own_St p l e R s m args below meth c n0 T h cells slots) {x y : Int32} {o : Int} (hd : decode bytes pc = .ok (.if_icmp .ge o, 3)) (ho : 0 ≤ (pc : Int) + o) (hq : ((pc : Int) + o).toNat = pcT) (hp : pc + 3 = pc') (gT : ¬ x < y → own_Go p e below n0 F (T.setTop (mkF m pcT L (S)))) (gF : x < y → own_Go p e below n0 F (T.setTop (mkF m pc' L (S)))) : own_Go p e below n0 F (T.setTop (mkF m pc L (.int y :: .int x :: S))) := by
  obtain ⟨locs, X, -, -⟩ := X; subst hp
  by_cases q : x < y
  · exact own_st (fun t k => XS.icmpNo X.here C.1 rfl (hb C.2.1 hd) rfl (tlt q).2.1 k) (gF q)
  · exact own_st (fun t k => XS.icmpYes X.here C.1 rfl rfl (hb C.2.1 hd) rfl (flt q).2.1 ho hq k) (gT q)
theorem own_if_ge (C : own_Cx p s m meth c Z n0 own nm bytes ml ret) (X : own_St p l e R s m args below meth c n0 T h cells slots) {x : Int32} {o : Int} (hd : decode bytes pc = .ok (.ifCond .ge o, 3)) (ho : 0 ≤ (pc : Int) + o) (hq : ((pc : Int) + o).toNat = pcT) (hp : pc + 3 = pc') (gT : ¬ x < 0 → own_Go p e below n0 F (T.setTop (mkF m pcT L (S)))) (gF : x < 0 → own_Go p e below n0 F (T.setTop (mkF m pc' L (S)))) : own_Go p e below n0 F (T.setTop (mkF m pc L (.int x :: S))) := by
  obtain ⟨locs, X, -, -⟩ := X; subst hp
  by_cases q : x < 0
  · exact own_st (fun t k => XS.ifNo X.here C.1 rfl (hb C.2.1 hd) rfl ((if0 _ _).trans (tlt q).2.1) k) (gF q)
  · exact own_st (fun t k => XS.ifYes X.here C.1 rfl rfl (hb C.2.1 hd) rfl ((if0 _ _).trans (flt q).2.1) ho hq k) (gT q)
theorem own_lcmp_ge (C : own_Cx p s m meth c Z n0 own nm bytes ml ret) (X : own_St p l e R s m args below meth c n0 T h cells slots) {x y : Int64} {o : Int} (hd1 : decode bytes pc = .ok (.lcmp, 1)) (hd : decode bytes (pc + 1) = .ok (.ifCond .ge o, 3)) (ho : 0 ≤ ((pc + 1 : Nat) : Int) + o) (hq : (((pc + 1 : Nat) : Int) + o).toNat = pcT) (hp : pc + 4 = pc') (gT : ¬ x < y → own_Go p e below n0 F (T.setTop (mkF m pcT L (S)))) (gF : x < y → own_Go p e below n0 F (T.setTop (mkF m pc' L (S)))) : own_Go p e below n0 F (T.setTop (mkF m pc L (.long y :: .long x :: S))) := by
  subst hp
  exact own_lcmp C X hd1 rfl rfl (own_if_ge C X hd ho hq rfl (fun q => gT (fun r => q ((lw_lt x y).mpr r))) (fun q => gF ((lw_lt x y).mp q)))
theorem own_icmp_gt (C : own_Cx p s m meth c Z n0 own nm bytes ml ret) (X : own_St p l e R s m args below meth c n0 T h cells slots) {x y : Int32} {o : Int} (hd : decode bytes pc = .ok (.if_icmp .gt o, 3)) (ho : 0 ≤ (pc : Int) + o) (hq : ((pc : Int) + o).toNat = pcT) (hp : pc + 3 = pc') (gT : y < x → own_Go p e below n0 F (T.setTop (mkF m pcT L (S)))) (gF : ¬ y < x → own_Go p e below n0 F (T.setTop (mkF m pc' L (S)))) : own_Go p e below n0 F (T.setTop (mkF m pc L (.int y :: .int x :: S))) := by
  obtain ⟨locs, X, -, -⟩ := X; subst hp
  by_cases q : y < x
  · exact own_st (fun t k => XS.icmpYes X.here C.1 rfl rfl (hb C.2.1 hd) rfl (tlt q).2.2.1 ho hq k) (gT q)
  · exact own_st (fun t k => XS.icmpNo X.here C.1 rfl (hb C.2.1 hd) rfl (flt q).2.2.1 k) (gF q)
theorem own_if_gt (C : own_Cx p s m meth c Z n0 own nm bytes ml ret) (X : own_St p l e R s m args below meth c n0 T h cells slots) {x : Int32} {o : Int} (hd : decode bytes pc = .ok (.ifCond .gt o, 3)) (ho : 0 ≤ (pc : Int) + o) (hq : ((pc : Int) + o).toNat = pcT) (hp : pc + 3 = pc') (gT : 0 < x → own_Go p e below n0 F (T.setTop (mkF m pcT L (S)))) (gF : ¬ 0 < x → own_Go p e below n0 F (T.setTop (mkF m pc' L (S)))) : own_Go p e below n0 F (T.setTop (mkF m pc L (.int x :: S))) := by
  obtain ⟨locs, X, -, -⟩ := X; subst hp
  by_cases q : 0 < x
  · exact own_st (fun t k => XS.ifYes X.here C.1 rfl rfl (hb C.2.1 hd) rfl ((if0 _ _).trans (tlt q).2.2.1) ho hq k) (gT q)
  · exact own_st (fun t k => XS.ifNo X.here C.1 rfl (hb C.2.1 hd) rfl ((if0 _ _).trans (flt q).2.2.1) k) (gF q)
theorem own_lcmp_gt (C : own_Cx p s m meth c Z n0 own nm bytes ml ret) (X : own_St p l e R s m args below meth c n0 T h cells slots) {x y : Int64} {o : Int} (hd1 : decode bytes pc = .ok (.lcmp, 1)) (hd : decode bytes (pc + 1) = .ok (.ifCond .gt o, 3)) (ho : 0 ≤ ((pc + 1 : Nat) : Int) + o) (hq : (((pc + 1 : Nat) : Int) + o).toNat = pcT) (hp : pc + 4 = pc') (gT : y < x → own_Go p e below n0 F (T.setTop (mkF m pcT L (S)))) (gF : ¬ y < x → own_Go p e below n0 F (T.setTop (mkF m pc' L (S)))) : own_Go p e below n0 F (T.setTop (mkF m pc L (.long y :: .long x :: S))) := by
  subst hp
  exact own_lcmp C X hd1 rfl rfl (own_if_gt C X hd ho hq rfl (fun q => gT ((lw_gt x y).mp q)) (fun q => gF (fun r => q ((lw_gt x y).mpr r))))
theorem own_icmp_le (C : own_Cx p s m meth c Z n0 own nm bytes ml ret) (X : own_St p l e R s m args below meth c n0 T h cells slots) {x y : Int32} {o : Int} (hd : decode bytes pc = .ok (.if_icmp .le o, 3)) (ho : 0 ≤ (pc : Int) + o) (hq : ((pc : Int) + o).toNat = pcT) (hp : pc + 3 = pc') (gT : ¬ y < x → own_Go p e below n0 F (T.setTop (mkF m pcT L (S)))) (gF : y < x → own_Go p e below n0 F (T.setTop (mkF m pc' L (S)))) : own_Go p e below n0 F (T.setTop (mkF m pc L (.int y :: .int x :: S))) := by
  obtain ⟨locs, X, -, -⟩ := X; subst hp
  by_cases q : y < x
  · exact own_st (fun t k => XS.icmpNo X.here C.1 rfl (hb C.2.1 hd) rfl (tlt q).2.2.2 k) (gF q)
  · exact own_st (fun t k => XS.icmpYes X.here C.1 rfl rfl (hb C.2.1 hd) rfl (flt q).2.2.2 ho hq k) (gT q)
theorem own_if_le (C : own_Cx p s m meth c Z n0 own nm bytes ml ret) (X : own_St p l e R s m args below meth c n0 T h cells slots) {x : Int32} {o : Int} (hd : decode bytes pc = .ok (.ifCond .le o, 3)) (ho : 0 ≤ (pc : Int) + o) (hq : ((pc : Int) + o).toNat = pcT) (hp : pc + 3 = pc') (gT : ¬ 0 < x → own_Go p e below n0 F (T.setTop (mkF m pcT L (S)))) (gF : 0 < x → own_Go p e below n0 F (T.setTop (mkF m pc' L (S)))) : own_Go p e below n0 F (T.setTop (mkF m pc L (.int x :: S))) := by
  obtain ⟨locs, X, -, -⟩ := X; subst hp
  by_cases q : 0 < x
  · exact own_st (fun t k => XS.ifNo X.here C.1 rfl (hb C.2.1 hd) rfl ((if0 _ _).trans (tlt q).2.2.2) k) (gF q)
  · exact own_st (fun t k => XS.ifYes X.here C.1 rfl rfl (hb C.2.1 hd) rfl ((if0 _ _).trans (flt q).2.2.2) ho hq k) (gT q)
theorem own_lcmp_le (C : own_Cx p s m meth c Z n0 own nm bytes ml ret) (X : own_St p l e R s m args below meth c n0 T h cells slots) {x y : Int64} {o : Int} (hd1 : decode bytes pc = .ok (.lcmp, 1)) (hd : decode bytes (pc + 1) = .ok (.ifCond .le o, 3)) (ho : 0 ≤ ((pc + 1 : Nat) : Int) + o) (hq : (((pc + 1 : Nat) : Int) + o).toNat = pcT) (hp : pc + 4 = pc') (gT : ¬ y < x → own_Go p e below n0 F (T.setTop (mkF m pcT L (S)))) (gF : y < x → own_Go p e below n0 F (T.setTop (mkF m pc' L (S)))) : own_Go p e below n0 F (T.setTop (mkF m pc L (.long y :: .long x :: S))) := by
  subst hp
  exact own_lcmp C X hd1 rfl rfl (own_if_le C X hd ho hq rfl (fun q => gT (fun r => q ((lw_gt x y).mpr r))) (fun q => gF ((lw_gt x y).mp q)))
theorem own_icmp_eq (C : own_Cx p s m meth c Z n0 own nm bytes ml ret) (X : own_St p l e R s m args below meth c n0 T h cells slots) {x y : Int32} {o : Int} (hd : decode bytes pc = .ok (.if_icmp .eq o, 3)) (ho : 0 ≤ (pc : Int) + o) (hq : ((pc : Int) + o).toNat = pcT) (hp : pc + 3 = pc') (gT : x = y → own_Go p e below n0 F (T.setTop (mkF m pcT L (S)))) (gF : ¬ x = y → own_Go p e below n0 F (T.setTop (mkF m pc' L (S)))) : own_Go p e below n0 F (T.setTop (mkF m pc L (.int y :: .int x :: S))) := by
  obtain ⟨locs, X, -, -⟩ := X; subst hp
  by_cases q : x = y
  · exact own_st (fun t k => XS.icmpYes X.here C.1 rfl rfl (hb C.2.1 hd) rfl (teq q).1 ho hq k) (gT q)
  · exact own_st (fun t k => XS.icmpNo X.here C.1 rfl (hb C.2.1 hd) rfl (feq q).1 k) (gF q)
theorem own_if_eq (C : own_Cx p s m meth c Z n0 own nm bytes ml ret) (X : own_St p l e R s m args below meth c n0 T h cells slots) {x : Int32} {o : Int} (hd : decode bytes pc = .ok (.ifCond .eq o, 3)) (ho : 0 ≤ (pc : Int) + o) (hq : ((pc : Int) + o).toNat = pcT) (hp : pc + 3 = pc') (gT : x = 0 → own_Go p e below n0 F (T.setTop (mkF m pcT L (S)))) (gF : ¬ x = 0 → own_Go p e below n0 F (T.setTop (mkF m pc' L (S)))) : own_Go p e below n0 F (T.setTop (mkF m pc L (.int x :: S))) := by
  obtain ⟨locs, X, -, -⟩ := X; subst hp
  by_cases q : x = 0
  · exact own_st (fun t k => XS.ifYes X.here C.1 rfl rfl (hb C.2.1 hd) rfl ((if0 _ _).trans (teq q).1) ho hq k) (gT q)
  · exact own_st (fun t k => XS.ifNo X.here C.1 rfl (hb C.2.1 hd) rfl ((if0 _ _).trans (feq q).1) k) (gF q)
theorem own_lcmp_eq (C : own_Cx p s m meth c Z n0 own nm bytes ml ret) (X : own_St p l e R s m args below meth c n0 T h cells slots) {x y : Int64} {o : Int} (hd1 : decode bytes pc = .ok (.lcmp, 1)) (hd : decode bytes (pc + 1) = .ok (.ifCond .eq o, 3)) (ho : 0 ≤ ((pc + 1 : Nat) : Int) + o) (hq : (((pc + 1 : Nat) : Int) + o).toNat = pcT) (hp : pc + 4 = pc') (gT : x = y → own_Go p e below n0 F (T.setTop (mkF m pcT L (S)))) (gF : ¬ x = y → own_Go p e below n0 F (T.setTop (mkF m pc' L (S)))) : own_Go p e below n0 F (T.setTop (mkF m pc L (.long y :: .long x :: S))) := by
  subst hp
  exact own_lcmp C X hd1 rfl rfl (own_if_eq C X hd ho hq rfl (fun q => gT ((lw_eq x y).mp q)) (fun q => gF (fun r => q ((lw_eq x y).mpr r))))
theorem own_icmp_ne (C : own_Cx p s m meth c Z n0 own nm bytes ml ret) (X : own_St p l e R s m args below meth c n0 T h cells slots) {x y : Int32} {o : Int} (hd : decode bytes pc = .ok (.if_icmp .ne o, 3)) (ho : 0 ≤ (pc : Int) + o) (hq : ((pc : Int) + o).toNat = pcT) (hp : pc + 3 = pc') (gT : ¬ x = y → own_Go p e below n0 F (T.setTop (mkF m pcT L (S)))) (gF : x = y → own_Go p e below n0 F (T.setTop (mkF m pc' L (S)))) : own_Go p e below n0 F (T.setTop (mkF m pc L (.int y :: .int x :: S))) := by
  obtain ⟨locs, X, -, -⟩ := X; subst hp
  by_cases q : x = y
  · exact own_st (fun t k => XS.icmpNo X.here C.1 rfl (hb C.2.1 hd) rfl (teq q).2 k) (gF q)
  · exact own_st (fun t k => XS.icmpYes X.here C.1 rfl rfl (hb C.2.1 hd) rfl (feq q).2 ho hq k) (gT q)
theorem own_if_ne (C : own_Cx p s m meth c Z n0 own nm bytes ml ret) (X : own_St p l e R s m args below meth c n0 T h cells slots) {x : Int32} {o : Int} (hd : decode bytes pc = .ok (.ifCond .ne o, 3)) (ho : 0 ≤ (pc : Int) + o) (hq : ((pc : Int) + o).toNat = pcT) (hp : pc + 3 = pc') (gT : ¬ x = 0 → own_Go p e below n0 F (T.setTop (mkF m pcT L (S)))) (gF : x = 0 → own_Go p e below n0 F (T.setTop (mkF m pc' L (S)))) : own_Go p e below n0 F (T.setTop (mkF m pc L (.int x :: S))) := by
  obtain ⟨locs, X, -, -⟩ := X; subst hp
  by_cases q : x = 0
  · exact own_st (fun t k => XS.ifNo X.here C.1 rfl (hb C.2.1 hd) rfl ((if0 _ _).trans (teq q).2) k) (gF q)
  · exact own_st (fun t k => XS.ifYes X.here C.1 rfl rfl (hb C.2.1 hd) rfl ((if0 _ _).trans (feq q).2) ho hq k) (gT q)
theorem own_lcmp_ne (C : own_Cx p s m meth c Z n0 own nm bytes ml ret) (X : own_St p l e R s m args below meth c n0 T h cells slots) {x y : Int64} {o : Int} (hd1 : decode bytes pc = .ok (.lcmp, 1)) (hd : decode bytes (pc + 1) = .ok (.ifCond .ne o, 3)) (ho : 0 ≤ ((pc + 1 : Nat) : Int) + o) (hq : (((pc + 1 : Nat) : Int) + o).toNat = pcT) (hp : pc + 4 = pc') (gT : ¬ x = y → own_Go p e below n0 F (T.setTop (mkF m pcT L (S)))) (gF : x = y → own_Go p e below n0 F (T.setTop (mkF m pc' L (S)))) : own_Go p e below n0 F (T.setTop (mkF m pc L (.long y :: .long x :: S))) := by
  subst hp
  exact own_lcmp C X hd1 rfl rfl (own_if_ne C X hd ho hq rfl (fun q => gT (fun r => q ((lw_eq x y).mpr r))) (fun q => gF ((lw_eq x y).mp q)))
theorem own_acmp_eq (C : own_Cx p s m meth c Z n0 own nm bytes ml ret) (X : own_St p l e R s m args below meth c n0 T h cells slots) {v w : Value} {o : Int} (hd : decode bytes pc = .ok (.if_acmp .eq o, 3)) (hv : v.isRef = true) (hw : w.isRef = true) (ho : 0 ≤ (pc : Int) + o) (hq : ((pc : Int) + o).toNat = pcT) (hp : pc + 3 = pc') (gT : v = w → own_Go p e below n0 F (T.setTop (mkF m pcT L (S)))) (gF : ¬ v = w → own_Go p e below n0 F (T.setTop (mkF m pc' L (S)))) : own_Go p e below n0 F (T.setTop (mkF m pc L (w :: v :: S))) := by
  obtain ⟨locs, X, -, -⟩ := X; subst hp
  by_cases q : v = w
  · exact own_st (fun t k => XT.acmpYes X.here C.1 rfl rfl (hb C.2.1 hd) rfl hv hw (XT.aa_eq_t q) ho hq k) (gT q)
  · exact own_st (fun t k => XT.acmpNo X.here C.1 rfl (hb C.2.1 hd) rfl hv hw (XT.aa_eq_f q) k) (gF q)
theorem own_acmp_ne (C : own_Cx p s m meth c Z n0 own nm bytes ml ret) (X : own_St p l e R s m args below meth c n0 T h cells slots) {v w : Value} {o : Int} (hd : decode bytes pc = .ok (.if_acmp .ne o, 3)) (hv : v.isRef = true) (hw : w.isRef = true) (ho : 0 ≤ (pc : Int) + o) (hq : ((pc : Int) + o).toNat = pcT) (hp : pc + 3 = pc') (gT : ¬ v = w → own_Go p e below n0 F (T.setTop (mkF m pcT L (S)))) (gF : v = w → own_Go p e below n0 F (T.setTop (mkF m pc' L (S)))) : own_Go p e below n0 F (T.setTop (mkF m pc L (w :: v :: S))) := by
  obtain ⟨locs, X, -, -⟩ := X; subst hp
  by_cases q : v = w
  · exact own_st (fun t k => XT.acmpNo X.here C.1 rfl (hb C.2.1 hd) rfl hv hw (XT.aa_ne_f q) k) (gF q)
  · exact own_st (fun t k => XT.acmpYes X.here C.1 rfl rfl (hb C.2.1 hd) rfl hv hw (XT.aa_ne_t q) ho hq k) (gT q)
theorem own_ireturn {z : Int32} (C : own_Cx p s m meth c Z n0 own nm bytes ml (some .int)) (X : own_St p l e R s m args below meth c n0 T h cells slots) (hd : decode bytes pc = .ok (.ireturn, 1))  (hc : cells ≤ R.cells) (hs : slots ≤ R.slots) (hq : Q (some (.int z)) h) : own_Go p e below n0 (own_Fin R s Q) (T.setTop (mkF m pc L (.int z :: S))) := by
  obtain ⟨locs, X, N, rfl⟩ := X
  have hlk : meth.locks = false := C.2.2.2.2.2.2.1
  obtain ⟨fs, hr, hrun, hended, hW, hsame⟩ := X.leave (v := some (.int z)) (fun h => by rw [C.2.2.2.2.2.1] at h; cases h) hlk
  exact ⟨_, _, locs, retOut X C.1 C.2.2.2.2.2.1 rfl (Or.inl ⟨rfl, by simp, _, rfl⟩) (hb C.2.1 hd) hr, hrun, hended, N, hq, ⟨_, rfl⟩, hW, hsame.mono hc hs⟩
theorem own_ireturn_z {z : Int32} (C : own_Cx p s m meth c Z n0 own nm bytes ml (some .boolean)) (X : own_St p l e R s m args below meth c n0 T h cells slots) (hd : decode bytes pc = .ok (.ireturn, 1))  (hc : cells ≤ R.cells) (hs : slots ≤ R.slots) (hq : Q (some (.int (nar .boolean z))) h) : own_Go p e below n0 (own_Fin R s Q) (T.setTop (mkF m pc L (.int z :: S))) := by
  obtain ⟨locs, X, N, rfl⟩ := X
  have hlk : meth.locks = false := C.2.2.2.2.2.2.1
  obtain ⟨fs, hr, hrun, hended, hW, hsame⟩ := X.leave (v := some (.int (nar .boolean z))) (fun h => by rw [C.2.2.2.2.2.1] at h; cases h) hlk
  exact ⟨_, _, locs, retN X C.1 (t := .boolean) C.2.2.2.2.2.1 (by simp) (hb C.2.1 hd) hr, hrun, hended, N, hq, ⟨_, rfl⟩, hW, hsame.mono hc hs⟩
theorem own_ireturn_b {z : Int32} (C : own_Cx p s m meth c Z n0 own nm bytes ml (some .byte)) (X : own_St p l e R s m args below meth c n0 T h cells slots) (hd : decode bytes pc = .ok (.ireturn, 1))  (hc : cells ≤ R.cells) (hs : slots ≤ R.slots) (hq : Q (some (.int (nar .byte z))) h) : own_Go p e below n0 (own_Fin R s Q) (T.setTop (mkF m pc L (.int z :: S))) := by
  obtain ⟨locs, X, N, rfl⟩ := X
  have hlk : meth.locks = false := C.2.2.2.2.2.2.1
  obtain ⟨fs, hr, hrun, hended, hW, hsame⟩ := X.leave (v := some (.int (nar .byte z))) (fun h => by rw [C.2.2.2.2.2.1] at h; cases h) hlk
  exact ⟨_, _, locs, retN X C.1 (t := .byte) C.2.2.2.2.2.1 (by simp) (hb C.2.1 hd) hr, hrun, hended, N, hq, ⟨_, rfl⟩, hW, hsame.mono hc hs⟩
theorem own_ireturn_c {z : Int32} (C : own_Cx p s m meth c Z n0 own nm bytes ml (some .char)) (X : own_St p l e R s m args below meth c n0 T h cells slots) (hd : decode bytes pc = .ok (.ireturn, 1))  (hc : cells ≤ R.cells) (hs : slots ≤ R.slots) (hq : Q (some (.int (nar .char z))) h) : own_Go p e below n0 (own_Fin R s Q) (T.setTop (mkF m pc L (.int z :: S))) := by
  obtain ⟨locs, X, N, rfl⟩ := X
  have hlk : meth.locks = false := C.2.2.2.2.2.2.1
  obtain ⟨fs, hr, hrun, hended, hW, hsame⟩ := X.leave (v := some (.int (nar .char z))) (fun h => by rw [C.2.2.2.2.2.1] at h; cases h) hlk
  exact ⟨_, _, locs, retN X C.1 (t := .char) C.2.2.2.2.2.1 (by simp) (hb C.2.1 hd) hr, hrun, hended, N, hq, ⟨_, rfl⟩, hW, hsame.mono hc hs⟩
theorem own_lreturn {z : Int64} (C : own_Cx p s m meth c Z n0 own nm bytes ml (some .long)) (X : own_St p l e R s m args below meth c n0 T h cells slots) (hd : decode bytes pc = .ok (.lreturn, 1))  (hc : cells ≤ R.cells) (hs : slots ≤ R.slots) (hq : Q (some (.long z)) h) : own_Go p e below n0 (own_Fin R s Q) (T.setTop (mkF m pc L (.long z :: S))) := by
  obtain ⟨locs, X, N, rfl⟩ := X
  have hlk : meth.locks = false := C.2.2.2.2.2.2.1
  obtain ⟨fs, hr, hrun, hended, hW, hsame⟩ := X.leave (v := some (.long z)) (fun h => by rw [C.2.2.2.2.2.1] at h; cases h) hlk
  exact ⟨_, _, locs, retOut X C.1 C.2.2.2.2.2.1 rfl (Or.inr (Or.inl ⟨rfl, rfl, _, rfl⟩)) (hb C.2.1 hd) hr, hrun, hended, N, hq, ⟨_, rfl⟩, hW, hsame.mono hc hs⟩
theorem own_areturn {v : Value} {ty : FieldType} (C : own_Cx p s m meth c Z n0 own nm bytes ml (some ty)) (X : own_St p l e R s m args below meth c n0 T h cells slots) (hd : decode bytes pc = .ok (.areturn, 1)) (ht : ty.isReference = true) (hv : v.isRef = true) (hn : narrow ty v = v) (hc : cells ≤ R.cells) (hs : slots ≤ R.slots) (hq : Q (some v) h) : own_Go p e below n0 (own_Fin R s Q) (T.setTop (mkF m pc L (v :: S))) := by
  obtain ⟨locs, X, N, rfl⟩ := X
  have hlk : meth.locks = false := C.2.2.2.2.2.2.1
  obtain ⟨fs, hr, hrun, hended, hW, hsame⟩ := X.leave (v := some v) (fun h => by rw [C.2.2.2.2.2.1] at h; cases h) hlk
  exact ⟨_, _, locs, retOut X C.1 C.2.2.2.2.2.1 hn (Or.inr (Or.inr (Or.inr (Or.inr ⟨rfl, ht, hv⟩)))) (hb C.2.1 hd) hr, hrun, hended, N, hq, ⟨_, rfl⟩, hW, hsame.mono hc hs⟩
theorem own_return  (C : own_Cx p s m meth c Z n0 own nm bytes ml (none)) (X : own_St p l e R s m args below meth c n0 T h cells slots) (hd : decode bytes pc = .ok (.return_, 1))  (hc : cells ≤ R.cells) (hs : slots ≤ R.slots) (hq : Q (none) h) : own_Go p e below n0 (own_Fin R s Q) (T.setTop (mkF m pc L ([]))) := by
  obtain ⟨locs, X, N, rfl⟩ := X
  have hlk : meth.locks = false := C.2.2.2.2.2.2.1
  obtain ⟨fs, hr, hrun, hended, hW, hsame⟩ := X.leave (v := none) (fun _ => rfl) hlk
  exact ⟨_, _, locs, X.returnOut C.1 C.2.2.2.2.2.1 (hb C.2.1 hd) hr, hrun, hended, N, hq, ⟨_, rfl⟩, hW, hsame.mono hc hs⟩
end OwnKit
end Jvm.Pilot.@@N@@
namespace Jvm.Pilot.@@N@@
open Jvm Jvm.ClassFile Sem Op Lib Jvm.Free Jvm.Stand Jvm.LawKit Jvm.RoadKit Bundle Jvm.Pilot.@@N@@.Jvm.D
section OwnKitTwo
variable {p : Program} {l : Launch} {e : Env} {R : Room} {s : State} {m : MethodId} {args : Array Value} {below : List Frame} {meth : Method} {c : Code} {T : State} {cells slots : Nat} {Z : State} {a0 : Array Value} {h h' : Heap} {n0 : Nat} {own nm : String} {bytes : ByteArray} {ml : Nat} {ret : Option FieldType} {F : Option Value → State → List Loc → Prop} {pc pc' pcT : Nat} {L L' : Array Slot} {S : List Value} {a b : Addr} {ty : FieldType} {ws : List Addr}
/-! arrays by their lists -/
def own_IA (Z : State) (h : Heap) (a : Addr) (ty : FieldType) (xs : List Int32) : Prop := ∃ c : Cell, Arr Z h a c ty ∧ c.slots.toList = xs.map Value.int ∧ xs.length < 2 ^ 31 ∧ ∀ x ∈ xs, fits ty (.int x) = true
def own_JA (Z : State) (h : Heap) (a : Addr) (xs : List Int64) : Prop := ∃ c : Cell, Arr Z h a c .long ∧ c.slots.toList = xs.map Value.long ∧ xs.length < 2 ^ 31
theorem own_IA.keep {xs : List Int32} (A : own_IA Z h a ty xs) (K : Keep h h' ws) (q : a ∉ ws) : own_IA Z h' a ty xs := by
  obtain ⟨c, A, r⟩ := A; exact ⟨c, ⟨K.2.1 a c A.1 q, A.2⟩, r⟩
theorem own_JA.keep {xs : List Int64} (A : own_JA Z h a xs) (K : Keep h h' ws) (q : a ∉ ws) : own_JA Z h' a xs := by
  obtain ⟨c, A, r⟩ := A; exact ⟨c, ⟨K.2.1 a c A.1 q, A.2⟩, r⟩
theorem own_IA.lt {xs : List Int32} (A : own_IA Z h a ty xs) : a < h.size := by obtain ⟨c, A, r⟩ := A; exact A.lt
theorem own_JA.lt {xs : List Int64} (A : own_JA Z h a xs) : a < h.size := by obtain ⟨c, A, r⟩ := A; exact A.lt
theorem own_ix {j : Int32} {i : Nat} (hj : j.toInt = (i : Int)) : ¬ j < 0 ∧ j.toNatClampNeg = i := by
  refine ⟨?_, ?_⟩
  · rw [Int32.lt_iff_toInt_lt, hj]; show ¬ (i : Int) < 0; omega
  · simp only [Int32.toNatClampNeg, hj, Int.toNat_natCast]
theorem own_sz {α : Type} {f : α → Value} {c : Cell} {xs : List α} (e : c.slots.toList = xs.map f) : c.slots.size = xs.length := by
  have := congrArg List.length e; simpa using this
theorem own_in {α : Type} {f : α → Value} {c : Cell} {xs : List α} (e : c.slots.toList = xs.map f) {j : Int32} {i : Nat} (hj : j.toInt = (i : Int)) (hi : i < xs.length) : ¬ (j < 0 ∨ c.slots.size ≤ j.toNatClampNeg) := by
  obtain ⟨q1, q2⟩ := own_ix hj
  rw [own_sz e, q2]
  exact fun q => q.elim q1 (fun q => Nat.lt_irrefl _ (Nat.lt_of_lt_of_le hi q))
theorem own_at {α : Type} {f : α → Value} {c : Cell} {xs : List α} (e : c.slots.toList = xs.map f) {j : Int32} {i : Nat} (hj : j.toInt = (i : Int)) {v : α} (hv : xs[i]? = some v) : c.slots[j.toNatClampNeg]? = some (f v) := by
  rw [(own_ix hj).2, ← Array.getElem?_toList, e, List.getElem?_map, hv]; rfl
theorem own_lt_of {α : Type} {xs : List α} {i : Nat} {v : α} (hv : xs[i]? = some v) : i < xs.length := (List.getElem?_eq_some_iff.mp hv).1
theorem own_set {α : Type} {f : α → Value} {c : Cell} {xs : List α} (e : c.slots.toList = xs.map f) {j : Int32} {i : Nat} (hj : j.toInt = (i : Int)) {v : α} : (c.setSlot j.toNatClampNeg (f v)).slots.toList = (xs.set i v).map f := by
  rw [(own_ix hj).2]; simp only [Cell.setSlot, Array.toList_setIfInBounds, e, List.map_set]
theorem own_iaload (C : own_Cx p s m meth c Z n0 own nm bytes ml ret) (X : own_St p l e R s m args below meth c n0 T h cells slots) {j v : Int32} {i : Nat} {xs : List Int32} (hd : decode bytes pc = .ok (.iaload, 1)) (A : own_IA Z h a .int xs) (hj : j.toInt = (i : Int)) (hv : xs[i]? = some v) (hp : pc + 1 = pc')
    (g : own_Go p e below n0 F (T.setTop (mkF m pc' L (.int v :: S)))) : own_Go p e below n0 F (T.setTop (mkF m pc L (.int j :: .ref a :: S))) := by
  obtain ⟨locs, X, -, rfl⟩ := X; subst hp; obtain ⟨cl, A, ec, -⟩ := A
  exact own_st (fun t k => X.iaload C.1 A.1 (State.isArrayOf_alike C.2.2.2.2.2.2.2.1.alike A.2.1) A.2.2 (own_in ec hj (own_lt_of hv)) (own_at ec hj hv) (g := mkF m pc L (.int j :: .ref a :: S)) rfl rfl (hb C.2.1 hd) t k) g
theorem own_baload (C : own_Cx p s m meth c Z n0 own nm bytes ml ret) (X : own_St p l e R s m args below meth c n0 T h cells slots) {j v : Int32} {i : Nat} {xs : List Int32} (hd : decode bytes pc = .ok (.baload, 1)) (A : own_IA Z h a .byte xs) (hj : j.toInt = (i : Int)) (hv : xs[i]? = some v) (hp : pc + 1 = pc')
    (g : own_Go p e below n0 F (T.setTop (mkF m pc' L (.int v :: S)))) : own_Go p e below n0 F (T.setTop (mkF m pc L (.int j :: .ref a :: S))) := by
  obtain ⟨locs, X, -, rfl⟩ := X; subst hp; obtain ⟨cl, A, ec, -⟩ := A
  exact own_st (fun t k => X.baloadBytes C.1 A.1 (State.isArrayOf_alike C.2.2.2.2.2.2.2.1.alike A.2.1) A.2.2 (own_in ec hj (own_lt_of hv)) (own_at ec hj hv) (g := mkF m pc L (.int j :: .ref a :: S)) rfl rfl (hb C.2.1 hd) t k) g
theorem own_laload (C : own_Cx p s m meth c Z n0 own nm bytes ml ret) (X : own_St p l e R s m args below meth c n0 T h cells slots) {j : Int32} {v : Int64} {i : Nat} {xs : List Int64} (hd : decode bytes pc = .ok (.laload, 1)) (A : own_JA Z h a xs) (hj : j.toInt = (i : Int)) (hv : xs[i]? = some v) (hp : pc + 1 = pc')
    (g : own_Go p e below n0 F (T.setTop (mkF m pc' L (.long v :: S)))) : own_Go p e below n0 F (T.setTop (mkF m pc L (.int j :: .ref a :: S))) := by
  obtain ⟨locs, X, -, rfl⟩ := X; subst hp; obtain ⟨cl, A, ec, -⟩ := A
  exact own_st (fun t k => X.laload C.1 A.1 (State.isArrayOf_alike C.2.2.2.2.2.2.2.1.alike A.2.1) A.2.2 (own_in ec hj (own_lt_of hv)) (own_at ec hj hv) (g := mkF m pc L (.int j :: .ref a :: S)) rfl rfl (hb C.2.1 hd) t k) g
theorem own_len {α : Type} {f : α → Value} {c : Cell} {xs : List α} (e : c.slots.toList = xs.map f) (hb : xs.length < 2 ^ 31) {n : Int32} (hn : n.toInt = (xs.length : Int)) : c.slots.size.toInt32 = n := by
  rw [own_sz e]; exact Int32.toInt_inj.mp (by rw [len_toInt hb, hn])
theorem own_alenI (C : own_Cx p s m meth c Z n0 own nm bytes ml ret) (X : own_St p l e R s m args below meth c n0 T h cells slots) {n : Int32} {xs : List Int32} (hd : decode bytes pc = .ok (.arraylength, 1)) (A : own_IA Z h a ty xs) (hn : n.toInt = (xs.length : Int)) (hp : pc + 1 = pc')
    (g : own_Go p e below n0 F (T.setTop (mkF m pc' L (.int n :: S)))) : own_Go p e below n0 F (T.setTop (mkF m pc L (.ref a :: S))) := by
  obtain ⟨locs, X, -, rfl⟩ := X; subst hp; obtain ⟨cl, A, ec, hb1, -⟩ := A
  have := own_len ec hb1 hn; subst this
  exact own_st (fun t k => X.arraylength C.1 A.1 (State.isArrayOf_alike C.2.2.2.2.2.2.2.1.alike A.2.1) (g := mkF m pc L (.ref a :: S)) rfl rfl (hb C.2.1 hd) t k) g
theorem own_alenJ (C : own_Cx p s m meth c Z n0 own nm bytes ml ret) (X : own_St p l e R s m args below meth c n0 T h cells slots) {n : Int32} {xs : List Int64} (hd : decode bytes pc = .ok (.arraylength, 1)) (A : own_JA Z h a xs) (hn : n.toInt = (xs.length : Int)) (hp : pc + 1 = pc')
    (g : own_Go p e below n0 F (T.setTop (mkF m pc' L (.int n :: S)))) : own_Go p e below n0 F (T.setTop (mkF m pc L (.ref a :: S))) := by
  obtain ⟨locs, X, -, rfl⟩ := X; subst hp; obtain ⟨cl, A, ec, hb1⟩ := A
  have := own_len ec hb1 hn; subst this
  exact own_st (fun t k => X.arraylength C.1 A.1 (State.isArrayOf_alike C.2.2.2.2.2.2.2.1.alike A.2.1) (g := mkF m pc L (.ref a :: S)) rfl rfl (hb C.2.1 hd) t k) g
theorem own_fitset {xs : List Int32} {i : Nat} {v : Int32} (hf : ∀ x ∈ xs, fits ty (.int x) = true) (hv : fits ty (.int v) = true) : ∀ x ∈ xs.set i v, fits ty (.int x) = true := fun x hx =>
  (List.mem_or_eq_of_mem_set hx).elim (hf x) (fun q => q ▸ hv)
theorem own_bastore (C : own_Cx p s m meth c Z n0 own nm bytes ml ret) (X : own_St p l e R s m args below meth c n0 T h cells slots) {j x v : Int32} {i : Nat} {xs : List Int32} (hd : decode bytes pc = .ok (.bastore, 1)) (A : own_IA Z h a .byte xs) (hj : j.toInt = (i : Int)) (hi : i < xs.length) (hx : x.toInt8.toInt32 = v) (ha : n0 ≤ a) (hp : pc + 1 = pc')
    (g : ∀ T' h', own_St p l e R s m args below meth c n0 T' h' cells slots → Keep h h' [a] → own_IA Z h' a .byte (xs.set i v) → own_Go p e below n0 F (T'.setTop (mkF m pc' L S))) : own_Go p e below n0 F (T.setTop (mkF m pc L (.int x :: .int j :: .ref a :: S))) := by
  obtain ⟨locs, X, N, e0⟩ := X; subst hp; subst hx; obtain ⟨cl, A, ec, hl, hf⟩ := A
  obtain ⟨T', h2, X', e', W, st⟩ := stB X C.1 C.2.2.2.2.2.2.2.1 e0 A (own_in ec hj hi) (g := mkF m pc L (.int x :: .int j :: .ref a :: S)) rfl rfl (hb C.2.1 hd)
  exact own_st st (g T' h2 ⟨_, X', Fr.snoc X' N ha, e'⟩ (Keep.of_wr W) ⟨_, A.same W, own_set ec hj, by simpa using hl, own_fitset hf (fits_nar_byte x)⟩)
theorem own_iastore (C : own_Cx p s m meth c Z n0 own nm bytes ml ret) (X : own_St p l e R s m args below meth c n0 T h cells slots) {j x : Int32} {i : Nat} {xs : List Int32} (hd : decode bytes pc = .ok (.iastore, 1)) (A : own_IA Z h a .int xs) (hj : j.toInt = (i : Int)) (hi : i < xs.length) (ha : n0 ≤ a) (hp : pc + 1 = pc')
    (g : ∀ T' h', own_St p l e R s m args below meth c n0 T' h' cells slots → Keep h h' [a] → own_IA Z h' a .int (xs.set i x) → own_Go p e below n0 F (T'.setTop (mkF m pc' L S))) : own_Go p e below n0 F (T.setTop (mkF m pc L (.int x :: .int j :: .ref a :: S))) := by
  obtain ⟨locs, X, N, e0⟩ := X; subst hp; obtain ⟨cl, A, ec, hl, hf⟩ := A
  obtain ⟨T', h2, X', e', W, st⟩ := stI X C.1 C.2.2.2.2.2.2.2.1 e0 A (own_in ec hj hi) (g := mkF m pc L (.int x :: .int j :: .ref a :: S)) rfl rfl (hb C.2.1 hd)
  exact own_st st (g T' h2 ⟨_, X', Fr.snoc X' N ha, e'⟩ (Keep.of_wr W) ⟨_, A.same W, own_set ec hj, by simpa using hl, own_fitset hf rfl⟩)
theorem own_lastore (C : own_Cx p s m meth c Z n0 own nm bytes ml ret) (X : own_St p l e R s m args below meth c n0 T h cells slots) {j : Int32} {x : Int64} {i : Nat} {xs : List Int64} (hd : decode bytes pc = .ok (.lastore, 1)) (A : own_JA Z h a xs) (hj : j.toInt = (i : Int)) (hi : i < xs.length) (ha : n0 ≤ a) (hp : pc + 1 = pc')
    (g : ∀ T' h', own_St p l e R s m args below meth c n0 T' h' cells slots → Keep h h' [a] → own_JA Z h' a (xs.set i x) → own_Go p e below n0 F (T'.setTop (mkF m pc' L S))) : own_Go p e below n0 F (T.setTop (mkF m pc L (.long x :: .int j :: .ref a :: S))) := by
  obtain ⟨locs, X, N, e0⟩ := X; subst hp; obtain ⟨cl, A, ec, hl⟩ := A
  obtain ⟨T', h2, X', e', W, st⟩ := stJ X C.1 C.2.2.2.2.2.2.2.1 e0 A (own_in ec hj hi) (g := mkF m pc L (.long x :: .int j :: .ref a :: S)) rfl rfl (hb C.2.1 hd)
  exact own_st st (g T' h2 ⟨_, X', Fr.snoc X' N ha, e'⟩ (Keep.of_wr W) ⟨_, A.same W, own_set ec hj, by simpa using hl⟩)
theorem own_keep_ext (E : Ext h h') : Keep h h' [] := (Keep.refl h []).ext E
theorem own_newI (C : own_Cx p s m meth c Z n0 own nm bytes ml ret) (X : own_St p l e R s m args below meth c n0 T h cells slots) {aty : ArrayType} {n : Int32} {k cap : Nat} (hd : decode bytes pc = .ok (.newarray aty, 2)) (hty : newarray.typeOf aty = ty) (w : (Jvm.Cond.arrayClass ty).before a0 Z = true) (hn : n.toInt = (k : Int)) (hcap : k ≤ cap) (hb8 : cap * 8 ≤ 536870912)
    (hc : cells + 1 ≤ R.cells) (hs : slots + cap ≤ R.slots) (hdef : defaultValue ty = .int 0) (hfit : fits ty (.int 0) = true) (hp : pc + 2 = pc')
    (g : ∀ T' h' a, a = h.size → own_St p l e R s m args below meth c n0 T' h' (cells + 1) (slots + cap) → Keep h h' [] → n0 ≤ a → own_IA Z h' a ty (List.replicate k 0) → own_Go p e below n0 F (T'.setTop (mkF m pc' L (.ref a :: S)))) : own_Go p e below n0 F (T.setTop (mkF m pc L (.int n :: S))) := by
  have hbig := own_big C X
  obtain ⟨locs, X, N, e0⟩ := X; subst hp; subst hty
  obtain ⟨q1, q2⟩ := own_ix hn
  obtain ⟨T', h2, cA, X', e', E, A, st⟩ := newP X C.1 C.2.2.2.2.2.2.2.1 w e0 (g := mkF m pc L (.int n :: S)) rfl (hb C.2.1 hd) rfl q1 (cap := cap) (by rw [q2]; exact hcap) hb8 hc hs
  refine own_st st (g T' h2 _ rfl ⟨_, X', N, e'⟩ (own_keep_ext E) hbig ⟨_, A, ?_, ?_, ?_⟩)
  · simp [newA, q2, hdef]
  · have := n.toInt_lt; simp only [List.length_replicate]; omega
  · intro x hx; obtain ⟨-, rfl⟩ := List.mem_replicate.mp hx; exact hfit
theorem own_newJ (C : own_Cx p s m meth c Z n0 own nm bytes ml ret) (X : own_St p l e R s m args below meth c n0 T h cells slots) {n : Int32} {k cap : Nat} (hd : decode bytes pc = .ok (.newarray .long, 2)) (w : (Jvm.Cond.arrayClass .long).before a0 Z = true) (hn : n.toInt = (k : Int)) (hcap : k ≤ cap) (hb8 : cap * 8 ≤ 536870912)
    (hc : cells + 1 ≤ R.cells) (hs : slots + cap ≤ R.slots) (hp : pc + 2 = pc')
    (g : ∀ T' h' a, a = h.size → own_St p l e R s m args below meth c n0 T' h' (cells + 1) (slots + cap) → Keep h h' [] → n0 ≤ a → own_JA Z h' a (List.replicate k 0) → own_Go p e below n0 F (T'.setTop (mkF m pc' L (.ref a :: S)))) : own_Go p e below n0 F (T.setTop (mkF m pc L (.int n :: S))) := by
  have hbig := own_big C X
  obtain ⟨locs, X, N, e0⟩ := X; subst hp
  obtain ⟨q1, q2⟩ := own_ix hn
  obtain ⟨T', h2, cA, X', e', E, A, st⟩ := newP (aty := .long) X C.1 C.2.2.2.2.2.2.2.1 w e0 (g := mkF m pc L (.int n :: S)) rfl (hb C.2.1 hd) rfl q1 (cap := cap) (by rw [q2]; exact hcap) hb8 hc hs
  refine own_st st (g T' h2 _ rfl ⟨_, X', N, e'⟩ (own_keep_ext E) hbig ⟨_, A, ?_, ?_⟩)
  · simp [newA, q2, defaultValue, newarray.typeOf]
  · have := n.toInt_lt; simp only [List.length_replicate]; omega
/-! objects by the list of their fields: name, descriptor, value -/
def own_Ob (Z : State) (a0 : Array Value) (h : Heap) (a : Addr) (K : String) (fs : List (String × String × Value)) : Prop :=
  Exa Z h a K ∧ (fs.map (·.1)).Nodup ∧ ∀ f ∈ fs, Fld Z h a K f.1 f.2.1 f.2.2 ∧ Laid Z a0 K K f.1 f.2.1 ∧ ∃ t, parseFieldDescriptor f.2.1 = some t
theorem own_Ob.keep {K : String} {fs : List (String × String × Value)} (O : own_Ob Z a0 h a K fs) (W : Keep h h' ws) (q : a ∉ ws) : own_Ob Z a0 h' a K fs :=
  ⟨O.1.keep W, O.2.1, fun f hf => ⟨(O.2.2 f hf).1.keep W q, (O.2.2 f hf).2⟩⟩
theorem own_Ob.lt {K : String} {fs : List (String × String × Value)} (O : own_Ob Z a0 h a K fs) : a < h.size := O.1.lt
theorem own_Ob.put {K n d : String} {fs : List (String × String × Value)} {v w : Value} {i : Nat} (O : own_Ob Z a0 h a K fs) (hi : fs[i]? = some (n, d, w)) (W : Wr h h' a (Jvm.RoadKit.slotOf Z K n d) v) : own_Ob Z a0 h' a K (fs.set i (n, d, v)) := by
  obtain ⟨hlt, hget⟩ := List.getElem?_eq_some_iff.mp hi
  have hmem : (n, d, w) ∈ fs := hget ▸ List.getElem_mem hlt
  have hnames : (fs.set i (n, d, v)).map (·.1) = fs.map (·.1) := by
    rw [List.map_set]
    apply List.ext_getElem? ; intro k
    by_cases hk : i = k
    · subst hk; rw [List.getElem?_set_self (by simpa using hlt), List.getElem?_map, hi]; rfl
    · rw [List.getElem?_set_ne hk]
  refine ⟨O.1.wr W, by rw [hnames]; exact O.2.1, fun f hf => ?_⟩
  obtain ⟨k, hk, hfk⟩ := List.getElem_of_mem hf
  have hk' : (fs.set i (n, d, v))[k]? = some f := List.getElem?_eq_some_iff.mpr ⟨hk, hfk⟩
  by_cases hik : i = k
  · subst hik
    rw [List.getElem?_set_self hlt] at hk'; cases hk'
    exact ⟨(O.2.2 _ hmem).1.same W, (O.2.2 _ hmem).2⟩
  · rw [List.getElem?_set_ne hik] at hk'
    obtain ⟨hlk, hgk⟩ := List.getElem?_eq_some_iff.mp hk'
    have hfm : f ∈ fs := hgk ▸ List.getElem_mem hlk
    obtain ⟨F, La, t, ht⟩ := O.2.2 f hfm
    obtain ⟨-, La', t', ht'⟩ := O.2.2 _ hmem
    refine ⟨F.other W (Or.inr (slot_ne La La' (fun hne => ?_) ht ht')), La, t, ht⟩
    have hnd := List.pairwise_iff_getElem.mp O.2.1
    rcases Nat.lt_or_gt_of_ne hik with q | q
    · exact hnd i k (by simpa using hlt) (by simpa using hlk) q (by simp [hget, hgk, hne])
    · exact hnd k i (by simpa using hlk) (by simpa using hlt) q (by simp [hget, hgk, hne])
theorem own_Ob.get {K n d : String} {fs : List (String × String × Value)} {v : Value} {i : Nat} (O : own_Ob Z a0 h a K fs) (hi : fs[i]? = some (n, d, v)) : Fld Z h a K n d v := by
  obtain ⟨hlt, hget⟩ := List.getElem?_eq_some_iff.mp hi
  exact (O.2.2 (n, d, v) (hget ▸ List.getElem_mem hlt)).1
theorem own_getfield (C : own_Cx p s m meth c Z n0 own nm bytes ml ret) (X : own_St p l e R s m args below meth c n0 T h cells slots) {K n d : String} {idx i : Nat} {fs : List (String × String × Value)} {v : Value} (hd : decode bytes pc = .ok (.getfield idx, 3)) (w : (Jvm.Cond.fieldLink own idx K n d).before a0 Z = true) (O : own_Ob Z a0 h a K fs) (hi : fs[i]? = some (n, d, v)) (hp : pc + 3 = pc')
    (g : ∀ T', own_St p l e R s m args below meth c n0 T' h cells slots → own_Go p e below n0 F (T'.setTop (mkF m pc' L (v :: S)))) : own_Go p e below n0 F (T.setTop (mkF m pc L (.ref a :: S))) := by
  obtain ⟨locs, X, N, e0⟩ := X; subst hp
  obtain ⟨T', X', e', st⟩ := getF X C.1 C.2.2.2.2.2.2.2.1 C.2.2.2.1 (host := "") (Or.inl w) Via.refl e0 (O.get hi) (g := mkF m pc L (.ref a :: S)) rfl rfl (hb C.2.1 hd)
  exact own_st st (g T' ⟨_, X', N, e'⟩)
theorem own_putfield (C : own_Cx p s m meth c Z n0 own nm bytes ml ret) (X : own_St p l e R s m args below meth c n0 T h cells slots) {K n d : String} {idx i kk : Nat} {fs : List (String × String × Value)} {v old : Value} (hd : decode bytes pc = .ok (.putfield idx, 3)) (w : (Jvm.Cond.fieldLink own idx K n d).before a0 Z = true)
    (lay : (Jvm.Cond.lays K K n d).before a0 Z = true ∨ ((Jvm.Cond.laysFinal K K n d).before a0 Z = true ∧ own = K ∧ nm = "<init>")) (wi : (Jvm.Cond.instantiable K kk).before a0 Z = true) (O : own_Ob Z a0 h a K fs) (hi : fs[i]? = some (n, d, old)) (hty : parseFieldDescriptor d = some ty) (hn : narrow ty v = v) (hf : fits ty v = true) (ha : n0 ≤ a) (hp : pc + 3 = pc')
    (g : ∀ T' h', own_St p l e R s m args below meth c n0 T' h' cells slots → Keep h h' [a] → own_Ob Z a0 h' a K (fs.set i (n, d, v)) → own_Go p e below n0 F (T'.setTop (mkF m pc' L S))) : own_Go p e below n0 F (T.setTop (mkF m pc L (v :: .ref a :: S))) := by
  obtain ⟨locs, X, N, e0⟩ := X; subst hp
  obtain ⟨T', h2, X', e', W, st⟩ := putF X C.1 C.2.2.2.2.2.2.2.1 C.2.2.2.1 (host := "") (Or.inl w) Via.refl e0 (O.get hi) O.1 (lay.imp id (fun q => ⟨q.1, q.2.1, C.2.2.2.2.1.trans q.2.2⟩)) wi hty hn hf (g := mkF m pc L (v :: .ref a :: S)) rfl rfl (hb C.2.1 hd)
  exact own_st st (g T' h2 ⟨_, X', Fr.snoc X' N ha, e'⟩ (Keep.of_wr W) (O.put hi W))
theorem own_new (C : own_Cx p s m meth c Z n0 own nm bytes ml ret) (X : own_St p l e R s m args below meth c n0 T h cells slots) {K : String} {idx k : Nat} (hd : decode bytes pc = .ok (.new idx, 3)) (w : (Jvm.Cond.classLink own idx K).before a0 Z = true) (wi : (Jvm.Cond.instantiable K k).before a0 Z = true) (wz : (Jvm.Cond.initialized K).before a0 Z = true)
    (hc : cells + 1 ≤ R.cells) (hs : slots + k ≤ R.slots) (fs : List (String × String × Value)) (hnd : (fs.map (·.1)).Nodup) (hfs : ∀ f ∈ fs, Laid Z a0 K K f.1 f.2.1 ∧ ∃ t, parseFieldDescriptor f.2.1 = some t ∧ defaultValue t = f.2.2) (hp : pc + 3 = pc')
    (g : ∀ T' h' a, a = h.size → own_St p l e R s m args below meth c n0 T' h' (cells + 1) (slots + k) → Keep h h' [] → n0 ≤ a → own_Ob Z a0 h' a K fs → own_Go p e below n0 F (T'.setTop (mkF m pc' L (.ref a :: S)))) : own_Go p e below n0 F (T.setTop (mkF m pc L S)) := by
  have hbig := own_big C X
  obtain ⟨locs, X, N, e0⟩ := X; subst hp
  obtain ⟨T', h2, X', e', E, A, D, -, st⟩ := newO X C.1 C.2.2.2.2.2.2.2.1 C.2.2.2.1 w wi wz e0 (g := mkF m pc L S) rfl (hb C.2.1 hd) hc hs
  refine own_st st (g T' h2 _ rfl ⟨_, X', N, e'⟩ (own_keep_ext E) hbig ⟨A, hnd, fun f hf => ?_⟩)
  obtain ⟨La, t, ht, hdv⟩ := hfs f hf
  exact ⟨hdv ▸ D La ht, La, t, ht⟩
theorem own_objinit (C : own_Cx p s m meth c Z n0 own nm bytes ml ret) (X : own_St p l e R s m args below meth c n0 T h cells slots) {idx : Nat} (hd : decode bytes pc = .ok (.invokespecial idx, 3)) (w1 : (Jvm.Cond.methodLink own idx Lib.objectInit).before a0 Z = true) (w2 : (Jvm.Cond.instanceMethod Lib.objectInit).before a0 Z = true) (w3 : (Jvm.Cond.code Lib.objectInit ⟨#[0xb1]⟩ 1 none).before a0 Z = true)
    (hL : L.size = ml) (hf : 1 ≤ R.frames) (hlo : (S.map fun v => v.category).sum + 12 ≤ R.locals) (hp : pc + 3 = pc')
    (g : ∀ T', own_St p l e R s m args below meth c n0 T' h cells slots → own_Go p e below n0 F (T'.setTop (mkF m pc' L S))) : own_Go p e below n0 F (T.setTop (mkF m pc L (.ref a :: S))) := by
  obtain ⟨locs, X, N, e0⟩ := X; subst hp
  obtain ⟨T', X', e', st⟩ := initO X C.1 C.2.2.2.2.2.2.2.1 C.2.2.2.1 w1 w2 w3 e0 (g := mkF m pc L (.ref a :: S)) rfl (by rw [C.2.2.1]; exact hL) rfl (hb C.2.1 hd) hf (W := (S.map fun v => v.category).sum) (by show 2 * 0 + _ ≤ _; omega) hlo
  exact own_st st (g T' ⟨_, X', N, e'⟩)
/-! calls -/
theorem own_callS (C : own_Cx p s m meth c Z n0 own nm bytes ml ret) (X : own_St p l e R s m args below meth c n0 T h cells slots) {y : MethodName} {by' : ByteArray} {ml' idx : Nat} {rt ret' : Option FieldType} {ps : List FieldType} {rm : Room} {av : List Value} {Qc : Option Value → Heap → Prop} (hd : decode bytes pc = .ok (.invokestatic idx, 3)) (M : own_Met l Z n0 y by' ml' ret' [] rm av.toArray h Qc)
    (w1 : (Jvm.Cond.methodLink own idx y).before a0 Z = true) (w2 : (Jvm.Cond.static y).before a0 Z = true) (w3 : (Jvm.Cond.initialized y.cls).before a0 Z = true) (w4 : (Jvm.Cond.code y by' ml' ret').before a0 Z = true) (hy : y.cls ≠ "java/lang/invoke/MethodHandle" ∧ y.cls ≠ "java/lang/invoke/VarHandle")
    (hde : parseMethodDescriptor y.desc = some ⟨ps, rt⟩) (hps : av.length = ps.length) (hL : L.size = ml) (hf : rm.frames + 1 ≤ R.frames) (hlo : (S.map fun v => v.category).sum + (ml' + 11) + rm.locals ≤ R.locals) (hc : cells + rm.cells ≤ R.cells) (hs : slots + rm.slots ≤ R.slots) {S0 : List Value} (hS : S0 = av.reverse ++ S) (hp : pc + 3 = pc')
    (g : ∀ T' h' v, own_St p l e R s m args below meth c n0 T' h' (cells + rm.cells) (slots + rm.slots) → Qc v h' → own_Go p e below n0 F (T'.setTop (mkF m pc' L (v.toList ++ S)))) : own_Go p e below n0 F (T.setTop (mkF m pc L S0)) := by
  obtain ⟨locs, X, N, e0⟩ := X; subst hp; subst hS
  have hZ := C.2.2.2.2.2.2.2.1
  obtain ⟨v, _, ⟨T2, L2, k2, n2⟩, -, X2, ⟨Lc, hQ, l2, y2, z2⟩, st⟩ := Jvm.LawKit.callS X C.1 (y := y) C.2.2.2.1 (mvT hZ w1) (mvT hZ w2) (mvT hZ w3) (mvT hZ w4) hy (backOf (W := (S.map fun v => v.category).sum) (Q := fun v h L => Qc v h ∧ Fr n0 L) M hZ w4 w3 hf hlo) (g := mkF m pc L (av.reverse ++ S)) rfl (by rw [C.2.2.1]; exact hL) (argsL := av) (rest := S) (lenOf hde hps) rfl (by show 2 * 0 + _ ≤ _; omega) (hb C.2.1 hd) (fun _ _ => ⟨rfl, e0, hc, hs⟩)
  dsimp only [Pt.U, Pt.locs, Pt.cells, Pt.slots] at X2 l2 y2 z2 st hQ
  subst l2 y2 z2
  exact own_st st (g T2 _ v ⟨_, X2, Fr.app N hQ.2, rfl⟩ hQ.1)
theorem own_callInit (C : own_Cx p s m meth c Z n0 own nm bytes ml ret) (X : own_St p l e R s m args below meth c n0 T h cells slots) {y : MethodName} {by' : ByteArray} {ml' idx : Nat} {rt : Option FieldType} {ps : List FieldType} {rm : Room} {av : List Value} {Qc : Option Value → Heap → Prop} (hd : decode bytes pc = .ok (.invokespecial idx, 3)) (M : own_Met l Z n0 y by' ml' none [] rm (.ref a :: av).toArray h Qc) (hy1 : y.name = "<init>")
    (w1 : (Jvm.Cond.methodLink own idx y).before a0 Z = true) (w2 : (Jvm.Cond.instanceMethod y).before a0 Z = true) (w3 : (Jvm.Cond.initialized y.cls).before a0 Z = true) (w4 : (Jvm.Cond.code y by' ml' none).before a0 Z = true) (hy : y.cls ≠ "java/lang/invoke/MethodHandle" ∧ y.cls ≠ "java/lang/invoke/VarHandle")
    (hde : parseMethodDescriptor y.desc = some ⟨ps, rt⟩) (hps : av.length = ps.length) (hL : L.size = ml) (hf : rm.frames + 1 ≤ R.frames) (hlo : (S.map fun v => v.category).sum + (ml' + 11) + rm.locals ≤ R.locals) (hc : cells + rm.cells ≤ R.cells) (hs : slots + rm.slots ≤ R.slots) {S0 : List Value} (hS : S0 = av.reverse ++ .ref a :: S) (hp : pc + 3 = pc')
    (g : ∀ T' h' v, own_St p l e R s m args below meth c n0 T' h' (cells + rm.cells) (slots + rm.slots) → Qc v h' → own_Go p e below n0 F (T'.setTop (mkF m pc' L (v.toList ++ S)))) : own_Go p e below n0 F (T.setTop (mkF m pc L S0)) := by
  obtain ⟨locs, X, N, e0⟩ := X; subst hp; subst hS
  have hZ := C.2.2.2.2.2.2.2.1
  obtain ⟨v, _, ⟨T2, L2, k2, n2⟩, -, X2, ⟨Lc, hQ, l2, y2, z2⟩, st⟩ := X.specialBack C.1 (y := y) hy1 C.2.2.2.1 (mvT hZ w1) (mvT hZ w2) (mvT hZ w4) hy (backOf (W := (S.map fun v => v.category).sum) (Q := fun v h L => Qc v h ∧ Fr n0 L) M hZ w4 w3 hf hlo) (g := mkF m pc L (av.reverse ++ .ref a :: S)) rfl (by rw [C.2.2.1]; exact hL) (Steps.refl _) (a := a) (argsL := av) (rest := S) (lenOf hde hps) rfl (by show 2 * 0 + _ ≤ _; omega) (hb C.2.1 hd) (fun _ _ => ⟨rfl, e0, hc, hs⟩)
  dsimp only [Pt.U, Pt.locs, Pt.cells, Pt.slots] at X2 l2 y2 z2 st hQ
  subst l2 y2 z2
  exact own_st (fun t k => st.trans k) (g T2 _ v ⟨_, X2, Fr.app N hQ.2, rfl⟩ hQ.1)
theorem own_callV (C : own_Cx p s m meth c Z n0 own nm bytes ml ret) (X : own_St p l e R s m args below meth c n0 T h cells slots) {y : MethodName} {by' : ByteArray} {ml' idx : Nat} {rt ret' : Option FieldType} {ps : List FieldType} {rm : Room} {av : List Value} {Qc : Option Value → Heap → Prop} (hd : decode bytes pc = .ok (.invokevirtual idx, 3)) (M : own_Met l Z n0 y by' ml' ret' [] rm (.ref a :: av).toArray h Qc)
    (E : Exa Z h a y.cls) (w1 : (Jvm.Cond.methodLink own idx y).before a0 Z = true) (wd : (Jvm.Cond.declares y).before a0 Z = true) (ws : (Jvm.Cond.selects y.cls y y).before a0 Z = true) (w2 : (Jvm.Cond.instanceMethod y).before a0 Z = true) (w3 : (Jvm.Cond.initialized y.cls).before a0 Z = true) (w4 : (Jvm.Cond.code y by' ml' ret').before a0 Z = true) (hy : y.cls ≠ "java/lang/invoke/MethodHandle" ∧ y.cls ≠ "java/lang/invoke/VarHandle")
    (hde : parseMethodDescriptor y.desc = some ⟨ps, rt⟩) (hps : av.length = ps.length) (hL : L.size = ml) (hf : rm.frames + 1 ≤ R.frames) (hlo : (S.map fun v => v.category).sum + (ml' + 11) + rm.locals ≤ R.locals) (hc : cells + rm.cells ≤ R.cells) (hs : slots + rm.slots ≤ R.slots) {S0 : List Value} (hS : S0 = av.reverse ++ .ref a :: S) (hp : pc + 3 = pc')
    (g : ∀ T' h' v, own_St p l e R s m args below meth c n0 T' h' (cells + rm.cells) (slots + rm.slots) → Qc v h' → own_Go p e below n0 F (T'.setTop (mkF m pc' L (v.toList ++ S)))) : own_Go p e below n0 F (T.setTop (mkF m pc L S0)) := by
  obtain ⟨locs, X, N, e0⟩ := X; subst hp; subst hS
  have hZ := C.2.2.2.2.2.2.2.1
  obtain ⟨cq, kq, qa, qb, qc⟩ := isOf hZ e0 E
  obtain ⟨v, _, ⟨T2, L2, k2, n2⟩, -, X2, ⟨Lc, hQ, l2, y2, z2⟩, st⟩ := X.virtualBack C.1 (y := y) (z := y) C.2.2.2.1 (mvT hZ w1) (mvT hZ wd) (notFace_of_selects (args := #[]) (mvT hZ ws)) (mvT hZ ws) (mvT hZ w2) hy (backOf (W := (S.map fun v => v.category).sum) (Q := fun v h L => Qc v h ∧ Fr n0 L) M hZ w4 w3 hf hlo) qa qc (g := mkF m pc L (av.reverse ++ .ref a :: S)) rfl (by rw [C.2.2.1]; exact hL) (Steps.refl _) (argsL := av) (rest := S) (lenOf hde hps) rfl (by show 2 * 0 + _ ≤ _; omega) (hb C.2.1 hd) (fun _ _ => ⟨rfl, e0, hc, hs⟩)
  dsimp only [Pt.U, Pt.locs, Pt.cells, Pt.slots] at X2 l2 y2 z2 st hQ
  subst l2 y2 z2
  exact own_st (fun t k => st.trans k) (g T2 _ v ⟨_, X2, Fr.app N hQ.2, rfl⟩ hQ.1)
/-- a private method selects itself (turned from the worked claim gauge-weight) -/
theorem own_selP {s : State} {args : Array Value} {n : Nat} {y : MethodName} (hy : y.cls ≠ "java/lang/invoke/MethodHandle" ∧ y.cls ≠ "java/lang/invoke/VarHandle") (hins : (Jvm.Cond.instantiable y.cls n).before args s = true) (hpriv : (Jvm.Cond.privateMethod y).before args s = true) (hinst : (Jvm.Cond.instanceMethod y).before args s = true) :
    (Jvm.Cond.selects y.cls y y).before args s = true := by
  obtain ⟨c, k, hc, hk, -, hniab, -, -⟩ := Cond.instantiable_spec hins
  have hni : k.isInterface = false := (Bool.or_eq_false_iff.mp hniab).1
  obtain ⟨mk, methM, hnamed, hmethM, -, -⟩ := Cond.instanceMethod_spec hinst
  have hfound : s.methodFound? y.cls y.name y.desc = some mk := State.methodFound?_of_named hnamed hy
  have hcls : mk.cls = c := Option.some.inj ((findClass_of_methodNamed hnamed).symm.trans hc)
  have hsel : selectMethod {} s.vm c mk = .method mk := selectMethod_private hmethM (Cond.privateMethod_at hpriv mk methM hnamed hmethM)
  simp only [Cond.before, Cond.holds, Cond.value, hc, hfound, hnamed, hsel, hcls, hk]
  simp; exact hni
theorem own_callP (C : own_Cx p s m meth c Z n0 own nm bytes ml ret) (X : own_St p l e R s m args below meth c n0 T h cells slots) {y : MethodName} {by' : ByteArray} {ml' idx : Nat} {rt ret' : Option FieldType} {ps : List FieldType} {rm : Room} {av : List Value} {Qc : Option Value → Heap → Prop} (hd : decode bytes pc = .ok (.invokevirtual idx, 3)) (M : own_Met l Z n0 y by' ml' ret' [] rm (.ref a :: av).toArray h Qc)
    (E : Exa Z h a y.cls) (w1 : (Jvm.Cond.methodLink own idx y).before a0 Z = true) {kk : Nat} (wi : (Jvm.Cond.instantiable y.cls kk).before a0 Z = true) (wp : (Jvm.Cond.privateMethod y).before a0 Z = true) (w2 : (Jvm.Cond.instanceMethod y).before a0 Z = true) (w3 : (Jvm.Cond.initialized y.cls).before a0 Z = true) (w4 : (Jvm.Cond.code y by' ml' ret').before a0 Z = true) (hy : y.cls ≠ "java/lang/invoke/MethodHandle" ∧ y.cls ≠ "java/lang/invoke/VarHandle")
    (hde : parseMethodDescriptor y.desc = some ⟨ps, rt⟩) (hps : av.length = ps.length) (hL : L.size = ml) (hf : rm.frames + 1 ≤ R.frames) (hlo : (S.map fun v => v.category).sum + (ml' + 11) + rm.locals ≤ R.locals) (hc : cells + rm.cells ≤ R.cells) (hs : slots + rm.slots ≤ R.slots) {S0 : List Value} (hS : S0 = av.reverse ++ .ref a :: S) (hp : pc + 3 = pc')
    (g : ∀ T' h' v, own_St p l e R s m args below meth c n0 T' h' (cells + rm.cells) (slots + rm.slots) → Qc v h' → own_Go p e below n0 F (T'.setTop (mkF m pc' L (v.toList ++ S)))) : own_Go p e below n0 F (T.setTop (mkF m pc L S0)) := by
  obtain ⟨locs, X, N, e0⟩ := X; subst hp; subst hS
  have hZ := C.2.2.2.2.2.2.2.1
  obtain ⟨cq, q1, q2⟩ := E.cell
  obtain ⟨v, _, ⟨T2, L2, k2, n2⟩, -, X2, ⟨Lc, hQ, l2, y2, z2⟩, st⟩ := X.privateBack C.1 (y := y) C.2.2.2.1 (mvT hZ w1) (mvT hZ w2) (mvT hZ (own_selP hy wi wp w2)) (Cond.privateMethod_at (mvP hZ wp (args := #[]))) (mvT hZ w4) hy (backOf (W := (S.map fun v => v.category).sum) (Q := fun v h L => Qc v h ∧ Fr n0 L) M hZ w4 w3 hf hlo) (g := mkF m pc L (av.reverse ++ .ref a :: S)) rfl (by rw [C.2.2.1]; exact hL) (Steps.refl _) (a := a) (by rw [e0]; exact q1) q2 (argsL := av) (rest := S) (lenOf hde hps) rfl (by show 2 * 0 + _ ≤ _; omega) (hb C.2.1 hd) (fun _ _ => ⟨rfl, e0, hc, hs⟩)
  dsimp only [Pt.U, Pt.locs, Pt.cells, Pt.slots] at X2 l2 y2 z2 st hQ
  subst l2 y2 z2
  exact own_st (fun t k => st.trans k) (g T2 _ v ⟨_, X2, Fr.app N hQ.2, rfl⟩ hQ.1)
end OwnKitTwo
end Jvm.Pilot.@@N@@
namespace Jvm.Pilot.@@N@@
open Jvm Jvm.ClassFile Sem Op Lib Jvm.Free Jvm.Stand Jvm.LawKit Jvm.RoadKit Bundle Jvm.Pilot.@@N@@.Jvm.D
section OwnKitThree
theorem own_i2b2 (x : Int32) : x.toInt8.toInt32.toInt8.toInt32 = x.toInt8.toInt32 := by simp
theorem own_i2bn {y t : Int32} (e : y.toInt8.toInt32 = t) : t.toInt8.toInt32 = t := by rw [← e]; simp
theorem own_ibd {Z : State} {h : Heap} {a : Addr} {ty : FieldType} {xs : List Int32} {i : Nat} {v : Int32} (A : own_IA Z h a ty xs) (e : xs[i]? = some v) : i < 2 ^ 31 := by
  obtain ⟨c, -, -, hl, -⟩ := A; exact Nat.lt_trans (own_lt_of e) hl
theorem own_ixadd {o d : Int32} {k n : Nat} (hk : o.toInt = (k : Int)) (hd : d.toInt = (n : Int)) (hb : k + n < 2 ^ 31) : (o + d).toInt = ((k + n : Nat) : Int) := by
  have := c_iadd o d; have := rng32 (o + d); omega
theorem own_orI (a b : Int32) (k : Nat) (hk : k ≤ 31) (P : Int) (hP : P = (2 ^ k : Nat)) (h1 : a.toInt % P = 0) (h2 : 0 ≤ b.toInt) (h3 : b.toInt < P) (h4 : 0 ≤ a.toInt) (h5 : a.toInt + b.toInt < 2147483648) : (a ||| b).toInt = a.toInt + b.toInt := by
  have := c_or a b k hk P hP h1 h2 h3; have := rng32 (a ||| b); omega
theorem own_addI (a b : Int32) (h1 : -2147483648 ≤ a.toInt + b.toInt) (h2 : a.toInt + b.toInt < 2147483648) : (a + b).toInt = a.toInt + b.toInt := by
  have := c_iadd a b; have := rng32 (a + b); omega
theorem own_subI (a b : Int32) (h1 : -2147483648 ≤ a.toInt - b.toInt) (h2 : a.toInt - b.toInt < 2147483648) : (a - b).toInt = a.toInt - b.toInt := by
  have := c_isub a b; have := rng32 (a - b); omega
theorem own_ba3 (y : Int32) : (y.toInt8.toInt32 &&& 7).toInt = y.toInt % 8 := by
  have e1 : (y.toInt8.toInt32 &&& 7).toInt = y.toInt8.toInt32.toInt % (2 ^ 3 : Nat) := c_mask _ 7 3 (by decide) (by decide)
  have e2 := c_i2b y
  omega
theorem own_ba4 (y : Int32) : (y.toInt8.toInt32 &&& 15).toInt = y.toInt % 16 := by
  have e1 : (y.toInt8.toInt32 &&& 15).toInt = y.toInt8.toInt32.toInt % (2 ^ 4 : Nat) := c_mask _ 15 4 (by decide) (by decide)
  have e2 := c_i2b y
  omega
theorem own_ba5 (y : Int32) : (y.toInt8.toInt32 &&& 31).toInt = y.toInt % 32 := by
  have e1 : (y.toInt8.toInt32 &&& 31).toInt = y.toInt8.toInt32.toInt % (2 ^ 5 : Nat) := c_mask _ 31 5 (by decide) (by decide)
  have e2 := c_i2b y
  omega
theorem own_ba6 (y : Int32) : (y.toInt8.toInt32 &&& 63).toInt = y.toInt % 64 := by
  have e1 : (y.toInt8.toInt32 &&& 63).toInt = y.toInt8.toInt32.toInt % (2 ^ 6 : Nat) := c_mask _ 63 6 (by decide) (by decide)
  have e2 := c_i2b y
  omega
theorem own_ba7 (y : Int32) : (y.toInt8.toInt32 &&& 127).toInt = y.toInt % 128 := by
  have e1 : (y.toInt8.toInt32 &&& 127).toInt = y.toInt8.toInt32.toInt % (2 ^ 7 : Nat) := c_mask _ 127 7 (by decide) (by decide)
  have e2 := c_i2b y
  omega
theorem own_ba8 (y : Int32) : (y.toInt8.toInt32 &&& 255).toInt = y.toInt % 256 := by
  have e1 : (y.toInt8.toInt32 &&& 255).toInt = y.toInt8.toInt32.toInt % (2 ^ 8 : Nat) := c_mask _ 255 8 (by decide) (by decide)
  have e2 := c_i2b y
  omega
theorem own_cont (q : Int32) : (((128 : Int32) ||| (q &&& 63)).toInt8.toInt32 &&& 63).toInt = q.toInt % 64 := by
  have e1 : (q &&& 63).toInt = q.toInt % (2 ^ 6 : Nat) := c_mask q 63 6 (by decide) (by decide)
  have z : (128 : Int32).toInt = 128 := rfl
  have e2 := own_orI 128 (q &&& 63) 7 (by decide) 128 (by decide) (by decide) (by omega) (by omega) (by decide) (by omega)
  rw [own_ba6, e2]; omega
theorem own_acc (x y : Int32) (h1 : 0 ≤ x.toInt) (h2 : x.toInt * 64 + 63 < 2147483648) (h3 : 0 ≤ y.toInt) (h4 : y.toInt < 64) : ((x <<< (6 &&& 31)) ||| y).toInt = x.toInt * 64 + y.toInt := by
  have e1 := c_ishl x 6 6 (by decide)
  have e2 := rng32 (x <<< (6 &&& 31))
  have e3 : (x <<< (6 &&& 31)).toInt = x.toInt * 64 := by omega
  rw [own_orI (x <<< (6 &&& 31)) y 6 (by decide) 64 (by decide) (by omega) h3 h4 (by omega) (by omega), e3]
end OwnKitThree
end Jvm.Pilot.@@N@@
namespace Jvm.Pilot.@@N@@
open Jvm Jvm.ClassFile Sem Op Lib Jvm.Free Jvm.Stand Jvm.LawKit Jvm.RoadKit Bundle Jvm.Pilot.@@N@@.Jvm.D
def own_min (x y : Int64) : Int64 := if y < x then y else x
theorem own_minle (x y z : Int64) (e : own_min x y = z) : ¬ y < z := by
  rw [own_min] at e; split at e <;> subst e <;> rw [Int64.lt_iff_toInt_lt] at * <;> omega
theorem own_tlt {x y : Int64} (h : x < y) : x.toInt < y.toInt := Int64.lt_iff_toInt_lt.mp h
theorem own_nlt {x y : Int64} (h : ¬ x < y) : y.toInt ≤ x.toInt := by rw [Int64.lt_iff_toInt_lt] at h; omega
theorem own_nge {x y : Int64} (h : y.toInt ≤ x.toInt) : ¬ x < y := by rw [Int64.lt_iff_toInt_lt]; omega
def own_cnt : List Int64 → Int64 → Int32 → Int32
  | [], _, c => c
  | x :: r, v, c => own_cnt r v (if x = v then c + 1 else c)
theorem own_sv (x z : Int32) (e : 1 + (x.toUInt32 >>> ((1 : Int32) &&& 31).toUInt32).toInt32 % 5 = z) : z = 1 ∨ z = 2 ∨ z = 3 ∨ z = 4 ∨ z = 5 := by
  have e1 := c_iushr x 1 1 (by decide) (by decide)
  have e2 := (c_irem ((x.toUInt32 >>> ((1 : Int32) &&& 31).toUInt32).toInt32) 5 5 rfl).1 (by omega)
  have z1 : (1 : Int32).toInt = 1 := rfl
  have e3 := own_addI 1 ((x.toUInt32 >>> ((1 : Int32) &&& 31).toUInt32).toInt32 % 5) (by omega) (by omega)
  rw [e] at e3
  have : z.toInt = 1 ∨ z.toInt = 2 ∨ z.toInt = 3 ∨ z.toInt = 4 ∨ z.toInt = 5 := by omega
  rcases this with e | e | e | e | e
  · exact Or.inl (Int32.toInt_inj.mp e)
  · exact Or.inr (Or.inl (Int32.toInt_inj.mp e))
  · exact Or.inr (Or.inr (Or.inl (Int32.toInt_inj.mp e)))
  · exact Or.inr (Or.inr (Or.inr (Or.inl (Int32.toInt_inj.mp e))))
  · exact Or.inr (Or.inr (Or.inr (Or.inr (Int32.toInt_inj.mp e))))
theorem own_of (x z : Int32) (e : x &&& 1 = z) : z = 0 ∨ z = 1 := by rw [← e]; exact and_one x
theorem own_pm1_0 (en : Int64) (z : Int64) : own_cnt [en] z 0 = own_cnt [en] z 0 := rfl
theorem own_pm2_0 (en y1 : Int64) (z : Int64) : own_cnt [en, y1] z 0 = own_cnt [en, y1] z 0 := rfl
theorem own_pm2_1 (en y1 : Int64) (z : Int64) : own_cnt [en, y1] z 0 = own_cnt [y1, en] z 0 := by
  by_cases q0 : en = z <;> by_cases q1 : y1 = z <;> simp only [own_cnt, q0, q1, if_true, if_false]
theorem own_pm3_0 (en y1 y2 : Int64) (z : Int64) : own_cnt [en, y1, y2] z 0 = own_cnt [en, y1, y2] z 0 := rfl
theorem own_pm3_1 (en y1 y2 : Int64) (z : Int64) : own_cnt [en, y1, y2] z 0 = own_cnt [y1, en, y2] z 0 := by
  by_cases q0 : en = z <;> by_cases q1 : y1 = z <;> by_cases q2 : y2 = z <;> simp only [own_cnt, q0, q1, q2, if_true, if_false]
theorem own_pm3_2 (en y1 y2 : Int64) (z : Int64) : own_cnt [en, y1, y2] z 0 = own_cnt [y2, y1, en] z 0 := by
  by_cases q0 : en = z <;> by_cases q1 : y1 = z <;> by_cases q2 : y2 = z <;> simp only [own_cnt, q0, q1, q2, if_true, if_false]
theorem own_pm4_0 (en y1 y2 y3 : Int64) (z : Int64) : own_cnt [en, y1, y2, y3] z 0 = own_cnt [en, y1, y2, y3] z 0 := rfl
theorem own_pm4_1 (en y1 y2 y3 : Int64) (z : Int64) : own_cnt [en, y1, y2, y3] z 0 = own_cnt [y1, en, y2, y3] z 0 := by
  by_cases q0 : en = z <;> by_cases q1 : y1 = z <;> by_cases q2 : y2 = z <;> by_cases q3 : y3 = z <;> simp only [own_cnt, q0, q1, q2, q3, if_true, if_false]
theorem own_pm4_2 (en y1 y2 y3 : Int64) (z : Int64) : own_cnt [en, y1, y2, y3] z 0 = own_cnt [y2, y1, en, y3] z 0 := by
  by_cases q0 : en = z <;> by_cases q1 : y1 = z <;> by_cases q2 : y2 = z <;> by_cases q3 : y3 = z <;> simp only [own_cnt, q0, q1, q2, q3, if_true, if_false]
theorem own_pm4_3 (en y1 y2 y3 : Int64) (z : Int64) : own_cnt [en, y1, y2, y3] z 0 = own_cnt [y1, y3, y2, en] z 0 := by
  by_cases q0 : en = z <;> by_cases q1 : y1 = z <;> by_cases q2 : y2 = z <;> by_cases q3 : y3 = z <;> simp only [own_cnt, q0, q1, q2, q3, if_true, if_false]
theorem own_pm5_0 (en y1 y2 y3 y4 : Int64) (z : Int64) : own_cnt [en, y1, y2, y3, y4] z 0 = own_cnt [en, y1, y2, y3, y4] z 0 := rfl
theorem own_pm5_1 (en y1 y2 y3 y4 : Int64) (z : Int64) : own_cnt [en, y1, y2, y3, y4] z 0 = own_cnt [y1, en, y2, y3, y4] z 0 := by
  by_cases q0 : en = z <;> by_cases q1 : y1 = z <;> by_cases q2 : y2 = z <;> by_cases q3 : y3 = z <;> by_cases q4 : y4 = z <;> simp only [own_cnt, q0, q1, q2, q3, q4, if_true, if_false]
theorem own_pm5_2 (en y1 y2 y3 y4 : Int64) (z : Int64) : own_cnt [en, y1, y2, y3, y4] z 0 = own_cnt [y2, y1, en, y3, y4] z 0 := by
  by_cases q0 : en = z <;> by_cases q1 : y1 = z <;> by_cases q2 : y2 = z <;> by_cases q3 : y3 = z <;> by_cases q4 : y4 = z <;> simp only [own_cnt, q0, q1, q2, q3, q4, if_true, if_false]
theorem own_pm5_3 (en y1 y2 y3 y4 : Int64) (z : Int64) : own_cnt [en, y1, y2, y3, y4] z 0 = own_cnt [y1, y3, y2, en, y4] z 0 := by
  by_cases q0 : en = z <;> by_cases q1 : y1 = z <;> by_cases q2 : y2 = z <;> by_cases q3 : y3 = z <;> by_cases q4 : y4 = z <;> simp only [own_cnt, q0, q1, q2, q3, q4, if_true, if_false]
theorem own_pm5_4 (en y1 y2 y3 y4 : Int64) (z : Int64) : own_cnt [en, y1, y2, y3, y4] z 0 = own_cnt [y1, y4, y2, y3, en] z 0 := by
  by_cases q0 : en = z <;> by_cases q1 : y1 = z <;> by_cases q2 : y2 = z <;> by_cases q3 : y3 = z <;> by_cases q4 : y4 = z <;> simp only [own_cnt, q0, q1, q2, q3, q4, if_true, if_false]
theorem own_ef_min (x : Int64) (y : Int64) (m : MethodId) : entryFrame m #[(.long x), (.long y)] 4 = mkF m 0 #[.val (.long x), .second, .val (.long y), .second] [] := by first | (simp [entryFrame, mkF, argsToLocals, Value.category]; done) | rfl
theorem own_d1_0 : decode jdk_29_method_70_code 0 = .ok (.lload_n 0, 1) := by decide +kernel
theorem own_d1_1 : decode jdk_29_method_70_code 1 = .ok (.lload_n 2, 1) := by decide +kernel
theorem own_d1_2 : decode jdk_29_method_70_code 2 = .ok (.lcmp, 1) := by decide +kernel
theorem own_d1_3 : decode jdk_29_method_70_code 3 = .ok (.ifCond .gt 7, 3) := by decide +kernel
theorem own_d1_10 : decode jdk_29_method_70_code 10 = .ok (.lload_n 2, 1) := by decide +kernel
theorem own_d1_11 : decode jdk_29_method_70_code 11 = .ok (.lreturn, 1) := by decide +kernel
theorem own_d1_6 : decode jdk_29_method_70_code 6 = .ok (.lload_n 0, 1) := by decide +kernel
theorem own_d1_7 : decode jdk_29_method_70_code 7 = .ok (.goto 4, 3) := by decide +kernel
set_option maxRecDepth 65536 in
set_option maxHeartbeats 40000000 in
theorem own_m_min (l : Launch) (Z : State) (a0 : Array Value) (hw : ∀ d ∈ tables_1, d.before a0 Z = true) (x : Int64) (y : Int64) (h0 : Heap) (n0 : Nat) (hn0 : n0 ≤ h0.size)  : own_Met l Z n0 (⟨"java/lang/Math", "min", "(JJ)J"⟩ : MethodName) jdk_29_method_70_code 4 (some .long) [] ({ frames := 0, cells := 0, slots := 0, locals := 0 } : Room) #[(.long x), (.long y)] h0 (fun v h => v = some (.long (own_min x y)) ∧ h0 = h) := by
  refine own_body (Jvm.Free.JP.mathPlain rfl (by decide +kernel)) hn0 (own_ef_min x y) ?_
  intro p e s m below meth c T C X
  refine own_lloadN C X own_d1_0 rfl (pc' := 1) rfl ?_
  refine own_lloadN C X own_d1_1 rfl (pc' := 2) rfl ?_
  refine own_lcmp_gt C X own_d1_2 own_d1_3 (pcT := 10) (pc' := 6) (by decide) (by decide) rfl (fun hc2 => ?_) (fun hc2 => ?_)
  · refine own_lloadN C X own_d1_10 rfl (pc' := 11) rfl ?_
    exact own_lreturn C X own_d1_11 (Nat.le_of_ble_eq_true rfl) (Nat.le_of_ble_eq_true rfl) (⟨by rw [own_min]; simp only [hc2, if_true, if_false], rfl⟩)
  · refine own_lloadN C X own_d1_6 rfl (pc' := 7) rfl ?_
    refine own_goto C X own_d1_7 (pc' := 11) (by decide) (by decide) ?_
    exact own_lreturn C X own_d1_11 (Nat.le_of_ble_eq_true rfl) (Nat.le_of_ble_eq_true rfl) (⟨by rw [own_min]; simp only [hc2, if_true, if_false], rfl⟩)
theorem own_pn_com_example_stablemate_stablemate_SliceHeaps : plainName "com/example/stablemate/stablemate/SliceHeaps" = true := by first | (simp [plainName, overriddenIn]; done) | decide +kernel
theorem own_ef_rl10 (a : Addr) (en : Int64) (m : MethodId) : entryFrame m #[(.ref a), (.int (0 : Int32)), (.int (1 : Int32)), (.long en)] 7 = mkF m 0 #[.val (.ref a), .val (.int (0 : Int32)), .val (.int (1 : Int32)), .val (.long en), .second, .unset, .unset] [] := by first | (simp [entryFrame, mkF, argsToLocals, Value.category]; done) | rfl
theorem own_d2_0 : decode prog_40_method_4_code 0 = .ok (.iconst 0, 1) := by decide +kernel
theorem own_d2_1 : decode prog_40_method_4_code 1 = .ok (.istore 5, 2) := by decide +kernel
theorem own_d2_3 : decode prog_40_method_4_code 3 = .ok (.iconst 1, 1) := by decide +kernel
theorem own_d2_4 : decode prog_40_method_4_code 4 = .ok (.istore 6, 2) := by decide +kernel
theorem own_d2_6 : decode prog_40_method_4_code 6 = .ok (.iload 6, 2) := by decide +kernel
theorem own_d2_8 : decode prog_40_method_4_code 8 = .ok (.iload_n 2, 1) := by decide +kernel
theorem own_d2_9 : decode prog_40_method_4_code 9 = .ok (.if_icmp .ge 73, 3) := by decide +kernel
theorem own_d2_82 : decode prog_40_method_4_code 82 = .ok (.aload_n 0, 1) := by decide +kernel
theorem own_d2_83 : decode prog_40_method_4_code 83 = .ok (.iload_n 1, 1) := by decide +kernel
theorem own_d2_84 : decode prog_40_method_4_code 84 = .ok (.iload 5, 2) := by decide +kernel
theorem own_d2_86 : decode prog_40_method_4_code 86 = .ok (.iadd, 1) := by decide +kernel
theorem own_d2_87 : decode prog_40_method_4_code 87 = .ok (.lload_n 3, 1) := by decide +kernel
theorem own_d2_88 : decode prog_40_method_4_code 88 = .ok (.lastore, 1) := by decide +kernel
theorem own_d2_89 : decode prog_40_method_4_code 89 = .ok (.return_, 1) := by decide +kernel
set_option maxRecDepth 65536 in
set_option maxHeartbeats 40000000 in
theorem own_m_rl10 (l : Launch) (Z : State) (a0 : Array Value) (hw : ∀ d ∈ tables_1, d.before a0 Z = true) (a : Addr) (en : Int64) (h0 : Heap) (n0 : Nat) (hn0 : n0 ≤ h0.size) (y0 mk : Int64) (A : own_JA Z h0 a [y0, mk, mk, mk, mk, mk, mk]) (ge_a : n0 ≤ a)  : own_Met l Z n0 (⟨"com/example/stablemate/stablemate/SliceHeaps", "replaceLargest", "([JIIJ)V"⟩ : MethodName) prog_40_method_4_code 7 none [] ({ frames := 0, cells := 0, slots := 0, locals := 0 } : Room) #[(.ref a), (.int (0 : Int32)), (.int (1 : Int32)), (.long en)] h0 (fun v h => v = none ∧ ∃ r0 : Int64, Keep h0 h [a] ∧ own_JA Z h a [r0, mk, mk, mk, mk, mk, mk] ∧ (True) ∧ ∀ z, own_cnt [en] z 0 = own_cnt [r0] z 0) := by
  refine own_body (plainFor_of_name own_pn_com_example_stablemate_stablemate_SliceHeaps) hn0 (own_ef_rl10 a en) ?_
  intro p e s m below meth c T C X
  have KK := Keep.refl h0 [a]
  refine own_iconst C X own_d2_0 (v := 0) (by decide) (pc' := 1) rfl ?_
  refine own_istore C X own_d2_1 (L' := #[.val (.ref a), .val (.int (0 : Int32)), .val (.int (1 : Int32)), .val (.long en), .second, .val (.int (0 : Int32)), .unset]) rfl (pc' := 3) rfl ?_
  refine own_iconst C X own_d2_3 (v := 1) (by decide) (pc' := 4) rfl ?_
  refine own_istore C X own_d2_4 (L' := #[.val (.ref a), .val (.int (0 : Int32)), .val (.int (1 : Int32)), .val (.long en), .second, .val (.int (0 : Int32)), .val (.int (1 : Int32))]) rfl (pc' := 6) rfl ?_
  refine own_iload C X own_d2_6 rfl (pc' := 8) rfl ?_
  refine own_iloadN C X own_d2_8 rfl (pc' := 9) rfl ?_
  refine own_icmp_ge C X own_d2_9 (pcT := 82) (pc' := 12) (by decide) (by decide) rfl (fun hc9 => ?_) (fun hc9 => absurd hc9 (by decide))
  refine own_aloadN C X own_d2_82 rfl rfl (pc' := 83) rfl ?_
  refine own_iloadN C X own_d2_83 rfl (pc' := 84) rfl ?_
  refine own_iload C X own_d2_84 rfl (pc' := 86) rfl ?_
  refine own_iadd C X own_d2_86 (z := 0) (by decide) (pc' := 87) rfl ?_
  refine own_lloadN C X own_d2_87 rfl (pc' := 88) rfl ?_
  refine own_lastore C X own_d2_88 A (by decide) (i := 0) (Nat.le_of_ble_eq_true rfl) ge_a (pc' := 89) rfl ?_
  intro T h X K_ A_
  have A : own_JA Z h a [en, mk, mk, mk, mk, mk, mk] := A_
  have KK := KK.trans K_ (allS (Or.inl (by simp)) all0)
  exact own_return C X own_d2_89 (Nat.le_of_ble_eq_true rfl) (Nat.le_of_ble_eq_true rfl) (⟨rfl, en, KK, A, trivial, own_pm1_0 en⟩)
theorem own_ef_rl11 (a : Addr) (en : Int64) (m : MethodId) : entryFrame m #[(.ref a), (.int (1 : Int32)), (.int (1 : Int32)), (.long en)] 7 = mkF m 0 #[.val (.ref a), .val (.int (1 : Int32)), .val (.int (1 : Int32)), .val (.long en), .second, .unset, .unset] [] := by first | (simp [entryFrame, mkF, argsToLocals, Value.category]; done) | rfl
set_option maxRecDepth 65536 in
set_option maxHeartbeats 40000000 in
theorem own_m_rl11 (l : Launch) (Z : State) (a0 : Array Value) (hw : ∀ d ∈ tables_1, d.before a0 Z = true) (a : Addr) (en : Int64) (h0 : Heap) (n0 : Nat) (hn0 : n0 ≤ h0.size) (y0 mk : Int64) (A : own_JA Z h0 a [mk, y0, mk, mk, mk, mk, mk]) (ge_a : n0 ≤ a)  : own_Met l Z n0 (⟨"com/example/stablemate/stablemate/SliceHeaps", "replaceLargest", "([JIIJ)V"⟩ : MethodName) prog_40_method_4_code 7 none [] ({ frames := 0, cells := 0, slots := 0, locals := 0 } : Room) #[(.ref a), (.int (1 : Int32)), (.int (1 : Int32)), (.long en)] h0 (fun v h => v = none ∧ ∃ r0 : Int64, Keep h0 h [a] ∧ own_JA Z h a [mk, r0, mk, mk, mk, mk, mk] ∧ (True) ∧ ∀ z, own_cnt [en] z 0 = own_cnt [r0] z 0) := by
  refine own_body (plainFor_of_name own_pn_com_example_stablemate_stablemate_SliceHeaps) hn0 (own_ef_rl11 a en) ?_
  intro p e s m below meth c T C X
  have KK := Keep.refl h0 [a]
  refine own_iconst C X own_d2_0 (v := 0) (by decide) (pc' := 1) rfl ?_
  refine own_istore C X own_d2_1 (L' := #[.val (.ref a), .val (.int (1 : Int32)), .val (.int (1 : Int32)), .val (.long en), .second, .val (.int (0 : Int32)), .unset]) rfl (pc' := 3) rfl ?_
  refine own_iconst C X own_d2_3 (v := 1) (by decide) (pc' := 4) rfl ?_
  refine own_istore C X own_d2_4 (L' := #[.val (.ref a), .val (.int (1 : Int32)), .val (.int (1 : Int32)), .val (.long en), .second, .val (.int (0 : Int32)), .val (.int (1 : Int32))]) rfl (pc' := 6) rfl ?_
  refine own_iload C X own_d2_6 rfl (pc' := 8) rfl ?_
  refine own_iloadN C X own_d2_8 rfl (pc' := 9) rfl ?_
  refine own_icmp_ge C X own_d2_9 (pcT := 82) (pc' := 12) (by decide) (by decide) rfl (fun hc9 => ?_) (fun hc9 => absurd hc9 (by decide))
  refine own_aloadN C X own_d2_82 rfl rfl (pc' := 83) rfl ?_
  refine own_iloadN C X own_d2_83 rfl (pc' := 84) rfl ?_
  refine own_iload C X own_d2_84 rfl (pc' := 86) rfl ?_
  refine own_iadd C X own_d2_86 (z := 1) (by decide) (pc' := 87) rfl ?_
  refine own_lloadN C X own_d2_87 rfl (pc' := 88) rfl ?_
  refine own_lastore C X own_d2_88 A (by decide) (i := 1) (Nat.le_of_ble_eq_true rfl) ge_a (pc' := 89) rfl ?_
  intro T h X K_ A_
  have A : own_JA Z h a [mk, en, mk, mk, mk, mk, mk] := A_
  have KK := KK.trans K_ (allS (Or.inl (by simp)) all0)
  exact own_return C X own_d2_89 (Nat.le_of_ble_eq_true rfl) (Nat.le_of_ble_eq_true rfl) (⟨rfl, en, KK, A, trivial, own_pm1_0 en⟩)
theorem own_ef_rl20 (a : Addr) (en : Int64) (m : MethodId) : entryFrame m #[(.ref a), (.int (0 : Int32)), (.int (2 : Int32)), (.long en)] 7 = mkF m 0 #[.val (.ref a), .val (.int (0 : Int32)), .val (.int (2 : Int32)), .val (.long en), .second, .unset, .unset] [] := by first | (simp [entryFrame, mkF, argsToLocals, Value.category]; done) | rfl
theorem own_d2_12 : decode prog_40_method_4_code 12 = .ok (.iload 6, 2) := by decide +kernel
theorem own_d2_14 : decode prog_40_method_4_code 14 = .ok (.iconst 1, 1) := by decide +kernel
theorem own_d2_15 : decode prog_40_method_4_code 15 = .ok (.iadd, 1) := by decide +kernel
theorem own_d2_16 : decode prog_40_method_4_code 16 = .ok (.iload_n 2, 1) := by decide +kernel
theorem own_d2_17 : decode prog_40_method_4_code 17 = .ok (.if_icmp .ge 24, 3) := by decide +kernel
theorem own_d2_41 : decode prog_40_method_4_code 41 = .ok (.aload_n 0, 1) := by decide +kernel
theorem own_d2_42 : decode prog_40_method_4_code 42 = .ok (.iload_n 1, 1) := by decide +kernel
theorem own_d2_43 : decode prog_40_method_4_code 43 = .ok (.iload 6, 2) := by decide +kernel
theorem own_d2_45 : decode prog_40_method_4_code 45 = .ok (.iadd, 1) := by decide +kernel
theorem own_d2_46 : decode prog_40_method_4_code 46 = .ok (.laload, 1) := by decide +kernel
theorem own_d2_47 : decode prog_40_method_4_code 47 = .ok (.lload_n 3, 1) := by decide +kernel
theorem own_d2_48 : decode prog_40_method_4_code 48 = .ok (.lcmp, 1) := by decide +kernel
theorem own_d2_49 : decode prog_40_method_4_code 49 = .ok (.ifCond .gt 6, 3) := by decide +kernel
theorem own_d2_55 : decode prog_40_method_4_code 55 = .ok (.aload_n 0, 1) := by decide +kernel
theorem own_d2_56 : decode prog_40_method_4_code 56 = .ok (.iload_n 1, 1) := by decide +kernel
theorem own_d2_57 : decode prog_40_method_4_code 57 = .ok (.iload 5, 2) := by decide +kernel
theorem own_d2_59 : decode prog_40_method_4_code 59 = .ok (.iadd, 1) := by decide +kernel
theorem own_d2_60 : decode prog_40_method_4_code 60 = .ok (.aload_n 0, 1) := by decide +kernel
theorem own_d2_61 : decode prog_40_method_4_code 61 = .ok (.iload_n 1, 1) := by decide +kernel
theorem own_d2_62 : decode prog_40_method_4_code 62 = .ok (.iload 6, 2) := by decide +kernel
theorem own_d2_64 : decode prog_40_method_4_code 64 = .ok (.iadd, 1) := by decide +kernel
theorem own_d2_65 : decode prog_40_method_4_code 65 = .ok (.laload, 1) := by decide +kernel
theorem own_d2_66 : decode prog_40_method_4_code 66 = .ok (.lastore, 1) := by decide +kernel
theorem own_d2_67 : decode prog_40_method_4_code 67 = .ok (.iload 6, 2) := by decide +kernel
theorem own_d2_69 : decode prog_40_method_4_code 69 = .ok (.istore 5, 2) := by decide +kernel
theorem own_d2_71 : decode prog_40_method_4_code 71 = .ok (.iconst 2, 1) := by decide +kernel
theorem own_d2_72 : decode prog_40_method_4_code 72 = .ok (.iload 5, 2) := by decide +kernel
theorem own_d2_74 : decode prog_40_method_4_code 74 = .ok (.imul, 1) := by decide +kernel
theorem own_d2_75 : decode prog_40_method_4_code 75 = .ok (.iconst 1, 1) := by decide +kernel
theorem own_d2_76 : decode prog_40_method_4_code 76 = .ok (.iadd, 1) := by decide +kernel
theorem own_d2_77 : decode prog_40_method_4_code 77 = .ok (.istore 6, 2) := by decide +kernel
theorem own_d2_79 : decode prog_40_method_4_code 79 = .ok (.goto (-73), 3) := by decide +kernel
theorem own_d2_52 : decode prog_40_method_4_code 52 = .ok (.goto 30, 3) := by decide +kernel
set_option maxRecDepth 65536 in
set_option maxHeartbeats 40000000 in
theorem own_m_rl20 (l : Launch) (Z : State) (a0 : Array Value) (hw : ∀ d ∈ tables_1, d.before a0 Z = true) (a : Addr) (en : Int64) (h0 : Heap) (n0 : Nat) (hn0 : n0 ≤ h0.size) (y0 y1 mk : Int64) (A : own_JA Z h0 a [y0, y1, mk, mk, mk, mk, mk]) (ge_a : n0 ≤ a)  : own_Met l Z n0 (⟨"com/example/stablemate/stablemate/SliceHeaps", "replaceLargest", "([JIIJ)V"⟩ : MethodName) prog_40_method_4_code 7 none [] ({ frames := 0, cells := 0, slots := 0, locals := 0 } : Room) #[(.ref a), (.int (0 : Int32)), (.int (2 : Int32)), (.long en)] h0 (fun v h => v = none ∧ ∃ r0 r1 : Int64, Keep h0 h [a] ∧ own_JA Z h a [r0, r1, mk, mk, mk, mk, mk] ∧ (¬ r0 < r1 ∧ True) ∧ ∀ z, own_cnt [en, y1] z 0 = own_cnt [r0, r1] z 0) := by
  refine own_body (plainFor_of_name own_pn_com_example_stablemate_stablemate_SliceHeaps) hn0 (own_ef_rl20 a en) ?_
  intro p e s m below meth c T C X
  have KK := Keep.refl h0 [a]
  refine own_iconst C X own_d2_0 (v := 0) (by decide) (pc' := 1) rfl ?_
  refine own_istore C X own_d2_1 (L' := #[.val (.ref a), .val (.int (0 : Int32)), .val (.int (2 : Int32)), .val (.long en), .second, .val (.int (0 : Int32)), .unset]) rfl (pc' := 3) rfl ?_
  refine own_iconst C X own_d2_3 (v := 1) (by decide) (pc' := 4) rfl ?_
  refine own_istore C X own_d2_4 (L' := #[.val (.ref a), .val (.int (0 : Int32)), .val (.int (2 : Int32)), .val (.long en), .second, .val (.int (0 : Int32)), .val (.int (1 : Int32))]) rfl (pc' := 6) rfl ?_
  refine own_iload C X own_d2_6 rfl (pc' := 8) rfl ?_
  refine own_iloadN C X own_d2_8 rfl (pc' := 9) rfl ?_
  refine own_icmp_ge C X own_d2_9 (pcT := 82) (pc' := 12) (by decide) (by decide) rfl (fun hc9 => absurd hc9 (by decide)) (fun hc9 => ?_)
  refine own_iload C X own_d2_12 rfl (pc' := 14) rfl ?_
  refine own_iconst C X own_d2_14 (v := 1) (by decide) (pc' := 15) rfl ?_
  refine own_iadd C X own_d2_15 (z := 2) (by decide) (pc' := 16) rfl ?_
  refine own_iloadN C X own_d2_16 rfl (pc' := 17) rfl ?_
  refine own_icmp_ge C X own_d2_17 (pcT := 41) (pc' := 20) (by decide) (by decide) rfl (fun hc17 => ?_) (fun hc17 => absurd hc17 (by decide))
  refine own_aloadN C X own_d2_41 rfl rfl (pc' := 42) rfl ?_
  refine own_iloadN C X own_d2_42 rfl (pc' := 43) rfl ?_
  refine own_iload C X own_d2_43 rfl (pc' := 45) rfl ?_
  refine own_iadd C X own_d2_45 (z := 1) (by decide) (pc' := 46) rfl ?_
  refine own_laload C X own_d2_46 A (by decide) (i := 1) rfl (pc' := 47) rfl ?_
  refine own_lloadN C X own_d2_47 rfl (pc' := 48) rfl ?_
  refine own_lcmp_gt C X own_d2_48 own_d2_49 (pcT := 55) (pc' := 52) (by decide) (by decide) rfl (fun hc48 => ?_) (fun hc48 => ?_)
  · refine own_aloadN C X own_d2_55 rfl rfl (pc' := 56) rfl ?_
    refine own_iloadN C X own_d2_56 rfl (pc' := 57) rfl ?_
    refine own_iload C X own_d2_57 rfl (pc' := 59) rfl ?_
    refine own_iadd C X own_d2_59 (z := 0) (by decide) (pc' := 60) rfl ?_
    refine own_aloadN C X own_d2_60 rfl rfl (pc' := 61) rfl ?_
    refine own_iloadN C X own_d2_61 rfl (pc' := 62) rfl ?_
    refine own_iload C X own_d2_62 rfl (pc' := 64) rfl ?_
    refine own_iadd C X own_d2_64 (z := 1) (by decide) (pc' := 65) rfl ?_
    refine own_laload C X own_d2_65 A (by decide) (i := 1) rfl (pc' := 66) rfl ?_
    refine own_lastore C X own_d2_66 A (by decide) (i := 0) (Nat.le_of_ble_eq_true rfl) ge_a (pc' := 67) rfl ?_
    intro T h X K_ A_
    have A : own_JA Z h a [y1, y1, mk, mk, mk, mk, mk] := A_
    have KK := KK.trans K_ (allS (Or.inl (by simp)) all0)
    refine own_iload C X own_d2_67 rfl (pc' := 69) rfl ?_
    refine own_istore C X own_d2_69 (L' := #[.val (.ref a), .val (.int (0 : Int32)), .val (.int (2 : Int32)), .val (.long en), .second, .val (.int (1 : Int32)), .val (.int (1 : Int32))]) rfl (pc' := 71) rfl ?_
    refine own_iconst C X own_d2_71 (v := 2) (by decide) (pc' := 72) rfl ?_
    refine own_iload C X own_d2_72 rfl (pc' := 74) rfl ?_
    refine own_imul C X own_d2_74 (z := 2) (by decide) (pc' := 75) rfl ?_
    refine own_iconst C X own_d2_75 (v := 1) (by decide) (pc' := 76) rfl ?_
    refine own_iadd C X own_d2_76 (z := 3) (by decide) (pc' := 77) rfl ?_
    refine own_istore C X own_d2_77 (L' := #[.val (.ref a), .val (.int (0 : Int32)), .val (.int (2 : Int32)), .val (.long en), .second, .val (.int (1 : Int32)), .val (.int (3 : Int32))]) rfl (pc' := 79) rfl ?_
    refine own_goto C X own_d2_79 (pc' := 6) (by decide) (by decide) ?_
    refine own_iload C X own_d2_6 rfl (pc' := 8) rfl ?_
    refine own_iloadN C X own_d2_8 rfl (pc' := 9) rfl ?_
    refine own_icmp_ge C X own_d2_9 (pcT := 82) (pc' := 12) (by decide) (by decide) rfl (fun hc9_2 => ?_) (fun hc9_2 => absurd hc9_2 (by decide))
    refine own_aloadN C X own_d2_82 rfl rfl (pc' := 83) rfl ?_
    refine own_iloadN C X own_d2_83 rfl (pc' := 84) rfl ?_
    refine own_iload C X own_d2_84 rfl (pc' := 86) rfl ?_
    refine own_iadd C X own_d2_86 (z := 1) (by decide) (pc' := 87) rfl ?_
    refine own_lloadN C X own_d2_87 rfl (pc' := 88) rfl ?_
    refine own_lastore C X own_d2_88 A (by decide) (i := 1) (Nat.le_of_ble_eq_true rfl) ge_a (pc' := 89) rfl ?_
    intro T h X K_ A_
    have A : own_JA Z h a [y1, en, mk, mk, mk, mk, mk] := A_
    have KK := KK.trans K_ (allS (Or.inl (by simp)) all0)
    have w48_1 := own_tlt hc48
    exact own_return C X own_d2_89 (Nat.le_of_ble_eq_true rfl) (Nat.le_of_ble_eq_true rfl) (⟨rfl, y1, en, KK, A, ⟨own_nge (by omega), trivial⟩, own_pm2_1 en y1⟩)
  · refine own_goto C X own_d2_52 (pc' := 82) (by decide) (by decide) ?_
    refine own_aloadN C X own_d2_82 rfl rfl (pc' := 83) rfl ?_
    refine own_iloadN C X own_d2_83 rfl (pc' := 84) rfl ?_
    refine own_iload C X own_d2_84 rfl (pc' := 86) rfl ?_
    refine own_iadd C X own_d2_86 (z := 0) (by decide) (pc' := 87) rfl ?_
    refine own_lloadN C X own_d2_87 rfl (pc' := 88) rfl ?_
    refine own_lastore C X own_d2_88 A (by decide) (i := 0) (Nat.le_of_ble_eq_true rfl) ge_a (pc' := 89) rfl ?_
    intro T h X K_ A_
    have A : own_JA Z h a [en, y1, mk, mk, mk, mk, mk] := A_
    have KK := KK.trans K_ (allS (Or.inl (by simp)) all0)
    have w48_1 := own_nlt hc48
    exact own_return C X own_d2_89 (Nat.le_of_ble_eq_true rfl) (Nat.le_of_ble_eq_true rfl) (⟨rfl, en, y1, KK, A, ⟨own_nge (by omega), trivial⟩, own_pm2_0 en y1⟩)
theorem own_ef_rl21 (a : Addr) (en : Int64) (m : MethodId) : entryFrame m #[(.ref a), (.int (1 : Int32)), (.int (2 : Int32)), (.long en)] 7 = mkF m 0 #[.val (.ref a), .val (.int (1 : Int32)), .val (.int (2 : Int32)), .val (.long en), .second, .unset, .unset] [] := by first | (simp [entryFrame, mkF, argsToLocals, Value.category]; done) | rfl
set_option maxRecDepth 65536 in
set_option maxHeartbeats 40000000 in
theorem own_m_rl21 (l : Launch) (Z : State) (a0 : Array Value) (hw : ∀ d ∈ tables_1, d.before a0 Z = true) (a : Addr) (en : Int64) (h0 : Heap) (n0 : Nat) (hn0 : n0 ≤ h0.size) (y0 y1 mk : Int64) (A : own_JA Z h0 a [mk, y0, y1, mk, mk, mk, mk]) (ge_a : n0 ≤ a)  : own_Met l Z n0 (⟨"com/example/stablemate/stablemate/SliceHeaps", "replaceLargest", "([JIIJ)V"⟩ : MethodName) prog_40_method_4_code 7 none [] ({ frames := 0, cells := 0, slots := 0, locals := 0 } : Room) #[(.ref a), (.int (1 : Int32)), (.int (2 : Int32)), (.long en)] h0 (fun v h => v = none ∧ ∃ r0 r1 : Int64, Keep h0 h [a] ∧ own_JA Z h a [mk, r0, r1, mk, mk, mk, mk] ∧ (¬ r0 < r1 ∧ True) ∧ ∀ z, own_cnt [en, y1] z 0 = own_cnt [r0, r1] z 0) := by
  refine own_body (plainFor_of_name own_pn_com_example_stablemate_stablemate_SliceHeaps) hn0 (own_ef_rl21 a en) ?_
  intro p e s m below meth c T C X
  have KK := Keep.refl h0 [a]
  refine own_iconst C X own_d2_0 (v := 0) (by decide) (pc' := 1) rfl ?_
  refine own_istore C X own_d2_1 (L' := #[.val (.ref a), .val (.int (1 : Int32)), .val (.int (2 : Int32)), .val (.long en), .second, .val (.int (0 : Int32)), .unset]) rfl (pc' := 3) rfl ?_
  refine own_iconst C X own_d2_3 (v := 1) (by decide) (pc' := 4) rfl ?_
  refine own_istore C X own_d2_4 (L' := #[.val (.ref a), .val (.int (1 : Int32)), .val (.int (2 : Int32)), .val (.long en), .second, .val (.int (0 : Int32)), .val (.int (1 : Int32))]) rfl (pc' := 6) rfl ?_
  refine own_iload C X own_d2_6 rfl (pc' := 8) rfl ?_
  refine own_iloadN C X own_d2_8 rfl (pc' := 9) rfl ?_
  refine own_icmp_ge C X own_d2_9 (pcT := 82) (pc' := 12) (by decide) (by decide) rfl (fun hc9 => absurd hc9 (by decide)) (fun hc9 => ?_)
  refine own_iload C X own_d2_12 rfl (pc' := 14) rfl ?_
  refine own_iconst C X own_d2_14 (v := 1) (by decide) (pc' := 15) rfl ?_
  refine own_iadd C X own_d2_15 (z := 2) (by decide) (pc' := 16) rfl ?_
  refine own_iloadN C X own_d2_16 rfl (pc' := 17) rfl ?_
  refine own_icmp_ge C X own_d2_17 (pcT := 41) (pc' := 20) (by decide) (by decide) rfl (fun hc17 => ?_) (fun hc17 => absurd hc17 (by decide))
  refine own_aloadN C X own_d2_41 rfl rfl (pc' := 42) rfl ?_
  refine own_iloadN C X own_d2_42 rfl (pc' := 43) rfl ?_
  refine own_iload C X own_d2_43 rfl (pc' := 45) rfl ?_
  refine own_iadd C X own_d2_45 (z := 2) (by decide) (pc' := 46) rfl ?_
  refine own_laload C X own_d2_46 A (by decide) (i := 2) rfl (pc' := 47) rfl ?_
  refine own_lloadN C X own_d2_47 rfl (pc' := 48) rfl ?_
  refine own_lcmp_gt C X own_d2_48 own_d2_49 (pcT := 55) (pc' := 52) (by decide) (by decide) rfl (fun hc48 => ?_) (fun hc48 => ?_)
  · refine own_aloadN C X own_d2_55 rfl rfl (pc' := 56) rfl ?_
    refine own_iloadN C X own_d2_56 rfl (pc' := 57) rfl ?_
    refine own_iload C X own_d2_57 rfl (pc' := 59) rfl ?_
    refine own_iadd C X own_d2_59 (z := 1) (by decide) (pc' := 60) rfl ?_
    refine own_aloadN C X own_d2_60 rfl rfl (pc' := 61) rfl ?_
    refine own_iloadN C X own_d2_61 rfl (pc' := 62) rfl ?_
    refine own_iload C X own_d2_62 rfl (pc' := 64) rfl ?_
    refine own_iadd C X own_d2_64 (z := 2) (by decide) (pc' := 65) rfl ?_
    refine own_laload C X own_d2_65 A (by decide) (i := 2) rfl (pc' := 66) rfl ?_
    refine own_lastore C X own_d2_66 A (by decide) (i := 1) (Nat.le_of_ble_eq_true rfl) ge_a (pc' := 67) rfl ?_
    intro T h X K_ A_
    have A : own_JA Z h a [mk, y1, y1, mk, mk, mk, mk] := A_
    have KK := KK.trans K_ (allS (Or.inl (by simp)) all0)
    refine own_iload C X own_d2_67 rfl (pc' := 69) rfl ?_
    refine own_istore C X own_d2_69 (L' := #[.val (.ref a), .val (.int (1 : Int32)), .val (.int (2 : Int32)), .val (.long en), .second, .val (.int (1 : Int32)), .val (.int (1 : Int32))]) rfl (pc' := 71) rfl ?_
    refine own_iconst C X own_d2_71 (v := 2) (by decide) (pc' := 72) rfl ?_
    refine own_iload C X own_d2_72 rfl (pc' := 74) rfl ?_
    refine own_imul C X own_d2_74 (z := 2) (by decide) (pc' := 75) rfl ?_
    refine own_iconst C X own_d2_75 (v := 1) (by decide) (pc' := 76) rfl ?_
    refine own_iadd C X own_d2_76 (z := 3) (by decide) (pc' := 77) rfl ?_
    refine own_istore C X own_d2_77 (L' := #[.val (.ref a), .val (.int (1 : Int32)), .val (.int (2 : Int32)), .val (.long en), .second, .val (.int (1 : Int32)), .val (.int (3 : Int32))]) rfl (pc' := 79) rfl ?_
    refine own_goto C X own_d2_79 (pc' := 6) (by decide) (by decide) ?_
    refine own_iload C X own_d2_6 rfl (pc' := 8) rfl ?_
    refine own_iloadN C X own_d2_8 rfl (pc' := 9) rfl ?_
    refine own_icmp_ge C X own_d2_9 (pcT := 82) (pc' := 12) (by decide) (by decide) rfl (fun hc9_2 => ?_) (fun hc9_2 => absurd hc9_2 (by decide))
    refine own_aloadN C X own_d2_82 rfl rfl (pc' := 83) rfl ?_
    refine own_iloadN C X own_d2_83 rfl (pc' := 84) rfl ?_
    refine own_iload C X own_d2_84 rfl (pc' := 86) rfl ?_
    refine own_iadd C X own_d2_86 (z := 2) (by decide) (pc' := 87) rfl ?_
    refine own_lloadN C X own_d2_87 rfl (pc' := 88) rfl ?_
    refine own_lastore C X own_d2_88 A (by decide) (i := 2) (Nat.le_of_ble_eq_true rfl) ge_a (pc' := 89) rfl ?_
    intro T h X K_ A_
    have A : own_JA Z h a [mk, y1, en, mk, mk, mk, mk] := A_
    have KK := KK.trans K_ (allS (Or.inl (by simp)) all0)
    have w48_1 := own_tlt hc48
    exact own_return C X own_d2_89 (Nat.le_of_ble_eq_true rfl) (Nat.le_of_ble_eq_true rfl) (⟨rfl, y1, en, KK, A, ⟨own_nge (by omega), trivial⟩, own_pm2_1 en y1⟩)
  · refine own_goto C X own_d2_52 (pc' := 82) (by decide) (by decide) ?_
    refine own_aloadN C X own_d2_82 rfl rfl (pc' := 83) rfl ?_
    refine own_iloadN C X own_d2_83 rfl (pc' := 84) rfl ?_
    refine own_iload C X own_d2_84 rfl (pc' := 86) rfl ?_
    refine own_iadd C X own_d2_86 (z := 1) (by decide) (pc' := 87) rfl ?_
    refine own_lloadN C X own_d2_87 rfl (pc' := 88) rfl ?_
    refine own_lastore C X own_d2_88 A (by decide) (i := 1) (Nat.le_of_ble_eq_true rfl) ge_a (pc' := 89) rfl ?_
    intro T h X K_ A_
    have A : own_JA Z h a [mk, en, y1, mk, mk, mk, mk] := A_
    have KK := KK.trans K_ (allS (Or.inl (by simp)) all0)
    have w48_1 := own_nlt hc48
    exact own_return C X own_d2_89 (Nat.le_of_ble_eq_true rfl) (Nat.le_of_ble_eq_true rfl) (⟨rfl, en, y1, KK, A, ⟨own_nge (by omega), trivial⟩, own_pm2_0 en y1⟩)
theorem own_ef_rl30 (a : Addr) (en : Int64) (m : MethodId) : entryFrame m #[(.ref a), (.int (0 : Int32)), (.int (3 : Int32)), (.long en)] 7 = mkF m 0 #[.val (.ref a), .val (.int (0 : Int32)), .val (.int (3 : Int32)), .val (.long en), .second, .unset, .unset] [] := by first | (simp [entryFrame, mkF, argsToLocals, Value.category]; done) | rfl
theorem own_d2_20 : decode prog_40_method_4_code 20 = .ok (.aload_n 0, 1) := by decide +kernel
theorem own_d2_21 : decode prog_40_method_4_code 21 = .ok (.iload_n 1, 1) := by decide +kernel
theorem own_d2_22 : decode prog_40_method_4_code 22 = .ok (.iload 6, 2) := by decide +kernel
theorem own_d2_24 : decode prog_40_method_4_code 24 = .ok (.iadd, 1) := by decide +kernel
theorem own_d2_25 : decode prog_40_method_4_code 25 = .ok (.iconst 1, 1) := by decide +kernel
theorem own_d2_26 : decode prog_40_method_4_code 26 = .ok (.iadd, 1) := by decide +kernel
theorem own_d2_27 : decode prog_40_method_4_code 27 = .ok (.laload, 1) := by decide +kernel
theorem own_d2_28 : decode prog_40_method_4_code 28 = .ok (.aload_n 0, 1) := by decide +kernel
theorem own_d2_29 : decode prog_40_method_4_code 29 = .ok (.iload_n 1, 1) := by decide +kernel
theorem own_d2_30 : decode prog_40_method_4_code 30 = .ok (.iload 6, 2) := by decide +kernel
theorem own_d2_32 : decode prog_40_method_4_code 32 = .ok (.iadd, 1) := by decide +kernel
theorem own_d2_33 : decode prog_40_method_4_code 33 = .ok (.laload, 1) := by decide +kernel
theorem own_d2_34 : decode prog_40_method_4_code 34 = .ok (.lcmp, 1) := by decide +kernel
theorem own_d2_35 : decode prog_40_method_4_code 35 = .ok (.ifCond .le 6, 3) := by decide +kernel
theorem own_d2_38 : decode prog_40_method_4_code 38 = .ok (.iinc 6 1, 3) := by decide +kernel
set_option maxRecDepth 65536 in
set_option maxHeartbeats 40000000 in
theorem own_m_rl30 (l : Launch) (Z : State) (a0 : Array Value) (hw : ∀ d ∈ tables_1, d.before a0 Z = true) (a : Addr) (en : Int64) (h0 : Heap) (n0 : Nat) (hn0 : n0 ≤ h0.size) (y0 y1 y2 mk : Int64) (A : own_JA Z h0 a [y0, y1, y2, mk, mk, mk, mk]) (ge_a : n0 ≤ a)  : own_Met l Z n0 (⟨"com/example/stablemate/stablemate/SliceHeaps", "replaceLargest", "([JIIJ)V"⟩ : MethodName) prog_40_method_4_code 7 none [] ({ frames := 0, cells := 0, slots := 0, locals := 0 } : Room) #[(.ref a), (.int (0 : Int32)), (.int (3 : Int32)), (.long en)] h0 (fun v h => v = none ∧ ∃ r0 r1 r2 : Int64, Keep h0 h [a] ∧ own_JA Z h a [r0, r1, r2, mk, mk, mk, mk] ∧ (¬ r0 < r1 ∧ ¬ r0 < r2 ∧ True) ∧ ∀ z, own_cnt [en, y1, y2] z 0 = own_cnt [r0, r1, r2] z 0) := by
  refine own_body (plainFor_of_name own_pn_com_example_stablemate_stablemate_SliceHeaps) hn0 (own_ef_rl30 a en) ?_
  intro p e s m below meth c T C X
  have KK := Keep.refl h0 [a]
  refine own_iconst C X own_d2_0 (v := 0) (by decide) (pc' := 1) rfl ?_
  refine own_istore C X own_d2_1 (L' := #[.val (.ref a), .val (.int (0 : Int32)), .val (.int (3 : Int32)), .val (.long en), .second, .val (.int (0 : Int32)), .unset]) rfl (pc' := 3) rfl ?_
  refine own_iconst C X own_d2_3 (v := 1) (by decide) (pc' := 4) rfl ?_
  refine own_istore C X own_d2_4 (L' := #[.val (.ref a), .val (.int (0 : Int32)), .val (.int (3 : Int32)), .val (.long en), .second, .val (.int (0 : Int32)), .val (.int (1 : Int32))]) rfl (pc' := 6) rfl ?_
  refine own_iload C X own_d2_6 rfl (pc' := 8) rfl ?_
  refine own_iloadN C X own_d2_8 rfl (pc' := 9) rfl ?_
  refine own_icmp_ge C X own_d2_9 (pcT := 82) (pc' := 12) (by decide) (by decide) rfl (fun hc9 => absurd hc9 (by decide)) (fun hc9 => ?_)
  refine own_iload C X own_d2_12 rfl (pc' := 14) rfl ?_
  refine own_iconst C X own_d2_14 (v := 1) (by decide) (pc' := 15) rfl ?_
  refine own_iadd C X own_d2_15 (z := 2) (by decide) (pc' := 16) rfl ?_
  refine own_iloadN C X own_d2_16 rfl (pc' := 17) rfl ?_
  refine own_icmp_ge C X own_d2_17 (pcT := 41) (pc' := 20) (by decide) (by decide) rfl (fun hc17 => absurd hc17 (by decide)) (fun hc17 => ?_)
  refine own_aloadN C X own_d2_20 rfl rfl (pc' := 21) rfl ?_
  refine own_iloadN C X own_d2_21 rfl (pc' := 22) rfl ?_
  refine own_iload C X own_d2_22 rfl (pc' := 24) rfl ?_
  refine own_iadd C X own_d2_24 (z := 1) (by decide) (pc' := 25) rfl ?_
  refine own_iconst C X own_d2_25 (v := 1) (by decide) (pc' := 26) rfl ?_
  refine own_iadd C X own_d2_26 (z := 2) (by decide) (pc' := 27) rfl ?_
  refine own_laload C X own_d2_27 A (by decide) (i := 2) rfl (pc' := 28) rfl ?_
  refine own_aloadN C X own_d2_28 rfl rfl (pc' := 29) rfl ?_
  refine own_iloadN C X own_d2_29 rfl (pc' := 30) rfl ?_
  refine own_iload C X own_d2_30 rfl (pc' := 32) rfl ?_
  refine own_iadd C X own_d2_32 (z := 1) (by decide) (pc' := 33) rfl ?_
  refine own_laload C X own_d2_33 A (by decide) (i := 1) rfl (pc' := 34) rfl ?_
  refine own_lcmp_le C X own_d2_34 own_d2_35 (pcT := 41) (pc' := 38) (by decide) (by decide) rfl (fun hc34 => ?_) (fun hc34 => ?_)
  · refine own_aloadN C X own_d2_41 rfl rfl (pc' := 42) rfl ?_
    refine own_iloadN C X own_d2_42 rfl (pc' := 43) rfl ?_
    refine own_iload C X own_d2_43 rfl (pc' := 45) rfl ?_
    refine own_iadd C X own_d2_45 (z := 1) (by decide) (pc' := 46) rfl ?_
    refine own_laload C X own_d2_46 A (by decide) (i := 1) rfl (pc' := 47) rfl ?_
    refine own_lloadN C X own_d2_47 rfl (pc' := 48) rfl ?_
    refine own_lcmp_gt C X own_d2_48 own_d2_49 (pcT := 55) (pc' := 52) (by decide) (by decide) rfl (fun hc48 => ?_) (fun hc48 => ?_)
    · refine own_aloadN C X own_d2_55 rfl rfl (pc' := 56) rfl ?_
      refine own_iloadN C X own_d2_56 rfl (pc' := 57) rfl ?_
      refine own_iload C X own_d2_57 rfl (pc' := 59) rfl ?_
      refine own_iadd C X own_d2_59 (z := 0) (by decide) (pc' := 60) rfl ?_
      refine own_aloadN C X own_d2_60 rfl rfl (pc' := 61) rfl ?_
      refine own_iloadN C X own_d2_61 rfl (pc' := 62) rfl ?_
      refine own_iload C X own_d2_62 rfl (pc' := 64) rfl ?_
      refine own_iadd C X own_d2_64 (z := 1) (by decide) (pc' := 65) rfl ?_
      refine own_laload C X own_d2_65 A (by decide) (i := 1) rfl (pc' := 66) rfl ?_
      refine own_lastore C X own_d2_66 A (by decide) (i := 0) (Nat.le_of_ble_eq_true rfl) ge_a (pc' := 67) rfl ?_
      intro T h X K_ A_
      have A : own_JA Z h a [y1, y1, y2, mk, mk, mk, mk] := A_
      have KK := KK.trans K_ (allS (Or.inl (by simp)) all0)
      refine own_iload C X own_d2_67 rfl (pc' := 69) rfl ?_
      refine own_istore C X own_d2_69 (L' := #[.val (.ref a), .val (.int (0 : Int32)), .val (.int (3 : Int32)), .val (.long en), .second, .val (.int (1 : Int32)), .val (.int (1 : Int32))]) rfl (pc' := 71) rfl ?_
      refine own_iconst C X own_d2_71 (v := 2) (by decide) (pc' := 72) rfl ?_
      refine own_iload C X own_d2_72 rfl (pc' := 74) rfl ?_
      refine own_imul C X own_d2_74 (z := 2) (by decide) (pc' := 75) rfl ?_
      refine own_iconst C X own_d2_75 (v := 1) (by decide) (pc' := 76) rfl ?_
      refine own_iadd C X own_d2_76 (z := 3) (by decide) (pc' := 77) rfl ?_
      refine own_istore C X own_d2_77 (L' := #[.val (.ref a), .val (.int (0 : Int32)), .val (.int (3 : Int32)), .val (.long en), .second, .val (.int (1 : Int32)), .val (.int (3 : Int32))]) rfl (pc' := 79) rfl ?_
      refine own_goto C X own_d2_79 (pc' := 6) (by decide) (by decide) ?_
      refine own_iload C X own_d2_6 rfl (pc' := 8) rfl ?_
      refine own_iloadN C X own_d2_8 rfl (pc' := 9) rfl ?_
      refine own_icmp_ge C X own_d2_9 (pcT := 82) (pc' := 12) (by decide) (by decide) rfl (fun hc9_2 => ?_) (fun hc9_2 => absurd hc9_2 (by decide))
      refine own_aloadN C X own_d2_82 rfl rfl (pc' := 83) rfl ?_
      refine own_iloadN C X own_d2_83 rfl (pc' := 84) rfl ?_
      refine own_iload C X own_d2_84 rfl (pc' := 86) rfl ?_
      refine own_iadd C X own_d2_86 (z := 1) (by decide) (pc' := 87) rfl ?_
      refine own_lloadN C X own_d2_87 rfl (pc' := 88) rfl ?_
      refine own_lastore C X own_d2_88 A (by decide) (i := 1) (Nat.le_of_ble_eq_true rfl) ge_a (pc' := 89) rfl ?_
      intro T h X K_ A_
      have A : own_JA Z h a [y1, en, y2, mk, mk, mk, mk] := A_
      have KK := KK.trans K_ (allS (Or.inl (by simp)) all0)
      have w34_1 := own_nlt hc34
      have w48_1 := own_tlt hc48
      exact own_return C X own_d2_89 (Nat.le_of_ble_eq_true rfl) (Nat.le_of_ble_eq_true rfl) (⟨rfl, y1, en, y2, KK, A, ⟨own_nge (by omega), own_nge (by omega), trivial⟩, own_pm3_1 en y1 y2⟩)
    · refine own_goto C X own_d2_52 (pc' := 82) (by decide) (by decide) ?_
      refine own_aloadN C X own_d2_82 rfl rfl (pc' := 83) rfl ?_
      refine own_iloadN C X own_d2_83 rfl (pc' := 84) rfl ?_
      refine own_iload C X own_d2_84 rfl (pc' := 86) rfl ?_
      refine own_iadd C X own_d2_86 (z := 0) (by decide) (pc' := 87) rfl ?_
      refine own_lloadN C X own_d2_87 rfl (pc' := 88) rfl ?_
      refine own_lastore C X own_d2_88 A (by decide) (i := 0) (Nat.le_of_ble_eq_true rfl) ge_a (pc' := 89) rfl ?_
      intro T h X K_ A_
      have A : own_JA Z h a [en, y1, y2, mk, mk, mk, mk] := A_
      have KK := KK.trans K_ (allS (Or.inl (by simp)) all0)
      have w34_1 := own_nlt hc34
      have w48_1 := own_nlt hc48
      exact own_return C X own_d2_89 (Nat.le_of_ble_eq_true rfl) (Nat.le_of_ble_eq_true rfl) (⟨rfl, en, y1, y2, KK, A, ⟨own_nge (by omega), own_nge (by omega), trivial⟩, own_pm3_0 en y1 y2⟩)
  · refine own_iinc C X own_d2_38 rfl (d := 1) (by decide) (z := 2) (by decide) (L' := #[.val (.ref a), .val (.int (0 : Int32)), .val (.int (3 : Int32)), .val (.long en), .second, .val (.int (0 : Int32)), .val (.int (2 : Int32))]) rfl (pc' := 41) rfl ?_
    refine own_aloadN C X own_d2_41 rfl rfl (pc' := 42) rfl ?_
    refine own_iloadN C X own_d2_42 rfl (pc' := 43) rfl ?_
    refine own_iload C X own_d2_43 rfl (pc' := 45) rfl ?_
    refine own_iadd C X own_d2_45 (z := 2) (by decide) (pc' := 46) rfl ?_
    refine own_laload C X own_d2_46 A (by decide) (i := 2) rfl (pc' := 47) rfl ?_
    refine own_lloadN C X own_d2_47 rfl (pc' := 48) rfl ?_
    refine own_lcmp_gt C X own_d2_48 own_d2_49 (pcT := 55) (pc' := 52) (by decide) (by decide) rfl (fun hc48 => ?_) (fun hc48 => ?_)
    · refine own_aloadN C X own_d2_55 rfl rfl (pc' := 56) rfl ?_
      refine own_iloadN C X own_d2_56 rfl (pc' := 57) rfl ?_
      refine own_iload C X own_d2_57 rfl (pc' := 59) rfl ?_
      refine own_iadd C X own_d2_59 (z := 0) (by decide) (pc' := 60) rfl ?_
      refine own_aloadN C X own_d2_60 rfl rfl (pc' := 61) rfl ?_
      refine own_iloadN C X own_d2_61 rfl (pc' := 62) rfl ?_
      refine own_iload C X own_d2_62 rfl (pc' := 64) rfl ?_
      refine own_iadd C X own_d2_64 (z := 2) (by decide) (pc' := 65) rfl ?_
      refine own_laload C X own_d2_65 A (by decide) (i := 2) rfl (pc' := 66) rfl ?_
      refine own_lastore C X own_d2_66 A (by decide) (i := 0) (Nat.le_of_ble_eq_true rfl) ge_a (pc' := 67) rfl ?_
      intro T h X K_ A_
      have A : own_JA Z h a [y2, y1, y2, mk, mk, mk, mk] := A_
      have KK := KK.trans K_ (allS (Or.inl (by simp)) all0)
      refine own_iload C X own_d2_67 rfl (pc' := 69) rfl ?_
      refine own_istore C X own_d2_69 (L' := #[.val (.ref a), .val (.int (0 : Int32)), .val (.int (3 : Int32)), .val (.long en), .second, .val (.int (2 : Int32)), .val (.int (2 : Int32))]) rfl (pc' := 71) rfl ?_
      refine own_iconst C X own_d2_71 (v := 2) (by decide) (pc' := 72) rfl ?_
      refine own_iload C X own_d2_72 rfl (pc' := 74) rfl ?_
      refine own_imul C X own_d2_74 (z := 4) (by decide) (pc' := 75) rfl ?_
      refine own_iconst C X own_d2_75 (v := 1) (by decide) (pc' := 76) rfl ?_
      refine own_iadd C X own_d2_76 (z := 5) (by decide) (pc' := 77) rfl ?_
      refine own_istore C X own_d2_77 (L' := #[.val (.ref a), .val (.int (0 : Int32)), .val (.int (3 : Int32)), .val (.long en), .second, .val (.int (2 : Int32)), .val (.int (5 : Int32))]) rfl (pc' := 79) rfl ?_
      refine own_goto C X own_d2_79 (pc' := 6) (by decide) (by decide) ?_
      refine own_iload C X own_d2_6 rfl (pc' := 8) rfl ?_
      refine own_iloadN C X own_d2_8 rfl (pc' := 9) rfl ?_
      refine own_icmp_ge C X own_d2_9 (pcT := 82) (pc' := 12) (by decide) (by decide) rfl (fun hc9_2 => ?_) (fun hc9_2 => absurd hc9_2 (by decide))
      refine own_aloadN C X own_d2_82 rfl rfl (pc' := 83) rfl ?_
      refine own_iloadN C X own_d2_83 rfl (pc' := 84) rfl ?_
      refine own_iload C X own_d2_84 rfl (pc' := 86) rfl ?_
      refine own_iadd C X own_d2_86 (z := 2) (by decide) (pc' := 87) rfl ?_
      refine own_lloadN C X own_d2_87 rfl (pc' := 88) rfl ?_
      refine own_lastore C X own_d2_88 A (by decide) (i := 2) (Nat.le_of_ble_eq_true rfl) ge_a (pc' := 89) rfl ?_
      intro T h X K_ A_
      have A : own_JA Z h a [y2, y1, en, mk, mk, mk, mk] := A_
      have KK := KK.trans K_ (allS (Or.inl (by simp)) all0)
      have w34_1 := own_tlt hc34
      have w48_1 := own_tlt hc48
      exact own_return C X own_d2_89 (Nat.le_of_ble_eq_true rfl) (Nat.le_of_ble_eq_true rfl) (⟨rfl, y2, y1, en, KK, A, ⟨own_nge (by omega), own_nge (by omega), trivial⟩, own_pm3_2 en y1 y2⟩)
    · refine own_goto C X own_d2_52 (pc' := 82) (by decide) (by decide) ?_
      refine own_aloadN C X own_d2_82 rfl rfl (pc' := 83) rfl ?_
      refine own_iloadN C X own_d2_83 rfl (pc' := 84) rfl ?_
      refine own_iload C X own_d2_84 rfl (pc' := 86) rfl ?_
      refine own_iadd C X own_d2_86 (z := 0) (by decide) (pc' := 87) rfl ?_
      refine own_lloadN C X own_d2_87 rfl (pc' := 88) rfl ?_
      refine own_lastore C X own_d2_88 A (by decide) (i := 0) (Nat.le_of_ble_eq_true rfl) ge_a (pc' := 89) rfl ?_
      intro T h X K_ A_
      have A : own_JA Z h a [en, y1, y2, mk, mk, mk, mk] := A_
      have KK := KK.trans K_ (allS (Or.inl (by simp)) all0)
      have w34_1 := own_tlt hc34
      have w48_1 := own_nlt hc48
      exact own_return C X own_d2_89 (Nat.le_of_ble_eq_true rfl) (Nat.le_of_ble_eq_true rfl) (⟨rfl, en, y1, y2, KK, A, ⟨own_nge (by omega), own_nge (by omega), trivial⟩, own_pm3_0 en y1 y2⟩)
theorem own_ef_rl31 (a : Addr) (en : Int64) (m : MethodId) : entryFrame m #[(.ref a), (.int (1 : Int32)), (.int (3 : Int32)), (.long en)] 7 = mkF m 0 #[.val (.ref a), .val (.int (1 : Int32)), .val (.int (3 : Int32)), .val (.long en), .second, .unset, .unset] [] := by first | (simp [entryFrame, mkF, argsToLocals, Value.category]; done) | rfl
set_option maxRecDepth 65536 in
set_option maxHeartbeats 40000000 in
theorem own_m_rl31 (l : Launch) (Z : State) (a0 : Array Value) (hw : ∀ d ∈ tables_1, d.before a0 Z = true) (a : Addr) (en : Int64) (h0 : Heap) (n0 : Nat) (hn0 : n0 ≤ h0.size) (y0 y1 y2 mk : Int64) (A : own_JA Z h0 a [mk, y0, y1, y2, mk, mk, mk]) (ge_a : n0 ≤ a)  : own_Met l Z n0 (⟨"com/example/stablemate/stablemate/SliceHeaps", "replaceLargest", "([JIIJ)V"⟩ : MethodName) prog_40_method_4_code 7 none [] ({ frames := 0, cells := 0, slots := 0, locals := 0 } : Room) #[(.ref a), (.int (1 : Int32)), (.int (3 : Int32)), (.long en)] h0 (fun v h => v = none ∧ ∃ r0 r1 r2 : Int64, Keep h0 h [a] ∧ own_JA Z h a [mk, r0, r1, r2, mk, mk, mk] ∧ (¬ r0 < r1 ∧ ¬ r0 < r2 ∧ True) ∧ ∀ z, own_cnt [en, y1, y2] z 0 = own_cnt [r0, r1, r2] z 0) := by
  refine own_body (plainFor_of_name own_pn_com_example_stablemate_stablemate_SliceHeaps) hn0 (own_ef_rl31 a en) ?_
  intro p e s m below meth c T C X
  have KK := Keep.refl h0 [a]
  refine own_iconst C X own_d2_0 (v := 0) (by decide) (pc' := 1) rfl ?_
  refine own_istore C X own_d2_1 (L' := #[.val (.ref a), .val (.int (1 : Int32)), .val (.int (3 : Int32)), .val (.long en), .second, .val (.int (0 : Int32)), .unset]) rfl (pc' := 3) rfl ?_
  refine own_iconst C X own_d2_3 (v := 1) (by decide) (pc' := 4) rfl ?_
  refine own_istore C X own_d2_4 (L' := #[.val (.ref a), .val (.int (1 : Int32)), .val (.int (3 : Int32)), .val (.long en), .second, .val (.int (0 : Int32)), .val (.int (1 : Int32))]) rfl (pc' := 6) rfl ?_
  refine own_iload C X own_d2_6 rfl (pc' := 8) rfl ?_
  refine own_iloadN C X own_d2_8 rfl (pc' := 9) rfl ?_
  refine own_icmp_ge C X own_d2_9 (pcT := 82) (pc' := 12) (by decide) (by decide) rfl (fun hc9 => absurd hc9 (by decide)) (fun hc9 => ?_)
  refine own_iload C X own_d2_12 rfl (pc' := 14) rfl ?_
  refine own_iconst C X own_d2_14 (v := 1) (by decide) (pc' := 15) rfl ?_
  refine own_iadd C X own_d2_15 (z := 2) (by decide) (pc' := 16) rfl ?_
  refine own_iloadN C X own_d2_16 rfl (pc' := 17) rfl ?_
  refine own_icmp_ge C X own_d2_17 (pcT := 41) (pc' := 20) (by decide) (by decide) rfl (fun hc17 => absurd hc17 (by decide)) (fun hc17 => ?_)
  refine own_aloadN C X own_d2_20 rfl rfl (pc' := 21) rfl ?_
  refine own_iloadN C X own_d2_21 rfl (pc' := 22) rfl ?_
  refine own_iload C X own_d2_22 rfl (pc' := 24) rfl ?_
  refine own_iadd C X own_d2_24 (z := 2) (by decide) (pc' := 25) rfl ?_
  refine own_iconst C X own_d2_25 (v := 1) (by decide) (pc' := 26) rfl ?_
  refine own_iadd C X own_d2_26 (z := 3) (by decide) (pc' := 27) rfl ?_
  refine own_laload C X own_d2_27 A (by decide) (i := 3) rfl (pc' := 28) rfl ?_
  refine own_aloadN C X own_d2_28 rfl rfl (pc' := 29) rfl ?_
  refine own_iloadN C X own_d2_29 rfl (pc' := 30) rfl ?_
  refine own_iload C X own_d2_30 rfl (pc' := 32) rfl ?_
  refine own_iadd C X own_d2_32 (z := 2) (by decide) (pc' := 33) rfl ?_
  refine own_laload C X own_d2_33 A (by decide) (i := 2) rfl (pc' := 34) rfl ?_
  refine own_lcmp_le C X own_d2_34 own_d2_35 (pcT := 41) (pc' := 38) (by decide) (by decide) rfl (fun hc34 => ?_) (fun hc34 => ?_)
  · refine own_aloadN C X own_d2_41 rfl rfl (pc' := 42) rfl ?_
    refine own_iloadN C X own_d2_42 rfl (pc' := 43) rfl ?_
    refine own_iload C X own_d2_43 rfl (pc' := 45) rfl ?_
    refine own_iadd C X own_d2_45 (z := 2) (by decide) (pc' := 46) rfl ?_
    refine own_laload C X own_d2_46 A (by decide) (i := 2) rfl (pc' := 47) rfl ?_
    refine own_lloadN C X own_d2_47 rfl (pc' := 48) rfl ?_
    refine own_lcmp_gt C X own_d2_48 own_d2_49 (pcT := 55) (pc' := 52) (by decide) (by decide) rfl (fun hc48 => ?_) (fun hc48 => ?_)
    · refine own_aloadN C X own_d2_55 rfl rfl (pc' := 56) rfl ?_
      refine own_iloadN C X own_d2_56 rfl (pc' := 57) rfl ?_
      refine own_iload C X own_d2_57 rfl (pc' := 59) rfl ?_
      refine own_iadd C X own_d2_59 (z := 1) (by decide) (pc' := 60) rfl ?_
      refine own_aloadN C X own_d2_60 rfl rfl (pc' := 61) rfl ?_
      refine own_iloadN C X own_d2_61 rfl (pc' := 62) rfl ?_
      refine own_iload C X own_d2_62 rfl (pc' := 64) rfl ?_
      refine own_iadd C X own_d2_64 (z := 2) (by decide) (pc' := 65) rfl ?_
      refine own_laload C X own_d2_65 A (by decide) (i := 2) rfl (pc' := 66) rfl ?_
      refine own_lastore C X own_d2_66 A (by decide) (i := 1) (Nat.le_of_ble_eq_true rfl) ge_a (pc' := 67) rfl ?_
      intro T h X K_ A_
      have A : own_JA Z h a [mk, y1, y1, y2, mk, mk, mk] := A_
      have KK := KK.trans K_ (allS (Or.inl (by simp)) all0)
      refine own_iload C X own_d2_67 rfl (pc' := 69) rfl ?_
      refine own_istore C X own_d2_69 (L' := #[.val (.ref a), .val (.int (1 : Int32)), .val (.int (3 : Int32)), .val (.long en), .second, .val (.int (1 : Int32)), .val (.int (1 : Int32))]) rfl (pc' := 71) rfl ?_
      refine own_iconst C X own_d2_71 (v := 2) (by decide) (pc' := 72) rfl ?_
      refine own_iload C X own_d2_72 rfl (pc' := 74) rfl ?_
      refine own_imul C X own_d2_74 (z := 2) (by decide) (pc' := 75) rfl ?_
      refine own_iconst C X own_d2_75 (v := 1) (by decide) (pc' := 76) rfl ?_
      refine own_iadd C X own_d2_76 (z := 3) (by decide) (pc' := 77) rfl ?_
      refine own_istore C X own_d2_77 (L' := #[.val (.ref a), .val (.int (1 : Int32)), .val (.int (3 : Int32)), .val (.long en), .second, .val (.int (1 : Int32)), .val (.int (3 : Int32))]) rfl (pc' := 79) rfl ?_
      refine own_goto C X own_d2_79 (pc' := 6) (by decide) (by decide) ?_
      refine own_iload C X own_d2_6 rfl (pc' := 8) rfl ?_
      refine own_iloadN C X own_d2_8 rfl (pc' := 9) rfl ?_
      refine own_icmp_ge C X own_d2_9 (pcT := 82) (pc' := 12) (by decide) (by decide) rfl (fun hc9_2 => ?_) (fun hc9_2 => absurd hc9_2 (by decide))
      refine own_aloadN C X own_d2_82 rfl rfl (pc' := 83) rfl ?_
      refine own_iloadN C X own_d2_83 rfl (pc' := 84) rfl ?_
      refine own_iload C X own_d2_84 rfl (pc' := 86) rfl ?_
      refine own_iadd C X own_d2_86 (z := 2) (by decide) (pc' := 87) rfl ?_
      refine own_lloadN C X own_d2_87 rfl (pc' := 88) rfl ?_
      refine own_lastore C X own_d2_88 A (by decide) (i := 2) (Nat.le_of_ble_eq_true rfl) ge_a (pc' := 89) rfl ?_
      intro T h X K_ A_
      have A : own_JA Z h a [mk, y1, en, y2, mk, mk, mk] := A_
      have KK := KK.trans K_ (allS (Or.inl (by simp)) all0)
      have w34_1 := own_nlt hc34
      have w48_1 := own_tlt hc48
      exact own_return C X own_d2_89 (Nat.le_of_ble_eq_true rfl) (Nat.le_of_ble_eq_true rfl) (⟨rfl, y1, en, y2, KK, A, ⟨own_nge (by omega), own_nge (by omega), trivial⟩, own_pm3_1 en y1 y2⟩)
    · refine own_goto C X own_d2_52 (pc' := 82) (by decide) (by decide) ?_
      refine own_aloadN C X own_d2_82 rfl rfl (pc' := 83) rfl ?_
      refine own_iloadN C X own_d2_83 rfl (pc' := 84) rfl ?_
      refine own_iload C X own_d2_84 rfl (pc' := 86) rfl ?_
      refine own_iadd C X own_d2_86 (z := 1) (by decide) (pc' := 87) rfl ?_
      refine own_lloadN C X own_d2_87 rfl (pc' := 88) rfl ?_
      refine own_lastore C X own_d2_88 A (by decide) (i := 1) (Nat.le_of_ble_eq_true rfl) ge_a (pc' := 89) rfl ?_
      intro T h X K_ A_
      have A : own_JA Z h a [mk, en, y1, y2, mk, mk, mk] := A_
      have KK := KK.trans K_ (allS (Or.inl (by simp)) all0)
      have w34_1 := own_nlt hc34
      have w48_1 := own_nlt hc48
      exact own_return C X own_d2_89 (Nat.le_of_ble_eq_true rfl) (Nat.le_of_ble_eq_true rfl) (⟨rfl, en, y1, y2, KK, A, ⟨own_nge (by omega), own_nge (by omega), trivial⟩, own_pm3_0 en y1 y2⟩)
  · refine own_iinc C X own_d2_38 rfl (d := 1) (by decide) (z := 2) (by decide) (L' := #[.val (.ref a), .val (.int (1 : Int32)), .val (.int (3 : Int32)), .val (.long en), .second, .val (.int (0 : Int32)), .val (.int (2 : Int32))]) rfl (pc' := 41) rfl ?_
    refine own_aloadN C X own_d2_41 rfl rfl (pc' := 42) rfl ?_
    refine own_iloadN C X own_d2_42 rfl (pc' := 43) rfl ?_
    refine own_iload C X own_d2_43 rfl (pc' := 45) rfl ?_
    refine own_iadd C X own_d2_45 (z := 3) (by decide) (pc' := 46) rfl ?_
    refine own_laload C X own_d2_46 A (by decide) (i := 3) rfl (pc' := 47) rfl ?_
    refine own_lloadN C X own_d2_47 rfl (pc' := 48) rfl ?_
    refine own_lcmp_gt C X own_d2_48 own_d2_49 (pcT := 55) (pc' := 52) (by decide) (by decide) rfl (fun hc48 => ?_) (fun hc48 => ?_)
    · refine own_aloadN C X own_d2_55 rfl rfl (pc' := 56) rfl ?_
      refine own_iloadN C X own_d2_56 rfl (pc' := 57) rfl ?_
      refine own_iload C X own_d2_57 rfl (pc' := 59) rfl ?_
      refine own_iadd C X own_d2_59 (z := 1) (by decide) (pc' := 60) rfl ?_
      refine own_aloadN C X own_d2_60 rfl rfl (pc' := 61) rfl ?_
      refine own_iloadN C X own_d2_61 rfl (pc' := 62) rfl ?_
      refine own_iload C X own_d2_62 rfl (pc' := 64) rfl ?_
      refine own_iadd C X own_d2_64 (z := 3) (by decide) (pc' := 65) rfl ?_
      refine own_laload C X own_d2_65 A (by decide) (i := 3) rfl (pc' := 66) rfl ?_
      refine own_lastore C X own_d2_66 A (by decide) (i := 1) (Nat.le_of_ble_eq_true rfl) ge_a (pc' := 67) rfl ?_
      intro T h X K_ A_
      have A : own_JA Z h a [mk, y2, y1, y2, mk, mk, mk] := A_
      have KK := KK.trans K_ (allS (Or.inl (by simp)) all0)
      refine own_iload C X own_d2_67 rfl (pc' := 69) rfl ?_
      refine own_istore C X own_d2_69 (L' := #[.val (.ref a), .val (.int (1 : Int32)), .val (.int (3 : Int32)), .val (.long en), .second, .val (.int (2 : Int32)), .val (.int (2 : Int32))]) rfl (pc' := 71) rfl ?_
      refine own_iconst C X own_d2_71 (v := 2) (by decide) (pc' := 72) rfl ?_
      refine own_iload C X own_d2_72 rfl (pc' := 74) rfl ?_
      refine own_imul C X own_d2_74 (z := 4) (by decide) (pc' := 75) rfl ?_
      refine own_iconst C X own_d2_75 (v := 1) (by decide) (pc' := 76) rfl ?_
      refine own_iadd C X own_d2_76 (z := 5) (by decide) (pc' := 77) rfl ?_
      refine own_istore C X own_d2_77 (L' := #[.val (.ref a), .val (.int (1 : Int32)), .val (.int (3 : Int32)), .val (.long en), .second, .val (.int (2 : Int32)), .val (.int (5 : Int32))]) rfl (pc' := 79) rfl ?_
      refine own_goto C X own_d2_79 (pc' := 6) (by decide) (by decide) ?_
      refine own_iload C X own_d2_6 rfl (pc' := 8) rfl ?_
      refine own_iloadN C X own_d2_8 rfl (pc' := 9) rfl ?_
      refine own_icmp_ge C X own_d2_9 (pcT := 82) (pc' := 12) (by decide) (by decide) rfl (fun hc9_2 => ?_) (fun hc9_2 => absurd hc9_2 (by decide))
      refine own_aloadN C X own_d2_82 rfl rfl (pc' := 83) rfl ?_
      refine own_iloadN C X own_d2_83 rfl (pc' := 84) rfl ?_
      refine own_iload C X own_d2_84 rfl (pc' := 86) rfl ?_
      refine own_iadd C X own_d2_86 (z := 3) (by decide) (pc' := 87) rfl ?_
      refine own_lloadN C X own_d2_87 rfl (pc' := 88) rfl ?_
      refine own_lastore C X own_d2_88 A (by decide) (i := 3) (Nat.le_of_ble_eq_true rfl) ge_a (pc' := 89) rfl ?_
      intro T h X K_ A_
      have A : own_JA Z h a [mk, y2, y1, en, mk, mk, mk] := A_
      have KK := KK.trans K_ (allS (Or.inl (by simp)) all0)
      have w34_1 := own_tlt hc34
      have w48_1 := own_tlt hc48
      exact own_return C X own_d2_89 (Nat.le_of_ble_eq_true rfl) (Nat.le_of_ble_eq_true rfl) (⟨rfl, y2, y1, en, KK, A, ⟨own_nge (by omega), own_nge (by omega), trivial⟩, own_pm3_2 en y1 y2⟩)
    · refine own_goto C X own_d2_52 (pc' := 82) (by decide) (by decide) ?_
      refine own_aloadN C X own_d2_82 rfl rfl (pc' := 83) rfl ?_
      refine own_iloadN C X own_d2_83 rfl (pc' := 84) rfl ?_
      refine own_iload C X own_d2_84 rfl (pc' := 86) rfl ?_
      refine own_iadd C X own_d2_86 (z := 1) (by decide) (pc' := 87) rfl ?_
      refine own_lloadN C X own_d2_87 rfl (pc' := 88) rfl ?_
      refine own_lastore C X own_d2_88 A (by decide) (i := 1) (Nat.le_of_ble_eq_true rfl) ge_a (pc' := 89) rfl ?_
      intro T h X K_ A_
      have A : own_JA Z h a [mk, en, y1, y2, mk, mk, mk] := A_
      have KK := KK.trans K_ (allS (Or.inl (by simp)) all0)
      have w34_1 := own_tlt hc34
      have w48_1 := own_nlt hc48
      exact own_return C X own_d2_89 (Nat.le_of_ble_eq_true rfl) (Nat.le_of_ble_eq_true rfl) (⟨rfl, en, y1, y2, KK, A, ⟨own_nge (by omega), own_nge (by omega), trivial⟩, own_pm3_0 en y1 y2⟩)
theorem own_ef_rl40 (a : Addr) (en : Int64) (m : MethodId) : entryFrame m #[(.ref a), (.int (0 : Int32)), (.int (4 : Int32)), (.long en)] 7 = mkF m 0 #[.val (.ref a), .val (.int (0 : Int32)), .val (.int (4 : Int32)), .val (.long en), .second, .unset, .unset] [] := by first | (simp [entryFrame, mkF, argsToLocals, Value.category]; done) | rfl
set_option maxRecDepth 65536 in
set_option maxHeartbeats 40000000 in
theorem own_m_rl40 (l : Launch) (Z : State) (a0 : Array Value) (hw : ∀ d ∈ tables_1, d.before a0 Z = true) (a : Addr) (en : Int64) (h0 : Heap) (n0 : Nat) (hn0 : n0 ≤ h0.size) (y0 y1 y2 y3 mk : Int64) (A : own_JA Z h0 a [y0, y1, y2, y3, mk, mk, mk]) (ge_a : n0 ≤ a) (p3 : ¬ y1 < y3) : own_Met l Z n0 (⟨"com/example/stablemate/stablemate/SliceHeaps", "replaceLargest", "([JIIJ)V"⟩ : MethodName) prog_40_method_4_code 7 none [] ({ frames := 0, cells := 0, slots := 0, locals := 0 } : Room) #[(.ref a), (.int (0 : Int32)), (.int (4 : Int32)), (.long en)] h0 (fun v h => v = none ∧ ∃ r0 r1 r2 r3 : Int64, Keep h0 h [a] ∧ own_JA Z h a [r0, r1, r2, r3, mk, mk, mk] ∧ (¬ r0 < r1 ∧ ¬ r0 < r2 ∧ ¬ r1 < r3 ∧ True) ∧ ∀ z, own_cnt [en, y1, y2, y3] z 0 = own_cnt [r0, r1, r2, r3] z 0) := by
  refine own_body (plainFor_of_name own_pn_com_example_stablemate_stablemate_SliceHeaps) hn0 (own_ef_rl40 a en) ?_
  intro p e s m below meth c T C X
  have KK := Keep.refl h0 [a]
  refine own_iconst C X own_d2_0 (v := 0) (by decide) (pc' := 1) rfl ?_
  refine own_istore C X own_d2_1 (L' := #[.val (.ref a), .val (.int (0 : Int32)), .val (.int (4 : Int32)), .val (.long en), .second, .val (.int (0 : Int32)), .unset]) rfl (pc' := 3) rfl ?_
  refine own_iconst C X own_d2_3 (v := 1) (by decide) (pc' := 4) rfl ?_
  refine own_istore C X own_d2_4 (L' := #[.val (.ref a), .val (.int (0 : Int32)), .val (.int (4 : Int32)), .val (.long en), .second, .val (.int (0 : Int32)), .val (.int (1 : Int32))]) rfl (pc' := 6) rfl ?_
  refine own_iload C X own_d2_6 rfl (pc' := 8) rfl ?_
  refine own_iloadN C X own_d2_8 rfl (pc' := 9) rfl ?_
  refine own_icmp_ge C X own_d2_9 (pcT := 82) (pc' := 12) (by decide) (by decide) rfl (fun hc9 => absurd hc9 (by decide)) (fun hc9 => ?_)
  refine own_iload C X own_d2_12 rfl (pc' := 14) rfl ?_
  refine own_iconst C X own_d2_14 (v := 1) (by decide) (pc' := 15) rfl ?_
  refine own_iadd C X own_d2_15 (z := 2) (by decide) (pc' := 16) rfl ?_
  refine own_iloadN C X own_d2_16 rfl (pc' := 17) rfl ?_
  refine own_icmp_ge C X own_d2_17 (pcT := 41) (pc' := 20) (by decide) (by decide) rfl (fun hc17 => absurd hc17 (by decide)) (fun hc17 => ?_)
  refine own_aloadN C X own_d2_20 rfl rfl (pc' := 21) rfl ?_
  refine own_iloadN C X own_d2_21 rfl (pc' := 22) rfl ?_
  refine own_iload C X own_d2_22 rfl (pc' := 24) rfl ?_
  refine own_iadd C X own_d2_24 (z := 1) (by decide) (pc' := 25) rfl ?_
  refine own_iconst C X own_d2_25 (v := 1) (by decide) (pc' := 26) rfl ?_
  refine own_iadd C X own_d2_26 (z := 2) (by decide) (pc' := 27) rfl ?_
  refine own_laload C X own_d2_27 A (by decide) (i := 2) rfl (pc' := 28) rfl ?_
  refine own_aloadN C X own_d2_28 rfl rfl (pc' := 29) rfl ?_
  refine own_iloadN C X own_d2_29 rfl (pc' := 30) rfl ?_
  refine own_iload C X own_d2_30 rfl (pc' := 32) rfl ?_
  refine own_iadd C X own_d2_32 (z := 1) (by decide) (pc' := 33) rfl ?_
  refine own_laload C X own_d2_33 A (by decide) (i := 1) rfl (pc' := 34) rfl ?_
  refine own_lcmp_le C X own_d2_34 own_d2_35 (pcT := 41) (pc' := 38) (by decide) (by decide) rfl (fun hc34 => ?_) (fun hc34 => ?_)
  · refine own_aloadN C X own_d2_41 rfl rfl (pc' := 42) rfl ?_
    refine own_iloadN C X own_d2_42 rfl (pc' := 43) rfl ?_
    refine own_iload C X own_d2_43 rfl (pc' := 45) rfl ?_
    refine own_iadd C X own_d2_45 (z := 1) (by decide) (pc' := 46) rfl ?_
    refine own_laload C X own_d2_46 A (by decide) (i := 1) rfl (pc' := 47) rfl ?_
    refine own_lloadN C X own_d2_47 rfl (pc' := 48) rfl ?_
    refine own_lcmp_gt C X own_d2_48 own_d2_49 (pcT := 55) (pc' := 52) (by decide) (by decide) rfl (fun hc48 => ?_) (fun hc48 => ?_)
    · refine own_aloadN C X own_d2_55 rfl rfl (pc' := 56) rfl ?_
      refine own_iloadN C X own_d2_56 rfl (pc' := 57) rfl ?_
      refine own_iload C X own_d2_57 rfl (pc' := 59) rfl ?_
      refine own_iadd C X own_d2_59 (z := 0) (by decide) (pc' := 60) rfl ?_
      refine own_aloadN C X own_d2_60 rfl rfl (pc' := 61) rfl ?_
      refine own_iloadN C X own_d2_61 rfl (pc' := 62) rfl ?_
      refine own_iload C X own_d2_62 rfl (pc' := 64) rfl ?_
      refine own_iadd C X own_d2_64 (z := 1) (by decide) (pc' := 65) rfl ?_
      refine own_laload C X own_d2_65 A (by decide) (i := 1) rfl (pc' := 66) rfl ?_
      refine own_lastore C X own_d2_66 A (by decide) (i := 0) (Nat.le_of_ble_eq_true rfl) ge_a (pc' := 67) rfl ?_
      intro T h X K_ A_
      have A : own_JA Z h a [y1, y1, y2, y3, mk, mk, mk] := A_
      have KK := KK.trans K_ (allS (Or.inl (by simp)) all0)
      refine own_iload C X own_d2_67 rfl (pc' := 69) rfl ?_
      refine own_istore C X own_d2_69 (L' := #[.val (.ref a), .val (.int (0 : Int32)), .val (.int (4 : Int32)), .val (.long en), .second, .val (.int (1 : Int32)), .val (.int (1 : Int32))]) rfl (pc' := 71) rfl ?_
      refine own_iconst C X own_d2_71 (v := 2) (by decide) (pc' := 72) rfl ?_
      refine own_iload C X own_d2_72 rfl (pc' := 74) rfl ?_
      refine own_imul C X own_d2_74 (z := 2) (by decide) (pc' := 75) rfl ?_
      refine own_iconst C X own_d2_75 (v := 1) (by decide) (pc' := 76) rfl ?_
      refine own_iadd C X own_d2_76 (z := 3) (by decide) (pc' := 77) rfl ?_
      refine own_istore C X own_d2_77 (L' := #[.val (.ref a), .val (.int (0 : Int32)), .val (.int (4 : Int32)), .val (.long en), .second, .val (.int (1 : Int32)), .val (.int (3 : Int32))]) rfl (pc' := 79) rfl ?_
      refine own_goto C X own_d2_79 (pc' := 6) (by decide) (by decide) ?_
      refine own_iload C X own_d2_6 rfl (pc' := 8) rfl ?_
      refine own_iloadN C X own_d2_8 rfl (pc' := 9) rfl ?_
      refine own_icmp_ge C X own_d2_9 (pcT := 82) (pc' := 12) (by decide) (by decide) rfl (fun hc9_2 => absurd hc9_2 (by decide)) (fun hc9_2 => ?_)
      refine own_iload C X own_d2_12 rfl (pc' := 14) rfl ?_
      refine own_iconst C X own_d2_14 (v := 1) (by decide) (pc' := 15) rfl ?_
      refine own_iadd C X own_d2_15 (z := 4) (by decide) (pc' := 16) rfl ?_
      refine own_iloadN C X own_d2_16 rfl (pc' := 17) rfl ?_
      refine own_icmp_ge C X own_d2_17 (pcT := 41) (pc' := 20) (by decide) (by decide) rfl (fun hc17_2 => ?_) (fun hc17_2 => absurd hc17_2 (by decide))
      refine own_aloadN C X own_d2_41 rfl rfl (pc' := 42) rfl ?_
      refine own_iloadN C X own_d2_42 rfl (pc' := 43) rfl ?_
      refine own_iload C X own_d2_43 rfl (pc' := 45) rfl ?_
      refine own_iadd C X own_d2_45 (z := 3) (by decide) (pc' := 46) rfl ?_
      refine own_laload C X own_d2_46 A (by decide) (i := 3) rfl (pc' := 47) rfl ?_
      refine own_lloadN C X own_d2_47 rfl (pc' := 48) rfl ?_
      refine own_lcmp_gt C X own_d2_48 own_d2_49 (pcT := 55) (pc' := 52) (by decide) (by decide) rfl (fun hc48_2 => ?_) (fun hc48_2 => ?_)
      · refine own_aloadN C X own_d2_55 rfl rfl (pc' := 56) rfl ?_
        refine own_iloadN C X own_d2_56 rfl (pc' := 57) rfl ?_
        refine own_iload C X own_d2_57 rfl (pc' := 59) rfl ?_
        refine own_iadd C X own_d2_59 (z := 1) (by decide) (pc' := 60) rfl ?_
        refine own_aloadN C X own_d2_60 rfl rfl (pc' := 61) rfl ?_
        refine own_iloadN C X own_d2_61 rfl (pc' := 62) rfl ?_
        refine own_iload C X own_d2_62 rfl (pc' := 64) rfl ?_
        refine own_iadd C X own_d2_64 (z := 3) (by decide) (pc' := 65) rfl ?_
        refine own_laload C X own_d2_65 A (by decide) (i := 3) rfl (pc' := 66) rfl ?_
        refine own_lastore C X own_d2_66 A (by decide) (i := 1) (Nat.le_of_ble_eq_true rfl) ge_a (pc' := 67) rfl ?_
        intro T h X K_ A_
        have A : own_JA Z h a [y1, y3, y2, y3, mk, mk, mk] := A_
        have KK := KK.trans K_ (allS (Or.inl (by simp)) all0)
        refine own_iload C X own_d2_67 rfl (pc' := 69) rfl ?_
        refine own_istore C X own_d2_69 (L' := #[.val (.ref a), .val (.int (0 : Int32)), .val (.int (4 : Int32)), .val (.long en), .second, .val (.int (3 : Int32)), .val (.int (3 : Int32))]) rfl (pc' := 71) rfl ?_
        refine own_iconst C X own_d2_71 (v := 2) (by decide) (pc' := 72) rfl ?_
        refine own_iload C X own_d2_72 rfl (pc' := 74) rfl ?_
        refine own_imul C X own_d2_74 (z := 6) (by decide) (pc' := 75) rfl ?_
        refine own_iconst C X own_d2_75 (v := 1) (by decide) (pc' := 76) rfl ?_
        refine own_iadd C X own_d2_76 (z := 7) (by decide) (pc' := 77) rfl ?_
        refine own_istore C X own_d2_77 (L' := #[.val (.ref a), .val (.int (0 : Int32)), .val (.int (4 : Int32)), .val (.long en), .second, .val (.int (3 : Int32)), .val (.int (7 : Int32))]) rfl (pc' := 79) rfl ?_
        refine own_goto C X own_d2_79 (pc' := 6) (by decide) (by decide) ?_
        refine own_iload C X own_d2_6 rfl (pc' := 8) rfl ?_
        refine own_iloadN C X own_d2_8 rfl (pc' := 9) rfl ?_
        refine own_icmp_ge C X own_d2_9 (pcT := 82) (pc' := 12) (by decide) (by decide) rfl (fun hc9_3 => ?_) (fun hc9_3 => absurd hc9_3 (by decide))
        refine own_aloadN C X own_d2_82 rfl rfl (pc' := 83) rfl ?_
        refine own_iloadN C X own_d2_83 rfl (pc' := 84) rfl ?_
        refine own_iload C X own_d2_84 rfl (pc' := 86) rfl ?_
        refine own_iadd C X own_d2_86 (z := 3) (by decide) (pc' := 87) rfl ?_
        refine own_lloadN C X own_d2_87 rfl (pc' := 88) rfl ?_
        refine own_lastore C X own_d2_88 A (by decide) (i := 3) (Nat.le_of_ble_eq_true rfl) ge_a (pc' := 89) rfl ?_
        intro T h X K_ A_
        have A : own_JA Z h a [y1, y3, y2, en, mk, mk, mk] := A_
        have KK := KK.trans K_ (allS (Or.inl (by simp)) all0)
        have u3 := own_nlt p3
        have w34_1 := own_nlt hc34
        have w48_1 := own_tlt hc48
        have w48_2 := own_tlt hc48_2
        exact own_return C X own_d2_89 (Nat.le_of_ble_eq_true rfl) (Nat.le_of_ble_eq_true rfl) (⟨rfl, y1, y3, y2, en, KK, A, ⟨own_nge (by omega), own_nge (by omega), own_nge (by omega), trivial⟩, own_pm4_3 en y1 y2 y3⟩)
      · refine own_goto C X own_d2_52 (pc' := 82) (by decide) (by decide) ?_
        refine own_aloadN C X own_d2_82 rfl rfl (pc' := 83) rfl ?_
        refine own_iloadN C X own_d2_83 rfl (pc' := 84) rfl ?_
        refine own_iload C X own_d2_84 rfl (pc' := 86) rfl ?_
        refine own_iadd C X own_d2_86 (z := 1) (by decide) (pc' := 87) rfl ?_
        refine own_lloadN C X own_d2_87 rfl (pc' := 88) rfl ?_
        refine own_lastore C X own_d2_88 A (by decide) (i := 1) (Nat.le_of_ble_eq_true rfl) ge_a (pc' := 89) rfl ?_
        intro T h X K_ A_
        have A : own_JA Z h a [y1, en, y2, y3, mk, mk, mk] := A_
        have KK := KK.trans K_ (allS (Or.inl (by simp)) all0)
        have u3 := own_nlt p3
        have w34_1 := own_nlt hc34
        have w48_1 := own_tlt hc48
        have w48_2 := own_nlt hc48_2
        exact own_return C X own_d2_89 (Nat.le_of_ble_eq_true rfl) (Nat.le_of_ble_eq_true rfl) (⟨rfl, y1, en, y2, y3, KK, A, ⟨own_nge (by omega), own_nge (by omega), own_nge (by omega), trivial⟩, own_pm4_1 en y1 y2 y3⟩)
    · refine own_goto C X own_d2_52 (pc' := 82) (by decide) (by decide) ?_
      refine own_aloadN C X own_d2_82 rfl rfl (pc' := 83) rfl ?_
      refine own_iloadN C X own_d2_83 rfl (pc' := 84) rfl ?_
      refine own_iload C X own_d2_84 rfl (pc' := 86) rfl ?_
      refine own_iadd C X own_d2_86 (z := 0) (by decide) (pc' := 87) rfl ?_
      refine own_lloadN C X own_d2_87 rfl (pc' := 88) rfl ?_
      refine own_lastore C X own_d2_88 A (by decide) (i := 0) (Nat.le_of_ble_eq_true rfl) ge_a (pc' := 89) rfl ?_
      intro T h X K_ A_
      have A : own_JA Z h a [en, y1, y2, y3, mk, mk, mk] := A_
      have KK := KK.trans K_ (allS (Or.inl (by simp)) all0)
      have u3 := own_nlt p3
      have w34_1 := own_nlt hc34
      have w48_1 := own_nlt hc48
      exact own_return C X own_d2_89 (Nat.le_of_ble_eq_true rfl) (Nat.le_of_ble_eq_true rfl) (⟨rfl, en, y1, y2, y3, KK, A, ⟨own_nge (by omega), own_nge (by omega), own_nge (by omega), trivial⟩, own_pm4_0 en y1 y2 y3⟩)
  · refine own_iinc C X own_d2_38 rfl (d := 1) (by decide) (z := 2) (by decide) (L' := #[.val (.ref a), .val (.int (0 : Int32)), .val (.int (4 : Int32)), .val (.long en), .second, .val (.int (0 : Int32)), .val (.int (2 : Int32))]) rfl (pc' := 41) rfl ?_
    refine own_aloadN C X own_d2_41 rfl rfl (pc' := 42) rfl ?_
    refine own_iloadN C X own_d2_42 rfl (pc' := 43) rfl ?_
    refine own_iload C X own_d2_43 rfl (pc' := 45) rfl ?_
    refine own_iadd C X own_d2_45 (z := 2) (by decide) (pc' := 46) rfl ?_
    refine own_laload C X own_d2_46 A (by decide) (i := 2) rfl (pc' := 47) rfl ?_
    refine own_lloadN C X own_d2_47 rfl (pc' := 48) rfl ?_
    refine own_lcmp_gt C X own_d2_48 own_d2_49 (pcT := 55) (pc' := 52) (by decide) (by decide) rfl (fun hc48 => ?_) (fun hc48 => ?_)
    · refine own_aloadN C X own_d2_55 rfl rfl (pc' := 56) rfl ?_
      refine own_iloadN C X own_d2_56 rfl (pc' := 57) rfl ?_
      refine own_iload C X own_d2_57 rfl (pc' := 59) rfl ?_
      refine own_iadd C X own_d2_59 (z := 0) (by decide) (pc' := 60) rfl ?_
      refine own_aloadN C X own_d2_60 rfl rfl (pc' := 61) rfl ?_
      refine own_iloadN C X own_d2_61 rfl (pc' := 62) rfl ?_
      refine own_iload C X own_d2_62 rfl (pc' := 64) rfl ?_
      refine own_iadd C X own_d2_64 (z := 2) (by decide) (pc' := 65) rfl ?_
      refine own_laload C X own_d2_65 A (by decide) (i := 2) rfl (pc' := 66) rfl ?_
      refine own_lastore C X own_d2_66 A (by decide) (i := 0) (Nat.le_of_ble_eq_true rfl) ge_a (pc' := 67) rfl ?_
      intro T h X K_ A_
      have A : own_JA Z h a [y2, y1, y2, y3, mk, mk, mk] := A_
      have KK := KK.trans K_ (allS (Or.inl (by simp)) all0)
      refine own_iload C X own_d2_67 rfl (pc' := 69) rfl ?_
      refine own_istore C X own_d2_69 (L' := #[.val (.ref a), .val (.int (0 : Int32)), .val (.int (4 : Int32)), .val (.long en), .second, .val (.int (2 : Int32)), .val (.int (2 : Int32))]) rfl (pc' := 71) rfl ?_
      refine own_iconst C X own_d2_71 (v := 2) (by decide) (pc' := 72) rfl ?_
      refine own_iload C X own_d2_72 rfl (pc' := 74) rfl ?_
      refine own_imul C X own_d2_74 (z := 4) (by decide) (pc' := 75) rfl ?_
      refine own_iconst C X own_d2_75 (v := 1) (by decide) (pc' := 76) rfl ?_
      refine own_iadd C X own_d2_76 (z := 5) (by decide) (pc' := 77) rfl ?_
      refine own_istore C X own_d2_77 (L' := #[.val (.ref a), .val (.int (0 : Int32)), .val (.int (4 : Int32)), .val (.long en), .second, .val (.int (2 : Int32)), .val (.int (5 : Int32))]) rfl (pc' := 79) rfl ?_
      refine own_goto C X own_d2_79 (pc' := 6) (by decide) (by decide) ?_
      refine own_iload C X own_d2_6 rfl (pc' := 8) rfl ?_
      refine own_iloadN C X own_d2_8 rfl (pc' := 9) rfl ?_
      refine own_icmp_ge C X own_d2_9 (pcT := 82) (pc' := 12) (by decide) (by decide) rfl (fun hc9_2 => ?_) (fun hc9_2 => absurd hc9_2 (by decide))
      refine own_aloadN C X own_d2_82 rfl rfl (pc' := 83) rfl ?_
      refine own_iloadN C X own_d2_83 rfl (pc' := 84) rfl ?_
      refine own_iload C X own_d2_84 rfl (pc' := 86) rfl ?_
      refine own_iadd C X own_d2_86 (z := 2) (by decide) (pc' := 87) rfl ?_
      refine own_lloadN C X own_d2_87 rfl (pc' := 88) rfl ?_
      refine own_lastore C X own_d2_88 A (by decide) (i := 2) (Nat.le_of_ble_eq_true rfl) ge_a (pc' := 89) rfl ?_
      intro T h X K_ A_
      have A : own_JA Z h a [y2, y1, en, y3, mk, mk, mk] := A_
      have KK := KK.trans K_ (allS (Or.inl (by simp)) all0)
      have u3 := own_nlt p3
      have w34_1 := own_tlt hc34
      have w48_1 := own_tlt hc48
      exact own_return C X own_d2_89 (Nat.le_of_ble_eq_true rfl) (Nat.le_of_ble_eq_true rfl) (⟨rfl, y2, y1, en, y3, KK, A, ⟨own_nge (by omega), own_nge (by omega), own_nge (by omega), trivial⟩, own_pm4_2 en y1 y2 y3⟩)
    · refine own_goto C X own_d2_52 (pc' := 82) (by decide) (by decide) ?_
      refine own_aloadN C X own_d2_82 rfl rfl (pc' := 83) rfl ?_
      refine own_iloadN C X own_d2_83 rfl (pc' := 84) rfl ?_
      refine own_iload C X own_d2_84 rfl (pc' := 86) rfl ?_
      refine own_iadd C X own_d2_86 (z := 0) (by decide) (pc' := 87) rfl ?_
      refine own_lloadN C X own_d2_87 rfl (pc' := 88) rfl ?_
      refine own_lastore C X own_d2_88 A (by decide) (i := 0) (Nat.le_of_ble_eq_true rfl) ge_a (pc' := 89) rfl ?_
      intro T h X K_ A_
      have A : own_JA Z h a [en, y1, y2, y3, mk, mk, mk] := A_
      have KK := KK.trans K_ (allS (Or.inl (by simp)) all0)
      have u3 := own_nlt p3
      have w34_1 := own_tlt hc34
      have w48_1 := own_nlt hc48
      exact own_return C X own_d2_89 (Nat.le_of_ble_eq_true rfl) (Nat.le_of_ble_eq_true rfl) (⟨rfl, en, y1, y2, y3, KK, A, ⟨own_nge (by omega), own_nge (by omega), own_nge (by omega), trivial⟩, own_pm4_0 en y1 y2 y3⟩)
theorem own_ef_rl41 (a : Addr) (en : Int64) (m : MethodId) : entryFrame m #[(.ref a), (.int (1 : Int32)), (.int (4 : Int32)), (.long en)] 7 = mkF m 0 #[.val (.ref a), .val (.int (1 : Int32)), .val (.int (4 : Int32)), .val (.long en), .second, .unset, .unset] [] := by first | (simp [entryFrame, mkF, argsToLocals, Value.category]; done) | rfl
set_option maxRecDepth 65536 in
set_option maxHeartbeats 40000000 in
theorem own_m_rl41 (l : Launch) (Z : State) (a0 : Array Value) (hw : ∀ d ∈ tables_1, d.before a0 Z = true) (a : Addr) (en : Int64) (h0 : Heap) (n0 : Nat) (hn0 : n0 ≤ h0.size) (y0 y1 y2 y3 mk : Int64) (A : own_JA Z h0 a [mk, y0, y1, y2, y3, mk, mk]) (ge_a : n0 ≤ a) (p3 : ¬ y1 < y3) : own_Met l Z n0 (⟨"com/example/stablemate/stablemate/SliceHeaps", "replaceLargest", "([JIIJ)V"⟩ : MethodName) prog_40_method_4_code 7 none [] ({ frames := 0, cells := 0, slots := 0, locals := 0 } : Room) #[(.ref a), (.int (1 : Int32)), (.int (4 : Int32)), (.long en)] h0 (fun v h => v = none ∧ ∃ r0 r1 r2 r3 : Int64, Keep h0 h [a] ∧ own_JA Z h a [mk, r0, r1, r2, r3, mk, mk] ∧ (¬ r0 < r1 ∧ ¬ r0 < r2 ∧ ¬ r1 < r3 ∧ True) ∧ ∀ z, own_cnt [en, y1, y2, y3] z 0 = own_cnt [r0, r1, r2, r3] z 0) := by
  refine own_body (plainFor_of_name own_pn_com_example_stablemate_stablemate_SliceHeaps) hn0 (own_ef_rl41 a en) ?_
  intro p e s m below meth c T C X
  have KK := Keep.refl h0 [a]
  refine own_iconst C X own_d2_0 (v := 0) (by decide) (pc' := 1) rfl ?_
  refine own_istore C X own_d2_1 (L' := #[.val (.ref a), .val (.int (1 : Int32)), .val (.int (4 : Int32)), .val (.long en), .second, .val (.int (0 : Int32)), .unset]) rfl (pc' := 3) rfl ?_
  refine own_iconst C X own_d2_3 (v := 1) (by decide) (pc' := 4) rfl ?_
  refine own_istore C X own_d2_4 (L' := #[.val (.ref a), .val (.int (1 : Int32)), .val (.int (4 : Int32)), .val (.long en), .second, .val (.int (0 : Int32)), .val (.int (1 : Int32))]) rfl (pc' := 6) rfl ?_
  refine own_iload C X own_d2_6 rfl (pc' := 8) rfl ?_
  refine own_iloadN C X own_d2_8 rfl (pc' := 9) rfl ?_
  refine own_icmp_ge C X own_d2_9 (pcT := 82) (pc' := 12) (by decide) (by decide) rfl (fun hc9 => absurd hc9 (by decide)) (fun hc9 => ?_)
  refine own_iload C X own_d2_12 rfl (pc' := 14) rfl ?_
  refine own_iconst C X own_d2_14 (v := 1) (by decide) (pc' := 15) rfl ?_
  refine own_iadd C X own_d2_15 (z := 2) (by decide) (pc' := 16) rfl ?_
  refine own_iloadN C X own_d2_16 rfl (pc' := 17) rfl ?_
  refine own_icmp_ge C X own_d2_17 (pcT := 41) (pc' := 20) (by decide) (by decide) rfl (fun hc17 => absurd hc17 (by decide)) (fun hc17 => ?_)
  refine own_aloadN C X own_d2_20 rfl rfl (pc' := 21) rfl ?_
  refine own_iloadN C X own_d2_21 rfl (pc' := 22) rfl ?_
  refine own_iload C X own_d2_22 rfl (pc' := 24) rfl ?_
  refine own_iadd C X own_d2_24 (z := 2) (by decide) (pc' := 25) rfl ?_
  refine own_iconst C X own_d2_25 (v := 1) (by decide) (pc' := 26) rfl ?_
  refine own_iadd C X own_d2_26 (z := 3) (by decide) (pc' := 27) rfl ?_
  refine own_laload C X own_d2_27 A (by decide) (i := 3) rfl (pc' := 28) rfl ?_
  refine own_aloadN C X own_d2_28 rfl rfl (pc' := 29) rfl ?_
  refine own_iloadN C X own_d2_29 rfl (pc' := 30) rfl ?_
  refine own_iload C X own_d2_30 rfl (pc' := 32) rfl ?_
  refine own_iadd C X own_d2_32 (z := 2) (by decide) (pc' := 33) rfl ?_
  refine own_laload C X own_d2_33 A (by decide) (i := 2) rfl (pc' := 34) rfl ?_
  refine own_lcmp_le C X own_d2_34 own_d2_35 (pcT := 41) (pc' := 38) (by decide) (by decide) rfl (fun hc34 => ?_) (fun hc34 => ?_)
  · refine own_aloadN C X own_d2_41 rfl rfl (pc' := 42) rfl ?_
    refine own_iloadN C X own_d2_42 rfl (pc' := 43) rfl ?_
    refine own_iload C X own_d2_43 rfl (pc' := 45) rfl ?_
    refine own_iadd C X own_d2_45 (z := 2) (by decide) (pc' := 46) rfl ?_
    refine own_laload C X own_d2_46 A (by decide) (i := 2) rfl (pc' := 47) rfl ?_
    refine own_lloadN C X own_d2_47 rfl (pc' := 48) rfl ?_
    refine own_lcmp_gt C X own_d2_48 own_d2_49 (pcT := 55) (pc' := 52) (by decide) (by decide) rfl (fun hc48 => ?_) (fun hc48 => ?_)
    · refine own_aloadN C X own_d2_55 rfl rfl (pc' := 56) rfl ?_
      refine own_iloadN C X own_d2_56 rfl (pc' := 57) rfl ?_
      refine own_iload C X own_d2_57 rfl (pc' := 59) rfl ?_
      refine own_iadd C X own_d2_59 (z := 1) (by decide) (pc' := 60) rfl ?_
      refine own_aloadN C X own_d2_60 rfl rfl (pc' := 61) rfl ?_
      refine own_iloadN C X own_d2_61 rfl (pc' := 62) rfl ?_
      refine own_iload C X own_d2_62 rfl (pc' := 64) rfl ?_
      refine own_iadd C X own_d2_64 (z := 2) (by decide) (pc' := 65) rfl ?_
      refine own_laload C X own_d2_65 A (by decide) (i := 2) rfl (pc' := 66) rfl ?_
      refine own_lastore C X own_d2_66 A (by decide) (i := 1) (Nat.le_of_ble_eq_true rfl) ge_a (pc' := 67) rfl ?_
      intro T h X K_ A_
      have A : own_JA Z h a [mk, y1, y1, y2, y3, mk, mk] := A_
      have KK := KK.trans K_ (allS (Or.inl (by simp)) all0)
      refine own_iload C X own_d2_67 rfl (pc' := 69) rfl ?_
      refine own_istore C X own_d2_69 (L' := #[.val (.ref a), .val (.int (1 : Int32)), .val (.int (4 : Int32)), .val (.long en), .second, .val (.int (1 : Int32)), .val (.int (1 : Int32))]) rfl (pc' := 71) rfl ?_
      refine own_iconst C X own_d2_71 (v := 2) (by decide) (pc' := 72) rfl ?_
      refine own_iload C X own_d2_72 rfl (pc' := 74) rfl ?_
      refine own_imul C X own_d2_74 (z := 2) (by decide) (pc' := 75) rfl ?_
      refine own_iconst C X own_d2_75 (v := 1) (by decide) (pc' := 76) rfl ?_
      refine own_iadd C X own_d2_76 (z := 3) (by decide) (pc' := 77) rfl ?_
      refine own_istore C X own_d2_77 (L' := #[.val (.ref a), .val (.int (1 : Int32)), .val (.int (4 : Int32)), .val (.long en), .second, .val (.int (1 : Int32)), .val (.int (3 : Int32))]) rfl (pc' := 79) rfl ?_
      refine own_goto C X own_d2_79 (pc' := 6) (by decide) (by decide) ?_
      refine own_iload C X own_d2_6 rfl (pc' := 8) rfl ?_
      refine own_iloadN C X own_d2_8 rfl (pc' := 9) rfl ?_
      refine own_icmp_ge C X own_d2_9 (pcT := 82) (pc' := 12) (by decide) (by decide) rfl (fun hc9_2 => absurd hc9_2 (by decide)) (fun hc9_2 => ?_)
      refine own_iload C X own_d2_12 rfl (pc' := 14) rfl ?_
      refine own_iconst C X own_d2_14 (v := 1) (by decide) (pc' := 15) rfl ?_
      refine own_iadd C X own_d2_15 (z := 4) (by decide) (pc' := 16) rfl ?_
      refine own_iloadN C X own_d2_16 rfl (pc' := 17) rfl ?_
      refine own_icmp_ge C X own_d2_17 (pcT := 41) (pc' := 20) (by decide) (by decide) rfl (fun hc17_2 => ?_) (fun hc17_2 => absurd hc17_2 (by decide))
      refine own_aloadN C X own_d2_41 rfl rfl (pc' := 42) rfl ?_
      refine own_iloadN C X own_d2_42 rfl (pc' := 43) rfl ?_
      refine own_iload C X own_d2_43 rfl (pc' := 45) rfl ?_
      refine own_iadd C X own_d2_45 (z := 4) (by decide) (pc' := 46) rfl ?_
      refine own_laload C X own_d2_46 A (by decide) (i := 4) rfl (pc' := 47) rfl ?_
      refine own_lloadN C X own_d2_47 rfl (pc' := 48) rfl ?_
      refine own_lcmp_gt C X own_d2_48 own_d2_49 (pcT := 55) (pc' := 52) (by decide) (by decide) rfl (fun hc48_2 => ?_) (fun hc48_2 => ?_)
      · refine own_aloadN C X own_d2_55 rfl rfl (pc' := 56) rfl ?_
        refine own_iloadN C X own_d2_56 rfl (pc' := 57) rfl ?_
        refine own_iload C X own_d2_57 rfl (pc' := 59) rfl ?_
        refine own_iadd C X own_d2_59 (z := 2) (by decide) (pc' := 60) rfl ?_
        refine own_aloadN C X own_d2_60 rfl rfl (pc' := 61) rfl ?_
        refine own_iloadN C X own_d2_61 rfl (pc' := 62) rfl ?_
        refine own_iload C X own_d2_62 rfl (pc' := 64) rfl ?_
        refine own_iadd C X own_d2_64 (z := 4) (by decide) (pc' := 65) rfl ?_
        refine own_laload C X own_d2_65 A (by decide) (i := 4) rfl (pc' := 66) rfl ?_
        refine own_lastore C X own_d2_66 A (by decide) (i := 2) (Nat.le_of_ble_eq_true rfl) ge_a (pc' := 67) rfl ?_
        intro T h X K_ A_
        have A : own_JA Z h a [mk, y1, y3, y2, y3, mk, mk] := A_
        have KK := KK.trans K_ (allS (Or.inl (by simp)) all0)
        refine own_iload C X own_d2_67 rfl (pc' := 69) rfl ?_
        refine own_istore C X own_d2_69 (L' := #[.val (.ref a), .val (.int (1 : Int32)), .val (.int (4 : Int32)), .val (.long en), .second, .val (.int (3 : Int32)), .val (.int (3 : Int32))]) rfl (pc' := 71) rfl ?_
        refine own_iconst C X own_d2_71 (v := 2) (by decide) (pc' := 72) rfl ?_
        refine own_iload C X own_d2_72 rfl (pc' := 74) rfl ?_
        refine own_imul C X own_d2_74 (z := 6) (by decide) (pc' := 75) rfl ?_
        refine own_iconst C X own_d2_75 (v := 1) (by decide) (pc' := 76) rfl ?_
        refine own_iadd C X own_d2_76 (z := 7) (by decide) (pc' := 77) rfl ?_
        refine own_istore C X own_d2_77 (L' := #[.val (.ref a), .val (.int (1 : Int32)), .val (.int (4 : Int32)), .val (.long en), .second, .val (.int (3 : Int32)), .val (.int (7 : Int32))]) rfl (pc' := 79) rfl ?_
        refine own_goto C X own_d2_79 (pc' := 6) (by decide) (by decide) ?_
        refine own_iload C X own_d2_6 rfl (pc' := 8) rfl ?_
        refine own_iloadN C X own_d2_8 rfl (pc' := 9) rfl ?_
        refine own_icmp_ge C X own_d2_9 (pcT := 82) (pc' := 12) (by decide) (by decide) rfl (fun hc9_3 => ?_) (fun hc9_3 => absurd hc9_3 (by decide))
        refine own_aloadN C X own_d2_82 rfl rfl (pc' := 83) rfl ?_
        refine own_iloadN C X own_d2_83 rfl (pc' := 84) rfl ?_
        refine own_iload C X own_d2_84 rfl (pc' := 86) rfl ?_
        refine own_iadd C X own_d2_86 (z := 4) (by decide) (pc' := 87) rfl ?_
        refine own_lloadN C X own_d2_87 rfl (pc' := 88) rfl ?_
        refine own_lastore C X own_d2_88 A (by decide) (i := 4) (Nat.le_of_ble_eq_true rfl) ge_a (pc' := 89) rfl ?_
        intro T h X K_ A_
        have A : own_JA Z h a [mk, y1, y3, y2, en, mk, mk] := A_
        have KK := KK.trans K_ (allS (Or.inl (by simp)) all0)
        have u3 := own_nlt p3
        have w34_1 := own_nlt hc34
        have w48_1 := own_tlt hc48
        have w48_2 := own_tlt hc48_2
        exact own_return C X own_d2_89 (Nat.le_of_ble_eq_true rfl) (Nat.le_of_ble_eq_true rfl) (⟨rfl, y1, y3, y2, en, KK, A, ⟨own_nge (by omega), own_nge (by omega), own_nge (by omega), trivial⟩, own_pm4_3 en y1 y2 y3⟩)
      · refine own_goto C X own_d2_52 (pc' := 82) (by decide) (by decide) ?_
        refine own_aloadN C X own_d2_82 rfl rfl (pc' := 83) rfl ?_
        refine own_iloadN C X own_d2_83 rfl (pc' := 84) rfl ?_
        refine own_iload C X own_d2_84 rfl (pc' := 86) rfl ?_
        refine own_iadd C X own_d2_86 (z := 2) (by decide) (pc' := 87) rfl ?_
        refine own_lloadN C X own_d2_87 rfl (pc' := 88) rfl ?_
        refine own_lastore C X own_d2_88 A (by decide) (i := 2) (Nat.le_of_ble_eq_true rfl) ge_a (pc' := 89) rfl ?_
        intro T h X K_ A_
        have A : own_JA Z h a [mk, y1, en, y2, y3, mk, mk] := A_
        have KK := KK.trans K_ (allS (Or.inl (by simp)) all0)
        have u3 := own_nlt p3
        have w34_1 := own_nlt hc34
        have w48_1 := own_tlt hc48
        have w48_2 := own_nlt hc48_2
        exact own_return C X own_d2_89 (Nat.le_of_ble_eq_true rfl) (Nat.le_of_ble_eq_true rfl) (⟨rfl, y1, en, y2, y3, KK, A, ⟨own_nge (by omega), own_nge (by omega), own_nge (by omega), trivial⟩, own_pm4_1 en y1 y2 y3⟩)
    · refine own_goto C X own_d2_52 (pc' := 82) (by decide) (by decide) ?_
      refine own_aloadN C X own_d2_82 rfl rfl (pc' := 83) rfl ?_
      refine own_iloadN C X own_d2_83 rfl (pc' := 84) rfl ?_
      refine own_iload C X own_d2_84 rfl (pc' := 86) rfl ?_
      refine own_iadd C X own_d2_86 (z := 1) (by decide) (pc' := 87) rfl ?_
      refine own_lloadN C X own_d2_87 rfl (pc' := 88) rfl ?_
      refine own_lastore C X own_d2_88 A (by decide) (i := 1) (Nat.le_of_ble_eq_true rfl) ge_a (pc' := 89) rfl ?_
      intro T h X K_ A_
      have A : own_JA Z h a [mk, en, y1, y2, y3, mk, mk] := A_
      have KK := KK.trans K_ (allS (Or.inl (by simp)) all0)
      have u3 := own_nlt p3
      have w34_1 := own_nlt hc34
      have w48_1 := own_nlt hc48
      exact own_return C X own_d2_89 (Nat.le_of_ble_eq_true rfl) (Nat.le_of_ble_eq_true rfl) (⟨rfl, en, y1, y2, y3, KK, A, ⟨own_nge (by omega), own_nge (by omega), own_nge (by omega), trivial⟩, own_pm4_0 en y1 y2 y3⟩)
  · refine own_iinc C X own_d2_38 rfl (d := 1) (by decide) (z := 2) (by decide) (L' := #[.val (.ref a), .val (.int (1 : Int32)), .val (.int (4 : Int32)), .val (.long en), .second, .val (.int (0 : Int32)), .val (.int (2 : Int32))]) rfl (pc' := 41) rfl ?_
    refine own_aloadN C X own_d2_41 rfl rfl (pc' := 42) rfl ?_
    refine own_iloadN C X own_d2_42 rfl (pc' := 43) rfl ?_
    refine own_iload C X own_d2_43 rfl (pc' := 45) rfl ?_
    refine own_iadd C X own_d2_45 (z := 3) (by decide) (pc' := 46) rfl ?_
    refine own_laload C X own_d2_46 A (by decide) (i := 3) rfl (pc' := 47) rfl ?_
    refine own_lloadN C X own_d2_47 rfl (pc' := 48) rfl ?_
    refine own_lcmp_gt C X own_d2_48 own_d2_49 (pcT := 55) (pc' := 52) (by decide) (by decide) rfl (fun hc48 => ?_) (fun hc48 => ?_)
    · refine own_aloadN C X own_d2_55 rfl rfl (pc' := 56) rfl ?_
      refine own_iloadN C X own_d2_56 rfl (pc' := 57) rfl ?_
      refine own_iload C X own_d2_57 rfl (pc' := 59) rfl ?_
      refine own_iadd C X own_d2_59 (z := 1) (by decide) (pc' := 60) rfl ?_
      refine own_aloadN C X own_d2_60 rfl rfl (pc' := 61) rfl ?_
      refine own_iloadN C X own_d2_61 rfl (pc' := 62) rfl ?_
      refine own_iload C X own_d2_62 rfl (pc' := 64) rfl ?_
      refine own_iadd C X own_d2_64 (z := 3) (by decide) (pc' := 65) rfl ?_
      refine own_laload C X own_d2_65 A (by decide) (i := 3) rfl (pc' := 66) rfl ?_
      refine own_lastore C X own_d2_66 A (by decide) (i := 1) (Nat.le_of_ble_eq_true rfl) ge_a (pc' := 67) rfl ?_
      intro T h X K_ A_
      have A : own_JA Z h a [mk, y2, y1, y2, y3, mk, mk] := A_
      have KK := KK.trans K_ (allS (Or.inl (by simp)) all0)
      refine own_iload C X own_d2_67 rfl (pc' := 69) rfl ?_
      refine own_istore C X own_d2_69 (L' := #[.val (.ref a), .val (.int (1 : Int32)), .val (.int (4 : Int32)), .val (.long en), .second, .val (.int (2 : Int32)), .val (.int (2 : Int32))]) rfl (pc' := 71) rfl ?_
      refine own_iconst C X own_d2_71 (v := 2) (by decide) (pc' := 72) rfl ?_
      refine own_iload C X own_d2_72 rfl (pc' := 74) rfl ?_
      refine own_imul C X own_d2_74 (z := 4) (by decide) (pc' := 75) rfl ?_
      refine own_iconst C X own_d2_75 (v := 1) (by decide) (pc' := 76) rfl ?_
      refine own_iadd C X own_d2_76 (z := 5) (by decide) (pc' := 77) rfl ?_
      refine own_istore C X own_d2_77 (L' := #[.val (.ref a), .val (.int (1 : Int32)), .val (.int (4 : Int32)), .val (.long en), .second, .val (.int (2 : Int32)), .val (.int (5 : Int32))]) rfl (pc' := 79) rfl ?_
      refine own_goto C X own_d2_79 (pc' := 6) (by decide) (by decide) ?_
      refine own_iload C X own_d2_6 rfl (pc' := 8) rfl ?_
      refine own_iloadN C X own_d2_8 rfl (pc' := 9) rfl ?_
      refine own_icmp_ge C X own_d2_9 (pcT := 82) (pc' := 12) (by decide) (by decide) rfl (fun hc9_2 => ?_) (fun hc9_2 => absurd hc9_2 (by decide))
      refine own_aloadN C X own_d2_82 rfl rfl (pc' := 83) rfl ?_
      refine own_iloadN C X own_d2_83 rfl (pc' := 84) rfl ?_
      refine own_iload C X own_d2_84 rfl (pc' := 86) rfl ?_
      refine own_iadd C X own_d2_86 (z := 3) (by decide) (pc' := 87) rfl ?_
      refine own_lloadN C X own_d2_87 rfl (pc' := 88) rfl ?_
      refine own_lastore C X own_d2_88 A (by decide) (i := 3) (Nat.le_of_ble_eq_true rfl) ge_a (pc' := 89) rfl ?_
      intro T h X K_ A_
      have A : own_JA Z h a [mk, y2, y1, en, y3, mk, mk] := A_
      have KK := KK.trans K_ (allS (Or.inl (by simp)) all0)
      have u3 := own_nlt p3
      have w34_1 := own_tlt hc34
      have w48_1 := own_tlt hc48
      exact own_return C X own_d2_89 (Nat.le_of_ble_eq_true rfl) (Nat.le_of_ble_eq_true rfl) (⟨rfl, y2, y1, en, y3, KK, A, ⟨own_nge (by omega), own_nge (by omega), own_nge (by omega), trivial⟩, own_pm4_2 en y1 y2 y3⟩)
    · refine own_goto C X own_d2_52 (pc' := 82) (by decide) (by decide) ?_
      refine own_aloadN C X own_d2_82 rfl rfl (pc' := 83) rfl ?_
      refine own_iloadN C X own_d2_83 rfl (pc' := 84) rfl ?_
      refine own_iload C X own_d2_84 rfl (pc' := 86) rfl ?_
      refine own_iadd C X own_d2_86 (z := 1) (by decide) (pc' := 87) rfl ?_
      refine own_lloadN C X own_d2_87 rfl (pc' := 88) rfl ?_
      refine own_lastore C X own_d2_88 A (by decide) (i := 1) (Nat.le_of_ble_eq_true rfl) ge_a (pc' := 89) rfl ?_
      intro T h X K_ A_
      have A : own_JA Z h a [mk, en, y1, y2, y3, mk, mk] := A_
      have KK := KK.trans K_ (allS (Or.inl (by simp)) all0)
      have u3 := own_nlt p3
      have w34_1 := own_tlt hc34
      have w48_1 := own_nlt hc48
      exact own_return C X own_d2_89 (Nat.le_of_ble_eq_true rfl) (Nat.le_of_ble_eq_true rfl) (⟨rfl, en, y1, y2, y3, KK, A, ⟨own_nge (by omega), own_nge (by omega), own_nge (by omega), trivial⟩, own_pm4_0 en y1 y2 y3⟩)
theorem own_ef_rl50 (a : Addr) (en : Int64) (m : MethodId) : entryFrame m #[(.ref a), (.int (0 : Int32)), (.int (5 : Int32)), (.long en)] 7 = mkF m 0 #[.val (.ref a), .val (.int (0 : Int32)), .val (.int (5 : Int32)), .val (.long en), .second, .unset, .unset] [] := by first | (simp [entryFrame, mkF, argsToLocals, Value.category]; done) | rfl
set_option maxRecDepth 65536 in
set_option maxHeartbeats 40000000 in
theorem own_m_rl50 (l : Launch) (Z : State) (a0 : Array Value) (hw : ∀ d ∈ tables_1, d.before a0 Z = true) (a : Addr) (en : Int64) (h0 : Heap) (n0 : Nat) (hn0 : n0 ≤ h0.size) (y0 y1 y2 y3 y4 mk : Int64) (A : own_JA Z h0 a [y0, y1, y2, y3, y4, mk, mk]) (ge_a : n0 ≤ a) (p3 : ¬ y1 < y3) (p4 : ¬ y1 < y4) : own_Met l Z n0 (⟨"com/example/stablemate/stablemate/SliceHeaps", "replaceLargest", "([JIIJ)V"⟩ : MethodName) prog_40_method_4_code 7 none [] ({ frames := 0, cells := 0, slots := 0, locals := 0 } : Room) #[(.ref a), (.int (0 : Int32)), (.int (5 : Int32)), (.long en)] h0 (fun v h => v = none ∧ ∃ r0 r1 r2 r3 r4 : Int64, Keep h0 h [a] ∧ own_JA Z h a [r0, r1, r2, r3, r4, mk, mk] ∧ (¬ r0 < r1 ∧ ¬ r0 < r2 ∧ ¬ r1 < r3 ∧ ¬ r1 < r4 ∧ True) ∧ ∀ z, own_cnt [en, y1, y2, y3, y4] z 0 = own_cnt [r0, r1, r2, r3, r4] z 0) := by
  refine own_body (plainFor_of_name own_pn_com_example_stablemate_stablemate_SliceHeaps) hn0 (own_ef_rl50 a en) ?_
  intro p e s m below meth c T C X
  have KK := Keep.refl h0 [a]
  refine own_iconst C X own_d2_0 (v := 0) (by decide) (pc' := 1) rfl ?_
  refine own_istore C X own_d2_1 (L' := #[.val (.ref a), .val (.int (0 : Int32)), .val (.int (5 : Int32)), .val (.long en), .second, .val (.int (0 : Int32)), .unset]) rfl (pc' := 3) rfl ?_
  refine own_iconst C X own_d2_3 (v := 1) (by decide) (pc' := 4) rfl ?_
  refine own_istore C X own_d2_4 (L' := #[.val (.ref a), .val (.int (0 : Int32)), .val (.int (5 : Int32)), .val (.long en), .second, .val (.int (0 : Int32)), .val (.int (1 : Int32))]) rfl (pc' := 6) rfl ?_
  refine own_iload C X own_d2_6 rfl (pc' := 8) rfl ?_
  refine own_iloadN C X own_d2_8 rfl (pc' := 9) rfl ?_
  refine own_icmp_ge C X own_d2_9 (pcT := 82) (pc' := 12) (by decide) (by decide) rfl (fun hc9 => absurd hc9 (by decide)) (fun hc9 => ?_)
  refine own_iload C X own_d2_12 rfl (pc' := 14) rfl ?_
  refine own_iconst C X own_d2_14 (v := 1) (by decide) (pc' := 15) rfl ?_
  refine own_iadd C X own_d2_15 (z := 2) (by decide) (pc' := 16) rfl ?_
  refine own_iloadN C X own_d2_16 rfl (pc' := 17) rfl ?_
  refine own_icmp_ge C X own_d2_17 (pcT := 41) (pc' := 20) (by decide) (by decide) rfl (fun hc17 => absurd hc17 (by decide)) (fun hc17 => ?_)
  refine own_aloadN C X own_d2_20 rfl rfl (pc' := 21) rfl ?_
  refine own_iloadN C X own_d2_21 rfl (pc' := 22) rfl ?_
  refine own_iload C X own_d2_22 rfl (pc' := 24) rfl ?_
  refine own_iadd C X own_d2_24 (z := 1) (by decide) (pc' := 25) rfl ?_
  refine own_iconst C X own_d2_25 (v := 1) (by decide) (pc' := 26) rfl ?_
  refine own_iadd C X own_d2_26 (z := 2) (by decide) (pc' := 27) rfl ?_
  refine own_laload C X own_d2_27 A (by decide) (i := 2) rfl (pc' := 28) rfl ?_
  refine own_aloadN C X own_d2_28 rfl rfl (pc' := 29) rfl ?_
  refine own_iloadN C X own_d2_29 rfl (pc' := 30) rfl ?_
  refine own_iload C X own_d2_30 rfl (pc' := 32) rfl ?_
  refine own_iadd C X own_d2_32 (z := 1) (by decide) (pc' := 33) rfl ?_
  refine own_laload C X own_d2_33 A (by decide) (i := 1) rfl (pc' := 34) rfl ?_
  refine own_lcmp_le C X own_d2_34 own_d2_35 (pcT := 41) (pc' := 38) (by decide) (by decide) rfl (fun hc34 => ?_) (fun hc34 => ?_)
  · refine own_aloadN C X own_d2_41 rfl rfl (pc' := 42) rfl ?_
    refine own_iloadN C X own_d2_42 rfl (pc' := 43) rfl ?_
    refine own_iload C X own_d2_43 rfl (pc' := 45) rfl ?_
    refine own_iadd C X own_d2_45 (z := 1) (by decide) (pc' := 46) rfl ?_
    refine own_laload C X own_d2_46 A (by decide) (i := 1) rfl (pc' := 47) rfl ?_
    refine own_lloadN C X own_d2_47 rfl (pc' := 48) rfl ?_
    refine own_lcmp_gt C X own_d2_48 own_d2_49 (pcT := 55) (pc' := 52) (by decide) (by decide) rfl (fun hc48 => ?_) (fun hc48 => ?_)
    · refine own_aloadN C X own_d2_55 rfl rfl (pc' := 56) rfl ?_
      refine own_iloadN C X own_d2_56 rfl (pc' := 57) rfl ?_
      refine own_iload C X own_d2_57 rfl (pc' := 59) rfl ?_
      refine own_iadd C X own_d2_59 (z := 0) (by decide) (pc' := 60) rfl ?_
      refine own_aloadN C X own_d2_60 rfl rfl (pc' := 61) rfl ?_
      refine own_iloadN C X own_d2_61 rfl (pc' := 62) rfl ?_
      refine own_iload C X own_d2_62 rfl (pc' := 64) rfl ?_
      refine own_iadd C X own_d2_64 (z := 1) (by decide) (pc' := 65) rfl ?_
      refine own_laload C X own_d2_65 A (by decide) (i := 1) rfl (pc' := 66) rfl ?_
      refine own_lastore C X own_d2_66 A (by decide) (i := 0) (Nat.le_of_ble_eq_true rfl) ge_a (pc' := 67) rfl ?_
      intro T h X K_ A_
      have A : own_JA Z h a [y1, y1, y2, y3, y4, mk, mk] := A_
      have KK := KK.trans K_ (allS (Or.inl (by simp)) all0)
      refine own_iload C X own_d2_67 rfl (pc' := 69) rfl ?_
      refine own_istore C X own_d2_69 (L' := #[.val (.ref a), .val (.int (0 : Int32)), .val (.int (5 : Int32)), .val (.long en), .second, .val (.int (1 : Int32)), .val (.int (1 : Int32))]) rfl (pc' := 71) rfl ?_
      refine own_iconst C X own_d2_71 (v := 2) (by decide) (pc' := 72) rfl ?_
      refine own_iload C X own_d2_72 rfl (pc' := 74) rfl ?_
      refine own_imul C X own_d2_74 (z := 2) (by decide) (pc' := 75) rfl ?_
      refine own_iconst C X own_d2_75 (v := 1) (by decide) (pc' := 76) rfl ?_
      refine own_iadd C X own_d2_76 (z := 3) (by decide) (pc' := 77) rfl ?_
      refine own_istore C X own_d2_77 (L' := #[.val (.ref a), .val (.int (0 : Int32)), .val (.int (5 : Int32)), .val (.long en), .second, .val (.int (1 : Int32)), .val (.int (3 : Int32))]) rfl (pc' := 79) rfl ?_
      refine own_goto C X own_d2_79 (pc' := 6) (by decide) (by decide) ?_
      refine own_iload C X own_d2_6 rfl (pc' := 8) rfl ?_
      refine own_iloadN C X own_d2_8 rfl (pc' := 9) rfl ?_
      refine own_icmp_ge C X own_d2_9 (pcT := 82) (pc' := 12) (by decide) (by decide) rfl (fun hc9_2 => absurd hc9_2 (by decide)) (fun hc9_2 => ?_)
      refine own_iload C X own_d2_12 rfl (pc' := 14) rfl ?_
      refine own_iconst C X own_d2_14 (v := 1) (by decide) (pc' := 15) rfl ?_
      refine own_iadd C X own_d2_15 (z := 4) (by decide) (pc' := 16) rfl ?_
      refine own_iloadN C X own_d2_16 rfl (pc' := 17) rfl ?_
      refine own_icmp_ge C X own_d2_17 (pcT := 41) (pc' := 20) (by decide) (by decide) rfl (fun hc17_2 => absurd hc17_2 (by decide)) (fun hc17_2 => ?_)
      refine own_aloadN C X own_d2_20 rfl rfl (pc' := 21) rfl ?_
      refine own_iloadN C X own_d2_21 rfl (pc' := 22) rfl ?_
      refine own_iload C X own_d2_22 rfl (pc' := 24) rfl ?_
      refine own_iadd C X own_d2_24 (z := 3) (by decide) (pc' := 25) rfl ?_
      refine own_iconst C X own_d2_25 (v := 1) (by decide) (pc' := 26) rfl ?_
      refine own_iadd C X own_d2_26 (z := 4) (by decide) (pc' := 27) rfl ?_
      refine own_laload C X own_d2_27 A (by decide) (i := 4) rfl (pc' := 28) rfl ?_
      refine own_aloadN C X own_d2_28 rfl rfl (pc' := 29) rfl ?_
      refine own_iloadN C X own_d2_29 rfl (pc' := 30) rfl ?_
      refine own_iload C X own_d2_30 rfl (pc' := 32) rfl ?_
      refine own_iadd C X own_d2_32 (z := 3) (by decide) (pc' := 33) rfl ?_
      refine own_laload C X own_d2_33 A (by decide) (i := 3) rfl (pc' := 34) rfl ?_
      refine own_lcmp_le C X own_d2_34 own_d2_35 (pcT := 41) (pc' := 38) (by decide) (by decide) rfl (fun hc34_2 => ?_) (fun hc34_2 => ?_)
      · refine own_aloadN C X own_d2_41 rfl rfl (pc' := 42) rfl ?_
        refine own_iloadN C X own_d2_42 rfl (pc' := 43) rfl ?_
        refine own_iload C X own_d2_43 rfl (pc' := 45) rfl ?_
        refine own_iadd C X own_d2_45 (z := 3) (by decide) (pc' := 46) rfl ?_
        refine own_laload C X own_d2_46 A (by decide) (i := 3) rfl (pc' := 47) rfl ?_
        refine own_lloadN C X own_d2_47 rfl (pc' := 48) rfl ?_
        refine own_lcmp_gt C X own_d2_48 own_d2_49 (pcT := 55) (pc' := 52) (by decide) (by decide) rfl (fun hc48_2 => ?_) (fun hc48_2 => ?_)
        · refine own_aloadN C X own_d2_55 rfl rfl (pc' := 56) rfl ?_
          refine own_iloadN C X own_d2_56 rfl (pc' := 57) rfl ?_
          refine own_iload C X own_d2_57 rfl (pc' := 59) rfl ?_
          refine own_iadd C X own_d2_59 (z := 1) (by decide) (pc' := 60) rfl ?_
          refine own_aloadN C X own_d2_60 rfl rfl (pc' := 61) rfl ?_
          refine own_iloadN C X own_d2_61 rfl (pc' := 62) rfl ?_
          refine own_iload C X own_d2_62 rfl (pc' := 64) rfl ?_
          refine own_iadd C X own_d2_64 (z := 3) (by decide) (pc' := 65) rfl ?_
          refine own_laload C X own_d2_65 A (by decide) (i := 3) rfl (pc' := 66) rfl ?_
          refine own_lastore C X own_d2_66 A (by decide) (i := 1) (Nat.le_of_ble_eq_true rfl) ge_a (pc' := 67) rfl ?_
          intro T h X K_ A_
          have A : own_JA Z h a [y1, y3, y2, y3, y4, mk, mk] := A_
          have KK := KK.trans K_ (allS (Or.inl (by simp)) all0)
          refine own_iload C X own_d2_67 rfl (pc' := 69) rfl ?_
          refine own_istore C X own_d2_69 (L' := #[.val (.ref a), .val (.int (0 : Int32)), .val (.int (5 : Int32)), .val (.long en), .second, .val (.int (3 : Int32)), .val (.int (3 : Int32))]) rfl (pc' := 71) rfl ?_
          refine own_iconst C X own_d2_71 (v := 2) (by decide) (pc' := 72) rfl ?_
          refine own_iload C X own_d2_72 rfl (pc' := 74) rfl ?_
          refine own_imul C X own_d2_74 (z := 6) (by decide) (pc' := 75) rfl ?_
          refine own_iconst C X own_d2_75 (v := 1) (by decide) (pc' := 76) rfl ?_
          refine own_iadd C X own_d2_76 (z := 7) (by decide) (pc' := 77) rfl ?_
          refine own_istore C X own_d2_77 (L' := #[.val (.ref a), .val (.int (0 : Int32)), .val (.int (5 : Int32)), .val (.long en), .second, .val (.int (3 : Int32)), .val (.int (7 : Int32))]) rfl (pc' := 79) rfl ?_
          refine own_goto C X own_d2_79 (pc' := 6) (by decide) (by decide) ?_
          refine own_iload C X own_d2_6 rfl (pc' := 8) rfl ?_
          refine own_iloadN C X own_d2_8 rfl (pc' := 9) rfl ?_
          refine own_icmp_ge C X own_d2_9 (pcT := 82) (pc' := 12) (by decide) (by decide) rfl (fun hc9_3 => ?_) (fun hc9_3 => absurd hc9_3 (by decide))
          refine own_aloadN C X own_d2_82 rfl rfl (pc' := 83) rfl ?_
          refine own_iloadN C X own_d2_83 rfl (pc' := 84) rfl ?_
          refine own_iload C X own_d2_84 rfl (pc' := 86) rfl ?_
          refine own_iadd C X own_d2_86 (z := 3) (by decide) (pc' := 87) rfl ?_
          refine own_lloadN C X own_d2_87 rfl (pc' := 88) rfl ?_
          refine own_lastore C X own_d2_88 A (by decide) (i := 3) (Nat.le_of_ble_eq_true rfl) ge_a (pc' := 89) rfl ?_
          intro T h X K_ A_
          have A : own_JA Z h a [y1, y3, y2, en, y4, mk, mk] := A_
          have KK := KK.trans K_ (allS (Or.inl (by simp)) all0)
          have u3 := own_nlt p3
          have u4 := own_nlt p4
          have w34_1 := own_nlt hc34
          have w48_1 := own_tlt hc48
          have w34_2 := own_nlt hc34_2
          have w48_2 := own_tlt hc48_2
          exact own_return C X own_d2_89 (Nat.le_of_ble_eq_true rfl) (Nat.le_of_ble_eq_true rfl) (⟨rfl, y1, y3, y2, en, y4, KK, A, ⟨own_nge (by omega), own_nge (by omega), own_nge (by omega), own_nge (by omega), trivial⟩, own_pm5_3 en y1 y2 y3 y4⟩)
        · refine own_goto C X own_d2_52 (pc' := 82) (by decide) (by decide) ?_
          refine own_aloadN C X own_d2_82 rfl rfl (pc' := 83) rfl ?_
          refine own_iloadN C X own_d2_83 rfl (pc' := 84) rfl ?_
          refine own_iload C X own_d2_84 rfl (pc' := 86) rfl ?_
          refine own_iadd C X own_d2_86 (z := 1) (by decide) (pc' := 87) rfl ?_
          refine own_lloadN C X own_d2_87 rfl (pc' := 88) rfl ?_
          refine own_lastore C X own_d2_88 A (by decide) (i := 1) (Nat.le_of_ble_eq_true rfl) ge_a (pc' := 89) rfl ?_
          intro T h X K_ A_
          have A : own_JA Z h a [y1, en, y2, y3, y4, mk, mk] := A_
          have KK := KK.trans K_ (allS (Or.inl (by simp)) all0)
          have u3 := own_nlt p3
          have u4 := own_nlt p4
          have w34_1 := own_nlt hc34
          have w48_1 := own_tlt hc48
          have w34_2 := own_nlt hc34_2
          have w48_2 := own_nlt hc48_2
          exact own_return C X own_d2_89 (Nat.le_of_ble_eq_true rfl) (Nat.le_of_ble_eq_true rfl) (⟨rfl, y1, en, y2, y3, y4, KK, A, ⟨own_nge (by omega), own_nge (by omega), own_nge (by omega), own_nge (by omega), trivial⟩, own_pm5_1 en y1 y2 y3 y4⟩)
      · refine own_iinc C X own_d2_38 rfl (d := 1) (by decide) (z := 4) (by decide) (L' := #[.val (.ref a), .val (.int (0 : Int32)), .val (.int (5 : Int32)), .val (.long en), .second, .val (.int (1 : Int32)), .val (.int (4 : Int32))]) rfl (pc' := 41) rfl ?_
        refine own_aloadN C X own_d2_41 rfl rfl (pc' := 42) rfl ?_
        refine own_iloadN C X own_d2_42 rfl (pc' := 43) rfl ?_
        refine own_iload C X own_d2_43 rfl (pc' := 45) rfl ?_
        refine own_iadd C X own_d2_45 (z := 4) (by decide) (pc' := 46) rfl ?_
        refine own_laload C X own_d2_46 A (by decide) (i := 4) rfl (pc' := 47) rfl ?_
        refine own_lloadN C X own_d2_47 rfl (pc' := 48) rfl ?_
        refine own_lcmp_gt C X own_d2_48 own_d2_49 (pcT := 55) (pc' := 52) (by decide) (by decide) rfl (fun hc48_2 => ?_) (fun hc48_2 => ?_)
        · refine own_aloadN C X own_d2_55 rfl rfl (pc' := 56) rfl ?_
          refine own_iloadN C X own_d2_56 rfl (pc' := 57) rfl ?_
          refine own_iload C X own_d2_57 rfl (pc' := 59) rfl ?_
          refine own_iadd C X own_d2_59 (z := 1) (by decide) (pc' := 60) rfl ?_
          refine own_aloadN C X own_d2_60 rfl rfl (pc' := 61) rfl ?_
          refine own_iloadN C X own_d2_61 rfl (pc' := 62) rfl ?_
          refine own_iload C X own_d2_62 rfl (pc' := 64) rfl ?_
          refine own_iadd C X own_d2_64 (z := 4) (by decide) (pc' := 65) rfl ?_
          refine own_laload C X own_d2_65 A (by decide) (i := 4) rfl (pc' := 66) rfl ?_
          refine own_lastore C X own_d2_66 A (by decide) (i := 1) (Nat.le_of_ble_eq_true rfl) ge_a (pc' := 67) rfl ?_
          intro T h X K_ A_
          have A : own_JA Z h a [y1, y4, y2, y3, y4, mk, mk] := A_
          have KK := KK.trans K_ (allS (Or.inl (by simp)) all0)
          refine own_iload C X own_d2_67 rfl (pc' := 69) rfl ?_
          refine own_istore C X own_d2_69 (L' := #[.val (.ref a), .val (.int (0 : Int32)), .val (.int (5 : Int32)), .val (.long en), .second, .val (.int (4 : Int32)), .val (.int (4 : Int32))]) rfl (pc' := 71) rfl ?_
          refine own_iconst C X own_d2_71 (v := 2) (by decide) (pc' := 72) rfl ?_
          refine own_iload C X own_d2_72 rfl (pc' := 74) rfl ?_
          refine own_imul C X own_d2_74 (z := 8) (by decide) (pc' := 75) rfl ?_
          refine own_iconst C X own_d2_75 (v := 1) (by decide) (pc' := 76) rfl ?_
          refine own_iadd C X own_d2_76 (z := 9) (by decide) (pc' := 77) rfl ?_
          refine own_istore C X own_d2_77 (L' := #[.val (.ref a), .val (.int (0 : Int32)), .val (.int (5 : Int32)), .val (.long en), .second, .val (.int (4 : Int32)), .val (.int (9 : Int32))]) rfl (pc' := 79) rfl ?_
          refine own_goto C X own_d2_79 (pc' := 6) (by decide) (by decide) ?_
          refine own_iload C X own_d2_6 rfl (pc' := 8) rfl ?_
          refine own_iloadN C X own_d2_8 rfl (pc' := 9) rfl ?_
          refine own_icmp_ge C X own_d2_9 (pcT := 82) (pc' := 12) (by decide) (by decide) rfl (fun hc9_3 => ?_) (fun hc9_3 => absurd hc9_3 (by decide))
          refine own_aloadN C X own_d2_82 rfl rfl (pc' := 83) rfl ?_
          refine own_iloadN C X own_d2_83 rfl (pc' := 84) rfl ?_
          refine own_iload C X own_d2_84 rfl (pc' := 86) rfl ?_
          refine own_iadd C X own_d2_86 (z := 4) (by decide) (pc' := 87) rfl ?_
          refine own_lloadN C X own_d2_87 rfl (pc' := 88) rfl ?_
          refine own_lastore C X own_d2_88 A (by decide) (i := 4) (Nat.le_of_ble_eq_true rfl) ge_a (pc' := 89) rfl ?_
          intro T h X K_ A_
          have A : own_JA Z h a [y1, y4, y2, y3, en, mk, mk] := A_
          have KK := KK.trans K_ (allS (Or.inl (by simp)) all0)
          have u3 := own_nlt p3
          have u4 := own_nlt p4
          have w34_1 := own_nlt hc34
          have w48_1 := own_tlt hc48
          have w34_2 := own_tlt hc34_2
          have w48_2 := own_tlt hc48_2
          exact own_return C X own_d2_89 (Nat.le_of_ble_eq_true rfl) (Nat.le_of_ble_eq_true rfl) (⟨rfl, y1, y4, y2, y3, en, KK, A, ⟨own_nge (by omega), own_nge (by omega), own_nge (by omega), own_nge (by omega), trivial⟩, own_pm5_4 en y1 y2 y3 y4⟩)
        · refine own_goto C X own_d2_52 (pc' := 82) (by decide) (by decide) ?_
          refine own_aloadN C X own_d2_82 rfl rfl (pc' := 83) rfl ?_
          refine own_iloadN C X own_d2_83 rfl (pc' := 84) rfl ?_
          refine own_iload C X own_d2_84 rfl (pc' := 86) rfl ?_
          refine own_iadd C X own_d2_86 (z := 1) (by decide) (pc' := 87) rfl ?_
          refine own_lloadN C X own_d2_87 rfl (pc' := 88) rfl ?_
          refine own_lastore C X own_d2_88 A (by decide) (i := 1) (Nat.le_of_ble_eq_true rfl) ge_a (pc' := 89) rfl ?_
          intro T h X K_ A_
          have A : own_JA Z h a [y1, en, y2, y3, y4, mk, mk] := A_
          have KK := KK.trans K_ (allS (Or.inl (by simp)) all0)
          have u3 := own_nlt p3
          have u4 := own_nlt p4
          have w34_1 := own_nlt hc34
          have w48_1 := own_tlt hc48
          have w34_2 := own_tlt hc34_2
          have w48_2 := own_nlt hc48_2
          exact own_return C X own_d2_89 (Nat.le_of_ble_eq_true rfl) (Nat.le_of_ble_eq_true rfl) (⟨rfl, y1, en, y2, y3, y4, KK, A, ⟨own_nge (by omega), own_nge (by omega), own_nge (by omega), own_nge (by omega), trivial⟩, own_pm5_1 en y1 y2 y3 y4⟩)
    · refine own_goto C X own_d2_52 (pc' := 82) (by decide) (by decide) ?_
      refine own_aloadN C X own_d2_82 rfl rfl (pc' := 83) rfl ?_
      refine own_iloadN C X own_d2_83 rfl (pc' := 84) rfl ?_
      refine own_iload C X own_d2_84 rfl (pc' := 86) rfl ?_
      refine own_iadd C X own_d2_86 (z := 0) (by decide) (pc' := 87) rfl ?_
      refine own_lloadN C X own_d2_87 rfl (pc' := 88) rfl ?_
      refine own_lastore C X own_d2_88 A (by decide) (i := 0) (Nat.le_of_ble_eq_true rfl) ge_a (pc' := 89) rfl ?_
      intro T h X K_ A_
      have A : own_JA Z h a [en, y1, y2, y3, y4, mk, mk] := A_
      have KK := KK.trans K_ (allS (Or.inl (by simp)) all0)
      have u3 := own_nlt p3
      have u4 := own_nlt p4
      have w34_1 := own_nlt hc34
      have w48_1 := own_nlt hc48
      exact own_return C X own_d2_89 (Nat.le_of_ble_eq_true rfl) (Nat.le_of_ble_eq_true rfl) (⟨rfl, en, y1, y2, y3, y4, KK, A, ⟨own_nge (by omega), own_nge (by omega), own_nge (by omega), own_nge (by omega), trivial⟩, own_pm5_0 en y1 y2 y3 y4⟩)
  · refine own_iinc C X own_d2_38 rfl (d := 1) (by decide) (z := 2) (by decide) (L' := #[.val (.ref a), .val (.int (0 : Int32)), .val (.int (5 : Int32)), .val (.long en), .second, .val (.int (0 : Int32)), .val (.int (2 : Int32))]) rfl (pc' := 41) rfl ?_
    refine own_aloadN C X own_d2_41 rfl rfl (pc' := 42) rfl ?_
    refine own_iloadN C X own_d2_42 rfl (pc' := 43) rfl ?_
    refine own_iload C X own_d2_43 rfl (pc' := 45) rfl ?_
    refine own_iadd C X own_d2_45 (z := 2) (by decide) (pc' := 46) rfl ?_
    refine own_laload C X own_d2_46 A (by decide) (i := 2) rfl (pc' := 47) rfl ?_
    refine own_lloadN C X own_d2_47 rfl (pc' := 48) rfl ?_
    refine own_lcmp_gt C X own_d2_48 own_d2_49 (pcT := 55) (pc' := 52) (by decide) (by decide) rfl (fun hc48 => ?_) (fun hc48 => ?_)
    · refine own_aloadN C X own_d2_55 rfl rfl (pc' := 56) rfl ?_
      refine own_iloadN C X own_d2_56 rfl (pc' := 57) rfl ?_
      refine own_iload C X own_d2_57 rfl (pc' := 59) rfl ?_
      refine own_iadd C X own_d2_59 (z := 0) (by decide) (pc' := 60) rfl ?_
      refine own_aloadN C X own_d2_60 rfl rfl (pc' := 61) rfl ?_
      refine own_iloadN C X own_d2_61 rfl (pc' := 62) rfl ?_
      refine own_iload C X own_d2_62 rfl (pc' := 64) rfl ?_
      refine own_iadd C X own_d2_64 (z := 2) (by decide) (pc' := 65) rfl ?_
      refine own_laload C X own_d2_65 A (by decide) (i := 2) rfl (pc' := 66) rfl ?_
      refine own_lastore C X own_d2_66 A (by decide) (i := 0) (Nat.le_of_ble_eq_true rfl) ge_a (pc' := 67) rfl ?_
      intro T h X K_ A_
      have A : own_JA Z h a [y2, y1, y2, y3, y4, mk, mk] := A_
      have KK := KK.trans K_ (allS (Or.inl (by simp)) all0)
      refine own_iload C X own_d2_67 rfl (pc' := 69) rfl ?_
      refine own_istore C X own_d2_69 (L' := #[.val (.ref a), .val (.int (0 : Int32)), .val (.int (5 : Int32)), .val (.long en), .second, .val (.int (2 : Int32)), .val (.int (2 : Int32))]) rfl (pc' := 71) rfl ?_
      refine own_iconst C X own_d2_71 (v := 2) (by decide) (pc' := 72) rfl ?_
      refine own_iload C X own_d2_72 rfl (pc' := 74) rfl ?_
      refine own_imul C X own_d2_74 (z := 4) (by decide) (pc' := 75) rfl ?_
      refine own_iconst C X own_d2_75 (v := 1) (by decide) (pc' := 76) rfl ?_
      refine own_iadd C X own_d2_76 (z := 5) (by decide) (pc' := 77) rfl ?_
      refine own_istore C X own_d2_77 (L' := #[.val (.ref a), .val (.int (0 : Int32)), .val (.int (5 : Int32)), .val (.long en), .second, .val (.int (2 : Int32)), .val (.int (5 : Int32))]) rfl (pc' := 79) rfl ?_
      refine own_goto C X own_d2_79 (pc' := 6) (by decide) (by decide) ?_
      refine own_iload C X own_d2_6 rfl (pc' := 8) rfl ?_
      refine own_iloadN C X own_d2_8 rfl (pc' := 9) rfl ?_
      refine own_icmp_ge C X own_d2_9 (pcT := 82) (pc' := 12) (by decide) (by decide) rfl (fun hc9_2 => ?_) (fun hc9_2 => absurd hc9_2 (by decide))
      refine own_aloadN C X own_d2_82 rfl rfl (pc' := 83) rfl ?_
      refine own_iloadN C X own_d2_83 rfl (pc' := 84) rfl ?_
      refine own_iload C X own_d2_84 rfl (pc' := 86) rfl ?_
      refine own_iadd C X own_d2_86 (z := 2) (by decide) (pc' := 87) rfl ?_
      refine own_lloadN C X own_d2_87 rfl (pc' := 88) rfl ?_
      refine own_lastore C X own_d2_88 A (by decide) (i := 2) (Nat.le_of_ble_eq_true rfl) ge_a (pc' := 89) rfl ?_
      intro T h X K_ A_
      have A : own_JA Z h a [y2, y1, en, y3, y4, mk, mk] := A_
      have KK := KK.trans K_ (allS (Or.inl (by simp)) all0)
      have u3 := own_nlt p3
      have u4 := own_nlt p4
      have w34_1 := own_tlt hc34
      have w48_1 := own_tlt hc48
      exact own_return C X own_d2_89 (Nat.le_of_ble_eq_true rfl) (Nat.le_of_ble_eq_true rfl) (⟨rfl, y2, y1, en, y3, y4, KK, A, ⟨own_nge (by omega), own_nge (by omega), own_nge (by omega), own_nge (by omega), trivial⟩, own_pm5_2 en y1 y2 y3 y4⟩)
    · refine own_goto C X own_d2_52 (pc' := 82) (by decide) (by decide) ?_
      refine own_aloadN C X own_d2_82 rfl rfl (pc' := 83) rfl ?_
      refine own_iloadN C X own_d2_83 rfl (pc' := 84) rfl ?_
      refine own_iload C X own_d2_84 rfl (pc' := 86) rfl ?_
      refine own_iadd C X own_d2_86 (z := 0) (by decide) (pc' := 87) rfl ?_
      refine own_lloadN C X own_d2_87 rfl (pc' := 88) rfl ?_
      refine own_lastore C X own_d2_88 A (by decide) (i := 0) (Nat.le_of_ble_eq_true rfl) ge_a (pc' := 89) rfl ?_
      intro T h X K_ A_
      have A : own_JA Z h a [en, y1, y2, y3, y4, mk, mk] := A_
      have KK := KK.trans K_ (allS (Or.inl (by simp)) all0)
      have u3 := own_nlt p3
      have u4 := own_nlt p4
      have w34_1 := own_tlt hc34
      have w48_1 := own_nlt hc48
      exact own_return C X own_d2_89 (Nat.le_of_ble_eq_true rfl) (Nat.le_of_ble_eq_true rfl) (⟨rfl, en, y1, y2, y3, y4, KK, A, ⟨own_nge (by omega), own_nge (by omega), own_nge (by omega), own_nge (by omega), trivial⟩, own_pm5_0 en y1 y2 y3 y4⟩)
theorem own_ef_rl51 (a : Addr) (en : Int64) (m : MethodId) : entryFrame m #[(.ref a), (.int (1 : Int32)), (.int (5 : Int32)), (.long en)] 7 = mkF m 0 #[.val (.ref a), .val (.int (1 : Int32)), .val (.int (5 : Int32)), .val (.long en), .second, .unset, .unset] [] := by first | (simp [entryFrame, mkF, argsToLocals, Value.category]; done) | rfl
set_option maxRecDepth 65536 in
set_option maxHeartbeats 40000000 in
theorem own_m_rl51 (l : Launch) (Z : State) (a0 : Array Value) (hw : ∀ d ∈ tables_1, d.before a0 Z = true) (a : Addr) (en : Int64) (h0 : Heap) (n0 : Nat) (hn0 : n0 ≤ h0.size) (y0 y1 y2 y3 y4 mk : Int64) (A : own_JA Z h0 a [mk, y0, y1, y2, y3, y4, mk]) (ge_a : n0 ≤ a) (p3 : ¬ y1 < y3) (p4 : ¬ y1 < y4) : own_Met l Z n0 (⟨"com/example/stablemate/stablemate/SliceHeaps", "replaceLargest", "([JIIJ)V"⟩ : MethodName) prog_40_method_4_code 7 none [] ({ frames := 0, cells := 0, slots := 0, locals := 0 } : Room) #[(.ref a), (.int (1 : Int32)), (.int (5 : Int32)), (.long en)] h0 (fun v h => v = none ∧ ∃ r0 r1 r2 r3 r4 : Int64, Keep h0 h [a] ∧ own_JA Z h a [mk, r0, r1, r2, r3, r4, mk] ∧ (¬ r0 < r1 ∧ ¬ r0 < r2 ∧ ¬ r1 < r3 ∧ ¬ r1 < r4 ∧ True) ∧ ∀ z, own_cnt [en, y1, y2, y3, y4] z 0 = own_cnt [r0, r1, r2, r3, r4] z 0) := by
  refine own_body (plainFor_of_name own_pn_com_example_stablemate_stablemate_SliceHeaps) hn0 (own_ef_rl51 a en) ?_
  intro p e s m below meth c T C X
  have KK := Keep.refl h0 [a]
  refine own_iconst C X own_d2_0 (v := 0) (by decide) (pc' := 1) rfl ?_
  refine own_istore C X own_d2_1 (L' := #[.val (.ref a), .val (.int (1 : Int32)), .val (.int (5 : Int32)), .val (.long en), .second, .val (.int (0 : Int32)), .unset]) rfl (pc' := 3) rfl ?_
  refine own_iconst C X own_d2_3 (v := 1) (by decide) (pc' := 4) rfl ?_
  refine own_istore C X own_d2_4 (L' := #[.val (.ref a), .val (.int (1 : Int32)), .val (.int (5 : Int32)), .val (.long en), .second, .val (.int (0 : Int32)), .val (.int (1 : Int32))]) rfl (pc' := 6) rfl ?_
  refine own_iload C X own_d2_6 rfl (pc' := 8) rfl ?_
  refine own_iloadN C X own_d2_8 rfl (pc' := 9) rfl ?_
  refine own_icmp_ge C X own_d2_9 (pcT := 82) (pc' := 12) (by decide) (by decide) rfl (fun hc9 => absurd hc9 (by decide)) (fun hc9 => ?_)
  refine own_iload C X own_d2_12 rfl (pc' := 14) rfl ?_
  refine own_iconst C X own_d2_14 (v := 1) (by decide) (pc' := 15) rfl ?_
  refine own_iadd C X own_d2_15 (z := 2) (by decide) (pc' := 16) rfl ?_
  refine own_iloadN C X own_d2_16 rfl (pc' := 17) rfl ?_
  refine own_icmp_ge C X own_d2_17 (pcT := 41) (pc' := 20) (by decide) (by decide) rfl (fun hc17 => absurd hc17 (by decide)) (fun hc17 => ?_)
  refine own_aloadN C X own_d2_20 rfl rfl (pc' := 21) rfl ?_
  refine own_iloadN C X own_d2_21 rfl (pc' := 22) rfl ?_
  refine own_iload C X own_d2_22 rfl (pc' := 24) rfl ?_
  refine own_iadd C X own_d2_24 (z := 2) (by decide) (pc' := 25) rfl ?_
  refine own_iconst C X own_d2_25 (v := 1) (by decide) (pc' := 26) rfl ?_
  refine own_iadd C X own_d2_26 (z := 3) (by decide) (pc' := 27) rfl ?_
  refine own_laload C X own_d2_27 A (by decide) (i := 3) rfl (pc' := 28) rfl ?_
  refine own_aloadN C X own_d2_28 rfl rfl (pc' := 29) rfl ?_
  refine own_iloadN C X own_d2_29 rfl (pc' := 30) rfl ?_
  refine own_iload C X own_d2_30 rfl (pc' := 32) rfl ?_
  refine own_iadd C X own_d2_32 (z := 2) (by decide) (pc' := 33) rfl ?_
  refine own_laload C X own_d2_33 A (by decide) (i := 2) rfl (pc' := 34) rfl ?_
  refine own_lcmp_le C X own_d2_34 own_d2_35 (pcT := 41) (pc' := 38) (by decide) (by decide) rfl (fun hc34 => ?_) (fun hc34 => ?_)
  · refine own_aloadN C X own_d2_41 rfl rfl (pc' := 42) rfl ?_
    refine own_iloadN C X own_d2_42 rfl (pc' := 43) rfl ?_
    refine own_iload C X own_d2_43 rfl (pc' := 45) rfl ?_
    refine own_iadd C X own_d2_45 (z := 2) (by decide) (pc' := 46) rfl ?_
    refine own_laload C X own_d2_46 A (by decide) (i := 2) rfl (pc' := 47) rfl ?_
    refine own_lloadN C X own_d2_47 rfl (pc' := 48) rfl ?_
    refine own_lcmp_gt C X own_d2_48 own_d2_49 (pcT := 55) (pc' := 52) (by decide) (by decide) rfl (fun hc48 => ?_) (fun hc48 => ?_)
    · refine own_aloadN C X own_d2_55 rfl rfl (pc' := 56) rfl ?_
      refine own_iloadN C X own_d2_56 rfl (pc' := 57) rfl ?_
      refine own_iload C X own_d2_57 rfl (pc' := 59) rfl ?_
      refine own_iadd C X own_d2_59 (z := 1) (by decide) (pc' := 60) rfl ?_
      refine own_aloadN C X own_d2_60 rfl rfl (pc' := 61) rfl ?_
      refine own_iloadN C X own_d2_61 rfl (pc' := 62) rfl ?_
      refine own_iload C X own_d2_62 rfl (pc' := 64) rfl ?_
      refine own_iadd C X own_d2_64 (z := 2) (by decide) (pc' := 65) rfl ?_
      refine own_laload C X own_d2_65 A (by decide) (i := 2) rfl (pc' := 66) rfl ?_
      refine own_lastore C X own_d2_66 A (by decide) (i := 1) (Nat.le_of_ble_eq_true rfl) ge_a (pc' := 67) rfl ?_
      intro T h X K_ A_
      have A : own_JA Z h a [mk, y1, y1, y2, y3, y4, mk] := A_
      have KK := KK.trans K_ (allS (Or.inl (by simp)) all0)
      refine own_iload C X own_d2_67 rfl (pc' := 69) rfl ?_
      refine own_istore C X own_d2_69 (L' := #[.val (.ref a), .val (.int (1 : Int32)), .val (.int (5 : Int32)), .val (.long en), .second, .val (.int (1 : Int32)), .val (.int (1 : Int32))]) rfl (pc' := 71) rfl ?_
      refine own_iconst C X own_d2_71 (v := 2) (by decide) (pc' := 72) rfl ?_
      refine own_iload C X own_d2_72 rfl (pc' := 74) rfl ?_
      refine own_imul C X own_d2_74 (z := 2) (by decide) (pc' := 75) rfl ?_
      refine own_iconst C X own_d2_75 (v := 1) (by decide) (pc' := 76) rfl ?_
      refine own_iadd C X own_d2_76 (z := 3) (by decide) (pc' := 77) rfl ?_
      refine own_istore C X own_d2_77 (L' := #[.val (.ref a), .val (.int (1 : Int32)), .val (.int (5 : Int32)), .val (.long en), .second, .val (.int (1 : Int32)), .val (.int (3 : Int32))]) rfl (pc' := 79) rfl ?_
      refine own_goto C X own_d2_79 (pc' := 6) (by decide) (by decide) ?_
      refine own_iload C X own_d2_6 rfl (pc' := 8) rfl ?_
      refine own_iloadN C X own_d2_8 rfl (pc' := 9) rfl ?_
      refine own_icmp_ge C X own_d2_9 (pcT := 82) (pc' := 12) (by decide) (by decide) rfl (fun hc9_2 => absurd hc9_2 (by decide)) (fun hc9_2 => ?_)
      refine own_iload C X own_d2_12 rfl (pc' := 14) rfl ?_
      refine own_iconst C X own_d2_14 (v := 1) (by decide) (pc' := 15) rfl ?_
      refine own_iadd C X own_d2_15 (z := 4) (by decide) (pc' := 16) rfl ?_
      refine own_iloadN C X own_d2_16 rfl (pc' := 17) rfl ?_
      refine own_icmp_ge C X own_d2_17 (pcT := 41) (pc' := 20) (by decide) (by decide) rfl (fun hc17_2 => absurd hc17_2 (by decide)) (fun hc17_2 => ?_)
      refine own_aloadN C X own_d2_20 rfl rfl (pc' := 21) rfl ?_
      refine own_iloadN C X own_d2_21 rfl (pc' := 22) rfl ?_
      refine own_iload C X own_d2_22 rfl (pc' := 24) rfl ?_
      refine own_iadd C X own_d2_24 (z := 4) (by decide) (pc' := 25) rfl ?_
      refine own_iconst C X own_d2_25 (v := 1) (by decide) (pc' := 26) rfl ?_
      refine own_iadd C X own_d2_26 (z := 5) (by decide) (pc' := 27) rfl ?_
      refine own_laload C X own_d2_27 A (by decide) (i := 5) rfl (pc' := 28) rfl ?_
      refine own_aloadN C X own_d2_28 rfl rfl (pc' := 29) rfl ?_
      refine own_iloadN C X own_d2_29 rfl (pc' := 30) rfl ?_
      refine own_iload C X own_d2_30 rfl (pc' := 32) rfl ?_
      refine own_iadd C X own_d2_32 (z := 4) (by decide) (pc' := 33) rfl ?_
      refine own_laload C X own_d2_33 A (by decide) (i := 4) rfl (pc' := 34) rfl ?_
      refine own_lcmp_le C X own_d2_34 own_d2_35 (pcT := 41) (pc' := 38) (by decide) (by decide) rfl (fun hc34_2 => ?_) (fun hc34_2 => ?_)
      · refine own_aloadN C X own_d2_41 rfl rfl (pc' := 42) rfl ?_
        refine own_iloadN C X own_d2_42 rfl (pc' := 43) rfl ?_
        refine own_iload C X own_d2_43 rfl (pc' := 45) rfl ?_
        refine own_iadd C X own_d2_45 (z := 4) (by decide) (pc' := 46) rfl ?_
        refine own_laload C X own_d2_46 A (by decide) (i := 4) rfl (pc' := 47) rfl ?_
        refine own_lloadN C X own_d2_47 rfl (pc' := 48) rfl ?_
        refine own_lcmp_gt C X own_d2_48 own_d2_49 (pcT := 55) (pc' := 52) (by decide) (by decide) rfl (fun hc48_2 => ?_) (fun hc48_2 => ?_)
        · refine own_aloadN C X own_d2_55 rfl rfl (pc' := 56) rfl ?_
          refine own_iloadN C X own_d2_56 rfl (pc' := 57) rfl ?_
          refine own_iload C X own_d2_57 rfl (pc' := 59) rfl ?_
          refine own_iadd C X own_d2_59 (z := 2) (by decide) (pc' := 60) rfl ?_
          refine own_aloadN C X own_d2_60 rfl rfl (pc' := 61) rfl ?_
          refine own_iloadN C X own_d2_61 rfl (pc' := 62) rfl ?_
          refine own_iload C X own_d2_62 rfl (pc' := 64) rfl ?_
          refine own_iadd C X own_d2_64 (z := 4) (by decide) (pc' := 65) rfl ?_
          refine own_laload C X own_d2_65 A (by decide) (i := 4) rfl (pc' := 66) rfl ?_
          refine own_lastore C X own_d2_66 A (by decide) (i := 2) (Nat.le_of_ble_eq_true rfl) ge_a (pc' := 67) rfl ?_
          intro T h X K_ A_
          have A : own_JA Z h a [mk, y1, y3, y2, y3, y4, mk] := A_
          have KK := KK.trans K_ (allS (Or.inl (by simp)) all0)
          refine own_iload C X own_d2_67 rfl (pc' := 69) rfl ?_
          refine own_istore C X own_d2_69 (L' := #[.val (.ref a), .val (.int (1 : Int32)), .val (.int (5 : Int32)), .val (.long en), .second, .val (.int (3 : Int32)), .val (.int (3 : Int32))]) rfl (pc' := 71) rfl ?_
          refine own_iconst C X own_d2_71 (v := 2) (by decide) (pc' := 72) rfl ?_
          refine own_iload C X own_d2_72 rfl (pc' := 74) rfl ?_
          refine own_imul C X own_d2_74 (z := 6) (by decide) (pc' := 75) rfl ?_
          refine own_iconst C X own_d2_75 (v := 1) (by decide) (pc' := 76) rfl ?_
          refine own_iadd C X own_d2_76 (z := 7) (by decide) (pc' := 77) rfl ?_
          refine own_istore C X own_d2_77 (L' := #[.val (.ref a), .val (.int (1 : Int32)), .val (.int (5 : Int32)), .val (.long en), .second, .val (.int (3 : Int32)), .val (.int (7 : Int32))]) rfl (pc' := 79) rfl ?_
          refine own_goto C X own_d2_79 (pc' := 6) (by decide) (by decide) ?_
          refine own_iload C X own_d2_6 rfl (pc' := 8) rfl ?_
          refine own_iloadN C X own_d2_8 rfl (pc' := 9) rfl ?_
          refine own_icmp_ge C X own_d2_9 (pcT := 82) (pc' := 12) (by decide) (by decide) rfl (fun hc9_3 => ?_) (fun hc9_3 => absurd hc9_3 (by decide))
          refine own_aloadN C X own_d2_82 rfl rfl (pc' := 83) rfl ?_
          refine own_iloadN C X own_d2_83 rfl (pc' := 84) rfl ?_
          refine own_iload C X own_d2_84 rfl (pc' := 86) rfl ?_
          refine own_iadd C X own_d2_86 (z := 4) (by decide) (pc' := 87) rfl ?_
          refine own_lloadN C X own_d2_87 rfl (pc' := 88) rfl ?_
          refine own_lastore C X own_d2_88 A (by decide) (i := 4) (Nat.le_of_ble_eq_true rfl) ge_a (pc' := 89) rfl ?_
          intro T h X K_ A_
          have A : own_JA Z h a [mk, y1, y3, y2, en, y4, mk] := A_
          have KK := KK.trans K_ (allS (Or.inl (by simp)) all0)
          have u3 := own_nlt p3
          have u4 := own_nlt p4
          have w34_1 := own_nlt hc34
          have w48_1 := own_tlt hc48
          have w34_2 := own_nlt hc34_2
          have w48_2 := own_tlt hc48_2
          exact own_return C X own_d2_89 (Nat.le_of_ble_eq_true rfl) (Nat.le_of_ble_eq_true rfl) (⟨rfl, y1, y3, y2, en, y4, KK, A, ⟨own_nge (by omega), own_nge (by omega), own_nge (by omega), own_nge (by omega), trivial⟩, own_pm5_3 en y1 y2 y3 y4⟩)
        · refine own_goto C X own_d2_52 (pc' := 82) (by decide) (by decide) ?_
          refine own_aloadN C X own_d2_82 rfl rfl (pc' := 83) rfl ?_
          refine own_iloadN C X own_d2_83 rfl (pc' := 84) rfl ?_
          refine own_iload C X own_d2_84 rfl (pc' := 86) rfl ?_
          refine own_iadd C X own_d2_86 (z := 2) (by decide) (pc' := 87) rfl ?_
          refine own_lloadN C X own_d2_87 rfl (pc' := 88) rfl ?_
          refine own_lastore C X own_d2_88 A (by decide) (i := 2) (Nat.le_of_ble_eq_true rfl) ge_a (pc' := 89) rfl ?_
          intro T h X K_ A_
          have A : own_JA Z h a [mk, y1, en, y2, y3, y4, mk] := A_
          have KK := KK.trans K_ (allS (Or.inl (by simp)) all0)
          have u3 := own_nlt p3
          have u4 := own_nlt p4
          have w34_1 := own_nlt hc34
          have w48_1 := own_tlt hc48
          have w34_2 := own_nlt hc34_2
          have w48_2 := own_nlt hc48_2
          exact own_return C X own_d2_89 (Nat.le_of_ble_eq_true rfl) (Nat.le_of_ble_eq_true rfl) (⟨rfl, y1, en, y2, y3, y4, KK, A, ⟨own_nge (by omega), own_nge (by omega), own_nge (by omega), own_nge (by omega), trivial⟩, own_pm5_1 en y1 y2 y3 y4⟩)
      · refine own_iinc C X own_d2_38 rfl (d := 1) (by decide) (z := 4) (by decide) (L' := #[.val (.ref a), .val (.int (1 : Int32)), .val (.int (5 : Int32)), .val (.long en), .second, .val (.int (1 : Int32)), .val (.int (4 : Int32))]) rfl (pc' := 41) rfl ?_
        refine own_aloadN C X own_d2_41 rfl rfl (pc' := 42) rfl ?_
        refine own_iloadN C X own_d2_42 rfl (pc' := 43) rfl ?_
        refine own_iload C X own_d2_43 rfl (pc' := 45) rfl ?_
        refine own_iadd C X own_d2_45 (z := 5) (by decide) (pc' := 46) rfl ?_
        refine own_laload C X own_d2_46 A (by decide) (i := 5) rfl (pc' := 47) rfl ?_
        refine own_lloadN C X own_d2_47 rfl (pc' := 48) rfl ?_
        refine own_lcmp_gt C X own_d2_48 own_d2_49 (pcT := 55) (pc' := 52) (by decide) (by decide) rfl (fun hc48_2 => ?_) (fun hc48_2 => ?_)
        · refine own_aloadN C X own_d2_55 rfl rfl (pc' := 56) rfl ?_
          refine own_iloadN C X own_d2_56 rfl (pc' := 57) rfl ?_
          refine own_iload C X own_d2_57 rfl (pc' := 59) rfl ?_
          refine own_iadd C X own_d2_59 (z := 2) (by decide) (pc' := 60) rfl ?_
          refine own_aloadN C X own_d2_60 rfl rfl (pc' := 61) rfl ?_
          refine own_iloadN C X own_d2_61 rfl (pc' := 62) rfl ?_
          refine own_iload C X own_d2_62 rfl (pc' := 64) rfl ?_
          refine own_iadd C X own_d2_64 (z := 5) (by decide) (pc' := 65) rfl ?_
          refine own_laload C X own_d2_65 A (by decide) (i := 5) rfl (pc' := 66) rfl ?_
          refine own_lastore C X own_d2_66 A (by decide) (i := 2) (Nat.le_of_ble_eq_true rfl) ge_a (pc' := 67) rfl ?_
          intro T h X K_ A_
          have A : own_JA Z h a [mk, y1, y4, y2, y3, y4, mk] := A_
          have KK := KK.trans K_ (allS (Or.inl (by simp)) all0)
          refine own_iload C X own_d2_67 rfl (pc' := 69) rfl ?_
          refine own_istore C X own_d2_69 (L' := #[.val (.ref a), .val (.int (1 : Int32)), .val (.int (5 : Int32)), .val (.long en), .second, .val (.int (4 : Int32)), .val (.int (4 : Int32))]) rfl (pc' := 71) rfl ?_
          refine own_iconst C X own_d2_71 (v := 2) (by decide) (pc' := 72) rfl ?_
          refine own_iload C X own_d2_72 rfl (pc' := 74) rfl ?_
          refine own_imul C X own_d2_74 (z := 8) (by decide) (pc' := 75) rfl ?_
          refine own_iconst C X own_d2_75 (v := 1) (by decide) (pc' := 76) rfl ?_
          refine own_iadd C X own_d2_76 (z := 9) (by decide) (pc' := 77) rfl ?_
          refine own_istore C X own_d2_77 (L' := #[.val (.ref a), .val (.int (1 : Int32)), .val (.int (5 : Int32)), .val (.long en), .second, .val (.int (4 : Int32)), .val (.int (9 : Int32))]) rfl (pc' := 79) rfl ?_
          refine own_goto C X own_d2_79 (pc' := 6) (by decide) (by decide) ?_
          refine own_iload C X own_d2_6 rfl (pc' := 8) rfl ?_
          refine own_iloadN C X own_d2_8 rfl (pc' := 9) rfl ?_
          refine own_icmp_ge C X own_d2_9 (pcT := 82) (pc' := 12) (by decide) (by decide) rfl (fun hc9_3 => ?_) (fun hc9_3 => absurd hc9_3 (by decide))
          refine own_aloadN C X own_d2_82 rfl rfl (pc' := 83) rfl ?_
          refine own_iloadN C X own_d2_83 rfl (pc' := 84) rfl ?_
          refine own_iload C X own_d2_84 rfl (pc' := 86) rfl ?_
          refine own_iadd C X own_d2_86 (z := 5) (by decide) (pc' := 87) rfl ?_
          refine own_lloadN C X own_d2_87 rfl (pc' := 88) rfl ?_
          refine own_lastore C X own_d2_88 A (by decide) (i := 5) (Nat.le_of_ble_eq_true rfl) ge_a (pc' := 89) rfl ?_
          intro T h X K_ A_
          have A : own_JA Z h a [mk, y1, y4, y2, y3, en, mk] := A_
          have KK := KK.trans K_ (allS (Or.inl (by simp)) all0)
          have u3 := own_nlt p3
          have u4 := own_nlt p4
          have w34_1 := own_nlt hc34
          have w48_1 := own_tlt hc48
          have w34_2 := own_tlt hc34_2
          have w48_2 := own_tlt hc48_2
          exact own_return C X own_d2_89 (Nat.le_of_ble_eq_true rfl) (Nat.le_of_ble_eq_true rfl) (⟨rfl, y1, y4, y2, y3, en, KK, A, ⟨own_nge (by omega), own_nge (by omega), own_nge (by omega), own_nge (by omega), trivial⟩, own_pm5_4 en y1 y2 y3 y4⟩)
        · refine own_goto C X own_d2_52 (pc' := 82) (by decide) (by decide) ?_
          refine own_aloadN C X own_d2_82 rfl rfl (pc' := 83) rfl ?_
          refine own_iloadN C X own_d2_83 rfl (pc' := 84) rfl ?_
          refine own_iload C X own_d2_84 rfl (pc' := 86) rfl ?_
          refine own_iadd C X own_d2_86 (z := 2) (by decide) (pc' := 87) rfl ?_
          refine own_lloadN C X own_d2_87 rfl (pc' := 88) rfl ?_
          refine own_lastore C X own_d2_88 A (by decide) (i := 2) (Nat.le_of_ble_eq_true rfl) ge_a (pc' := 89) rfl ?_
          intro T h X K_ A_
          have A : own_JA Z h a [mk, y1, en, y2, y3, y4, mk] := A_
          have KK := KK.trans K_ (allS (Or.inl (by simp)) all0)
          have u3 := own_nlt p3
          have u4 := own_nlt p4
          have w34_1 := own_nlt hc34
          have w48_1 := own_tlt hc48
          have w34_2 := own_tlt hc34_2
          have w48_2 := own_nlt hc48_2
          exact own_return C X own_d2_89 (Nat.le_of_ble_eq_true rfl) (Nat.le_of_ble_eq_true rfl) (⟨rfl, y1, en, y2, y3, y4, KK, A, ⟨own_nge (by omega), own_nge (by omega), own_nge (by omega), own_nge (by omega), trivial⟩, own_pm5_1 en y1 y2 y3 y4⟩)
    · refine own_goto C X own_d2_52 (pc' := 82) (by decide) (by decide) ?_
      refine own_aloadN C X own_d2_82 rfl rfl (pc' := 83) rfl ?_
      refine own_iloadN C X own_d2_83 rfl (pc' := 84) rfl ?_
      refine own_iload C X own_d2_84 rfl (pc' := 86) rfl ?_
      refine own_iadd C X own_d2_86 (z := 1) (by decide) (pc' := 87) rfl ?_
      refine own_lloadN C X own_d2_87 rfl (pc' := 88) rfl ?_
      refine own_lastore C X own_d2_88 A (by decide) (i := 1) (Nat.le_of_ble_eq_true rfl) ge_a (pc' := 89) rfl ?_
      intro T h X K_ A_
      have A : own_JA Z h a [mk, en, y1, y2, y3, y4, mk] := A_
      have KK := KK.trans K_ (allS (Or.inl (by simp)) all0)
      have u3 := own_nlt p3
      have u4 := own_nlt p4
      have w34_1 := own_nlt hc34
      have w48_1 := own_nlt hc48
      exact own_return C X own_d2_89 (Nat.le_of_ble_eq_true rfl) (Nat.le_of_ble_eq_true rfl) (⟨rfl, en, y1, y2, y3, y4, KK, A, ⟨own_nge (by omega), own_nge (by omega), own_nge (by omega), own_nge (by omega), trivial⟩, own_pm5_0 en y1 y2 y3 y4⟩)
  · refine own_iinc C X own_d2_38 rfl (d := 1) (by decide) (z := 2) (by decide) (L' := #[.val (.ref a), .val (.int (1 : Int32)), .val (.int (5 : Int32)), .val (.long en), .second, .val (.int (0 : Int32)), .val (.int (2 : Int32))]) rfl (pc' := 41) rfl ?_
    refine own_aloadN C X own_d2_41 rfl rfl (pc' := 42) rfl ?_
    refine own_iloadN C X own_d2_42 rfl (pc' := 43) rfl ?_
    refine own_iload C X own_d2_43 rfl (pc' := 45) rfl ?_
    refine own_iadd C X own_d2_45 (z := 3) (by decide) (pc' := 46) rfl ?_
    refine own_laload C X own_d2_46 A (by decide) (i := 3) rfl (pc' := 47) rfl ?_
    refine own_lloadN C X own_d2_47 rfl (pc' := 48) rfl ?_
    refine own_lcmp_gt C X own_d2_48 own_d2_49 (pcT := 55) (pc' := 52) (by decide) (by decide) rfl (fun hc48 => ?_) (fun hc48 => ?_)
    · refine own_aloadN C X own_d2_55 rfl rfl (pc' := 56) rfl ?_
      refine own_iloadN C X own_d2_56 rfl (pc' := 57) rfl ?_
      refine own_iload C X own_d2_57 rfl (pc' := 59) rfl ?_
      refine own_iadd C X own_d2_59 (z := 1) (by decide) (pc' := 60) rfl ?_
      refine own_aloadN C X own_d2_60 rfl rfl (pc' := 61) rfl ?_
      refine own_iloadN C X own_d2_61 rfl (pc' := 62) rfl ?_
      refine own_iload C X own_d2_62 rfl (pc' := 64) rfl ?_
      refine own_iadd C X own_d2_64 (z := 3) (by decide) (pc' := 65) rfl ?_
      refine own_laload C X own_d2_65 A (by decide) (i := 3) rfl (pc' := 66) rfl ?_
      refine own_lastore C X own_d2_66 A (by decide) (i := 1) (Nat.le_of_ble_eq_true rfl) ge_a (pc' := 67) rfl ?_
      intro T h X K_ A_
      have A : own_JA Z h a [mk, y2, y1, y2, y3, y4, mk] := A_
      have KK := KK.trans K_ (allS (Or.inl (by simp)) all0)
      refine own_iload C X own_d2_67 rfl (pc' := 69) rfl ?_
      refine own_istore C X own_d2_69 (L' := #[.val (.ref a), .val (.int (1 : Int32)), .val (.int (5 : Int32)), .val (.long en), .second, .val (.int (2 : Int32)), .val (.int (2 : Int32))]) rfl (pc' := 71) rfl ?_
      refine own_iconst C X own_d2_71 (v := 2) (by decide) (pc' := 72) rfl ?_
      refine own_iload C X own_d2_72 rfl (pc' := 74) rfl ?_
      refine own_imul C X own_d2_74 (z := 4) (by decide) (pc' := 75) rfl ?_
      refine own_iconst C X own_d2_75 (v := 1) (by decide) (pc' := 76) rfl ?_
      refine own_iadd C X own_d2_76 (z := 5) (by decide) (pc' := 77) rfl ?_
      refine own_istore C X own_d2_77 (L' := #[.val (.ref a), .val (.int (1 : Int32)), .val (.int (5 : Int32)), .val (.long en), .second, .val (.int (2 : Int32)), .val (.int (5 : Int32))]) rfl (pc' := 79) rfl ?_
      refine own_goto C X own_d2_79 (pc' := 6) (by decide) (by decide) ?_
      refine own_iload C X own_d2_6 rfl (pc' := 8) rfl ?_
      refine own_iloadN C X own_d2_8 rfl (pc' := 9) rfl ?_
      refine own_icmp_ge C X own_d2_9 (pcT := 82) (pc' := 12) (by decide) (by decide) rfl (fun hc9_2 => ?_) (fun hc9_2 => absurd hc9_2 (by decide))
      refine own_aloadN C X own_d2_82 rfl rfl (pc' := 83) rfl ?_
      refine own_iloadN C X own_d2_83 rfl (pc' := 84) rfl ?_
      refine own_iload C X own_d2_84 rfl (pc' := 86) rfl ?_
      refine own_iadd C X own_d2_86 (z := 3) (by decide) (pc' := 87) rfl ?_
      refine own_lloadN C X own_d2_87 rfl (pc' := 88) rfl ?_
      refine own_lastore C X own_d2_88 A (by decide) (i := 3) (Nat.le_of_ble_eq_true rfl) ge_a (pc' := 89) rfl ?_
      intro T h X K_ A_
      have A : own_JA Z h a [mk, y2, y1, en, y3, y4, mk] := A_
      have KK := KK.trans K_ (allS (Or.inl (by simp)) all0)
      have u3 := own_nlt p3
      have u4 := own_nlt p4
      have w34_1 := own_tlt hc34
      have w48_1 := own_tlt hc48
      exact own_return C X own_d2_89 (Nat.le_of_ble_eq_true rfl) (Nat.le_of_ble_eq_true rfl) (⟨rfl, y2, y1, en, y3, y4, KK, A, ⟨own_nge (by omega), own_nge (by omega), own_nge (by omega), own_nge (by omega), trivial⟩, own_pm5_2 en y1 y2 y3 y4⟩)
    · refine own_goto C X own_d2_52 (pc' := 82) (by decide) (by decide) ?_
      refine own_aloadN C X own_d2_82 rfl rfl (pc' := 83) rfl ?_
      refine own_iloadN C X own_d2_83 rfl (pc' := 84) rfl ?_
      refine own_iload C X own_d2_84 rfl (pc' := 86) rfl ?_
      refine own_iadd C X own_d2_86 (z := 1) (by decide) (pc' := 87) rfl ?_
      refine own_lloadN C X own_d2_87 rfl (pc' := 88) rfl ?_
      refine own_lastore C X own_d2_88 A (by decide) (i := 1) (Nat.le_of_ble_eq_true rfl) ge_a (pc' := 89) rfl ?_
      intro T h X K_ A_
      have A : own_JA Z h a [mk, en, y1, y2, y3, y4, mk] := A_
      have KK := KK.trans K_ (allS (Or.inl (by simp)) all0)
      have u3 := own_nlt p3
      have u4 := own_nlt p4
      have w34_1 := own_tlt hc34
      have w48_1 := own_nlt hc48
      exact own_return C X own_d2_89 (Nat.le_of_ble_eq_true rfl) (Nat.le_of_ble_eq_true rfl) (⟨rfl, en, y1, y2, y3, y4, KK, A, ⟨own_nge (by omega), own_nge (by omega), own_nge (by omega), own_nge (by omega), trivial⟩, own_pm5_0 en y1 y2 y3 y4⟩)
theorem own_pn_com_example_stablemate_stablemate_SliceHeapsReplaceLargestPinLaw : plainName "com/example/stablemate/stablemate/SliceHeapsReplaceLargestPinLaw" = true := by first | (simp [plainName, overriddenIn]; done) | decide +kernel
theorem own_ef_orN (a : Addr) (s_ : Int32) (i : Int32) (m : MethodId) : entryFrame m #[(.ref a), (.int s_), (.int i)] 3 = mkF m 0 #[.val (.ref a), .val (.int s_), .val (.int i)] [] := by first | (simp [entryFrame, mkF, argsToLocals, Value.category]; done) | rfl
theorem own_d3_0 : decode method_3_code 0 = .ok (.iload_n 2, 1) := by decide +kernel
theorem own_d3_1 : decode method_3_code 1 = .ok (.iload_n 1, 1) := by decide +kernel
theorem own_d3_2 : decode method_3_code 2 = .ok (.if_icmp .ge 17, 3) := by decide +kernel
theorem own_d3_19 : decode method_3_code 19 = .ok (.iconst 1, 1) := by decide +kernel
theorem own_d3_20 : decode method_3_code 20 = .ok (.goto 4, 3) := by decide +kernel
theorem own_d3_24 : decode method_3_code 24 = .ok (.ireturn, 1) := by decide +kernel
set_option maxRecDepth 65536 in
set_option maxHeartbeats 40000000 in
theorem own_m_orN (l : Launch) (Z : State) (a0 : Array Value) (hw : ∀ d ∈ tables_1, d.before a0 Z = true) (a : Addr) (s_ : Int32) (i : Int32) (h0 : Heap) (n0 : Nat) (hn0 : n0 ≤ h0.size) (q : ¬ i < s_) : own_Met l Z n0 (⟨"com/example/stablemate/stablemate/SliceHeapsReplaceLargestPinLaw", "ordered", "([JII)Z"⟩ : MethodName) method_3_code 3 (some .boolean) [] ({ frames := 0, cells := 0, slots := 0, locals := 0 } : Room) #[(.ref a), (.int s_), (.int i)] h0 (fun v h => v = some (.int 1) ∧ h0 = h) := by
  refine own_body (plainFor_of_name own_pn_com_example_stablemate_stablemate_SliceHeapsReplaceLargestPinLaw) hn0 (own_ef_orN a s_ i) ?_
  intro p e s m below meth c T C X
  refine own_iloadN C X own_d3_0 rfl (pc' := 1) rfl ?_
  refine own_iloadN C X own_d3_1 rfl (pc' := 2) rfl ?_
  refine own_icmp_ge C X own_d3_2 (pcT := 19) (pc' := 5) (by decide) (by decide) rfl (fun hc2 => ?_) (fun hc2 => absurd hc2 (q))
  refine own_iconst C X own_d3_19 (v := 1) (by decide) (pc' := 20) rfl ?_
  refine own_goto C X own_d3_20 (pc' := 24) (by decide) (by decide) ?_
  exact own_ireturn_z C X own_d3_24 (Nat.le_of_ble_eq_true rfl) (Nat.le_of_ble_eq_true rfl) (⟨rfl, rfl⟩)
theorem own_ef_or1 (a : Addr) (s_ : Int32) (m : MethodId) : entryFrame m #[(.ref a), (.int s_), (.int (1 : Int32))] 3 = mkF m 0 #[.val (.ref a), .val (.int s_), .val (.int (1 : Int32))] [] := by first | (simp [entryFrame, mkF, argsToLocals, Value.category]; done) | rfl
theorem own_d3_5 : decode method_3_code 5 = .ok (.aload_n 0, 1) := by decide +kernel
theorem own_d3_6 : decode method_3_code 6 = .ok (.iload_n 2, 1) := by decide +kernel
theorem own_d3_7 : decode method_3_code 7 = .ok (.iconst 1, 1) := by decide +kernel
theorem own_d3_8 : decode method_3_code 8 = .ok (.isub, 1) := by decide +kernel
theorem own_d3_9 : decode method_3_code 9 = .ok (.iconst 2, 1) := by decide +kernel
theorem own_d3_10 : decode method_3_code 10 = .ok (.idiv, 1) := by decide +kernel
theorem own_d3_11 : decode method_3_code 11 = .ok (.laload, 1) := by decide +kernel
theorem own_d3_12 : decode method_3_code 12 = .ok (.aload_n 0, 1) := by decide +kernel
theorem own_d3_13 : decode method_3_code 13 = .ok (.iload_n 2, 1) := by decide +kernel
theorem own_d3_14 : decode method_3_code 14 = .ok (.laload, 1) := by decide +kernel
theorem own_d3_15 : decode method_3_code 15 = .ok (.lcmp, 1) := by decide +kernel
theorem own_d3_16 : decode method_3_code 16 = .ok (.ifCond .lt 7, 3) := by decide +kernel
set_option maxRecDepth 65536 in
set_option maxHeartbeats 40000000 in
theorem own_m_or1 (l : Launch) (Z : State) (a0 : Array Value) (hw : ∀ d ∈ tables_1, d.before a0 Z = true) (a : Addr) (s_ : Int32) (h0 : Heap) (n0 : Nat) (hn0 : n0 ≤ h0.size) (q : (1 : Int32) < s_) (g0 g1 g2 g3 g4 : Int64) (A : own_JA Z h0 a [g0, g1, g2, g3, g4]) (le : ¬ g0 < g1) : own_Met l Z n0 (⟨"com/example/stablemate/stablemate/SliceHeapsReplaceLargestPinLaw", "ordered", "([JII)Z"⟩ : MethodName) method_3_code 3 (some .boolean) [] ({ frames := 0, cells := 0, slots := 0, locals := 0 } : Room) #[(.ref a), (.int s_), (.int (1 : Int32))] h0 (fun v h => v = some (.int 1) ∧ h0 = h) := by
  refine own_body (plainFor_of_name own_pn_com_example_stablemate_stablemate_SliceHeapsReplaceLargestPinLaw) hn0 (own_ef_or1 a s_) ?_
  intro p e s m below meth c T C X
  refine own_iloadN C X own_d3_0 rfl (pc' := 1) rfl ?_
  refine own_iloadN C X own_d3_1 rfl (pc' := 2) rfl ?_
  refine own_icmp_ge C X own_d3_2 (pcT := 19) (pc' := 5) (by decide) (by decide) rfl (fun hc2 => absurd hc2 (not_not_intro q)) (fun hc2 => ?_)
  refine own_aloadN C X own_d3_5 rfl rfl (pc' := 6) rfl ?_
  refine own_iloadN C X own_d3_6 rfl (pc' := 7) rfl ?_
  refine own_iconst C X own_d3_7 (v := 1) (by decide) (pc' := 8) rfl ?_
  refine own_isub C X own_d3_8 (z := 0) (by decide) (pc' := 9) rfl ?_
  refine own_iconst C X own_d3_9 (v := 2) (by decide) (pc' := 10) rfl ?_
  refine own_idiv C X own_d3_10 (by decide) (z := 0) (by decide) (pc' := 11) rfl ?_
  refine own_laload C X own_d3_11 A (by decide) (i := 0) rfl (pc' := 12) rfl ?_
  refine own_aloadN C X own_d3_12 rfl rfl (pc' := 13) rfl ?_
  refine own_iloadN C X own_d3_13 rfl (pc' := 14) rfl ?_
  refine own_laload C X own_d3_14 A (by decide) (i := 1) rfl (pc' := 15) rfl ?_
  refine own_lcmp_lt C X own_d3_15 own_d3_16 (pcT := 23) (pc' := 19) (by decide) (by decide) rfl (fun hc15 => absurd hc15 (le)) (fun hc15 => ?_)
  refine own_iconst C X own_d3_19 (v := 1) (by decide) (pc' := 20) rfl ?_
  refine own_goto C X own_d3_20 (pc' := 24) (by decide) (by decide) ?_
  exact own_ireturn_z C X own_d3_24 (Nat.le_of_ble_eq_true rfl) (Nat.le_of_ble_eq_true rfl) (⟨rfl, rfl⟩)
theorem own_ef_or2 (a : Addr) (s_ : Int32) (m : MethodId) : entryFrame m #[(.ref a), (.int s_), (.int (2 : Int32))] 3 = mkF m 0 #[.val (.ref a), .val (.int s_), .val (.int (2 : Int32))] [] := by first | (simp [entryFrame, mkF, argsToLocals, Value.category]; done) | rfl
set_option maxRecDepth 65536 in
set_option maxHeartbeats 40000000 in
theorem own_m_or2 (l : Launch) (Z : State) (a0 : Array Value) (hw : ∀ d ∈ tables_1, d.before a0 Z = true) (a : Addr) (s_ : Int32) (h0 : Heap) (n0 : Nat) (hn0 : n0 ≤ h0.size) (q : (2 : Int32) < s_) (g0 g1 g2 g3 g4 : Int64) (A : own_JA Z h0 a [g0, g1, g2, g3, g4]) (le : ¬ g0 < g2) : own_Met l Z n0 (⟨"com/example/stablemate/stablemate/SliceHeapsReplaceLargestPinLaw", "ordered", "([JII)Z"⟩ : MethodName) method_3_code 3 (some .boolean) [] ({ frames := 0, cells := 0, slots := 0, locals := 0 } : Room) #[(.ref a), (.int s_), (.int (2 : Int32))] h0 (fun v h => v = some (.int 1) ∧ h0 = h) := by
  refine own_body (plainFor_of_name own_pn_com_example_stablemate_stablemate_SliceHeapsReplaceLargestPinLaw) hn0 (own_ef_or2 a s_) ?_
  intro p e s m below meth c T C X
  refine own_iloadN C X own_d3_0 rfl (pc' := 1) rfl ?_
  refine own_iloadN C X own_d3_1 rfl (pc' := 2) rfl ?_
  refine own_icmp_ge C X own_d3_2 (pcT := 19) (pc' := 5) (by decide) (by decide) rfl (fun hc2 => absurd hc2 (not_not_intro q)) (fun hc2 => ?_)
  refine own_aloadN C X own_d3_5 rfl rfl (pc' := 6) rfl ?_
  refine own_iloadN C X own_d3_6 rfl (pc' := 7) rfl ?_
  refine own_iconst C X own_d3_7 (v := 1) (by decide) (pc' := 8) rfl ?_
  refine own_isub C X own_d3_8 (z := 1) (by decide) (pc' := 9) rfl ?_
  refine own_iconst C X own_d3_9 (v := 2) (by decide) (pc' := 10) rfl ?_
  refine own_idiv C X own_d3_10 (by decide) (z := 0) (by decide) (pc' := 11) rfl ?_
  refine own_laload C X own_d3_11 A (by decide) (i := 0) rfl (pc' := 12) rfl ?_
  refine own_aloadN C X own_d3_12 rfl rfl (pc' := 13) rfl ?_
  refine own_iloadN C X own_d3_13 rfl (pc' := 14) rfl ?_
  refine own_laload C X own_d3_14 A (by decide) (i := 2) rfl (pc' := 15) rfl ?_
  refine own_lcmp_lt C X own_d3_15 own_d3_16 (pcT := 23) (pc' := 19) (by decide) (by decide) rfl (fun hc15 => absurd hc15 (le)) (fun hc15 => ?_)
  refine own_iconst C X own_d3_19 (v := 1) (by decide) (pc' := 20) rfl ?_
  refine own_goto C X own_d3_20 (pc' := 24) (by decide) (by decide) ?_
  exact own_ireturn_z C X own_d3_24 (Nat.le_of_ble_eq_true rfl) (Nat.le_of_ble_eq_true rfl) (⟨rfl, rfl⟩)
theorem own_ef_or3 (a : Addr) (s_ : Int32) (m : MethodId) : entryFrame m #[(.ref a), (.int s_), (.int (3 : Int32))] 3 = mkF m 0 #[.val (.ref a), .val (.int s_), .val (.int (3 : Int32))] [] := by first | (simp [entryFrame, mkF, argsToLocals, Value.category]; done) | rfl
set_option maxRecDepth 65536 in
set_option maxHeartbeats 40000000 in
theorem own_m_or3 (l : Launch) (Z : State) (a0 : Array Value) (hw : ∀ d ∈ tables_1, d.before a0 Z = true) (a : Addr) (s_ : Int32) (h0 : Heap) (n0 : Nat) (hn0 : n0 ≤ h0.size) (q : (3 : Int32) < s_) (g0 g1 g2 g3 g4 : Int64) (A : own_JA Z h0 a [g0, g1, g2, g3, g4]) (le : ¬ g1 < g3) : own_Met l Z n0 (⟨"com/example/stablemate/stablemate/SliceHeapsReplaceLargestPinLaw", "ordered", "([JII)Z"⟩ : MethodName) method_3_code 3 (some .boolean) [] ({ frames := 0, cells := 0, slots := 0, locals := 0 } : Room) #[(.ref a), (.int s_), (.int (3 : Int32))] h0 (fun v h => v = some (.int 1) ∧ h0 = h) := by
  refine own_body (plainFor_of_name own_pn_com_example_stablemate_stablemate_SliceHeapsReplaceLargestPinLaw) hn0 (own_ef_or3 a s_) ?_
  intro p e s m below meth c T C X
  refine own_iloadN C X own_d3_0 rfl (pc' := 1) rfl ?_
  refine own_iloadN C X own_d3_1 rfl (pc' := 2) rfl ?_
  refine own_icmp_ge C X own_d3_2 (pcT := 19) (pc' := 5) (by decide) (by decide) rfl (fun hc2 => absurd hc2 (not_not_intro q)) (fun hc2 => ?_)
  refine own_aloadN C X own_d3_5 rfl rfl (pc' := 6) rfl ?_
  refine own_iloadN C X own_d3_6 rfl (pc' := 7) rfl ?_
  refine own_iconst C X own_d3_7 (v := 1) (by decide) (pc' := 8) rfl ?_
  refine own_isub C X own_d3_8 (z := 2) (by decide) (pc' := 9) rfl ?_
  refine own_iconst C X own_d3_9 (v := 2) (by decide) (pc' := 10) rfl ?_
  refine own_idiv C X own_d3_10 (by decide) (z := 1) (by decide) (pc' := 11) rfl ?_
  refine own_laload C X own_d3_11 A (by decide) (i := 1) rfl (pc' := 12) rfl ?_
  refine own_aloadN C X own_d3_12 rfl rfl (pc' := 13) rfl ?_
  refine own_iloadN C X own_d3_13 rfl (pc' := 14) rfl ?_
  refine own_laload C X own_d3_14 A (by decide) (i := 3) rfl (pc' := 15) rfl ?_
  refine own_lcmp_lt C X own_d3_15 own_d3_16 (pcT := 23) (pc' := 19) (by decide) (by decide) rfl (fun hc15 => absurd hc15 (le)) (fun hc15 => ?_)
  refine own_iconst C X own_d3_19 (v := 1) (by decide) (pc' := 20) rfl ?_
  refine own_goto C X own_d3_20 (pc' := 24) (by decide) (by decide) ?_
  exact own_ireturn_z C X own_d3_24 (Nat.le_of_ble_eq_true rfl) (Nat.le_of_ble_eq_true rfl) (⟨rfl, rfl⟩)
theorem own_ef_or4 (a : Addr) (s_ : Int32) (m : MethodId) : entryFrame m #[(.ref a), (.int s_), (.int (4 : Int32))] 3 = mkF m 0 #[.val (.ref a), .val (.int s_), .val (.int (4 : Int32))] [] := by first | (simp [entryFrame, mkF, argsToLocals, Value.category]; done) | rfl
set_option maxRecDepth 65536 in
set_option maxHeartbeats 40000000 in
theorem own_m_or4 (l : Launch) (Z : State) (a0 : Array Value) (hw : ∀ d ∈ tables_1, d.before a0 Z = true) (a : Addr) (s_ : Int32) (h0 : Heap) (n0 : Nat) (hn0 : n0 ≤ h0.size) (q : (4 : Int32) < s_) (g0 g1 g2 g3 g4 : Int64) (A : own_JA Z h0 a [g0, g1, g2, g3, g4]) (le : ¬ g1 < g4) : own_Met l Z n0 (⟨"com/example/stablemate/stablemate/SliceHeapsReplaceLargestPinLaw", "ordered", "([JII)Z"⟩ : MethodName) method_3_code 3 (some .boolean) [] ({ frames := 0, cells := 0, slots := 0, locals := 0 } : Room) #[(.ref a), (.int s_), (.int (4 : Int32))] h0 (fun v h => v = some (.int 1) ∧ h0 = h) := by
  refine own_body (plainFor_of_name own_pn_com_example_stablemate_stablemate_SliceHeapsReplaceLargestPinLaw) hn0 (own_ef_or4 a s_) ?_
  intro p e s m below meth c T C X
  refine own_iloadN C X own_d3_0 rfl (pc' := 1) rfl ?_
  refine own_iloadN C X own_d3_1 rfl (pc' := 2) rfl ?_
  refine own_icmp_ge C X own_d3_2 (pcT := 19) (pc' := 5) (by decide) (by decide) rfl (fun hc2 => absurd hc2 (not_not_intro q)) (fun hc2 => ?_)
  refine own_aloadN C X own_d3_5 rfl rfl (pc' := 6) rfl ?_
  refine own_iloadN C X own_d3_6 rfl (pc' := 7) rfl ?_
  refine own_iconst C X own_d3_7 (v := 1) (by decide) (pc' := 8) rfl ?_
  refine own_isub C X own_d3_8 (z := 3) (by decide) (pc' := 9) rfl ?_
  refine own_iconst C X own_d3_9 (v := 2) (by decide) (pc' := 10) rfl ?_
  refine own_idiv C X own_d3_10 (by decide) (z := 1) (by decide) (pc' := 11) rfl ?_
  refine own_laload C X own_d3_11 A (by decide) (i := 1) rfl (pc' := 12) rfl ?_
  refine own_aloadN C X own_d3_12 rfl rfl (pc' := 13) rfl ?_
  refine own_iloadN C X own_d3_13 rfl (pc' := 14) rfl ?_
  refine own_laload C X own_d3_14 A (by decide) (i := 4) rfl (pc' := 15) rfl ?_
  refine own_lcmp_lt C X own_d3_15 own_d3_16 (pcT := 23) (pc' := 19) (by decide) (by decide) rfl (fun hc15 => absurd hc15 (le)) (fun hc15 => ?_)
  refine own_iconst C X own_d3_19 (v := 1) (by decide) (pc' := 20) rfl ?_
  refine own_goto C X own_d3_20 (pc' := 24) (by decide) (by decide) ?_
  exact own_ireturn_z C X own_d3_24 (Nat.le_of_ble_eq_true rfl) (Nat.le_of_ble_eq_true rfl) (⟨rfl, rfl⟩)
theorem own_ef_cnt1 (a : Addr) (w : Int64) (m : MethodId) : entryFrame m #[(.ref a), (.int (1 : Int32)), (.long w)] 5 = mkF m 0 #[.val (.ref a), .val (.int (1 : Int32)), .val (.long w), .second, .unset] [] := by first | (simp [entryFrame, mkF, argsToLocals, Value.category]; done) | rfl
theorem own_d5_0 : decode method_4_code 0 = .ok (.iconst 0, 1) := by decide +kernel
theorem own_d5_1 : decode method_4_code 1 = .ok (.istore 4, 2) := by decide +kernel
theorem own_d5_3 : decode method_4_code 3 = .ok (.iload_n 1, 1) := by decide +kernel
theorem own_d5_4 : decode method_4_code 4 = .ok (.ifCond .le 14, 3) := by decide +kernel
theorem own_d5_7 : decode method_4_code 7 = .ok (.aload_n 0, 1) := by decide +kernel
theorem own_d5_8 : decode method_4_code 8 = .ok (.iconst 0, 1) := by decide +kernel
theorem own_d5_9 : decode method_4_code 9 = .ok (.laload, 1) := by decide +kernel
theorem own_d5_10 : decode method_4_code 10 = .ok (.lload_n 2, 1) := by decide +kernel
theorem own_d5_18 : decode method_4_code 18 = .ok (.iload_n 1, 1) := by decide +kernel
theorem own_d5_19 : decode method_4_code 19 = .ok (.iconst 1, 1) := by decide +kernel
theorem own_d5_20 : decode method_4_code 20 = .ok (.if_icmp .le 14, 3) := by decide +kernel
theorem own_d5_34 : decode method_4_code 34 = .ok (.iload_n 1, 1) := by decide +kernel
theorem own_d5_35 : decode method_4_code 35 = .ok (.iconst 2, 1) := by decide +kernel
theorem own_d5_36 : decode method_4_code 36 = .ok (.if_icmp .le 14, 3) := by decide +kernel
theorem own_d5_50 : decode method_4_code 50 = .ok (.iload_n 1, 1) := by decide +kernel
theorem own_d5_51 : decode method_4_code 51 = .ok (.iconst 3, 1) := by decide +kernel
theorem own_d5_52 : decode method_4_code 52 = .ok (.if_icmp .le 14, 3) := by decide +kernel
theorem own_d5_66 : decode method_4_code 66 = .ok (.iload_n 1, 1) := by decide +kernel
theorem own_d5_67 : decode method_4_code 67 = .ok (.iconst 4, 1) := by decide +kernel
theorem own_d5_68 : decode method_4_code 68 = .ok (.if_icmp .le 14, 3) := by decide +kernel
theorem own_d5_82 : decode method_4_code 82 = .ok (.iload 4, 2) := by decide +kernel
theorem own_d5_84 : decode method_4_code 84 = .ok (.ireturn, 1) := by decide +kernel
theorem own_d5_11 : decode method_4_code 11 = .ok (.lcmp, 1) := by decide +kernel
theorem own_d5_12 : decode method_4_code 12 = .ok (.ifCond .ne 6, 3) := by decide +kernel
theorem own_d5_15 : decode method_4_code 15 = .ok (.iinc 4 1, 3) := by decide +kernel
set_option maxRecDepth 65536 in
set_option maxHeartbeats 40000000 in
theorem own_m_cnt1 (l : Launch) (Z : State) (a0 : Array Value) (hw : ∀ d ∈ tables_1, d.before a0 Z = true) (a : Addr) (w : Int64) (h0 : Heap) (n0 : Nat) (hn0 : n0 ≤ h0.size) (g0 g1 g2 g3 g4 : Int64) (A : own_JA Z h0 a [g0, g1, g2, g3, g4]) : own_Met l Z n0 (⟨"com/example/stablemate/stablemate/SliceHeapsReplaceLargestPinLaw", "count", "([JIJ)I"⟩ : MethodName) method_4_code 5 (some .int) [] ({ frames := 0, cells := 0, slots := 0, locals := 0 } : Room) #[(.ref a), (.int (1 : Int32)), (.long w)] h0 (fun v h => v = some (.int (own_cnt [g0] w 0)) ∧ h0 = h) := by
  refine own_body (plainFor_of_name own_pn_com_example_stablemate_stablemate_SliceHeapsReplaceLargestPinLaw) hn0 (own_ef_cnt1 a w) ?_
  intro p e s m below meth c T C X
  refine own_iconst C X own_d5_0 (v := 0) (by decide) (pc' := 1) rfl ?_
  refine own_istore C X own_d5_1 (L' := #[.val (.ref a), .val (.int (1 : Int32)), .val (.long w), .second, .val (.int (0 : Int32))]) rfl (pc' := 3) rfl ?_
  refine own_iloadN C X own_d5_3 rfl (pc' := 4) rfl ?_
  refine own_if_le C X own_d5_4 (pcT := 18) (pc' := 7) (by decide) (by decide) rfl (fun hc4 => absurd hc4 (by decide)) (fun hc4 => ?_)
  refine own_aloadN C X own_d5_7 rfl rfl (pc' := 8) rfl ?_
  refine own_iconst C X own_d5_8 (v := 0) (by decide) (pc' := 9) rfl ?_
  refine own_laload C X own_d5_9 A (by decide) (i := 0) rfl (pc' := 10) rfl ?_
  refine own_lloadN C X own_d5_10 rfl (pc' := 11) rfl ?_
  have J_c1 : ∀ c1 : Int32, (if g0 = w then (0 : Int32) + 1 else (0 : Int32)) = c1 → own_Go p e below n0 (own_Fin ({ frames := 0, cells := 0, slots := 0, locals := 0 } : Room) s (fun v h => v = some (.int (own_cnt [g0] w 0)) ∧ h0 = h)) (T.setTop (mkF m 18 #[.val (.ref a), .val (.int (1 : Int32)), .val (.long w), .second, .val (.int c1)] [])) := by
    intro c1 e_c1
    refine own_iloadN C X own_d5_18 rfl (pc' := 19) rfl ?_
    refine own_iconst C X own_d5_19 (v := 1) (by decide) (pc' := 20) rfl ?_
    refine own_icmp_le C X own_d5_20 (pcT := 34) (pc' := 23) (by decide) (by decide) rfl (fun hc20 => ?_) (fun hc20 => absurd hc20 (by decide))
    refine own_iloadN C X own_d5_34 rfl (pc' := 35) rfl ?_
    refine own_iconst C X own_d5_35 (v := 2) (by decide) (pc' := 36) rfl ?_
    refine own_icmp_le C X own_d5_36 (pcT := 50) (pc' := 39) (by decide) (by decide) rfl (fun hc36 => ?_) (fun hc36 => absurd hc36 (by decide))
    refine own_iloadN C X own_d5_50 rfl (pc' := 51) rfl ?_
    refine own_iconst C X own_d5_51 (v := 3) (by decide) (pc' := 52) rfl ?_
    refine own_icmp_le C X own_d5_52 (pcT := 66) (pc' := 55) (by decide) (by decide) rfl (fun hc52 => ?_) (fun hc52 => absurd hc52 (by decide))
    refine own_iloadN C X own_d5_66 rfl (pc' := 67) rfl ?_
    refine own_iconst C X own_d5_67 (v := 4) (by decide) (pc' := 68) rfl ?_
    refine own_icmp_le C X own_d5_68 (pcT := 82) (pc' := 71) (by decide) (by decide) rfl (fun hc68 => ?_) (fun hc68 => absurd hc68 (by decide))
    refine own_iload C X own_d5_82 rfl (pc' := 84) rfl ?_
    exact own_ireturn C X own_d5_84 (Nat.le_of_ble_eq_true rfl) (Nat.le_of_ble_eq_true rfl) (⟨by rw [← e_c1]; rfl, rfl⟩)
  refine own_lcmp_ne C X own_d5_11 own_d5_12 (pcT := 18) (pc' := 15) (by decide) (by decide) rfl (fun hc => J_c1 _ (if_neg hc)) (fun hc => ?_)
  refine own_iinc C X own_d5_15 rfl (d := 1) (by decide) rfl (L' := #[.val (.ref a), .val (.int (1 : Int32)), .val (.long w), .second, .val (.int ((0 : Int32) + (1 : Int32)))]) rfl (pc' := 18) rfl ?_
  exact J_c1 _ (if_pos hc)
theorem own_ef_cnt2 (a : Addr) (w : Int64) (m : MethodId) : entryFrame m #[(.ref a), (.int (2 : Int32)), (.long w)] 5 = mkF m 0 #[.val (.ref a), .val (.int (2 : Int32)), .val (.long w), .second, .unset] [] := by first | (simp [entryFrame, mkF, argsToLocals, Value.category]; done) | rfl
theorem own_d5_23 : decode method_4_code 23 = .ok (.aload_n 0, 1) := by decide +kernel
theorem own_d5_24 : decode method_4_code 24 = .ok (.iconst 1, 1) := by decide +kernel
theorem own_d5_25 : decode method_4_code 25 = .ok (.laload, 1) := by decide +kernel
theorem own_d5_26 : decode method_4_code 26 = .ok (.lload_n 2, 1) := by decide +kernel
theorem own_d5_27 : decode method_4_code 27 = .ok (.lcmp, 1) := by decide +kernel
theorem own_d5_28 : decode method_4_code 28 = .ok (.ifCond .ne 6, 3) := by decide +kernel
theorem own_d5_31 : decode method_4_code 31 = .ok (.iinc 4 1, 3) := by decide +kernel
set_option maxRecDepth 65536 in
set_option maxHeartbeats 40000000 in
theorem own_m_cnt2 (l : Launch) (Z : State) (a0 : Array Value) (hw : ∀ d ∈ tables_1, d.before a0 Z = true) (a : Addr) (w : Int64) (h0 : Heap) (n0 : Nat) (hn0 : n0 ≤ h0.size) (g0 g1 g2 g3 g4 : Int64) (A : own_JA Z h0 a [g0, g1, g2, g3, g4]) : own_Met l Z n0 (⟨"com/example/stablemate/stablemate/SliceHeapsReplaceLargestPinLaw", "count", "([JIJ)I"⟩ : MethodName) method_4_code 5 (some .int) [] ({ frames := 0, cells := 0, slots := 0, locals := 0 } : Room) #[(.ref a), (.int (2 : Int32)), (.long w)] h0 (fun v h => v = some (.int (own_cnt [g0, g1] w 0)) ∧ h0 = h) := by
  refine own_body (plainFor_of_name own_pn_com_example_stablemate_stablemate_SliceHeapsReplaceLargestPinLaw) hn0 (own_ef_cnt2 a w) ?_
  intro p e s m below meth c T C X
  refine own_iconst C X own_d5_0 (v := 0) (by decide) (pc' := 1) rfl ?_
  refine own_istore C X own_d5_1 (L' := #[.val (.ref a), .val (.int (2 : Int32)), .val (.long w), .second, .val (.int (0 : Int32))]) rfl (pc' := 3) rfl ?_
  refine own_iloadN C X own_d5_3 rfl (pc' := 4) rfl ?_
  refine own_if_le C X own_d5_4 (pcT := 18) (pc' := 7) (by decide) (by decide) rfl (fun hc4 => absurd hc4 (by decide)) (fun hc4 => ?_)
  refine own_aloadN C X own_d5_7 rfl rfl (pc' := 8) rfl ?_
  refine own_iconst C X own_d5_8 (v := 0) (by decide) (pc' := 9) rfl ?_
  refine own_laload C X own_d5_9 A (by decide) (i := 0) rfl (pc' := 10) rfl ?_
  refine own_lloadN C X own_d5_10 rfl (pc' := 11) rfl ?_
  have J_c1 : ∀ c1 : Int32, (if g0 = w then (0 : Int32) + 1 else (0 : Int32)) = c1 → own_Go p e below n0 (own_Fin ({ frames := 0, cells := 0, slots := 0, locals := 0 } : Room) s (fun v h => v = some (.int (own_cnt [g0, g1] w 0)) ∧ h0 = h)) (T.setTop (mkF m 18 #[.val (.ref a), .val (.int (2 : Int32)), .val (.long w), .second, .val (.int c1)] [])) := by
    intro c1 e_c1
    refine own_iloadN C X own_d5_18 rfl (pc' := 19) rfl ?_
    refine own_iconst C X own_d5_19 (v := 1) (by decide) (pc' := 20) rfl ?_
    refine own_icmp_le C X own_d5_20 (pcT := 34) (pc' := 23) (by decide) (by decide) rfl (fun hc20 => absurd hc20 (by decide)) (fun hc20 => ?_)
    refine own_aloadN C X own_d5_23 rfl rfl (pc' := 24) rfl ?_
    refine own_iconst C X own_d5_24 (v := 1) (by decide) (pc' := 25) rfl ?_
    refine own_laload C X own_d5_25 A (by decide) (i := 1) rfl (pc' := 26) rfl ?_
    refine own_lloadN C X own_d5_26 rfl (pc' := 27) rfl ?_
    have J_c2 : ∀ c2 : Int32, (if g1 = w then c1 + 1 else c1) = c2 → own_Go p e below n0 (own_Fin ({ frames := 0, cells := 0, slots := 0, locals := 0 } : Room) s (fun v h => v = some (.int (own_cnt [g0, g1] w 0)) ∧ h0 = h)) (T.setTop (mkF m 34 #[.val (.ref a), .val (.int (2 : Int32)), .val (.long w), .second, .val (.int c2)] [])) := by
      intro c2 e_c2
      refine own_iloadN C X own_d5_34 rfl (pc' := 35) rfl ?_
      refine own_iconst C X own_d5_35 (v := 2) (by decide) (pc' := 36) rfl ?_
      refine own_icmp_le C X own_d5_36 (pcT := 50) (pc' := 39) (by decide) (by decide) rfl (fun hc36 => ?_) (fun hc36 => absurd hc36 (by decide))
      refine own_iloadN C X own_d5_50 rfl (pc' := 51) rfl ?_
      refine own_iconst C X own_d5_51 (v := 3) (by decide) (pc' := 52) rfl ?_
      refine own_icmp_le C X own_d5_52 (pcT := 66) (pc' := 55) (by decide) (by decide) rfl (fun hc52 => ?_) (fun hc52 => absurd hc52 (by decide))
      refine own_iloadN C X own_d5_66 rfl (pc' := 67) rfl ?_
      refine own_iconst C X own_d5_67 (v := 4) (by decide) (pc' := 68) rfl ?_
      refine own_icmp_le C X own_d5_68 (pcT := 82) (pc' := 71) (by decide) (by decide) rfl (fun hc68 => ?_) (fun hc68 => absurd hc68 (by decide))
      refine own_iload C X own_d5_82 rfl (pc' := 84) rfl ?_
      exact own_ireturn C X own_d5_84 (Nat.le_of_ble_eq_true rfl) (Nat.le_of_ble_eq_true rfl) (⟨by rw [← e_c2, ← e_c1]; rfl, rfl⟩)
    refine own_lcmp_ne C X own_d5_27 own_d5_28 (pcT := 34) (pc' := 31) (by decide) (by decide) rfl (fun hc => J_c2 _ (if_neg hc)) (fun hc => ?_)
    refine own_iinc C X own_d5_31 rfl (d := 1) (by decide) rfl (L' := #[.val (.ref a), .val (.int (2 : Int32)), .val (.long w), .second, .val (.int (c1 + (1 : Int32)))]) rfl (pc' := 34) rfl ?_
    exact J_c2 _ (if_pos hc)
  refine own_lcmp_ne C X own_d5_11 own_d5_12 (pcT := 18) (pc' := 15) (by decide) (by decide) rfl (fun hc => J_c1 _ (if_neg hc)) (fun hc => ?_)
  refine own_iinc C X own_d5_15 rfl (d := 1) (by decide) rfl (L' := #[.val (.ref a), .val (.int (2 : Int32)), .val (.long w), .second, .val (.int ((0 : Int32) + (1 : Int32)))]) rfl (pc' := 18) rfl ?_
  exact J_c1 _ (if_pos hc)
theorem own_ef_cnt3 (a : Addr) (w : Int64) (m : MethodId) : entryFrame m #[(.ref a), (.int (3 : Int32)), (.long w)] 5 = mkF m 0 #[.val (.ref a), .val (.int (3 : Int32)), .val (.long w), .second, .unset] [] := by first | (simp [entryFrame, mkF, argsToLocals, Value.category]; done) | rfl
theorem own_d5_39 : decode method_4_code 39 = .ok (.aload_n 0, 1) := by decide +kernel
theorem own_d5_40 : decode method_4_code 40 = .ok (.iconst 2, 1) := by decide +kernel
theorem own_d5_41 : decode method_4_code 41 = .ok (.laload, 1) := by decide +kernel
theorem own_d5_42 : decode method_4_code 42 = .ok (.lload_n 2, 1) := by decide +kernel
theorem own_d5_43 : decode method_4_code 43 = .ok (.lcmp, 1) := by decide +kernel
theorem own_d5_44 : decode method_4_code 44 = .ok (.ifCond .ne 6, 3) := by decide +kernel
theorem own_d5_47 : decode method_4_code 47 = .ok (.iinc 4 1, 3) := by decide +kernel
set_option maxRecDepth 65536 in
set_option maxHeartbeats 40000000 in
theorem own_m_cnt3 (l : Launch) (Z : State) (a0 : Array Value) (hw : ∀ d ∈ tables_1, d.before a0 Z = true) (a : Addr) (w : Int64) (h0 : Heap) (n0 : Nat) (hn0 : n0 ≤ h0.size) (g0 g1 g2 g3 g4 : Int64) (A : own_JA Z h0 a [g0, g1, g2, g3, g4]) : own_Met l Z n0 (⟨"com/example/stablemate/stablemate/SliceHeapsReplaceLargestPinLaw", "count", "([JIJ)I"⟩ : MethodName) method_4_code 5 (some .int) [] ({ frames := 0, cells := 0, slots := 0, locals := 0 } : Room) #[(.ref a), (.int (3 : Int32)), (.long w)] h0 (fun v h => v = some (.int (own_cnt [g0, g1, g2] w 0)) ∧ h0 = h) := by
  refine own_body (plainFor_of_name own_pn_com_example_stablemate_stablemate_SliceHeapsReplaceLargestPinLaw) hn0 (own_ef_cnt3 a w) ?_
  intro p e s m below meth c T C X
  refine own_iconst C X own_d5_0 (v := 0) (by decide) (pc' := 1) rfl ?_
  refine own_istore C X own_d5_1 (L' := #[.val (.ref a), .val (.int (3 : Int32)), .val (.long w), .second, .val (.int (0 : Int32))]) rfl (pc' := 3) rfl ?_
  refine own_iloadN C X own_d5_3 rfl (pc' := 4) rfl ?_
  refine own_if_le C X own_d5_4 (pcT := 18) (pc' := 7) (by decide) (by decide) rfl (fun hc4 => absurd hc4 (by decide)) (fun hc4 => ?_)
  refine own_aloadN C X own_d5_7 rfl rfl (pc' := 8) rfl ?_
  refine own_iconst C X own_d5_8 (v := 0) (by decide) (pc' := 9) rfl ?_
  refine own_laload C X own_d5_9 A (by decide) (i := 0) rfl (pc' := 10) rfl ?_
  refine own_lloadN C X own_d5_10 rfl (pc' := 11) rfl ?_
  have J_c1 : ∀ c1 : Int32, (if g0 = w then (0 : Int32) + 1 else (0 : Int32)) = c1 → own_Go p e below n0 (own_Fin ({ frames := 0, cells := 0, slots := 0, locals := 0 } : Room) s (fun v h => v = some (.int (own_cnt [g0, g1, g2] w 0)) ∧ h0 = h)) (T.setTop (mkF m 18 #[.val (.ref a), .val (.int (3 : Int32)), .val (.long w), .second, .val (.int c1)] [])) := by
    intro c1 e_c1
    refine own_iloadN C X own_d5_18 rfl (pc' := 19) rfl ?_
    refine own_iconst C X own_d5_19 (v := 1) (by decide) (pc' := 20) rfl ?_
    refine own_icmp_le C X own_d5_20 (pcT := 34) (pc' := 23) (by decide) (by decide) rfl (fun hc20 => absurd hc20 (by decide)) (fun hc20 => ?_)
    refine own_aloadN C X own_d5_23 rfl rfl (pc' := 24) rfl ?_
    refine own_iconst C X own_d5_24 (v := 1) (by decide) (pc' := 25) rfl ?_
    refine own_laload C X own_d5_25 A (by decide) (i := 1) rfl (pc' := 26) rfl ?_
    refine own_lloadN C X own_d5_26 rfl (pc' := 27) rfl ?_
    have J_c2 : ∀ c2 : Int32, (if g1 = w then c1 + 1 else c1) = c2 → own_Go p e below n0 (own_Fin ({ frames := 0, cells := 0, slots := 0, locals := 0 } : Room) s (fun v h => v = some (.int (own_cnt [g0, g1, g2] w 0)) ∧ h0 = h)) (T.setTop (mkF m 34 #[.val (.ref a), .val (.int (3 : Int32)), .val (.long w), .second, .val (.int c2)] [])) := by
      intro c2 e_c2
      refine own_iloadN C X own_d5_34 rfl (pc' := 35) rfl ?_
      refine own_iconst C X own_d5_35 (v := 2) (by decide) (pc' := 36) rfl ?_
      refine own_icmp_le C X own_d5_36 (pcT := 50) (pc' := 39) (by decide) (by decide) rfl (fun hc36 => absurd hc36 (by decide)) (fun hc36 => ?_)
      refine own_aloadN C X own_d5_39 rfl rfl (pc' := 40) rfl ?_
      refine own_iconst C X own_d5_40 (v := 2) (by decide) (pc' := 41) rfl ?_
      refine own_laload C X own_d5_41 A (by decide) (i := 2) rfl (pc' := 42) rfl ?_
      refine own_lloadN C X own_d5_42 rfl (pc' := 43) rfl ?_
      have J_c3 : ∀ c3 : Int32, (if g2 = w then c2 + 1 else c2) = c3 → own_Go p e below n0 (own_Fin ({ frames := 0, cells := 0, slots := 0, locals := 0 } : Room) s (fun v h => v = some (.int (own_cnt [g0, g1, g2] w 0)) ∧ h0 = h)) (T.setTop (mkF m 50 #[.val (.ref a), .val (.int (3 : Int32)), .val (.long w), .second, .val (.int c3)] [])) := by
        intro c3 e_c3
        refine own_iloadN C X own_d5_50 rfl (pc' := 51) rfl ?_
        refine own_iconst C X own_d5_51 (v := 3) (by decide) (pc' := 52) rfl ?_
        refine own_icmp_le C X own_d5_52 (pcT := 66) (pc' := 55) (by decide) (by decide) rfl (fun hc52 => ?_) (fun hc52 => absurd hc52 (by decide))
        refine own_iloadN C X own_d5_66 rfl (pc' := 67) rfl ?_
        refine own_iconst C X own_d5_67 (v := 4) (by decide) (pc' := 68) rfl ?_
        refine own_icmp_le C X own_d5_68 (pcT := 82) (pc' := 71) (by decide) (by decide) rfl (fun hc68 => ?_) (fun hc68 => absurd hc68 (by decide))
        refine own_iload C X own_d5_82 rfl (pc' := 84) rfl ?_
        exact own_ireturn C X own_d5_84 (Nat.le_of_ble_eq_true rfl) (Nat.le_of_ble_eq_true rfl) (⟨by rw [← e_c3, ← e_c2, ← e_c1]; rfl, rfl⟩)
      refine own_lcmp_ne C X own_d5_43 own_d5_44 (pcT := 50) (pc' := 47) (by decide) (by decide) rfl (fun hc => J_c3 _ (if_neg hc)) (fun hc => ?_)
      refine own_iinc C X own_d5_47 rfl (d := 1) (by decide) rfl (L' := #[.val (.ref a), .val (.int (3 : Int32)), .val (.long w), .second, .val (.int (c2 + (1 : Int32)))]) rfl (pc' := 50) rfl ?_
      exact J_c3 _ (if_pos hc)
    refine own_lcmp_ne C X own_d5_27 own_d5_28 (pcT := 34) (pc' := 31) (by decide) (by decide) rfl (fun hc => J_c2 _ (if_neg hc)) (fun hc => ?_)
    refine own_iinc C X own_d5_31 rfl (d := 1) (by decide) rfl (L' := #[.val (.ref a), .val (.int (3 : Int32)), .val (.long w), .second, .val (.int (c1 + (1 : Int32)))]) rfl (pc' := 34) rfl ?_
    exact J_c2 _ (if_pos hc)
  refine own_lcmp_ne C X own_d5_11 own_d5_12 (pcT := 18) (pc' := 15) (by decide) (by decide) rfl (fun hc => J_c1 _ (if_neg hc)) (fun hc => ?_)
  refine own_iinc C X own_d5_15 rfl (d := 1) (by decide) rfl (L' := #[.val (.ref a), .val (.int (3 : Int32)), .val (.long w), .second, .val (.int ((0 : Int32) + (1 : Int32)))]) rfl (pc' := 18) rfl ?_
  exact J_c1 _ (if_pos hc)
theorem own_ef_cnt4 (a : Addr) (w : Int64) (m : MethodId) : entryFrame m #[(.ref a), (.int (4 : Int32)), (.long w)] 5 = mkF m 0 #[.val (.ref a), .val (.int (4 : Int32)), .val (.long w), .second, .unset] [] := by first | (simp [entryFrame, mkF, argsToLocals, Value.category]; done) | rfl
theorem own_d5_55 : decode method_4_code 55 = .ok (.aload_n 0, 1) := by decide +kernel
theorem own_d5_56 : decode method_4_code 56 = .ok (.iconst 3, 1) := by decide +kernel
theorem own_d5_57 : decode method_4_code 57 = .ok (.laload, 1) := by decide +kernel
theorem own_d5_58 : decode method_4_code 58 = .ok (.lload_n 2, 1) := by decide +kernel
theorem own_d5_59 : decode method_4_code 59 = .ok (.lcmp, 1) := by decide +kernel
theorem own_d5_60 : decode method_4_code 60 = .ok (.ifCond .ne 6, 3) := by decide +kernel
theorem own_d5_63 : decode method_4_code 63 = .ok (.iinc 4 1, 3) := by decide +kernel
set_option maxRecDepth 65536 in
set_option maxHeartbeats 40000000 in
theorem own_m_cnt4 (l : Launch) (Z : State) (a0 : Array Value) (hw : ∀ d ∈ tables_1, d.before a0 Z = true) (a : Addr) (w : Int64) (h0 : Heap) (n0 : Nat) (hn0 : n0 ≤ h0.size) (g0 g1 g2 g3 g4 : Int64) (A : own_JA Z h0 a [g0, g1, g2, g3, g4]) : own_Met l Z n0 (⟨"com/example/stablemate/stablemate/SliceHeapsReplaceLargestPinLaw", "count", "([JIJ)I"⟩ : MethodName) method_4_code 5 (some .int) [] ({ frames := 0, cells := 0, slots := 0, locals := 0 } : Room) #[(.ref a), (.int (4 : Int32)), (.long w)] h0 (fun v h => v = some (.int (own_cnt [g0, g1, g2, g3] w 0)) ∧ h0 = h) := by
  refine own_body (plainFor_of_name own_pn_com_example_stablemate_stablemate_SliceHeapsReplaceLargestPinLaw) hn0 (own_ef_cnt4 a w) ?_
  intro p e s m below meth c T C X
  refine own_iconst C X own_d5_0 (v := 0) (by decide) (pc' := 1) rfl ?_
  refine own_istore C X own_d5_1 (L' := #[.val (.ref a), .val (.int (4 : Int32)), .val (.long w), .second, .val (.int (0 : Int32))]) rfl (pc' := 3) rfl ?_
  refine own_iloadN C X own_d5_3 rfl (pc' := 4) rfl ?_
  refine own_if_le C X own_d5_4 (pcT := 18) (pc' := 7) (by decide) (by decide) rfl (fun hc4 => absurd hc4 (by decide)) (fun hc4 => ?_)
  refine own_aloadN C X own_d5_7 rfl rfl (pc' := 8) rfl ?_
  refine own_iconst C X own_d5_8 (v := 0) (by decide) (pc' := 9) rfl ?_
  refine own_laload C X own_d5_9 A (by decide) (i := 0) rfl (pc' := 10) rfl ?_
  refine own_lloadN C X own_d5_10 rfl (pc' := 11) rfl ?_
  have J_c1 : ∀ c1 : Int32, (if g0 = w then (0 : Int32) + 1 else (0 : Int32)) = c1 → own_Go p e below n0 (own_Fin ({ frames := 0, cells := 0, slots := 0, locals := 0 } : Room) s (fun v h => v = some (.int (own_cnt [g0, g1, g2, g3] w 0)) ∧ h0 = h)) (T.setTop (mkF m 18 #[.val (.ref a), .val (.int (4 : Int32)), .val (.long w), .second, .val (.int c1)] [])) := by
    intro c1 e_c1
    refine own_iloadN C X own_d5_18 rfl (pc' := 19) rfl ?_
    refine own_iconst C X own_d5_19 (v := 1) (by decide) (pc' := 20) rfl ?_
    refine own_icmp_le C X own_d5_20 (pcT := 34) (pc' := 23) (by decide) (by decide) rfl (fun hc20 => absurd hc20 (by decide)) (fun hc20 => ?_)
    refine own_aloadN C X own_d5_23 rfl rfl (pc' := 24) rfl ?_
    refine own_iconst C X own_d5_24 (v := 1) (by decide) (pc' := 25) rfl ?_
    refine own_laload C X own_d5_25 A (by decide) (i := 1) rfl (pc' := 26) rfl ?_
    refine own_lloadN C X own_d5_26 rfl (pc' := 27) rfl ?_
    have J_c2 : ∀ c2 : Int32, (if g1 = w then c1 + 1 else c1) = c2 → own_Go p e below n0 (own_Fin ({ frames := 0, cells := 0, slots := 0, locals := 0 } : Room) s (fun v h => v = some (.int (own_cnt [g0, g1, g2, g3] w 0)) ∧ h0 = h)) (T.setTop (mkF m 34 #[.val (.ref a), .val (.int (4 : Int32)), .val (.long w), .second, .val (.int c2)] [])) := by
      intro c2 e_c2
      refine own_iloadN C X own_d5_34 rfl (pc' := 35) rfl ?_
      refine own_iconst C X own_d5_35 (v := 2) (by decide) (pc' := 36) rfl ?_
      refine own_icmp_le C X own_d5_36 (pcT := 50) (pc' := 39) (by decide) (by decide) rfl (fun hc36 => absurd hc36 (by decide)) (fun hc36 => ?_)
      refine own_aloadN C X own_d5_39 rfl rfl (pc' := 40) rfl ?_
      refine own_iconst C X own_d5_40 (v := 2) (by decide) (pc' := 41) rfl ?_
      refine own_laload C X own_d5_41 A (by decide) (i := 2) rfl (pc' := 42) rfl ?_
      refine own_lloadN C X own_d5_42 rfl (pc' := 43) rfl ?_
      have J_c3 : ∀ c3 : Int32, (if g2 = w then c2 + 1 else c2) = c3 → own_Go p e below n0 (own_Fin ({ frames := 0, cells := 0, slots := 0, locals := 0 } : Room) s (fun v h => v = some (.int (own_cnt [g0, g1, g2, g3] w 0)) ∧ h0 = h)) (T.setTop (mkF m 50 #[.val (.ref a), .val (.int (4 : Int32)), .val (.long w), .second, .val (.int c3)] [])) := by
        intro c3 e_c3
        refine own_iloadN C X own_d5_50 rfl (pc' := 51) rfl ?_
        refine own_iconst C X own_d5_51 (v := 3) (by decide) (pc' := 52) rfl ?_
        refine own_icmp_le C X own_d5_52 (pcT := 66) (pc' := 55) (by decide) (by decide) rfl (fun hc52 => absurd hc52 (by decide)) (fun hc52 => ?_)
        refine own_aloadN C X own_d5_55 rfl rfl (pc' := 56) rfl ?_
        refine own_iconst C X own_d5_56 (v := 3) (by decide) (pc' := 57) rfl ?_
        refine own_laload C X own_d5_57 A (by decide) (i := 3) rfl (pc' := 58) rfl ?_
        refine own_lloadN C X own_d5_58 rfl (pc' := 59) rfl ?_
        have J_c4 : ∀ c4 : Int32, (if g3 = w then c3 + 1 else c3) = c4 → own_Go p e below n0 (own_Fin ({ frames := 0, cells := 0, slots := 0, locals := 0 } : Room) s (fun v h => v = some (.int (own_cnt [g0, g1, g2, g3] w 0)) ∧ h0 = h)) (T.setTop (mkF m 66 #[.val (.ref a), .val (.int (4 : Int32)), .val (.long w), .second, .val (.int c4)] [])) := by
          intro c4 e_c4
          refine own_iloadN C X own_d5_66 rfl (pc' := 67) rfl ?_
          refine own_iconst C X own_d5_67 (v := 4) (by decide) (pc' := 68) rfl ?_
          refine own_icmp_le C X own_d5_68 (pcT := 82) (pc' := 71) (by decide) (by decide) rfl (fun hc68 => ?_) (fun hc68 => absurd hc68 (by decide))
          refine own_iload C X own_d5_82 rfl (pc' := 84) rfl ?_
          exact own_ireturn C X own_d5_84 (Nat.le_of_ble_eq_true rfl) (Nat.le_of_ble_eq_true rfl) (⟨by rw [← e_c4, ← e_c3, ← e_c2, ← e_c1]; rfl, rfl⟩)
        refine own_lcmp_ne C X own_d5_59 own_d5_60 (pcT := 66) (pc' := 63) (by decide) (by decide) rfl (fun hc => J_c4 _ (if_neg hc)) (fun hc => ?_)
        refine own_iinc C X own_d5_63 rfl (d := 1) (by decide) rfl (L' := #[.val (.ref a), .val (.int (4 : Int32)), .val (.long w), .second, .val (.int (c3 + (1 : Int32)))]) rfl (pc' := 66) rfl ?_
        exact J_c4 _ (if_pos hc)
      refine own_lcmp_ne C X own_d5_43 own_d5_44 (pcT := 50) (pc' := 47) (by decide) (by decide) rfl (fun hc => J_c3 _ (if_neg hc)) (fun hc => ?_)
      refine own_iinc C X own_d5_47 rfl (d := 1) (by decide) rfl (L' := #[.val (.ref a), .val (.int (4 : Int32)), .val (.long w), .second, .val (.int (c2 + (1 : Int32)))]) rfl (pc' := 50) rfl ?_
      exact J_c3 _ (if_pos hc)
    refine own_lcmp_ne C X own_d5_27 own_d5_28 (pcT := 34) (pc' := 31) (by decide) (by decide) rfl (fun hc => J_c2 _ (if_neg hc)) (fun hc => ?_)
    refine own_iinc C X own_d5_31 rfl (d := 1) (by decide) rfl (L' := #[.val (.ref a), .val (.int (4 : Int32)), .val (.long w), .second, .val (.int (c1 + (1 : Int32)))]) rfl (pc' := 34) rfl ?_
    exact J_c2 _ (if_pos hc)
  refine own_lcmp_ne C X own_d5_11 own_d5_12 (pcT := 18) (pc' := 15) (by decide) (by decide) rfl (fun hc => J_c1 _ (if_neg hc)) (fun hc => ?_)
  refine own_iinc C X own_d5_15 rfl (d := 1) (by decide) rfl (L' := #[.val (.ref a), .val (.int (4 : Int32)), .val (.long w), .second, .val (.int ((0 : Int32) + (1 : Int32)))]) rfl (pc' := 18) rfl ?_
  exact J_c1 _ (if_pos hc)
theorem own_ef_cnt5 (a : Addr) (w : Int64) (m : MethodId) : entryFrame m #[(.ref a), (.int (5 : Int32)), (.long w)] 5 = mkF m 0 #[.val (.ref a), .val (.int (5 : Int32)), .val (.long w), .second, .unset] [] := by first | (simp [entryFrame, mkF, argsToLocals, Value.category]; done) | rfl
theorem own_d5_71 : decode method_4_code 71 = .ok (.aload_n 0, 1) := by decide +kernel
theorem own_d5_72 : decode method_4_code 72 = .ok (.iconst 4, 1) := by decide +kernel
theorem own_d5_73 : decode method_4_code 73 = .ok (.laload, 1) := by decide +kernel
theorem own_d5_74 : decode method_4_code 74 = .ok (.lload_n 2, 1) := by decide +kernel
theorem own_d5_75 : decode method_4_code 75 = .ok (.lcmp, 1) := by decide +kernel
theorem own_d5_76 : decode method_4_code 76 = .ok (.ifCond .ne 6, 3) := by decide +kernel
theorem own_d5_79 : decode method_4_code 79 = .ok (.iinc 4 1, 3) := by decide +kernel
set_option maxRecDepth 65536 in
set_option maxHeartbeats 40000000 in
theorem own_m_cnt5 (l : Launch) (Z : State) (a0 : Array Value) (hw : ∀ d ∈ tables_1, d.before a0 Z = true) (a : Addr) (w : Int64) (h0 : Heap) (n0 : Nat) (hn0 : n0 ≤ h0.size) (g0 g1 g2 g3 g4 : Int64) (A : own_JA Z h0 a [g0, g1, g2, g3, g4]) : own_Met l Z n0 (⟨"com/example/stablemate/stablemate/SliceHeapsReplaceLargestPinLaw", "count", "([JIJ)I"⟩ : MethodName) method_4_code 5 (some .int) [] ({ frames := 0, cells := 0, slots := 0, locals := 0 } : Room) #[(.ref a), (.int (5 : Int32)), (.long w)] h0 (fun v h => v = some (.int (own_cnt [g0, g1, g2, g3, g4] w 0)) ∧ h0 = h) := by
  refine own_body (plainFor_of_name own_pn_com_example_stablemate_stablemate_SliceHeapsReplaceLargestPinLaw) hn0 (own_ef_cnt5 a w) ?_
  intro p e s m below meth c T C X
  refine own_iconst C X own_d5_0 (v := 0) (by decide) (pc' := 1) rfl ?_
  refine own_istore C X own_d5_1 (L' := #[.val (.ref a), .val (.int (5 : Int32)), .val (.long w), .second, .val (.int (0 : Int32))]) rfl (pc' := 3) rfl ?_
  refine own_iloadN C X own_d5_3 rfl (pc' := 4) rfl ?_
  refine own_if_le C X own_d5_4 (pcT := 18) (pc' := 7) (by decide) (by decide) rfl (fun hc4 => absurd hc4 (by decide)) (fun hc4 => ?_)
  refine own_aloadN C X own_d5_7 rfl rfl (pc' := 8) rfl ?_
  refine own_iconst C X own_d5_8 (v := 0) (by decide) (pc' := 9) rfl ?_
  refine own_laload C X own_d5_9 A (by decide) (i := 0) rfl (pc' := 10) rfl ?_
  refine own_lloadN C X own_d5_10 rfl (pc' := 11) rfl ?_
  have J_c1 : ∀ c1 : Int32, (if g0 = w then (0 : Int32) + 1 else (0 : Int32)) = c1 → own_Go p e below n0 (own_Fin ({ frames := 0, cells := 0, slots := 0, locals := 0 } : Room) s (fun v h => v = some (.int (own_cnt [g0, g1, g2, g3, g4] w 0)) ∧ h0 = h)) (T.setTop (mkF m 18 #[.val (.ref a), .val (.int (5 : Int32)), .val (.long w), .second, .val (.int c1)] [])) := by
    intro c1 e_c1
    refine own_iloadN C X own_d5_18 rfl (pc' := 19) rfl ?_
    refine own_iconst C X own_d5_19 (v := 1) (by decide) (pc' := 20) rfl ?_
    refine own_icmp_le C X own_d5_20 (pcT := 34) (pc' := 23) (by decide) (by decide) rfl (fun hc20 => absurd hc20 (by decide)) (fun hc20 => ?_)
    refine own_aloadN C X own_d5_23 rfl rfl (pc' := 24) rfl ?_
    refine own_iconst C X own_d5_24 (v := 1) (by decide) (pc' := 25) rfl ?_
    refine own_laload C X own_d5_25 A (by decide) (i := 1) rfl (pc' := 26) rfl ?_
    refine own_lloadN C X own_d5_26 rfl (pc' := 27) rfl ?_
    have J_c2 : ∀ c2 : Int32, (if g1 = w then c1 + 1 else c1) = c2 → own_Go p e below n0 (own_Fin ({ frames := 0, cells := 0, slots := 0, locals := 0 } : Room) s (fun v h => v = some (.int (own_cnt [g0, g1, g2, g3, g4] w 0)) ∧ h0 = h)) (T.setTop (mkF m 34 #[.val (.ref a), .val (.int (5 : Int32)), .val (.long w), .second, .val (.int c2)] [])) := by
      intro c2 e_c2
      refine own_iloadN C X own_d5_34 rfl (pc' := 35) rfl ?_
      refine own_iconst C X own_d5_35 (v := 2) (by decide) (pc' := 36) rfl ?_
      refine own_icmp_le C X own_d5_36 (pcT := 50) (pc' := 39) (by decide) (by decide) rfl (fun hc36 => absurd hc36 (by decide)) (fun hc36 => ?_)
      refine own_aloadN C X own_d5_39 rfl rfl (pc' := 40) rfl ?_
      refine own_iconst C X own_d5_40 (v := 2) (by decide) (pc' := 41) rfl ?_
      refine own_laload C X own_d5_41 A (by decide) (i := 2) rfl (pc' := 42) rfl ?_
      refine own_lloadN C X own_d5_42 rfl (pc' := 43) rfl ?_
      have J_c3 : ∀ c3 : Int32, (if g2 = w then c2 + 1 else c2) = c3 → own_Go p e below n0 (own_Fin ({ frames := 0, cells := 0, slots := 0, locals := 0 } : Room) s (fun v h => v = some (.int (own_cnt [g0, g1, g2, g3, g4] w 0)) ∧ h0 = h)) (T.setTop (mkF m 50 #[.val (.ref a), .val (.int (5 : Int32)), .val (.long w), .second, .val (.int c3)] [])) := by
        intro c3 e_c3
        refine own_iloadN C X own_d5_50 rfl (pc' := 51) rfl ?_
        refine own_iconst C X own_d5_51 (v := 3) (by decide) (pc' := 52) rfl ?_
        refine own_icmp_le C X own_d5_52 (pcT := 66) (pc' := 55) (by decide) (by decide) rfl (fun hc52 => absurd hc52 (by decide)) (fun hc52 => ?_)
        refine own_aloadN C X own_d5_55 rfl rfl (pc' := 56) rfl ?_
        refine own_iconst C X own_d5_56 (v := 3) (by decide) (pc' := 57) rfl ?_
        refine own_laload C X own_d5_57 A (by decide) (i := 3) rfl (pc' := 58) rfl ?_
        refine own_lloadN C X own_d5_58 rfl (pc' := 59) rfl ?_
        have J_c4 : ∀ c4 : Int32, (if g3 = w then c3 + 1 else c3) = c4 → own_Go p e below n0 (own_Fin ({ frames := 0, cells := 0, slots := 0, locals := 0 } : Room) s (fun v h => v = some (.int (own_cnt [g0, g1, g2, g3, g4] w 0)) ∧ h0 = h)) (T.setTop (mkF m 66 #[.val (.ref a), .val (.int (5 : Int32)), .val (.long w), .second, .val (.int c4)] [])) := by
          intro c4 e_c4
          refine own_iloadN C X own_d5_66 rfl (pc' := 67) rfl ?_
          refine own_iconst C X own_d5_67 (v := 4) (by decide) (pc' := 68) rfl ?_
          refine own_icmp_le C X own_d5_68 (pcT := 82) (pc' := 71) (by decide) (by decide) rfl (fun hc68 => absurd hc68 (by decide)) (fun hc68 => ?_)
          refine own_aloadN C X own_d5_71 rfl rfl (pc' := 72) rfl ?_
          refine own_iconst C X own_d5_72 (v := 4) (by decide) (pc' := 73) rfl ?_
          refine own_laload C X own_d5_73 A (by decide) (i := 4) rfl (pc' := 74) rfl ?_
          refine own_lloadN C X own_d5_74 rfl (pc' := 75) rfl ?_
          have J_c5 : ∀ c5 : Int32, (if g4 = w then c4 + 1 else c4) = c5 → own_Go p e below n0 (own_Fin ({ frames := 0, cells := 0, slots := 0, locals := 0 } : Room) s (fun v h => v = some (.int (own_cnt [g0, g1, g2, g3, g4] w 0)) ∧ h0 = h)) (T.setTop (mkF m 82 #[.val (.ref a), .val (.int (5 : Int32)), .val (.long w), .second, .val (.int c5)] [])) := by
            intro c5 e_c5
            refine own_iload C X own_d5_82 rfl (pc' := 84) rfl ?_
            exact own_ireturn C X own_d5_84 (Nat.le_of_ble_eq_true rfl) (Nat.le_of_ble_eq_true rfl) (⟨by rw [← e_c5, ← e_c4, ← e_c3, ← e_c2, ← e_c1]; rfl, rfl⟩)
          refine own_lcmp_ne C X own_d5_75 own_d5_76 (pcT := 82) (pc' := 79) (by decide) (by decide) rfl (fun hc => J_c5 _ (if_neg hc)) (fun hc => ?_)
          refine own_iinc C X own_d5_79 rfl (d := 1) (by decide) rfl (L' := #[.val (.ref a), .val (.int (5 : Int32)), .val (.long w), .second, .val (.int (c4 + (1 : Int32)))]) rfl (pc' := 82) rfl ?_
          exact J_c5 _ (if_pos hc)
        refine own_lcmp_ne C X own_d5_59 own_d5_60 (pcT := 66) (pc' := 63) (by decide) (by decide) rfl (fun hc => J_c4 _ (if_neg hc)) (fun hc => ?_)
        refine own_iinc C X own_d5_63 rfl (d := 1) (by decide) rfl (L' := #[.val (.ref a), .val (.int (5 : Int32)), .val (.long w), .second, .val (.int (c3 + (1 : Int32)))]) rfl (pc' := 66) rfl ?_
        exact J_c4 _ (if_pos hc)
      refine own_lcmp_ne C X own_d5_43 own_d5_44 (pcT := 50) (pc' := 47) (by decide) (by decide) rfl (fun hc => J_c3 _ (if_neg hc)) (fun hc => ?_)
      refine own_iinc C X own_d5_47 rfl (d := 1) (by decide) rfl (L' := #[.val (.ref a), .val (.int (5 : Int32)), .val (.long w), .second, .val (.int (c2 + (1 : Int32)))]) rfl (pc' := 50) rfl ?_
      exact J_c3 _ (if_pos hc)
    refine own_lcmp_ne C X own_d5_27 own_d5_28 (pcT := 34) (pc' := 31) (by decide) (by decide) rfl (fun hc => J_c2 _ (if_neg hc)) (fun hc => ?_)
    refine own_iinc C X own_d5_31 rfl (d := 1) (by decide) rfl (L' := #[.val (.ref a), .val (.int (5 : Int32)), .val (.long w), .second, .val (.int (c1 + (1 : Int32)))]) rfl (pc' := 34) rfl ?_
    exact J_c2 _ (if_pos hc)
  refine own_lcmp_ne C X own_d5_11 own_d5_12 (pcT := 18) (pc' := 15) (by decide) (by decide) rfl (fun hc => J_c1 _ (if_neg hc)) (fun hc => ?_)
  refine own_iinc C X own_d5_15 rfl (d := 1) (by decide) rfl (L' := #[.val (.ref a), .val (.int (5 : Int32)), .val (.long w), .second, .val (.int ((0 : Int32) + (1 : Int32)))]) rfl (pc' := 18) rfl ?_
  exact J_c1 _ (if_pos hc)
theorem own_ef_scN (a : Addr) (b : Addr) (s_ : Int32) (k : Int32) (m : MethodId) : entryFrame m #[(.ref a), (.ref b), (.int s_), (.int k)] 4 = mkF m 0 #[.val (.ref a), .val (.ref b), .val (.int s_), .val (.int k)] [] := by first | (simp [entryFrame, mkF, argsToLocals, Value.category]; done) | rfl
theorem own_d4_0 : decode method_5_code 0 = .ok (.iload_n 3, 1) := by decide +kernel
theorem own_d4_1 : decode method_5_code 1 = .ok (.iload_n 2, 1) := by decide +kernel
theorem own_d4_2 : decode method_5_code 2 = .ok (.if_icmp .ge 22, 3) := by decide +kernel
theorem own_d4_24 : decode method_5_code 24 = .ok (.iconst 1, 1) := by decide +kernel
theorem own_d4_25 : decode method_5_code 25 = .ok (.goto 4, 3) := by decide +kernel
theorem own_d4_29 : decode method_5_code 29 = .ok (.ireturn, 1) := by decide +kernel
set_option maxRecDepth 65536 in
set_option maxHeartbeats 40000000 in
theorem own_m_scN (l : Launch) (Z : State) (a0 : Array Value) (hw : ∀ d ∈ tables_1, d.before a0 Z = true) (a : Addr) (b : Addr) (s_ : Int32) (k : Int32) (h0 : Heap) (n0 : Nat) (hn0 : n0 ≤ h0.size) (q : ¬ k < s_) : own_Met l Z n0 (⟨"com/example/stablemate/stablemate/SliceHeapsReplaceLargestPinLaw", "sameCount", "([J[JII)Z"⟩ : MethodName) method_5_code 4 (some .boolean) [] ({ frames := 1, cells := 0, slots := 0, locals := 24 } : Room) #[(.ref a), (.ref b), (.int s_), (.int k)] h0 (fun v h => v = some (.int 1) ∧ h0 = h) := by
  refine own_body (plainFor_of_name own_pn_com_example_stablemate_stablemate_SliceHeapsReplaceLargestPinLaw) hn0 (own_ef_scN a b s_ k) ?_
  intro p e s m below meth c T C X
  refine own_iloadN C X own_d4_0 rfl (pc' := 1) rfl ?_
  refine own_iloadN C X own_d4_1 rfl (pc' := 2) rfl ?_
  refine own_icmp_ge C X own_d4_2 (pcT := 24) (pc' := 5) (by decide) (by decide) rfl (fun hc2 => ?_) (fun hc2 => absurd hc2 (q))
  refine own_iconst C X own_d4_24 (v := 1) (by decide) (pc' := 25) rfl ?_
  refine own_goto C X own_d4_25 (pc' := 29) (by decide) (by decide) ?_
  exact own_ireturn_z C X own_d4_29 (Nat.le_of_ble_eq_true rfl) (Nat.le_of_ble_eq_true rfl) (⟨rfl, rfl⟩)
theorem own_ef_sc1 (a : Addr) (b : Addr) (k : Int32) (m : MethodId) : entryFrame m #[(.ref a), (.ref b), (.int (1 : Int32)), (.int k)] 4 = mkF m 0 #[.val (.ref a), .val (.ref b), .val (.int (1 : Int32)), .val (.int k)] [] := by first | (simp [entryFrame, mkF, argsToLocals, Value.category]; done) | rfl
theorem own_d4_5 : decode method_5_code 5 = .ok (.aload_n 0, 1) := by decide +kernel
theorem own_d4_6 : decode method_5_code 6 = .ok (.iload_n 2, 1) := by decide +kernel
theorem own_d4_7 : decode method_5_code 7 = .ok (.aload_n 0, 1) := by decide +kernel
theorem own_d4_8 : decode method_5_code 8 = .ok (.iload_n 3, 1) := by decide +kernel
theorem own_d4_9 : decode method_5_code 9 = .ok (.laload, 1) := by decide +kernel
theorem own_pd_4659 : parseMethodDescriptor "([JIJ)I" = some ⟨[(.array .long), .int, .long], some .int⟩ := by decide +kernel
theorem own_d4_10 : decode method_5_code 10 = .ok (.invokestatic 35, 3) := by decide +kernel
theorem own_d4_13 : decode method_5_code 13 = .ok (.aload_n 1, 1) := by decide +kernel
theorem own_d4_14 : decode method_5_code 14 = .ok (.iload_n 2, 1) := by decide +kernel
theorem own_d4_15 : decode method_5_code 15 = .ok (.aload_n 0, 1) := by decide +kernel
theorem own_d4_16 : decode method_5_code 16 = .ok (.iload_n 3, 1) := by decide +kernel
theorem own_d4_17 : decode method_5_code 17 = .ok (.laload, 1) := by decide +kernel
theorem own_d4_18 : decode method_5_code 18 = .ok (.invokestatic 35, 3) := by decide +kernel
theorem own_d4_21 : decode method_5_code 21 = .ok (.if_icmp .ne 7, 3) := by decide +kernel
set_option maxRecDepth 65536 in
set_option maxHeartbeats 40000000 in
theorem own_m_sc1 (l : Launch) (Z : State) (a0 : Array Value) (hw : ∀ d ∈ tables_1, d.before a0 Z = true) (a : Addr) (b : Addr) (k : Int32) (h0 : Heap) (n0 : Nat) (hn0 : n0 ≤ h0.size) (w0 w1 w2 w3 w4 g0 g1 g2 g3 g4 wk : Int64) (A : own_JA Z h0 a [w0, w1, w2, w3, w4]) (B : own_JA Z h0 b [g0, g1, g2, g3, g4]) (q : k < (1 : Int32)) (kn : Nat) (hk : k.toInt = (kn : Int)) (ek : [w0, w1, w2, w3, w4][kn]? = some wk) (pm : ∀ z, own_cnt [w0] z 0 = own_cnt [g0] z 0) : own_Met l Z n0 (⟨"com/example/stablemate/stablemate/SliceHeapsReplaceLargestPinLaw", "sameCount", "([J[JII)Z"⟩ : MethodName) method_5_code 4 (some .boolean) [] ({ frames := 1, cells := 0, slots := 0, locals := 24 } : Room) #[(.ref a), (.ref b), (.int (1 : Int32)), (.int k)] h0 (fun v h => v = some (.int 1) ∧ h0 = h) := by
  refine own_body (plainFor_of_name own_pn_com_example_stablemate_stablemate_SliceHeapsReplaceLargestPinLaw) hn0 (own_ef_sc1 a b k) ?_
  intro p e s m below meth c T C X
  refine own_iloadN C X own_d4_0 rfl (pc' := 1) rfl ?_
  refine own_iloadN C X own_d4_1 rfl (pc' := 2) rfl ?_
  refine own_icmp_ge C X own_d4_2 (pcT := 24) (pc' := 5) (by decide) (by decide) rfl (fun hc2 => absurd hc2 (not_not_intro q)) (fun hc2 => ?_)
  refine own_aloadN C X own_d4_5 rfl rfl (pc' := 6) rfl ?_
  refine own_iloadN C X own_d4_6 rfl (pc' := 7) rfl ?_
  refine own_aloadN C X own_d4_7 rfl rfl (pc' := 8) rfl ?_
  refine own_iloadN C X own_d4_8 rfl (pc' := 9) rfl ?_
  refine own_laload C X own_d4_9 A hk (i := kn) ek (pc' := 10) rfl ?_
  refine own_callS C X own_d4_10 (own_m_cnt1 l Z a0 hw a wk _ n0 (own_big C X) w0 w1 w2 w3 w4 A) (hw _ (List.mem_of_getElem? (i := 17) rfl)) (hw _ (List.mem_of_getElem? (i := 18) rfl)) (hw _ (List.mem_of_getElem? (i := 12) rfl)) (hw _ (List.mem_of_getElem? (i := 19) rfl)) (by decide) own_pd_4659 rfl rfl (Nat.le_of_ble_eq_true rfl) (Nat.le_of_ble_eq_true rfl) (Nat.le_of_ble_eq_true rfl) (Nat.le_of_ble_eq_true rfl) (av := [(.ref a), (.int (1 : Int32)), (.long wk)]) (S := []) rfl (pc' := 13) rfl ?_
  intro T h v X hQ
  obtain ⟨rfl, rfl⟩ := hQ
  show own_Go p e below n0 (own_Fin ({ frames := 1, cells := 0, slots := 0, locals := 24 } : Room) s (fun v h => v = some (.int 1) ∧ h0 = h)) (T.setTop (mkF m 13 #[.val (.ref a), .val (.ref b), .val (.int (1 : Int32)), .val (.int k)] [(.int (own_cnt [w0] wk 0))]))
  refine own_aloadN C X own_d4_13 rfl rfl (pc' := 14) rfl ?_
  refine own_iloadN C X own_d4_14 rfl (pc' := 15) rfl ?_
  refine own_aloadN C X own_d4_15 rfl rfl (pc' := 16) rfl ?_
  refine own_iloadN C X own_d4_16 rfl (pc' := 17) rfl ?_
  refine own_laload C X own_d4_17 A hk (i := kn) ek (pc' := 18) rfl ?_
  refine own_callS C X own_d4_18 (own_m_cnt1 l Z a0 hw b wk _ n0 (own_big C X) g0 g1 g2 g3 g4 B) (hw _ (List.mem_of_getElem? (i := 17) rfl)) (hw _ (List.mem_of_getElem? (i := 18) rfl)) (hw _ (List.mem_of_getElem? (i := 12) rfl)) (hw _ (List.mem_of_getElem? (i := 19) rfl)) (by decide) own_pd_4659 rfl rfl (Nat.le_of_ble_eq_true rfl) (Nat.le_of_ble_eq_true rfl) (Nat.le_of_ble_eq_true rfl) (Nat.le_of_ble_eq_true rfl) (av := [(.ref b), (.int (1 : Int32)), (.long wk)]) (S := [(.int (own_cnt [w0] wk 0))]) rfl (pc' := 21) rfl ?_
  intro T h v X hQ
  obtain ⟨rfl, rfl⟩ := hQ
  show own_Go p e below n0 (own_Fin ({ frames := 1, cells := 0, slots := 0, locals := 24 } : Room) s (fun v h => v = some (.int 1) ∧ h0 = h)) (T.setTop (mkF m 21 #[.val (.ref a), .val (.ref b), .val (.int (1 : Int32)), .val (.int k)] [(.int (own_cnt [g0] wk 0)), (.int (own_cnt [w0] wk 0))]))
  refine own_icmp_ne C X own_d4_21 (pcT := 28) (pc' := 24) (by decide) (by decide) rfl (fun hc21 => absurd hc21 (not_not_intro (pm wk))) (fun hc21 => ?_)
  refine own_iconst C X own_d4_24 (v := 1) (by decide) (pc' := 25) rfl ?_
  refine own_goto C X own_d4_25 (pc' := 29) (by decide) (by decide) ?_
  exact own_ireturn_z C X own_d4_29 (Nat.le_of_ble_eq_true rfl) (Nat.le_of_ble_eq_true rfl) (⟨rfl, rfl⟩)
theorem own_ef_sc2 (a : Addr) (b : Addr) (k : Int32) (m : MethodId) : entryFrame m #[(.ref a), (.ref b), (.int (2 : Int32)), (.int k)] 4 = mkF m 0 #[.val (.ref a), .val (.ref b), .val (.int (2 : Int32)), .val (.int k)] [] := by first | (simp [entryFrame, mkF, argsToLocals, Value.category]; done) | rfl
set_option maxRecDepth 65536 in
set_option maxHeartbeats 40000000 in
theorem own_m_sc2 (l : Launch) (Z : State) (a0 : Array Value) (hw : ∀ d ∈ tables_1, d.before a0 Z = true) (a : Addr) (b : Addr) (k : Int32) (h0 : Heap) (n0 : Nat) (hn0 : n0 ≤ h0.size) (w0 w1 w2 w3 w4 g0 g1 g2 g3 g4 wk : Int64) (A : own_JA Z h0 a [w0, w1, w2, w3, w4]) (B : own_JA Z h0 b [g0, g1, g2, g3, g4]) (q : k < (2 : Int32)) (kn : Nat) (hk : k.toInt = (kn : Int)) (ek : [w0, w1, w2, w3, w4][kn]? = some wk) (pm : ∀ z, own_cnt [w0, w1] z 0 = own_cnt [g0, g1] z 0) : own_Met l Z n0 (⟨"com/example/stablemate/stablemate/SliceHeapsReplaceLargestPinLaw", "sameCount", "([J[JII)Z"⟩ : MethodName) method_5_code 4 (some .boolean) [] ({ frames := 1, cells := 0, slots := 0, locals := 24 } : Room) #[(.ref a), (.ref b), (.int (2 : Int32)), (.int k)] h0 (fun v h => v = some (.int 1) ∧ h0 = h) := by
  refine own_body (plainFor_of_name own_pn_com_example_stablemate_stablemate_SliceHeapsReplaceLargestPinLaw) hn0 (own_ef_sc2 a b k) ?_
  intro p e s m below meth c T C X
  refine own_iloadN C X own_d4_0 rfl (pc' := 1) rfl ?_
  refine own_iloadN C X own_d4_1 rfl (pc' := 2) rfl ?_
  refine own_icmp_ge C X own_d4_2 (pcT := 24) (pc' := 5) (by decide) (by decide) rfl (fun hc2 => absurd hc2 (not_not_intro q)) (fun hc2 => ?_)
  refine own_aloadN C X own_d4_5 rfl rfl (pc' := 6) rfl ?_
  refine own_iloadN C X own_d4_6 rfl (pc' := 7) rfl ?_
  refine own_aloadN C X own_d4_7 rfl rfl (pc' := 8) rfl ?_
  refine own_iloadN C X own_d4_8 rfl (pc' := 9) rfl ?_
  refine own_laload C X own_d4_9 A hk (i := kn) ek (pc' := 10) rfl ?_
  refine own_callS C X own_d4_10 (own_m_cnt2 l Z a0 hw a wk _ n0 (own_big C X) w0 w1 w2 w3 w4 A) (hw _ (List.mem_of_getElem? (i := 17) rfl)) (hw _ (List.mem_of_getElem? (i := 18) rfl)) (hw _ (List.mem_of_getElem? (i := 12) rfl)) (hw _ (List.mem_of_getElem? (i := 19) rfl)) (by decide) own_pd_4659 rfl rfl (Nat.le_of_ble_eq_true rfl) (Nat.le_of_ble_eq_true rfl) (Nat.le_of_ble_eq_true rfl) (Nat.le_of_ble_eq_true rfl) (av := [(.ref a), (.int (2 : Int32)), (.long wk)]) (S := []) rfl (pc' := 13) rfl ?_
  intro T h v X hQ
  obtain ⟨rfl, rfl⟩ := hQ
  show own_Go p e below n0 (own_Fin ({ frames := 1, cells := 0, slots := 0, locals := 24 } : Room) s (fun v h => v = some (.int 1) ∧ h0 = h)) (T.setTop (mkF m 13 #[.val (.ref a), .val (.ref b), .val (.int (2 : Int32)), .val (.int k)] [(.int (own_cnt [w0, w1] wk 0))]))
  refine own_aloadN C X own_d4_13 rfl rfl (pc' := 14) rfl ?_
  refine own_iloadN C X own_d4_14 rfl (pc' := 15) rfl ?_
  refine own_aloadN C X own_d4_15 rfl rfl (pc' := 16) rfl ?_
  refine own_iloadN C X own_d4_16 rfl (pc' := 17) rfl ?_
  refine own_laload C X own_d4_17 A hk (i := kn) ek (pc' := 18) rfl ?_
  refine own_callS C X own_d4_18 (own_m_cnt2 l Z a0 hw b wk _ n0 (own_big C X) g0 g1 g2 g3 g4 B) (hw _ (List.mem_of_getElem? (i := 17) rfl)) (hw _ (List.mem_of_getElem? (i := 18) rfl)) (hw _ (List.mem_of_getElem? (i := 12) rfl)) (hw _ (List.mem_of_getElem? (i := 19) rfl)) (by decide) own_pd_4659 rfl rfl (Nat.le_of_ble_eq_true rfl) (Nat.le_of_ble_eq_true rfl) (Nat.le_of_ble_eq_true rfl) (Nat.le_of_ble_eq_true rfl) (av := [(.ref b), (.int (2 : Int32)), (.long wk)]) (S := [(.int (own_cnt [w0, w1] wk 0))]) rfl (pc' := 21) rfl ?_
  intro T h v X hQ
  obtain ⟨rfl, rfl⟩ := hQ
  show own_Go p e below n0 (own_Fin ({ frames := 1, cells := 0, slots := 0, locals := 24 } : Room) s (fun v h => v = some (.int 1) ∧ h0 = h)) (T.setTop (mkF m 21 #[.val (.ref a), .val (.ref b), .val (.int (2 : Int32)), .val (.int k)] [(.int (own_cnt [g0, g1] wk 0)), (.int (own_cnt [w0, w1] wk 0))]))
  refine own_icmp_ne C X own_d4_21 (pcT := 28) (pc' := 24) (by decide) (by decide) rfl (fun hc21 => absurd hc21 (not_not_intro (pm wk))) (fun hc21 => ?_)
  refine own_iconst C X own_d4_24 (v := 1) (by decide) (pc' := 25) rfl ?_
  refine own_goto C X own_d4_25 (pc' := 29) (by decide) (by decide) ?_
  exact own_ireturn_z C X own_d4_29 (Nat.le_of_ble_eq_true rfl) (Nat.le_of_ble_eq_true rfl) (⟨rfl, rfl⟩)
theorem own_ef_sc3 (a : Addr) (b : Addr) (k : Int32) (m : MethodId) : entryFrame m #[(.ref a), (.ref b), (.int (3 : Int32)), (.int k)] 4 = mkF m 0 #[.val (.ref a), .val (.ref b), .val (.int (3 : Int32)), .val (.int k)] [] := by first | (simp [entryFrame, mkF, argsToLocals, Value.category]; done) | rfl
set_option maxRecDepth 65536 in
set_option maxHeartbeats 40000000 in
theorem own_m_sc3 (l : Launch) (Z : State) (a0 : Array Value) (hw : ∀ d ∈ tables_1, d.before a0 Z = true) (a : Addr) (b : Addr) (k : Int32) (h0 : Heap) (n0 : Nat) (hn0 : n0 ≤ h0.size) (w0 w1 w2 w3 w4 g0 g1 g2 g3 g4 wk : Int64) (A : own_JA Z h0 a [w0, w1, w2, w3, w4]) (B : own_JA Z h0 b [g0, g1, g2, g3, g4]) (q : k < (3 : Int32)) (kn : Nat) (hk : k.toInt = (kn : Int)) (ek : [w0, w1, w2, w3, w4][kn]? = some wk) (pm : ∀ z, own_cnt [w0, w1, w2] z 0 = own_cnt [g0, g1, g2] z 0) : own_Met l Z n0 (⟨"com/example/stablemate/stablemate/SliceHeapsReplaceLargestPinLaw", "sameCount", "([J[JII)Z"⟩ : MethodName) method_5_code 4 (some .boolean) [] ({ frames := 1, cells := 0, slots := 0, locals := 24 } : Room) #[(.ref a), (.ref b), (.int (3 : Int32)), (.int k)] h0 (fun v h => v = some (.int 1) ∧ h0 = h) := by
  refine own_body (plainFor_of_name own_pn_com_example_stablemate_stablemate_SliceHeapsReplaceLargestPinLaw) hn0 (own_ef_sc3 a b k) ?_
  intro p e s m below meth c T C X
  refine own_iloadN C X own_d4_0 rfl (pc' := 1) rfl ?_
  refine own_iloadN C X own_d4_1 rfl (pc' := 2) rfl ?_
  refine own_icmp_ge C X own_d4_2 (pcT := 24) (pc' := 5) (by decide) (by decide) rfl (fun hc2 => absurd hc2 (not_not_intro q)) (fun hc2 => ?_)
  refine own_aloadN C X own_d4_5 rfl rfl (pc' := 6) rfl ?_
  refine own_iloadN C X own_d4_6 rfl (pc' := 7) rfl ?_
  refine own_aloadN C X own_d4_7 rfl rfl (pc' := 8) rfl ?_
  refine own_iloadN C X own_d4_8 rfl (pc' := 9) rfl ?_
  refine own_laload C X own_d4_9 A hk (i := kn) ek (pc' := 10) rfl ?_
  refine own_callS C X own_d4_10 (own_m_cnt3 l Z a0 hw a wk _ n0 (own_big C X) w0 w1 w2 w3 w4 A) (hw _ (List.mem_of_getElem? (i := 17) rfl)) (hw _ (List.mem_of_getElem? (i := 18) rfl)) (hw _ (List.mem_of_getElem? (i := 12) rfl)) (hw _ (List.mem_of_getElem? (i := 19) rfl)) (by decide) own_pd_4659 rfl rfl (Nat.le_of_ble_eq_true rfl) (Nat.le_of_ble_eq_true rfl) (Nat.le_of_ble_eq_true rfl) (Nat.le_of_ble_eq_true rfl) (av := [(.ref a), (.int (3 : Int32)), (.long wk)]) (S := []) rfl (pc' := 13) rfl ?_
  intro T h v X hQ
  obtain ⟨rfl, rfl⟩ := hQ
  show own_Go p e below n0 (own_Fin ({ frames := 1, cells := 0, slots := 0, locals := 24 } : Room) s (fun v h => v = some (.int 1) ∧ h0 = h)) (T.setTop (mkF m 13 #[.val (.ref a), .val (.ref b), .val (.int (3 : Int32)), .val (.int k)] [(.int (own_cnt [w0, w1, w2] wk 0))]))
  refine own_aloadN C X own_d4_13 rfl rfl (pc' := 14) rfl ?_
  refine own_iloadN C X own_d4_14 rfl (pc' := 15) rfl ?_
  refine own_aloadN C X own_d4_15 rfl rfl (pc' := 16) rfl ?_
  refine own_iloadN C X own_d4_16 rfl (pc' := 17) rfl ?_
  refine own_laload C X own_d4_17 A hk (i := kn) ek (pc' := 18) rfl ?_
  refine own_callS C X own_d4_18 (own_m_cnt3 l Z a0 hw b wk _ n0 (own_big C X) g0 g1 g2 g3 g4 B) (hw _ (List.mem_of_getElem? (i := 17) rfl)) (hw _ (List.mem_of_getElem? (i := 18) rfl)) (hw _ (List.mem_of_getElem? (i := 12) rfl)) (hw _ (List.mem_of_getElem? (i := 19) rfl)) (by decide) own_pd_4659 rfl rfl (Nat.le_of_ble_eq_true rfl) (Nat.le_of_ble_eq_true rfl) (Nat.le_of_ble_eq_true rfl) (Nat.le_of_ble_eq_true rfl) (av := [(.ref b), (.int (3 : Int32)), (.long wk)]) (S := [(.int (own_cnt [w0, w1, w2] wk 0))]) rfl (pc' := 21) rfl ?_
  intro T h v X hQ
  obtain ⟨rfl, rfl⟩ := hQ
  show own_Go p e below n0 (own_Fin ({ frames := 1, cells := 0, slots := 0, locals := 24 } : Room) s (fun v h => v = some (.int 1) ∧ h0 = h)) (T.setTop (mkF m 21 #[.val (.ref a), .val (.ref b), .val (.int (3 : Int32)), .val (.int k)] [(.int (own_cnt [g0, g1, g2] wk 0)), (.int (own_cnt [w0, w1, w2] wk 0))]))
  refine own_icmp_ne C X own_d4_21 (pcT := 28) (pc' := 24) (by decide) (by decide) rfl (fun hc21 => absurd hc21 (not_not_intro (pm wk))) (fun hc21 => ?_)
  refine own_iconst C X own_d4_24 (v := 1) (by decide) (pc' := 25) rfl ?_
  refine own_goto C X own_d4_25 (pc' := 29) (by decide) (by decide) ?_
  exact own_ireturn_z C X own_d4_29 (Nat.le_of_ble_eq_true rfl) (Nat.le_of_ble_eq_true rfl) (⟨rfl, rfl⟩)
theorem own_ef_sc4 (a : Addr) (b : Addr) (k : Int32) (m : MethodId) : entryFrame m #[(.ref a), (.ref b), (.int (4 : Int32)), (.int k)] 4 = mkF m 0 #[.val (.ref a), .val (.ref b), .val (.int (4 : Int32)), .val (.int k)] [] := by first | (simp [entryFrame, mkF, argsToLocals, Value.category]; done) | rfl
set_option maxRecDepth 65536 in
set_option maxHeartbeats 40000000 in
theorem own_m_sc4 (l : Launch) (Z : State) (a0 : Array Value) (hw : ∀ d ∈ tables_1, d.before a0 Z = true) (a : Addr) (b : Addr) (k : Int32) (h0 : Heap) (n0 : Nat) (hn0 : n0 ≤ h0.size) (w0 w1 w2 w3 w4 g0 g1 g2 g3 g4 wk : Int64) (A : own_JA Z h0 a [w0, w1, w2, w3, w4]) (B : own_JA Z h0 b [g0, g1, g2, g3, g4]) (q : k < (4 : Int32)) (kn : Nat) (hk : k.toInt = (kn : Int)) (ek : [w0, w1, w2, w3, w4][kn]? = some wk) (pm : ∀ z, own_cnt [w0, w1, w2, w3] z 0 = own_cnt [g0, g1, g2, g3] z 0) : own_Met l Z n0 (⟨"com/example/stablemate/stablemate/SliceHeapsReplaceLargestPinLaw", "sameCount", "([J[JII)Z"⟩ : MethodName) method_5_code 4 (some .boolean) [] ({ frames := 1, cells := 0, slots := 0, locals := 24 } : Room) #[(.ref a), (.ref b), (.int (4 : Int32)), (.int k)] h0 (fun v h => v = some (.int 1) ∧ h0 = h) := by
  refine own_body (plainFor_of_name own_pn_com_example_stablemate_stablemate_SliceHeapsReplaceLargestPinLaw) hn0 (own_ef_sc4 a b k) ?_
  intro p e s m below meth c T C X
  refine own_iloadN C X own_d4_0 rfl (pc' := 1) rfl ?_
  refine own_iloadN C X own_d4_1 rfl (pc' := 2) rfl ?_
  refine own_icmp_ge C X own_d4_2 (pcT := 24) (pc' := 5) (by decide) (by decide) rfl (fun hc2 => absurd hc2 (not_not_intro q)) (fun hc2 => ?_)
  refine own_aloadN C X own_d4_5 rfl rfl (pc' := 6) rfl ?_
  refine own_iloadN C X own_d4_6 rfl (pc' := 7) rfl ?_
  refine own_aloadN C X own_d4_7 rfl rfl (pc' := 8) rfl ?_
  refine own_iloadN C X own_d4_8 rfl (pc' := 9) rfl ?_
  refine own_laload C X own_d4_9 A hk (i := kn) ek (pc' := 10) rfl ?_
  refine own_callS C X own_d4_10 (own_m_cnt4 l Z a0 hw a wk _ n0 (own_big C X) w0 w1 w2 w3 w4 A) (hw _ (List.mem_of_getElem? (i := 17) rfl)) (hw _ (List.mem_of_getElem? (i := 18) rfl)) (hw _ (List.mem_of_getElem? (i := 12) rfl)) (hw _ (List.mem_of_getElem? (i := 19) rfl)) (by decide) own_pd_4659 rfl rfl (Nat.le_of_ble_eq_true rfl) (Nat.le_of_ble_eq_true rfl) (Nat.le_of_ble_eq_true rfl) (Nat.le_of_ble_eq_true rfl) (av := [(.ref a), (.int (4 : Int32)), (.long wk)]) (S := []) rfl (pc' := 13) rfl ?_
  intro T h v X hQ
  obtain ⟨rfl, rfl⟩ := hQ
  show own_Go p e below n0 (own_Fin ({ frames := 1, cells := 0, slots := 0, locals := 24 } : Room) s (fun v h => v = some (.int 1) ∧ h0 = h)) (T.setTop (mkF m 13 #[.val (.ref a), .val (.ref b), .val (.int (4 : Int32)), .val (.int k)] [(.int (own_cnt [w0, w1, w2, w3] wk 0))]))
  refine own_aloadN C X own_d4_13 rfl rfl (pc' := 14) rfl ?_
  refine own_iloadN C X own_d4_14 rfl (pc' := 15) rfl ?_
  refine own_aloadN C X own_d4_15 rfl rfl (pc' := 16) rfl ?_
  refine own_iloadN C X own_d4_16 rfl (pc' := 17) rfl ?_
  refine own_laload C X own_d4_17 A hk (i := kn) ek (pc' := 18) rfl ?_
  refine own_callS C X own_d4_18 (own_m_cnt4 l Z a0 hw b wk _ n0 (own_big C X) g0 g1 g2 g3 g4 B) (hw _ (List.mem_of_getElem? (i := 17) rfl)) (hw _ (List.mem_of_getElem? (i := 18) rfl)) (hw _ (List.mem_of_getElem? (i := 12) rfl)) (hw _ (List.mem_of_getElem? (i := 19) rfl)) (by decide) own_pd_4659 rfl rfl (Nat.le_of_ble_eq_true rfl) (Nat.le_of_ble_eq_true rfl) (Nat.le_of_ble_eq_true rfl) (Nat.le_of_ble_eq_true rfl) (av := [(.ref b), (.int (4 : Int32)), (.long wk)]) (S := [(.int (own_cnt [w0, w1, w2, w3] wk 0))]) rfl (pc' := 21) rfl ?_
  intro T h v X hQ
  obtain ⟨rfl, rfl⟩ := hQ
  show own_Go p e below n0 (own_Fin ({ frames := 1, cells := 0, slots := 0, locals := 24 } : Room) s (fun v h => v = some (.int 1) ∧ h0 = h)) (T.setTop (mkF m 21 #[.val (.ref a), .val (.ref b), .val (.int (4 : Int32)), .val (.int k)] [(.int (own_cnt [g0, g1, g2, g3] wk 0)), (.int (own_cnt [w0, w1, w2, w3] wk 0))]))
  refine own_icmp_ne C X own_d4_21 (pcT := 28) (pc' := 24) (by decide) (by decide) rfl (fun hc21 => absurd hc21 (not_not_intro (pm wk))) (fun hc21 => ?_)
  refine own_iconst C X own_d4_24 (v := 1) (by decide) (pc' := 25) rfl ?_
  refine own_goto C X own_d4_25 (pc' := 29) (by decide) (by decide) ?_
  exact own_ireturn_z C X own_d4_29 (Nat.le_of_ble_eq_true rfl) (Nat.le_of_ble_eq_true rfl) (⟨rfl, rfl⟩)
theorem own_ef_sc5 (a : Addr) (b : Addr) (k : Int32) (m : MethodId) : entryFrame m #[(.ref a), (.ref b), (.int (5 : Int32)), (.int k)] 4 = mkF m 0 #[.val (.ref a), .val (.ref b), .val (.int (5 : Int32)), .val (.int k)] [] := by first | (simp [entryFrame, mkF, argsToLocals, Value.category]; done) | rfl
set_option maxRecDepth 65536 in
set_option maxHeartbeats 40000000 in
theorem own_m_sc5 (l : Launch) (Z : State) (a0 : Array Value) (hw : ∀ d ∈ tables_1, d.before a0 Z = true) (a : Addr) (b : Addr) (k : Int32) (h0 : Heap) (n0 : Nat) (hn0 : n0 ≤ h0.size) (w0 w1 w2 w3 w4 g0 g1 g2 g3 g4 wk : Int64) (A : own_JA Z h0 a [w0, w1, w2, w3, w4]) (B : own_JA Z h0 b [g0, g1, g2, g3, g4]) (q : k < (5 : Int32)) (kn : Nat) (hk : k.toInt = (kn : Int)) (ek : [w0, w1, w2, w3, w4][kn]? = some wk) (pm : ∀ z, own_cnt [w0, w1, w2, w3, w4] z 0 = own_cnt [g0, g1, g2, g3, g4] z 0) : own_Met l Z n0 (⟨"com/example/stablemate/stablemate/SliceHeapsReplaceLargestPinLaw", "sameCount", "([J[JII)Z"⟩ : MethodName) method_5_code 4 (some .boolean) [] ({ frames := 1, cells := 0, slots := 0, locals := 24 } : Room) #[(.ref a), (.ref b), (.int (5 : Int32)), (.int k)] h0 (fun v h => v = some (.int 1) ∧ h0 = h) := by
  refine own_body (plainFor_of_name own_pn_com_example_stablemate_stablemate_SliceHeapsReplaceLargestPinLaw) hn0 (own_ef_sc5 a b k) ?_
  intro p e s m below meth c T C X
  refine own_iloadN C X own_d4_0 rfl (pc' := 1) rfl ?_
  refine own_iloadN C X own_d4_1 rfl (pc' := 2) rfl ?_
  refine own_icmp_ge C X own_d4_2 (pcT := 24) (pc' := 5) (by decide) (by decide) rfl (fun hc2 => absurd hc2 (not_not_intro q)) (fun hc2 => ?_)
  refine own_aloadN C X own_d4_5 rfl rfl (pc' := 6) rfl ?_
  refine own_iloadN C X own_d4_6 rfl (pc' := 7) rfl ?_
  refine own_aloadN C X own_d4_7 rfl rfl (pc' := 8) rfl ?_
  refine own_iloadN C X own_d4_8 rfl (pc' := 9) rfl ?_
  refine own_laload C X own_d4_9 A hk (i := kn) ek (pc' := 10) rfl ?_
  refine own_callS C X own_d4_10 (own_m_cnt5 l Z a0 hw a wk _ n0 (own_big C X) w0 w1 w2 w3 w4 A) (hw _ (List.mem_of_getElem? (i := 17) rfl)) (hw _ (List.mem_of_getElem? (i := 18) rfl)) (hw _ (List.mem_of_getElem? (i := 12) rfl)) (hw _ (List.mem_of_getElem? (i := 19) rfl)) (by decide) own_pd_4659 rfl rfl (Nat.le_of_ble_eq_true rfl) (Nat.le_of_ble_eq_true rfl) (Nat.le_of_ble_eq_true rfl) (Nat.le_of_ble_eq_true rfl) (av := [(.ref a), (.int (5 : Int32)), (.long wk)]) (S := []) rfl (pc' := 13) rfl ?_
  intro T h v X hQ
  obtain ⟨rfl, rfl⟩ := hQ
  show own_Go p e below n0 (own_Fin ({ frames := 1, cells := 0, slots := 0, locals := 24 } : Room) s (fun v h => v = some (.int 1) ∧ h0 = h)) (T.setTop (mkF m 13 #[.val (.ref a), .val (.ref b), .val (.int (5 : Int32)), .val (.int k)] [(.int (own_cnt [w0, w1, w2, w3, w4] wk 0))]))
  refine own_aloadN C X own_d4_13 rfl rfl (pc' := 14) rfl ?_
  refine own_iloadN C X own_d4_14 rfl (pc' := 15) rfl ?_
  refine own_aloadN C X own_d4_15 rfl rfl (pc' := 16) rfl ?_
  refine own_iloadN C X own_d4_16 rfl (pc' := 17) rfl ?_
  refine own_laload C X own_d4_17 A hk (i := kn) ek (pc' := 18) rfl ?_
  refine own_callS C X own_d4_18 (own_m_cnt5 l Z a0 hw b wk _ n0 (own_big C X) g0 g1 g2 g3 g4 B) (hw _ (List.mem_of_getElem? (i := 17) rfl)) (hw _ (List.mem_of_getElem? (i := 18) rfl)) (hw _ (List.mem_of_getElem? (i := 12) rfl)) (hw _ (List.mem_of_getElem? (i := 19) rfl)) (by decide) own_pd_4659 rfl rfl (Nat.le_of_ble_eq_true rfl) (Nat.le_of_ble_eq_true rfl) (Nat.le_of_ble_eq_true rfl) (Nat.le_of_ble_eq_true rfl) (av := [(.ref b), (.int (5 : Int32)), (.long wk)]) (S := [(.int (own_cnt [w0, w1, w2, w3, w4] wk 0))]) rfl (pc' := 21) rfl ?_
  intro T h v X hQ
  obtain ⟨rfl, rfl⟩ := hQ
  show own_Go p e below n0 (own_Fin ({ frames := 1, cells := 0, slots := 0, locals := 24 } : Room) s (fun v h => v = some (.int 1) ∧ h0 = h)) (T.setTop (mkF m 21 #[.val (.ref a), .val (.ref b), .val (.int (5 : Int32)), .val (.int k)] [(.int (own_cnt [g0, g1, g2, g3, g4] wk 0)), (.int (own_cnt [w0, w1, w2, w3, w4] wk 0))]))
  refine own_icmp_ne C X own_d4_21 (pcT := 28) (pc' := 24) (by decide) (by decide) rfl (fun hc21 => absurd hc21 (not_not_intro (pm wk))) (fun hc21 => ?_)
  refine own_iconst C X own_d4_24 (v := 1) (by decide) (pc' := 25) rfl ?_
  refine own_goto C X own_d4_25 (pc' := 29) (by decide) (by decide) ?_
  exact own_ireturn_z C X own_d4_29 (Nat.le_of_ble_eq_true rfl) (Nat.le_of_ble_eq_true rfl) (⟨rfl, rfl⟩)
theorem own_ef_kpI (a : Addr) (j : Int32) (o : Int32) (s_ : Int32) (mk : Int64) (m : MethodId) : entryFrame m #[(.ref a), (.int j), (.int o), (.int s_), (.long mk)] 6 = mkF m 0 #[.val (.ref a), .val (.int j), .val (.int o), .val (.int s_), .val (.long mk), .second] [] := by first | (simp [entryFrame, mkF, argsToLocals, Value.category]; done) | rfl
theorem own_d6_0 : decode method_6_code 0 = .ok (.iload_n 1, 1) := by decide +kernel
theorem own_d6_1 : decode method_6_code 1 = .ok (.iload_n 2, 1) := by decide +kernel
theorem own_d6_2 : decode method_6_code 2 = .ok (.if_icmp .lt 10, 3) := by decide +kernel
theorem own_d6_5 : decode method_6_code 5 = .ok (.iload_n 1, 1) := by decide +kernel
theorem own_d6_6 : decode method_6_code 6 = .ok (.iload_n 2, 1) := by decide +kernel
theorem own_d6_7 : decode method_6_code 7 = .ok (.iload_n 3, 1) := by decide +kernel
theorem own_d6_8 : decode method_6_code 8 = .ok (.iadd, 1) := by decide +kernel
theorem own_d6_9 : decode method_6_code 9 = .ok (.if_icmp .lt 12, 3) := by decide +kernel
theorem own_d6_21 : decode method_6_code 21 = .ok (.iconst 1, 1) := by decide +kernel
theorem own_d6_22 : decode method_6_code 22 = .ok (.goto 4, 3) := by decide +kernel
theorem own_d6_26 : decode method_6_code 26 = .ok (.ireturn, 1) := by decide +kernel
set_option maxRecDepth 65536 in
set_option maxHeartbeats 40000000 in
theorem own_m_kpI (l : Launch) (Z : State) (a0 : Array Value) (hw : ∀ d ∈ tables_1, d.before a0 Z = true) (a : Addr) (j : Int32) (o : Int32) (s_ : Int32) (mk : Int64) (h0 : Heap) (n0 : Nat) (hn0 : n0 ≤ h0.size) (q1 : ¬ j < o) (q2 : j < o + s_) : own_Met l Z n0 (⟨"com/example/stablemate/stablemate/SliceHeapsReplaceLargestPinLaw", "kept", "([JIIIJ)Z"⟩ : MethodName) method_6_code 6 (some .boolean) [] ({ frames := 0, cells := 0, slots := 0, locals := 0 } : Room) #[(.ref a), (.int j), (.int o), (.int s_), (.long mk)] h0 (fun v h => v = some (.int 1) ∧ h0 = h) := by
  refine own_body (plainFor_of_name own_pn_com_example_stablemate_stablemate_SliceHeapsReplaceLargestPinLaw) hn0 (own_ef_kpI a j o s_ mk) ?_
  intro p e s m below meth c T C X
  refine own_iloadN C X own_d6_0 rfl (pc' := 1) rfl ?_
  refine own_iloadN C X own_d6_1 rfl (pc' := 2) rfl ?_
  refine own_icmp_lt C X own_d6_2 (pcT := 12) (pc' := 5) (by decide) (by decide) rfl (fun hc2 => absurd hc2 (q1)) (fun hc2 => ?_)
  refine own_iloadN C X own_d6_5 rfl (pc' := 6) rfl ?_
  refine own_iloadN C X own_d6_6 rfl (pc' := 7) rfl ?_
  refine own_iloadN C X own_d6_7 rfl (pc' := 8) rfl ?_
  refine own_iadd C X own_d6_8 rfl (pc' := 9) rfl ?_
  refine own_icmp_lt C X own_d6_9 (pcT := 21) (pc' := 12) (by decide) (by decide) rfl (fun hc9 => ?_) (fun hc9 => absurd hc9 (not_not_intro q2))
  refine own_iconst C X own_d6_21 (v := 1) (by decide) (pc' := 22) rfl ?_
  refine own_goto C X own_d6_22 (pc' := 26) (by decide) (by decide) ?_
  exact own_ireturn_z C X own_d6_26 (Nat.le_of_ble_eq_true rfl) (Nat.le_of_ble_eq_true rfl) (⟨rfl, rfl⟩)
theorem own_ef_kpB (a : Addr) (j : Int32) (o : Int32) (s_ : Int32) (mk : Int64) (m : MethodId) : entryFrame m #[(.ref a), (.int j), (.int o), (.int s_), (.long mk)] 6 = mkF m 0 #[.val (.ref a), .val (.int j), .val (.int o), .val (.int s_), .val (.long mk), .second] [] := by first | (simp [entryFrame, mkF, argsToLocals, Value.category]; done) | rfl
theorem own_d6_12 : decode method_6_code 12 = .ok (.aload_n 0, 1) := by decide +kernel
theorem own_d6_13 : decode method_6_code 13 = .ok (.iload_n 1, 1) := by decide +kernel
theorem own_d6_14 : decode method_6_code 14 = .ok (.laload, 1) := by decide +kernel
theorem own_d6_15 : decode method_6_code 15 = .ok (.lload 4, 2) := by decide +kernel
theorem own_d6_17 : decode method_6_code 17 = .ok (.lcmp, 1) := by decide +kernel
theorem own_d6_18 : decode method_6_code 18 = .ok (.ifCond .ne 7, 3) := by decide +kernel
set_option maxRecDepth 65536 in
set_option maxHeartbeats 40000000 in
theorem own_m_kpB (l : Launch) (Z : State) (a0 : Array Value) (hw : ∀ d ∈ tables_1, d.before a0 Z = true) (a : Addr) (j : Int32) (o : Int32) (s_ : Int32) (mk : Int64) (h0 : Heap) (n0 : Nat) (hn0 : n0 ≤ h0.size) (q1 : j < o) (xs : List Int64) (A : own_JA Z h0 a xs) (jn : Nat) (hj : j.toInt = (jn : Int)) (ej : xs[jn]? = some mk) : own_Met l Z n0 (⟨"com/example/stablemate/stablemate/SliceHeapsReplaceLargestPinLaw", "kept", "([JIIIJ)Z"⟩ : MethodName) method_6_code 6 (some .boolean) [] ({ frames := 0, cells := 0, slots := 0, locals := 0 } : Room) #[(.ref a), (.int j), (.int o), (.int s_), (.long mk)] h0 (fun v h => v = some (.int 1) ∧ h0 = h) := by
  refine own_body (plainFor_of_name own_pn_com_example_stablemate_stablemate_SliceHeapsReplaceLargestPinLaw) hn0 (own_ef_kpB a j o s_ mk) ?_
  intro p e s m below meth c T C X
  refine own_iloadN C X own_d6_0 rfl (pc' := 1) rfl ?_
  refine own_iloadN C X own_d6_1 rfl (pc' := 2) rfl ?_
  refine own_icmp_lt C X own_d6_2 (pcT := 12) (pc' := 5) (by decide) (by decide) rfl (fun hc2 => ?_) (fun hc2 => absurd hc2 (not_not_intro q1))
  refine own_aloadN C X own_d6_12 rfl rfl (pc' := 13) rfl ?_
  refine own_iloadN C X own_d6_13 rfl (pc' := 14) rfl ?_
  refine own_laload C X own_d6_14 A hj (i := jn) ej (pc' := 15) rfl ?_
  refine own_lload C X own_d6_15 rfl (pc' := 17) rfl ?_
  refine own_lcmp_ne C X own_d6_17 own_d6_18 (pcT := 25) (pc' := 21) (by decide) (by decide) rfl (fun hc17 => absurd hc17 (not_not_intro rfl)) (fun hc17 => ?_)
  refine own_iconst C X own_d6_21 (v := 1) (by decide) (pc' := 22) rfl ?_
  refine own_goto C X own_d6_22 (pc' := 26) (by decide) (by decide) ?_
  exact own_ireturn_z C X own_d6_26 (Nat.le_of_ble_eq_true rfl) (Nat.le_of_ble_eq_true rfl) (⟨rfl, rfl⟩)
theorem own_ef_kpA (a : Addr) (j : Int32) (o : Int32) (s_ : Int32) (mk : Int64) (m : MethodId) : entryFrame m #[(.ref a), (.int j), (.int o), (.int s_), (.long mk)] 6 = mkF m 0 #[.val (.ref a), .val (.int j), .val (.int o), .val (.int s_), .val (.long mk), .second] [] := by first | (simp [entryFrame, mkF, argsToLocals, Value.category]; done) | rfl
set_option maxRecDepth 65536 in
set_option maxHeartbeats 40000000 in
theorem own_m_kpA (l : Launch) (Z : State) (a0 : Array Value) (hw : ∀ d ∈ tables_1, d.before a0 Z = true) (a : Addr) (j : Int32) (o : Int32) (s_ : Int32) (mk : Int64) (h0 : Heap) (n0 : Nat) (hn0 : n0 ≤ h0.size) (q1 : ¬ j < o) (q2 : ¬ j < o + s_) (xs : List Int64) (A : own_JA Z h0 a xs) (jn : Nat) (hj : j.toInt = (jn : Int)) (ej : xs[jn]? = some mk) : own_Met l Z n0 (⟨"com/example/stablemate/stablemate/SliceHeapsReplaceLargestPinLaw", "kept", "([JIIIJ)Z"⟩ : MethodName) method_6_code 6 (some .boolean) [] ({ frames := 0, cells := 0, slots := 0, locals := 0 } : Room) #[(.ref a), (.int j), (.int o), (.int s_), (.long mk)] h0 (fun v h => v = some (.int 1) ∧ h0 = h) := by
  refine own_body (plainFor_of_name own_pn_com_example_stablemate_stablemate_SliceHeapsReplaceLargestPinLaw) hn0 (own_ef_kpA a j o s_ mk) ?_
  intro p e s m below meth c T C X
  refine own_iloadN C X own_d6_0 rfl (pc' := 1) rfl ?_
  refine own_iloadN C X own_d6_1 rfl (pc' := 2) rfl ?_
  refine own_icmp_lt C X own_d6_2 (pcT := 12) (pc' := 5) (by decide) (by decide) rfl (fun hc2 => absurd hc2 (q1)) (fun hc2 => ?_)
  refine own_iloadN C X own_d6_5 rfl (pc' := 6) rfl ?_
  refine own_iloadN C X own_d6_6 rfl (pc' := 7) rfl ?_
  refine own_iloadN C X own_d6_7 rfl (pc' := 8) rfl ?_
  refine own_iadd C X own_d6_8 rfl (pc' := 9) rfl ?_
  refine own_icmp_lt C X own_d6_9 (pcT := 21) (pc' := 12) (by decide) (by decide) rfl (fun hc9 => absurd hc9 (q2)) (fun hc9 => ?_)
  refine own_aloadN C X own_d6_12 rfl rfl (pc' := 13) rfl ?_
  refine own_iloadN C X own_d6_13 rfl (pc' := 14) rfl ?_
  refine own_laload C X own_d6_14 A hj (i := jn) ej (pc' := 15) rfl ?_
  refine own_lload C X own_d6_15 rfl (pc' := 17) rfl ?_
  refine own_lcmp_ne C X own_d6_17 own_d6_18 (pcT := 25) (pc' := 21) (by decide) (by decide) rfl (fun hc17 => absurd hc17 (not_not_intro rfl)) (fun hc17 => ?_)
  refine own_iconst C X own_d6_21 (v := 1) (by decide) (pc' := 22) rfl ?_
  refine own_goto C X own_d6_22 (pc' := 26) (by decide) (by decide) ?_
  exact own_ireturn_z C X own_d6_26 (Nat.le_of_ble_eq_true rfl) (Nat.le_of_ble_eq_true rfl) (⟨rfl, rfl⟩)
theorem own_ef_law (q0 : Int64) (q1 : Int64) (q2 : Int64) (q3 : Int64) (q4 : Int64) (i5 : Int32) (m : MethodId) : entryFrame m #[(.long q0), (.long q1), (.long q2), (.long q3), (.long q4), (.int i5)] maxLocals = mkF m 0 #[.val (.long q0), .second, .val (.long q1), .second, .val (.long q2), .second, .val (.long q3), .second, .val (.long q4), .second, .val (.int i5), .unset, .unset, .unset, .unset, .unset, .unset, .unset, .unset, .unset, .unset, .unset, .unset, .unset, .unset, .unset, .unset, .unset, .unset, .unset, .unset] [] := by first | (simp [entryFrame, mkF, argsToLocals, Value.category, maxLocals]; done) | rfl
theorem own_pd_2762 : parseMethodDescriptor "(JJ)J" = some ⟨[.long, .long], some .long⟩ := by decide +kernel
theorem own_pd_5832 : parseMethodDescriptor "([JIIJ)V" = some ⟨[(.array .long), .int, .int, .long], none⟩ := by decide +kernel
theorem own_pd_4869 : parseMethodDescriptor "([JII)Z" = some ⟨[(.array .long), .int, .int], some .boolean⟩ := by decide +kernel
theorem own_pd_7147 : parseMethodDescriptor "([J[JII)Z" = some ⟨[(.array .long), (.array .long), .int, .int], some .boolean⟩ := by decide +kernel
theorem own_pd_6969 : parseMethodDescriptor "([JIIIJ)Z" = some ⟨[(.array .long), .int, .int, .int, .long], some .boolean⟩ := by decide +kernel
set_option maxRecDepth 65536 in
set_option maxHeartbeats 40000000 in
theorem own_m_law (l : Launch) (Z : State) (a0 : Array Value) (hw : ∀ d ∈ tables_1, d.before a0 Z = true) (ws : List Jvm.Cond) (q0 : Int64) (q1 : Int64) (q2 : Int64) (q3 : Int64) (q4 : Int64) (i5 : Int32) (h0 : Heap) (n0 : Nat) (hn0 : n0 ≤ h0.size)  : own_Met l Z n0 x code maxLocals ret ws room_1 #[(.long q0), (.long q1), (.long q2), (.long q3), (.long q4), (.int i5)] h0 (fun v h => v = some (.int 1)) := by
  refine own_body (plainFor_of_name own_pn_com_example_stablemate_stablemate_SliceHeapsReplaceLargestPinLaw) hn0 (own_ef_law q0 q1 q2 q3 q4 i5) ?_
  intro p e s m below meth c T C X
  refine own_iload C X at_0 rfl (pc' := 2) rfl ?_
  refine own_iconst C X at_2 (v := 1) (by decide) (pc' := 3) rfl ?_
  obtain ⟨off, e_off⟩ : ∃ z : Int32, (i5 &&& (1 : Int32)) = z := ⟨_, rfl⟩
  refine own_iand C X at_3 e_off (pc' := 4) rfl ?_
  refine own_istore C X at_4 (L' := #[.val (.long q0), .second, .val (.long q1), .second, .val (.long q2), .second, .val (.long q3), .second, .val (.long q4), .second, .val (.int i5), .val (.int off), .unset, .unset, .unset, .unset, .unset, .unset, .unset, .unset, .unset, .unset, .unset, .unset, .unset, .unset, .unset, .unset, .unset, .unset, .unset]) rfl (pc' := 6) rfl ?_
  refine own_iconst C X at_6 (v := 1) (by decide) (pc' := 7) rfl ?_
  refine own_iload C X at_7 rfl (pc' := 9) rfl ?_
  refine own_iconst C X at_9 (v := 1) (by decide) (pc' := 10) rfl ?_
  refine own_iushr C X at_10 rfl (pc' := 11) rfl ?_
  refine own_iconst C X at_11 (v := 5) (by decide) (pc' := 12) rfl ?_
  refine own_irem C X at_12 (by decide) rfl (pc' := 13) rfl ?_
  obtain ⟨sv, e_sv⟩ : ∃ z : Int32, ((1 : Int32) + (((i5.toUInt32 >>> ((1 : Int32) &&& 31).toUInt32).toInt32) % (5 : Int32))) = z := ⟨_, rfl⟩
  refine own_iadd C X at_13 e_sv (pc' := 14) rfl ?_
  refine own_istore C X at_14 (L' := #[.val (.long q0), .second, .val (.long q1), .second, .val (.long q2), .second, .val (.long q3), .second, .val (.long q4), .second, .val (.int i5), .val (.int off), .val (.int sv), .unset, .unset, .unset, .unset, .unset, .unset, .unset, .unset, .unset, .unset, .unset, .unset, .unset, .unset, .unset, .unset, .unset, .unset]) rfl (pc' := 16) rfl ?_
  refine own_lloadN C X at_16 rfl (pc' := 17) rfl ?_
  refine own_lstore C X at_17 (L' := #[.val (.long q0), .second, .val (.long q1), .second, .val (.long q2), .second, .val (.long q3), .second, .val (.long q4), .second, .val (.int i5), .val (.int off), .val (.int sv), .val (.long q0), .second, .unset, .unset, .unset, .unset, .unset, .unset, .unset, .unset, .unset, .unset, .unset, .unset, .unset, .unset, .unset, .unset]) rfl (pc' := 19) rfl ?_
  refine own_lloadN C X at_19 rfl (pc' := 20) rfl ?_
  refine own_lload C X at_20 rfl (pc' := 22) rfl ?_
  refine own_callS C X at_22 (own_m_min l Z a0 hw q1 q0 _ n0 (own_big C X)) (hw _ (List.mem_of_getElem? (i := 0) rfl)) (hw _ (List.mem_of_getElem? (i := 1) rfl)) (hw _ (List.mem_of_getElem? (i := 2) rfl)) (hw _ (List.mem_of_getElem? (i := 3) rfl)) (by decide) own_pd_2762 rfl rfl (Nat.le_of_ble_eq_true rfl) (Nat.le_of_ble_eq_true rfl) (Nat.le_of_ble_eq_true rfl) (Nat.le_of_ble_eq_true rfl) (av := [(.long q1), (.long q0)]) (S := []) rfl (pc' := 25) rfl ?_
  intro T h v X hQ
  obtain ⟨rfl, rfl⟩ := hQ
  show own_Go p e below n0 (own_Fin room_1 s (fun v h => v = some (.int 1))) (T.setTop (mkF m 25 #[.val (.long q0), .second, .val (.long q1), .second, .val (.long q2), .second, .val (.long q3), .second, .val (.long q4), .second, .val (.int i5), .val (.int off), .val (.int sv), .val (.long q0), .second, .unset, .unset, .unset, .unset, .unset, .unset, .unset, .unset, .unset, .unset, .unset, .unset, .unset, .unset, .unset, .unset] [(.long (own_min q1 q0))]))
  obtain ⟨h1v, e_h1v⟩ : ∃ z : Int64, (own_min q1 q0) = z := ⟨_, rfl⟩
  rw [e_h1v]
  show own_Go p e below n0 (own_Fin room_1 s (fun v h => v = some (.int 1))) (T.setTop (mkF m 25 #[.val (.long q0), .second, .val (.long q1), .second, .val (.long q2), .second, .val (.long q3), .second, .val (.long q4), .second, .val (.int i5), .val (.int off), .val (.int sv), .val (.long q0), .second, .unset, .unset, .unset, .unset, .unset, .unset, .unset, .unset, .unset, .unset, .unset, .unset, .unset, .unset, .unset, .unset] [(.long h1v)]))
  refine own_lstore C X at_25 (L' := #[.val (.long q0), .second, .val (.long q1), .second, .val (.long q2), .second, .val (.long q3), .second, .val (.long q4), .second, .val (.int i5), .val (.int off), .val (.int sv), .val (.long q0), .second, .val (.long h1v), .second, .unset, .unset, .unset, .unset, .unset, .unset, .unset, .unset, .unset, .unset, .unset, .unset, .unset, .unset]) rfl (pc' := 27) rfl ?_
  refine own_lload C X at_27 rfl (pc' := 29) rfl ?_
  refine own_lload C X at_29 rfl (pc' := 31) rfl ?_
  refine own_callS C X at_31 (own_m_min l Z a0 hw q2 q0 _ n0 (own_big C X)) (hw _ (List.mem_of_getElem? (i := 0) rfl)) (hw _ (List.mem_of_getElem? (i := 1) rfl)) (hw _ (List.mem_of_getElem? (i := 2) rfl)) (hw _ (List.mem_of_getElem? (i := 3) rfl)) (by decide) own_pd_2762 rfl rfl (Nat.le_of_ble_eq_true rfl) (Nat.le_of_ble_eq_true rfl) (Nat.le_of_ble_eq_true rfl) (Nat.le_of_ble_eq_true rfl) (av := [(.long q2), (.long q0)]) (S := []) rfl (pc' := 34) rfl ?_
  intro T h v X hQ
  obtain ⟨rfl, rfl⟩ := hQ
  show own_Go p e below n0 (own_Fin room_1 s (fun v h => v = some (.int 1))) (T.setTop (mkF m 34 #[.val (.long q0), .second, .val (.long q1), .second, .val (.long q2), .second, .val (.long q3), .second, .val (.long q4), .second, .val (.int i5), .val (.int off), .val (.int sv), .val (.long q0), .second, .val (.long h1v), .second, .unset, .unset, .unset, .unset, .unset, .unset, .unset, .unset, .unset, .unset, .unset, .unset, .unset, .unset] [(.long (own_min q2 q0))]))
  obtain ⟨h2v, e_h2v⟩ : ∃ z : Int64, (own_min q2 q0) = z := ⟨_, rfl⟩
  rw [e_h2v]
  show own_Go p e below n0 (own_Fin room_1 s (fun v h => v = some (.int 1))) (T.setTop (mkF m 34 #[.val (.long q0), .second, .val (.long q1), .second, .val (.long q2), .second, .val (.long q3), .second, .val (.long q4), .second, .val (.int i5), .val (.int off), .val (.int sv), .val (.long q0), .second, .val (.long h1v), .second, .unset, .unset, .unset, .unset, .unset, .unset, .unset, .unset, .unset, .unset, .unset, .unset, .unset, .unset] [(.long h2v)]))
  refine own_lstore C X at_34 (L' := #[.val (.long q0), .second, .val (.long q1), .second, .val (.long q2), .second, .val (.long q3), .second, .val (.long q4), .second, .val (.int i5), .val (.int off), .val (.int sv), .val (.long q0), .second, .val (.long h1v), .second, .val (.long h2v), .second, .unset, .unset, .unset, .unset, .unset, .unset, .unset, .unset, .unset, .unset, .unset, .unset]) rfl (pc' := 36) rfl ?_
  refine own_lload C X at_36 rfl (pc' := 38) rfl ?_
  refine own_l2i C X at_38 rfl (pc' := 39) rfl ?_
  refine own_i2l C X at_39 rfl (pc' := 40) rfl ?_
  refine own_lload C X at_40 rfl (pc' := 42) rfl ?_
  refine own_callS C X at_42 (own_m_min l Z a0 hw q3.toInt32.toInt64 h1v _ n0 (own_big C X)) (hw _ (List.mem_of_getElem? (i := 0) rfl)) (hw _ (List.mem_of_getElem? (i := 1) rfl)) (hw _ (List.mem_of_getElem? (i := 2) rfl)) (hw _ (List.mem_of_getElem? (i := 3) rfl)) (by decide) own_pd_2762 rfl rfl (Nat.le_of_ble_eq_true rfl) (Nat.le_of_ble_eq_true rfl) (Nat.le_of_ble_eq_true rfl) (Nat.le_of_ble_eq_true rfl) (av := [(.long q3.toInt32.toInt64), (.long h1v)]) (S := []) rfl (pc' := 45) rfl ?_
  intro T h v X hQ
  obtain ⟨rfl, rfl⟩ := hQ
  show own_Go p e below n0 (own_Fin room_1 s (fun v h => v = some (.int 1))) (T.setTop (mkF m 45 #[.val (.long q0), .second, .val (.long q1), .second, .val (.long q2), .second, .val (.long q3), .second, .val (.long q4), .second, .val (.int i5), .val (.int off), .val (.int sv), .val (.long q0), .second, .val (.long h1v), .second, .val (.long h2v), .second, .unset, .unset, .unset, .unset, .unset, .unset, .unset, .unset, .unset, .unset, .unset, .unset] [(.long (own_min q3.toInt32.toInt64 h1v))]))
  obtain ⟨h3v, e_h3v⟩ : ∃ z : Int64, (own_min q3.toInt32.toInt64 h1v) = z := ⟨_, rfl⟩
  rw [e_h3v]
  show own_Go p e below n0 (own_Fin room_1 s (fun v h => v = some (.int 1))) (T.setTop (mkF m 45 #[.val (.long q0), .second, .val (.long q1), .second, .val (.long q2), .second, .val (.long q3), .second, .val (.long q4), .second, .val (.int i5), .val (.int off), .val (.int sv), .val (.long q0), .second, .val (.long h1v), .second, .val (.long h2v), .second, .unset, .unset, .unset, .unset, .unset, .unset, .unset, .unset, .unset, .unset, .unset, .unset] [(.long h3v)]))
  have l_h3v := own_minle _ _ _ e_h3v
  refine own_lstore C X at_45 (L' := #[.val (.long q0), .second, .val (.long q1), .second, .val (.long q2), .second, .val (.long q3), .second, .val (.long q4), .second, .val (.int i5), .val (.int off), .val (.int sv), .val (.long q0), .second, .val (.long h1v), .second, .val (.long h2v), .second, .val (.long h3v), .second, .unset, .unset, .unset, .unset, .unset, .unset, .unset, .unset, .unset, .unset]) rfl (pc' := 47) rfl ?_
  refine own_lload C X at_47 rfl (pc' := 49) rfl ?_
  refine own_bipush C X at_49 (v := 32) (by decide) (pc' := 51) rfl ?_
  refine own_lshr C X at_51 rfl (pc' := 52) rfl ?_
  refine own_lload C X at_52 rfl (pc' := 54) rfl ?_
  refine own_callS C X at_54 (own_m_min l Z a0 hw (q3 >>> ((32 : Int32) &&& 0x3f).toInt64) h1v _ n0 (own_big C X)) (hw _ (List.mem_of_getElem? (i := 0) rfl)) (hw _ (List.mem_of_getElem? (i := 1) rfl)) (hw _ (List.mem_of_getElem? (i := 2) rfl)) (hw _ (List.mem_of_getElem? (i := 3) rfl)) (by decide) own_pd_2762 rfl rfl (Nat.le_of_ble_eq_true rfl) (Nat.le_of_ble_eq_true rfl) (Nat.le_of_ble_eq_true rfl) (Nat.le_of_ble_eq_true rfl) (av := [(.long (q3 >>> ((32 : Int32) &&& 0x3f).toInt64)), (.long h1v)]) (S := []) rfl (pc' := 57) rfl ?_
  intro T h v X hQ
  obtain ⟨rfl, rfl⟩ := hQ
  show own_Go p e below n0 (own_Fin room_1 s (fun v h => v = some (.int 1))) (T.setTop (mkF m 57 #[.val (.long q0), .second, .val (.long q1), .second, .val (.long q2), .second, .val (.long q3), .second, .val (.long q4), .second, .val (.int i5), .val (.int off), .val (.int sv), .val (.long q0), .second, .val (.long h1v), .second, .val (.long h2v), .second, .val (.long h3v), .second, .unset, .unset, .unset, .unset, .unset, .unset, .unset, .unset, .unset, .unset] [(.long (own_min (q3 >>> ((32 : Int32) &&& 0x3f).toInt64) h1v))]))
  obtain ⟨h4v, e_h4v⟩ : ∃ z : Int64, (own_min (q3 >>> ((32 : Int32) &&& 0x3f).toInt64) h1v) = z := ⟨_, rfl⟩
  rw [e_h4v]
  show own_Go p e below n0 (own_Fin room_1 s (fun v h => v = some (.int 1))) (T.setTop (mkF m 57 #[.val (.long q0), .second, .val (.long q1), .second, .val (.long q2), .second, .val (.long q3), .second, .val (.long q4), .second, .val (.int i5), .val (.int off), .val (.int sv), .val (.long q0), .second, .val (.long h1v), .second, .val (.long h2v), .second, .val (.long h3v), .second, .unset, .unset, .unset, .unset, .unset, .unset, .unset, .unset, .unset, .unset] [(.long h4v)]))
  have l_h4v := own_minle _ _ _ e_h4v
  refine own_lstore C X at_57 (L' := #[.val (.long q0), .second, .val (.long q1), .second, .val (.long q2), .second, .val (.long q3), .second, .val (.long q4), .second, .val (.int i5), .val (.int off), .val (.int sv), .val (.long q0), .second, .val (.long h1v), .second, .val (.long h2v), .second, .val (.long h3v), .second, .val (.long h4v), .second, .unset, .unset, .unset, .unset, .unset, .unset, .unset, .unset]) rfl (pc' := 59) rfl ?_
  refine own_lload C X at_59 rfl (pc' := 61) rfl ?_
  refine own_ldc2L C X at_61 (hw _ (List.mem_of_getElem? (i := 4) rfl)) (pc' := 64) rfl ?_
  obtain ⟨mark, e_mark⟩ : ∃ z : Int64, (q4 ^^^ (-1 : Int64)) = z := ⟨_, rfl⟩
  refine own_lxor C X at_64 e_mark (pc' := 65) rfl ?_
  refine own_lstore C X at_65 (L' := #[.val (.long q0), .second, .val (.long q1), .second, .val (.long q2), .second, .val (.long q3), .second, .val (.long q4), .second, .val (.int i5), .val (.int off), .val (.int sv), .val (.long q0), .second, .val (.long h1v), .second, .val (.long h2v), .second, .val (.long h3v), .second, .val (.long h4v), .second, .val (.long mark), .second, .unset, .unset, .unset, .unset, .unset, .unset]) rfl (pc' := 67) rfl ?_
  refine own_bipush C X at_67 (v := 7) (by decide) (pc' := 69) rfl ?_
  refine own_newJ C X at_69 (hw _ (List.mem_of_getElem? (i := 5) rfl)) (by decide) (k := 7) (cap := 7) (Nat.le_of_ble_eq_true rfl) (by decide) (Nat.le_of_ble_eq_true rfl) (Nat.le_of_ble_eq_true rfl) (pc' := 71) rfl ?_
  intro T h hp e_hp X K_ ge_hp A_hp_
  have A_hp : own_JA Z h hp [(0 : Int64), (0 : Int64), (0 : Int64), (0 : Int64), (0 : Int64), (0 : Int64), (0 : Int64)] := A_hp_
  refine own_astore C X at_71 rfl (L' := #[.val (.long q0), .second, .val (.long q1), .second, .val (.long q2), .second, .val (.long q3), .second, .val (.long q4), .second, .val (.int i5), .val (.int off), .val (.int sv), .val (.long q0), .second, .val (.long h1v), .second, .val (.long h2v), .second, .val (.long h3v), .second, .val (.long h4v), .second, .val (.long mark), .second, .val (.ref hp), .unset, .unset, .unset, .unset, .unset]) rfl (pc' := 73) rfl ?_
  refine own_aload C X at_73 rfl rfl (pc' := 75) rfl ?_
  refine own_iconst C X at_75 (v := 0) (by decide) (pc' := 76) rfl ?_
  refine own_lload C X at_76 rfl (pc' := 78) rfl ?_
  refine own_lastore C X at_78 A_hp (by decide) (i := 0) (Nat.le_of_ble_eq_true rfl) ge_hp (pc' := 79) rfl ?_
  intro T h X K_ A_hp_
  have A_hp : own_JA Z h hp [mark, (0 : Int64), (0 : Int64), (0 : Int64), (0 : Int64), (0 : Int64), (0 : Int64)] := A_hp_
  refine own_aload C X at_79 rfl rfl (pc' := 81) rfl ?_
  refine own_iconst C X at_81 (v := 1) (by decide) (pc' := 82) rfl ?_
  refine own_lload C X at_82 rfl (pc' := 84) rfl ?_
  refine own_lastore C X at_84 A_hp (by decide) (i := 1) (Nat.le_of_ble_eq_true rfl) ge_hp (pc' := 85) rfl ?_
  intro T h X K_ A_hp_
  have A_hp : own_JA Z h hp [mark, mark, (0 : Int64), (0 : Int64), (0 : Int64), (0 : Int64), (0 : Int64)] := A_hp_
  refine own_aload C X at_85 rfl rfl (pc' := 87) rfl ?_
  refine own_iconst C X at_87 (v := 2) (by decide) (pc' := 88) rfl ?_
  refine own_lload C X at_88 rfl (pc' := 90) rfl ?_
  refine own_lastore C X at_90 A_hp (by decide) (i := 2) (Nat.le_of_ble_eq_true rfl) ge_hp (pc' := 91) rfl ?_
  intro T h X K_ A_hp_
  have A_hp : own_JA Z h hp [mark, mark, mark, (0 : Int64), (0 : Int64), (0 : Int64), (0 : Int64)] := A_hp_
  refine own_aload C X at_91 rfl rfl (pc' := 93) rfl ?_
  refine own_iconst C X at_93 (v := 3) (by decide) (pc' := 94) rfl ?_
  refine own_lload C X at_94 rfl (pc' := 96) rfl ?_
  refine own_lastore C X at_96 A_hp (by decide) (i := 3) (Nat.le_of_ble_eq_true rfl) ge_hp (pc' := 97) rfl ?_
  intro T h X K_ A_hp_
  have A_hp : own_JA Z h hp [mark, mark, mark, mark, (0 : Int64), (0 : Int64), (0 : Int64)] := A_hp_
  refine own_aload C X at_97 rfl rfl (pc' := 99) rfl ?_
  refine own_iconst C X at_99 (v := 4) (by decide) (pc' := 100) rfl ?_
  refine own_lload C X at_100 rfl (pc' := 102) rfl ?_
  refine own_lastore C X at_102 A_hp (by decide) (i := 4) (Nat.le_of_ble_eq_true rfl) ge_hp (pc' := 103) rfl ?_
  intro T h X K_ A_hp_
  have A_hp : own_JA Z h hp [mark, mark, mark, mark, mark, (0 : Int64), (0 : Int64)] := A_hp_
  refine own_aload C X at_103 rfl rfl (pc' := 105) rfl ?_
  refine own_iconst C X at_105 (v := 5) (by decide) (pc' := 106) rfl ?_
  refine own_lload C X at_106 rfl (pc' := 108) rfl ?_
  refine own_lastore C X at_108 A_hp (by decide) (i := 5) (Nat.le_of_ble_eq_true rfl) ge_hp (pc' := 109) rfl ?_
  intro T h X K_ A_hp_
  have A_hp : own_JA Z h hp [mark, mark, mark, mark, mark, mark, (0 : Int64)] := A_hp_
  refine own_aload C X at_109 rfl rfl (pc' := 111) rfl ?_
  refine own_bipush C X at_111 (v := 6) (by decide) (pc' := 113) rfl ?_
  refine own_lload C X at_113 rfl (pc' := 115) rfl ?_
  refine own_lastore C X at_115 A_hp (by decide) (i := 6) (Nat.le_of_ble_eq_true rfl) ge_hp (pc' := 116) rfl ?_
  intro T h X K_ A_hp_
  have A_hp : own_JA Z h hp [mark, mark, mark, mark, mark, mark, mark] := A_hp_
  rcases own_sv i5 sv e_sv with rfl | rfl | rfl | rfl | rfl
  · rcases own_of _ off e_off with rfl | rfl
    · refine own_aload C X at_116 rfl rfl (pc' := 118) rfl ?_
      refine own_iload C X at_118 rfl (pc' := 120) rfl ?_
      refine own_lload C X at_120 rfl (pc' := 122) rfl ?_
      refine own_lastore C X at_122 A_hp (by decide) (i := 0) (Nat.le_of_ble_eq_true rfl) ge_hp (pc' := 123) rfl ?_
      intro T h X K_ A_hp_
      have A_hp : own_JA Z h hp [q0, mark, mark, mark, mark, mark, mark] := A_hp_
      refine own_iload C X at_123 rfl (pc' := 125) rfl ?_
      refine own_iconst C X at_125 (v := 1) (by decide) (pc' := 126) rfl ?_
      refine own_icmp_le C X at_126 (pcT := 138) (pc' := 129) (by decide) (by decide) rfl (fun hc126 => ?_) (fun hc126 => absurd hc126 (by decide))
      refine own_iload C X at_138 rfl (pc' := 140) rfl ?_
      refine own_iconst C X at_140 (v := 2) (by decide) (pc' := 141) rfl ?_
      refine own_icmp_le C X at_141 (pcT := 153) (pc' := 144) (by decide) (by decide) rfl (fun hc141 => ?_) (fun hc141 => absurd hc141 (by decide))
      refine own_iload C X at_153 rfl (pc' := 155) rfl ?_
      refine own_iconst C X at_155 (v := 3) (by decide) (pc' := 156) rfl ?_
      refine own_icmp_le C X at_156 (pcT := 168) (pc' := 159) (by decide) (by decide) rfl (fun hc156 => ?_) (fun hc156 => absurd hc156 (by decide))
      refine own_iload C X at_168 rfl (pc' := 170) rfl ?_
      refine own_iconst C X at_170 (v := 4) (by decide) (pc' := 171) rfl ?_
      refine own_icmp_le C X at_171 (pcT := 183) (pc' := 174) (by decide) (by decide) rfl (fun hc171 => ?_) (fun hc171 => absurd hc171 (by decide))
      refine own_iconst C X at_183 (v := 5) (by decide) (pc' := 184) rfl ?_
      refine own_newJ C X at_184 (hw _ (List.mem_of_getElem? (i := 5) rfl)) (by decide) (k := 5) (cap := 5) (Nat.le_of_ble_eq_true rfl) (by decide) (Nat.le_of_ble_eq_true rfl) (Nat.le_of_ble_eq_true rfl) (pc' := 186) rfl ?_
      intro T h wa e_wa X K_ ge_wa A_wa_
      have ne_hp_wa : hp ≠ wa := by rw [e_wa]; exact Nat.ne_of_lt A_hp.lt
      have A_wa : own_JA Z h wa [(0 : Int64), (0 : Int64), (0 : Int64), (0 : Int64), (0 : Int64)] := A_wa_
      have A_hp := A_hp.keep K_ nin0
      refine own_astore C X at_186 rfl (L' := #[.val (.long q0), .second, .val (.long q1), .second, .val (.long q2), .second, .val (.long q3), .second, .val (.long q4), .second, .val (.int i5), .val (.int (0 : Int32)), .val (.int (1 : Int32)), .val (.long q0), .second, .val (.long h1v), .second, .val (.long h2v), .second, .val (.long h3v), .second, .val (.long h4v), .second, .val (.long mark), .second, .val (.ref hp), .val (.ref wa), .unset, .unset, .unset, .unset]) rfl (pc' := 188) rfl ?_
      refine own_aload C X at_188 rfl rfl (pc' := 190) rfl ?_
      refine own_iconst C X at_190 (v := 0) (by decide) (pc' := 191) rfl ?_
      refine own_lload C X at_191 rfl (pc' := 193) rfl ?_
      refine own_lastore C X at_193 A_wa (by decide) (i := 0) (Nat.le_of_ble_eq_true rfl) ge_wa (pc' := 194) rfl ?_
      intro T h X K_ A_wa_
      have A_wa : own_JA Z h wa [q4, (0 : Int64), (0 : Int64), (0 : Int64), (0 : Int64)] := A_wa_
      have A_hp := A_hp.keep K_ (ninS ne_hp_wa nin0)
      refine own_aload C X at_194 rfl rfl (pc' := 196) rfl ?_
      refine own_iconst C X at_196 (v := 1) (by decide) (pc' := 197) rfl ?_
      refine own_lload C X at_197 rfl (pc' := 199) rfl ?_
      refine own_lastore C X at_199 A_wa (by decide) (i := 1) (Nat.le_of_ble_eq_true rfl) ge_wa (pc' := 200) rfl ?_
      intro T h X K_ A_wa_
      have A_wa : own_JA Z h wa [q4, h1v, (0 : Int64), (0 : Int64), (0 : Int64)] := A_wa_
      have A_hp := A_hp.keep K_ (ninS ne_hp_wa nin0)
      refine own_aload C X at_200 rfl rfl (pc' := 202) rfl ?_
      refine own_iconst C X at_202 (v := 2) (by decide) (pc' := 203) rfl ?_
      refine own_lload C X at_203 rfl (pc' := 205) rfl ?_
      refine own_lastore C X at_205 A_wa (by decide) (i := 2) (Nat.le_of_ble_eq_true rfl) ge_wa (pc' := 206) rfl ?_
      intro T h X K_ A_wa_
      have A_wa : own_JA Z h wa [q4, h1v, h2v, (0 : Int64), (0 : Int64)] := A_wa_
      have A_hp := A_hp.keep K_ (ninS ne_hp_wa nin0)
      refine own_aload C X at_206 rfl rfl (pc' := 208) rfl ?_
      refine own_iconst C X at_208 (v := 3) (by decide) (pc' := 209) rfl ?_
      refine own_lload C X at_209 rfl (pc' := 211) rfl ?_
      refine own_lastore C X at_211 A_wa (by decide) (i := 3) (Nat.le_of_ble_eq_true rfl) ge_wa (pc' := 212) rfl ?_
      intro T h X K_ A_wa_
      have A_wa : own_JA Z h wa [q4, h1v, h2v, h3v, (0 : Int64)] := A_wa_
      have A_hp := A_hp.keep K_ (ninS ne_hp_wa nin0)
      refine own_aload C X at_212 rfl rfl (pc' := 214) rfl ?_
      refine own_iconst C X at_214 (v := 4) (by decide) (pc' := 215) rfl ?_
      refine own_lload C X at_215 rfl (pc' := 217) rfl ?_
      refine own_lastore C X at_217 A_wa (by decide) (i := 4) (Nat.le_of_ble_eq_true rfl) ge_wa (pc' := 218) rfl ?_
      intro T h X K_ A_wa_
      have A_wa : own_JA Z h wa [q4, h1v, h2v, h3v, h4v] := A_wa_
      have A_hp := A_hp.keep K_ (ninS ne_hp_wa nin0)
      refine own_aload C X at_218 rfl rfl (pc' := 220) rfl ?_
      refine own_iload C X at_220 rfl (pc' := 222) rfl ?_
      refine own_iload C X at_222 rfl (pc' := 224) rfl ?_
      refine own_lload C X at_224 rfl (pc' := 226) rfl ?_
      refine own_callS C X at_226 (own_m_rl10 l Z a0 hw hp q4 _ n0 (own_big C X) q0 mark A_hp ge_hp ) (hw _ (List.mem_of_getElem? (i := 6) rfl)) (hw _ (List.mem_of_getElem? (i := 7) rfl)) (hw _ (List.mem_of_getElem? (i := 8) rfl)) (hw _ (List.mem_of_getElem? (i := 9) rfl)) (by decide) own_pd_5832 rfl rfl (Nat.le_of_ble_eq_true rfl) (Nat.le_of_ble_eq_true rfl) (Nat.le_of_ble_eq_true rfl) (Nat.le_of_ble_eq_true rfl) (av := [(.ref hp), (.int (0 : Int32)), (.int (1 : Int32)), (.long q4)]) (S := []) rfl (pc' := 229) rfl ?_
      intro T h v X hQ
      obtain ⟨rfl, r0, K_, A_hp, od, pm⟩ := hQ
      have A_wa := A_wa.keep K_ (ninS (Ne.symm ne_hp_wa) nin0)
      show own_Go p e below n0 (own_Fin room_1 s (fun v h => v = some (.int 1))) (T.setTop (mkF m 229 #[.val (.long q0), .second, .val (.long q1), .second, .val (.long q2), .second, .val (.long q3), .second, .val (.long q4), .second, .val (.int i5), .val (.int (0 : Int32)), .val (.int (1 : Int32)), .val (.long q0), .second, .val (.long h1v), .second, .val (.long h2v), .second, .val (.long h3v), .second, .val (.long h4v), .second, .val (.long mark), .second, .val (.ref hp), .val (.ref wa), .unset, .unset, .unset, .unset] []))
      refine own_iconst C X at_229 (v := 5) (by decide) (pc' := 230) rfl ?_
      refine own_newJ C X at_230 (hw _ (List.mem_of_getElem? (i := 5) rfl)) (by decide) (k := 5) (cap := 5) (Nat.le_of_ble_eq_true rfl) (by decide) (Nat.le_of_ble_eq_true rfl) (Nat.le_of_ble_eq_true rfl) (pc' := 232) rfl ?_
      intro T h go e_go X K_ ge_go A_go_
      have ne_hp_go : hp ≠ go := by rw [e_go]; exact Nat.ne_of_lt A_hp.lt
      have ne_wa_go : wa ≠ go := by rw [e_go]; exact Nat.ne_of_lt A_wa.lt
      have A_go : own_JA Z h go [(0 : Int64), (0 : Int64), (0 : Int64), (0 : Int64), (0 : Int64)] := A_go_
      have A_hp := A_hp.keep K_ nin0
      have A_wa := A_wa.keep K_ nin0
      refine own_astore C X at_232 rfl (L' := #[.val (.long q0), .second, .val (.long q1), .second, .val (.long q2), .second, .val (.long q3), .second, .val (.long q4), .second, .val (.int i5), .val (.int (0 : Int32)), .val (.int (1 : Int32)), .val (.long q0), .second, .val (.long h1v), .second, .val (.long h2v), .second, .val (.long h3v), .second, .val (.long h4v), .second, .val (.long mark), .second, .val (.ref hp), .val (.ref wa), .val (.ref go), .unset, .unset, .unset]) rfl (pc' := 234) rfl ?_
      refine own_aload C X at_234 rfl rfl (pc' := 236) rfl ?_
      refine own_iconst C X at_236 (v := 0) (by decide) (pc' := 237) rfl ?_
      refine own_aload C X at_237 rfl rfl (pc' := 239) rfl ?_
      refine own_iload C X at_239 rfl (pc' := 241) rfl ?_
      refine own_laload C X at_241 A_hp (by decide) (i := 0) rfl (pc' := 242) rfl ?_
      refine own_lastore C X at_242 A_go (by decide) (i := 0) (Nat.le_of_ble_eq_true rfl) ge_go (pc' := 243) rfl ?_
      intro T h X K_ A_go_
      have A_go : own_JA Z h go [r0, (0 : Int64), (0 : Int64), (0 : Int64), (0 : Int64)] := A_go_
      have A_hp := A_hp.keep K_ (ninS ne_hp_go nin0)
      have A_wa := A_wa.keep K_ (ninS ne_wa_go nin0)
      refine own_aload C X at_243 rfl rfl (pc' := 245) rfl ?_
      refine own_iconst C X at_245 (v := 1) (by decide) (pc' := 246) rfl ?_
      refine own_aload C X at_246 rfl rfl (pc' := 248) rfl ?_
      refine own_iload C X at_248 rfl (pc' := 250) rfl ?_
      refine own_iconst C X at_250 (v := 1) (by decide) (pc' := 251) rfl ?_
      refine own_iadd C X at_251 (z := 1) (by decide) (pc' := 252) rfl ?_
      refine own_laload C X at_252 A_hp (by decide) (i := 1) rfl (pc' := 253) rfl ?_
      refine own_lastore C X at_253 A_go (by decide) (i := 1) (Nat.le_of_ble_eq_true rfl) ge_go (pc' := 254) rfl ?_
      intro T h X K_ A_go_
      have A_go : own_JA Z h go [r0, mark, (0 : Int64), (0 : Int64), (0 : Int64)] := A_go_
      have A_hp := A_hp.keep K_ (ninS ne_hp_go nin0)
      have A_wa := A_wa.keep K_ (ninS ne_wa_go nin0)
      refine own_aload C X at_254 rfl rfl (pc' := 256) rfl ?_
      refine own_iconst C X at_256 (v := 2) (by decide) (pc' := 257) rfl ?_
      refine own_aload C X at_257 rfl rfl (pc' := 259) rfl ?_
      refine own_iload C X at_259 rfl (pc' := 261) rfl ?_
      refine own_iconst C X at_261 (v := 2) (by decide) (pc' := 262) rfl ?_
      refine own_iadd C X at_262 (z := 2) (by decide) (pc' := 263) rfl ?_
      refine own_laload C X at_263 A_hp (by decide) (i := 2) rfl (pc' := 264) rfl ?_
      refine own_lastore C X at_264 A_go (by decide) (i := 2) (Nat.le_of_ble_eq_true rfl) ge_go (pc' := 265) rfl ?_
      intro T h X K_ A_go_
      have A_go : own_JA Z h go [r0, mark, mark, (0 : Int64), (0 : Int64)] := A_go_
      have A_hp := A_hp.keep K_ (ninS ne_hp_go nin0)
      have A_wa := A_wa.keep K_ (ninS ne_wa_go nin0)
      refine own_aload C X at_265 rfl rfl (pc' := 267) rfl ?_
      refine own_iconst C X at_267 (v := 3) (by decide) (pc' := 268) rfl ?_
      refine own_aload C X at_268 rfl rfl (pc' := 270) rfl ?_
      refine own_iload C X at_270 rfl (pc' := 272) rfl ?_
      refine own_iconst C X at_272 (v := 3) (by decide) (pc' := 273) rfl ?_
      refine own_iadd C X at_273 (z := 3) (by decide) (pc' := 274) rfl ?_
      refine own_laload C X at_274 A_hp (by decide) (i := 3) rfl (pc' := 275) rfl ?_
      refine own_lastore C X at_275 A_go (by decide) (i := 3) (Nat.le_of_ble_eq_true rfl) ge_go (pc' := 276) rfl ?_
      intro T h X K_ A_go_
      have A_go : own_JA Z h go [r0, mark, mark, mark, (0 : Int64)] := A_go_
      have A_hp := A_hp.keep K_ (ninS ne_hp_go nin0)
      have A_wa := A_wa.keep K_ (ninS ne_wa_go nin0)
      refine own_aload C X at_276 rfl rfl (pc' := 278) rfl ?_
      refine own_iconst C X at_278 (v := 4) (by decide) (pc' := 279) rfl ?_
      refine own_aload C X at_279 rfl rfl (pc' := 281) rfl ?_
      refine own_iload C X at_281 rfl (pc' := 283) rfl ?_
      refine own_iconst C X at_283 (v := 4) (by decide) (pc' := 284) rfl ?_
      refine own_iadd C X at_284 (z := 4) (by decide) (pc' := 285) rfl ?_
      refine own_laload C X at_285 A_hp (by decide) (i := 4) rfl (pc' := 286) rfl ?_
      refine own_lastore C X at_286 A_go (by decide) (i := 4) (Nat.le_of_ble_eq_true rfl) ge_go (pc' := 287) rfl ?_
      intro T h X K_ A_go_
      have A_go : own_JA Z h go [r0, mark, mark, mark, mark] := A_go_
      have A_hp := A_hp.keep K_ (ninS ne_hp_go nin0)
      have A_wa := A_wa.keep K_ (ninS ne_wa_go nin0)
      refine own_aload C X at_287 rfl rfl (pc' := 289) rfl ?_
      refine own_iload C X at_289 rfl (pc' := 291) rfl ?_
      refine own_iconst C X at_291 (v := 1) (by decide) (pc' := 292) rfl ?_
      refine own_callS C X at_292 (own_m_orN l Z a0 hw go (1 : Int32) (1 : Int32) _ n0 (own_big C X) (by decide)) (hw _ (List.mem_of_getElem? (i := 10) rfl)) (hw _ (List.mem_of_getElem? (i := 11) rfl)) (hw _ (List.mem_of_getElem? (i := 12) rfl)) (hw _ (List.mem_of_getElem? (i := 13) rfl)) (by decide) own_pd_4869 rfl rfl (Nat.le_of_ble_eq_true rfl) (Nat.le_of_ble_eq_true rfl) (Nat.le_of_ble_eq_true rfl) (Nat.le_of_ble_eq_true rfl) (av := [(.ref go), (.int (1 : Int32)), (.int (1 : Int32))]) (S := []) rfl (pc' := 295) rfl ?_
      intro T h v X hQ
      obtain ⟨rfl, rfl⟩ := hQ
      show own_Go p e below n0 (own_Fin room_1 s (fun v h => v = some (.int 1))) (T.setTop (mkF m 295 #[.val (.long q0), .second, .val (.long q1), .second, .val (.long q2), .second, .val (.long q3), .second, .val (.long q4), .second, .val (.int i5), .val (.int (0 : Int32)), .val (.int (1 : Int32)), .val (.long q0), .second, .val (.long h1v), .second, .val (.long h2v), .second, .val (.long h3v), .second, .val (.long h4v), .second, .val (.long mark), .second, .val (.ref hp), .val (.ref wa), .val (.ref go), .unset, .unset, .unset] [(.int (1 : Int32))]))
      refine own_if_eq C X at_295 (pcT := 335) (pc' := 298) (by decide) (by decide) rfl (fun hc295 => absurd hc295 (by decide)) (fun hc295 => ?_)
      refine own_aload C X at_298 rfl rfl (pc' := 300) rfl ?_
      refine own_iload C X at_300 rfl (pc' := 302) rfl ?_
      refine own_iconst C X at_302 (v := 2) (by decide) (pc' := 303) rfl ?_
      refine own_callS C X at_303 (own_m_orN l Z a0 hw go (1 : Int32) (2 : Int32) _ n0 (own_big C X) (by decide)) (hw _ (List.mem_of_getElem? (i := 10) rfl)) (hw _ (List.mem_of_getElem? (i := 11) rfl)) (hw _ (List.mem_of_getElem? (i := 12) rfl)) (hw _ (List.mem_of_getElem? (i := 13) rfl)) (by decide) own_pd_4869 rfl rfl (Nat.le_of_ble_eq_true rfl) (Nat.le_of_ble_eq_true rfl) (Nat.le_of_ble_eq_true rfl) (Nat.le_of_ble_eq_true rfl) (av := [(.ref go), (.int (1 : Int32)), (.int (2 : Int32))]) (S := []) rfl (pc' := 306) rfl ?_
      intro T h v X hQ
      obtain ⟨rfl, rfl⟩ := hQ
      show own_Go p e below n0 (own_Fin room_1 s (fun v h => v = some (.int 1))) (T.setTop (mkF m 306 #[.val (.long q0), .second, .val (.long q1), .second, .val (.long q2), .second, .val (.long q3), .second, .val (.long q4), .second, .val (.int i5), .val (.int (0 : Int32)), .val (.int (1 : Int32)), .val (.long q0), .second, .val (.long h1v), .second, .val (.long h2v), .second, .val (.long h3v), .second, .val (.long h4v), .second, .val (.long mark), .second, .val (.ref hp), .val (.ref wa), .val (.ref go), .unset, .unset, .unset] [(.int (1 : Int32))]))
      refine own_if_eq C X at_306 (pcT := 335) (pc' := 309) (by decide) (by decide) rfl (fun hc306 => absurd hc306 (by decide)) (fun hc306 => ?_)
      refine own_aload C X at_309 rfl rfl (pc' := 311) rfl ?_
      refine own_iload C X at_311 rfl (pc' := 313) rfl ?_
      refine own_iconst C X at_313 (v := 3) (by decide) (pc' := 314) rfl ?_
      refine own_callS C X at_314 (own_m_orN l Z a0 hw go (1 : Int32) (3 : Int32) _ n0 (own_big C X) (by decide)) (hw _ (List.mem_of_getElem? (i := 10) rfl)) (hw _ (List.mem_of_getElem? (i := 11) rfl)) (hw _ (List.mem_of_getElem? (i := 12) rfl)) (hw _ (List.mem_of_getElem? (i := 13) rfl)) (by decide) own_pd_4869 rfl rfl (Nat.le_of_ble_eq_true rfl) (Nat.le_of_ble_eq_true rfl) (Nat.le_of_ble_eq_true rfl) (Nat.le_of_ble_eq_true rfl) (av := [(.ref go), (.int (1 : Int32)), (.int (3 : Int32))]) (S := []) rfl (pc' := 317) rfl ?_
      intro T h v X hQ
      obtain ⟨rfl, rfl⟩ := hQ
      show own_Go p e below n0 (own_Fin room_1 s (fun v h => v = some (.int 1))) (T.setTop (mkF m 317 #[.val (.long q0), .second, .val (.long q1), .second, .val (.long q2), .second, .val (.long q3), .second, .val (.long q4), .second, .val (.int i5), .val (.int (0 : Int32)), .val (.int (1 : Int32)), .val (.long q0), .second, .val (.long h1v), .second, .val (.long h2v), .second, .val (.long h3v), .second, .val (.long h4v), .second, .val (.long mark), .second, .val (.ref hp), .val (.ref wa), .val (.ref go), .unset, .unset, .unset] [(.int (1 : Int32))]))
      refine own_if_eq C X at_317 (pcT := 335) (pc' := 320) (by decide) (by decide) rfl (fun hc317 => absurd hc317 (by decide)) (fun hc317 => ?_)
      refine own_aload C X at_320 rfl rfl (pc' := 322) rfl ?_
      refine own_iload C X at_322 rfl (pc' := 324) rfl ?_
      refine own_iconst C X at_324 (v := 4) (by decide) (pc' := 325) rfl ?_
      refine own_callS C X at_325 (own_m_orN l Z a0 hw go (1 : Int32) (4 : Int32) _ n0 (own_big C X) (by decide)) (hw _ (List.mem_of_getElem? (i := 10) rfl)) (hw _ (List.mem_of_getElem? (i := 11) rfl)) (hw _ (List.mem_of_getElem? (i := 12) rfl)) (hw _ (List.mem_of_getElem? (i := 13) rfl)) (by decide) own_pd_4869 rfl rfl (Nat.le_of_ble_eq_true rfl) (Nat.le_of_ble_eq_true rfl) (Nat.le_of_ble_eq_true rfl) (Nat.le_of_ble_eq_true rfl) (av := [(.ref go), (.int (1 : Int32)), (.int (4 : Int32))]) (S := []) rfl (pc' := 328) rfl ?_
      intro T h v X hQ
      obtain ⟨rfl, rfl⟩ := hQ
      show own_Go p e below n0 (own_Fin room_1 s (fun v h => v = some (.int 1))) (T.setTop (mkF m 328 #[.val (.long q0), .second, .val (.long q1), .second, .val (.long q2), .second, .val (.long q3), .second, .val (.long q4), .second, .val (.int i5), .val (.int (0 : Int32)), .val (.int (1 : Int32)), .val (.long q0), .second, .val (.long h1v), .second, .val (.long h2v), .second, .val (.long h3v), .second, .val (.long h4v), .second, .val (.long mark), .second, .val (.ref hp), .val (.ref wa), .val (.ref go), .unset, .unset, .unset] [(.int (1 : Int32))]))
      refine own_if_eq C X at_328 (pcT := 335) (pc' := 331) (by decide) (by decide) rfl (fun hc328 => absurd hc328 (by decide)) (fun hc328 => ?_)
      refine own_iconst C X at_331 (v := 1) (by decide) (pc' := 332) rfl ?_
      refine own_goto C X at_332 (pc' := 336) (by decide) (by decide) ?_
      refine own_istore C X at_336 (L' := #[.val (.long q0), .second, .val (.long q1), .second, .val (.long q2), .second, .val (.long q3), .second, .val (.long q4), .second, .val (.int i5), .val (.int (0 : Int32)), .val (.int (1 : Int32)), .val (.long q0), .second, .val (.long h1v), .second, .val (.long h2v), .second, .val (.long h3v), .second, .val (.long h4v), .second, .val (.long mark), .second, .val (.ref hp), .val (.ref wa), .val (.ref go), .val (.int (1 : Int32)), .unset, .unset]) rfl (pc' := 338) rfl ?_
      refine own_aload C X at_338 rfl rfl (pc' := 340) rfl ?_
      refine own_aload C X at_340 rfl rfl (pc' := 342) rfl ?_
      refine own_iload C X at_342 rfl (pc' := 344) rfl ?_
      refine own_iconst C X at_344 (v := 0) (by decide) (pc' := 345) rfl ?_
      refine own_callS C X at_345 (own_m_sc1 l Z a0 hw wa go (0 : Int32) _ n0 (own_big C X) q4 h1v h2v h3v h4v r0 mark mark mark mark q4 A_wa A_go (by decide) 0 (by decide) rfl pm) (hw _ (List.mem_of_getElem? (i := 14) rfl)) (hw _ (List.mem_of_getElem? (i := 15) rfl)) (hw _ (List.mem_of_getElem? (i := 12) rfl)) (hw _ (List.mem_of_getElem? (i := 16) rfl)) (by decide) own_pd_7147 rfl rfl (Nat.le_of_ble_eq_true rfl) (Nat.le_of_ble_eq_true rfl) (Nat.le_of_ble_eq_true rfl) (Nat.le_of_ble_eq_true rfl) (av := [(.ref wa), (.ref go), (.int (1 : Int32)), (.int (0 : Int32))]) (S := []) rfl (pc' := 348) rfl ?_
      intro T h v X hQ
      obtain ⟨rfl, rfl⟩ := hQ
      show own_Go p e below n0 (own_Fin room_1 s (fun v h => v = some (.int 1))) (T.setTop (mkF m 348 #[.val (.long q0), .second, .val (.long q1), .second, .val (.long q2), .second, .val (.long q3), .second, .val (.long q4), .second, .val (.int i5), .val (.int (0 : Int32)), .val (.int (1 : Int32)), .val (.long q0), .second, .val (.long h1v), .second, .val (.long h2v), .second, .val (.long h3v), .second, .val (.long h4v), .second, .val (.long mark), .second, .val (.ref hp), .val (.ref wa), .val (.ref go), .val (.int (1 : Int32)), .unset, .unset] [(.int (1 : Int32))]))
      refine own_if_eq C X at_348 (pcT := 407) (pc' := 351) (by decide) (by decide) rfl (fun hc348 => absurd hc348 (by decide)) (fun hc348 => ?_)
      refine own_aload C X at_351 rfl rfl (pc' := 353) rfl ?_
      refine own_aload C X at_353 rfl rfl (pc' := 355) rfl ?_
      refine own_iload C X at_355 rfl (pc' := 357) rfl ?_
      refine own_iconst C X at_357 (v := 1) (by decide) (pc' := 358) rfl ?_
      refine own_callS C X at_358 (own_m_scN l Z a0 hw wa go (1 : Int32) (1 : Int32) _ n0 (own_big C X) (by decide)) (hw _ (List.mem_of_getElem? (i := 14) rfl)) (hw _ (List.mem_of_getElem? (i := 15) rfl)) (hw _ (List.mem_of_getElem? (i := 12) rfl)) (hw _ (List.mem_of_getElem? (i := 16) rfl)) (by decide) own_pd_7147 rfl rfl (Nat.le_of_ble_eq_true rfl) (Nat.le_of_ble_eq_true rfl) (Nat.le_of_ble_eq_true rfl) (Nat.le_of_ble_eq_true rfl) (av := [(.ref wa), (.ref go), (.int (1 : Int32)), (.int (1 : Int32))]) (S := []) rfl (pc' := 361) rfl ?_
      intro T h v X hQ
      obtain ⟨rfl, rfl⟩ := hQ
      show own_Go p e below n0 (own_Fin room_1 s (fun v h => v = some (.int 1))) (T.setTop (mkF m 361 #[.val (.long q0), .second, .val (.long q1), .second, .val (.long q2), .second, .val (.long q3), .second, .val (.long q4), .second, .val (.int i5), .val (.int (0 : Int32)), .val (.int (1 : Int32)), .val (.long q0), .second, .val (.long h1v), .second, .val (.long h2v), .second, .val (.long h3v), .second, .val (.long h4v), .second, .val (.long mark), .second, .val (.ref hp), .val (.ref wa), .val (.ref go), .val (.int (1 : Int32)), .unset, .unset] [(.int (1 : Int32))]))
      refine own_if_eq C X at_361 (pcT := 407) (pc' := 364) (by decide) (by decide) rfl (fun hc361 => absurd hc361 (by decide)) (fun hc361 => ?_)
      refine own_aload C X at_364 rfl rfl (pc' := 366) rfl ?_
      refine own_aload C X at_366 rfl rfl (pc' := 368) rfl ?_
      refine own_iload C X at_368 rfl (pc' := 370) rfl ?_
      refine own_iconst C X at_370 (v := 2) (by decide) (pc' := 371) rfl ?_
      refine own_callS C X at_371 (own_m_scN l Z a0 hw wa go (1 : Int32) (2 : Int32) _ n0 (own_big C X) (by decide)) (hw _ (List.mem_of_getElem? (i := 14) rfl)) (hw _ (List.mem_of_getElem? (i := 15) rfl)) (hw _ (List.mem_of_getElem? (i := 12) rfl)) (hw _ (List.mem_of_getElem? (i := 16) rfl)) (by decide) own_pd_7147 rfl rfl (Nat.le_of_ble_eq_true rfl) (Nat.le_of_ble_eq_true rfl) (Nat.le_of_ble_eq_true rfl) (Nat.le_of_ble_eq_true rfl) (av := [(.ref wa), (.ref go), (.int (1 : Int32)), (.int (2 : Int32))]) (S := []) rfl (pc' := 374) rfl ?_
      intro T h v X hQ
      obtain ⟨rfl, rfl⟩ := hQ
      show own_Go p e below n0 (own_Fin room_1 s (fun v h => v = some (.int 1))) (T.setTop (mkF m 374 #[.val (.long q0), .second, .val (.long q1), .second, .val (.long q2), .second, .val (.long q3), .second, .val (.long q4), .second, .val (.int i5), .val (.int (0 : Int32)), .val (.int (1 : Int32)), .val (.long q0), .second, .val (.long h1v), .second, .val (.long h2v), .second, .val (.long h3v), .second, .val (.long h4v), .second, .val (.long mark), .second, .val (.ref hp), .val (.ref wa), .val (.ref go), .val (.int (1 : Int32)), .unset, .unset] [(.int (1 : Int32))]))
      refine own_if_eq C X at_374 (pcT := 407) (pc' := 377) (by decide) (by decide) rfl (fun hc374 => absurd hc374 (by decide)) (fun hc374 => ?_)
      refine own_aload C X at_377 rfl rfl (pc' := 379) rfl ?_
      refine own_aload C X at_379 rfl rfl (pc' := 381) rfl ?_
      refine own_iload C X at_381 rfl (pc' := 383) rfl ?_
      refine own_iconst C X at_383 (v := 3) (by decide) (pc' := 384) rfl ?_
      refine own_callS C X at_384 (own_m_scN l Z a0 hw wa go (1 : Int32) (3 : Int32) _ n0 (own_big C X) (by decide)) (hw _ (List.mem_of_getElem? (i := 14) rfl)) (hw _ (List.mem_of_getElem? (i := 15) rfl)) (hw _ (List.mem_of_getElem? (i := 12) rfl)) (hw _ (List.mem_of_getElem? (i := 16) rfl)) (by decide) own_pd_7147 rfl rfl (Nat.le_of_ble_eq_true rfl) (Nat.le_of_ble_eq_true rfl) (Nat.le_of_ble_eq_true rfl) (Nat.le_of_ble_eq_true rfl) (av := [(.ref wa), (.ref go), (.int (1 : Int32)), (.int (3 : Int32))]) (S := []) rfl (pc' := 387) rfl ?_
      intro T h v X hQ
      obtain ⟨rfl, rfl⟩ := hQ
      show own_Go p e below n0 (own_Fin room_1 s (fun v h => v = some (.int 1))) (T.setTop (mkF m 387 #[.val (.long q0), .second, .val (.long q1), .second, .val (.long q2), .second, .val (.long q3), .second, .val (.long q4), .second, .val (.int i5), .val (.int (0 : Int32)), .val (.int (1 : Int32)), .val (.long q0), .second, .val (.long h1v), .second, .val (.long h2v), .second, .val (.long h3v), .second, .val (.long h4v), .second, .val (.long mark), .second, .val (.ref hp), .val (.ref wa), .val (.ref go), .val (.int (1 : Int32)), .unset, .unset] [(.int (1 : Int32))]))
      refine own_if_eq C X at_387 (pcT := 407) (pc' := 390) (by decide) (by decide) rfl (fun hc387 => absurd hc387 (by decide)) (fun hc387 => ?_)
      refine own_aload C X at_390 rfl rfl (pc' := 392) rfl ?_
      refine own_aload C X at_392 rfl rfl (pc' := 394) rfl ?_
      refine own_iload C X at_394 rfl (pc' := 396) rfl ?_
      refine own_iconst C X at_396 (v := 4) (by decide) (pc' := 397) rfl ?_
      refine own_callS C X at_397 (own_m_scN l Z a0 hw wa go (1 : Int32) (4 : Int32) _ n0 (own_big C X) (by decide)) (hw _ (List.mem_of_getElem? (i := 14) rfl)) (hw _ (List.mem_of_getElem? (i := 15) rfl)) (hw _ (List.mem_of_getElem? (i := 12) rfl)) (hw _ (List.mem_of_getElem? (i := 16) rfl)) (by decide) own_pd_7147 rfl rfl (Nat.le_of_ble_eq_true rfl) (Nat.le_of_ble_eq_true rfl) (Nat.le_of_ble_eq_true rfl) (Nat.le_of_ble_eq_true rfl) (av := [(.ref wa), (.ref go), (.int (1 : Int32)), (.int (4 : Int32))]) (S := []) rfl (pc' := 400) rfl ?_
      intro T h v X hQ
      obtain ⟨rfl, rfl⟩ := hQ
      show own_Go p e below n0 (own_Fin room_1 s (fun v h => v = some (.int 1))) (T.setTop (mkF m 400 #[.val (.long q0), .second, .val (.long q1), .second, .val (.long q2), .second, .val (.long q3), .second, .val (.long q4), .second, .val (.int i5), .val (.int (0 : Int32)), .val (.int (1 : Int32)), .val (.long q0), .second, .val (.long h1v), .second, .val (.long h2v), .second, .val (.long h3v), .second, .val (.long h4v), .second, .val (.long mark), .second, .val (.ref hp), .val (.ref wa), .val (.ref go), .val (.int (1 : Int32)), .unset, .unset] [(.int (1 : Int32))]))
      refine own_if_eq C X at_400 (pcT := 407) (pc' := 403) (by decide) (by decide) rfl (fun hc400 => absurd hc400 (by decide)) (fun hc400 => ?_)
      refine own_iconst C X at_403 (v := 1) (by decide) (pc' := 404) rfl ?_
      refine own_goto C X at_404 (pc' := 408) (by decide) (by decide) ?_
      refine own_istore C X at_408 (L' := #[.val (.long q0), .second, .val (.long q1), .second, .val (.long q2), .second, .val (.long q3), .second, .val (.long q4), .second, .val (.int i5), .val (.int (0 : Int32)), .val (.int (1 : Int32)), .val (.long q0), .second, .val (.long h1v), .second, .val (.long h2v), .second, .val (.long h3v), .second, .val (.long h4v), .second, .val (.long mark), .second, .val (.ref hp), .val (.ref wa), .val (.ref go), .val (.int (1 : Int32)), .val (.int (1 : Int32)), .unset]) rfl (pc' := 410) rfl ?_
      refine own_aload C X at_410 rfl rfl (pc' := 412) rfl ?_
      refine own_iconst C X at_412 (v := 0) (by decide) (pc' := 413) rfl ?_
      refine own_iload C X at_413 rfl (pc' := 415) rfl ?_
      refine own_iload C X at_415 rfl (pc' := 417) rfl ?_
      refine own_lload C X at_417 rfl (pc' := 419) rfl ?_
      refine own_callS C X at_419 (own_m_kpI l Z a0 hw hp (0 : Int32) (0 : Int32) (1 : Int32) mark _ n0 (own_big C X) (by decide) (by decide)) (hw _ (List.mem_of_getElem? (i := 20) rfl)) (hw _ (List.mem_of_getElem? (i := 21) rfl)) (hw _ (List.mem_of_getElem? (i := 12) rfl)) (hw _ (List.mem_of_getElem? (i := 22) rfl)) (by decide) own_pd_6969 rfl rfl (Nat.le_of_ble_eq_true rfl) (Nat.le_of_ble_eq_true rfl) (Nat.le_of_ble_eq_true rfl) (Nat.le_of_ble_eq_true rfl) (av := [(.ref hp), (.int (0 : Int32)), (.int (0 : Int32)), (.int (1 : Int32)), (.long mark)]) (S := []) rfl (pc' := 422) rfl ?_
      intro T h v X hQ
      obtain ⟨rfl, rfl⟩ := hQ
      show own_Go p e below n0 (own_Fin room_1 s (fun v h => v = some (.int 1))) (T.setTop (mkF m 422 #[.val (.long q0), .second, .val (.long q1), .second, .val (.long q2), .second, .val (.long q3), .second, .val (.long q4), .second, .val (.int i5), .val (.int (0 : Int32)), .val (.int (1 : Int32)), .val (.long q0), .second, .val (.long h1v), .second, .val (.long h2v), .second, .val (.long h3v), .second, .val (.long h4v), .second, .val (.long mark), .second, .val (.ref hp), .val (.ref wa), .val (.ref go), .val (.int (1 : Int32)), .val (.int (1 : Int32)), .unset] [(.int (1 : Int32))]))
      refine own_if_eq C X at_422 (pcT := 520) (pc' := 425) (by decide) (by decide) rfl (fun hc422 => absurd hc422 (by decide)) (fun hc422 => ?_)
      refine own_aload C X at_425 rfl rfl (pc' := 427) rfl ?_
      refine own_iconst C X at_427 (v := 1) (by decide) (pc' := 428) rfl ?_
      refine own_iload C X at_428 rfl (pc' := 430) rfl ?_
      refine own_iload C X at_430 rfl (pc' := 432) rfl ?_
      refine own_lload C X at_432 rfl (pc' := 434) rfl ?_
      refine own_callS C X at_434 (own_m_kpA l Z a0 hw hp (1 : Int32) (0 : Int32) (1 : Int32) mark _ n0 (own_big C X) (by decide) (by decide) [r0, mark, mark, mark, mark, mark, mark] A_hp 1 (by decide) rfl) (hw _ (List.mem_of_getElem? (i := 20) rfl)) (hw _ (List.mem_of_getElem? (i := 21) rfl)) (hw _ (List.mem_of_getElem? (i := 12) rfl)) (hw _ (List.mem_of_getElem? (i := 22) rfl)) (by decide) own_pd_6969 rfl rfl (Nat.le_of_ble_eq_true rfl) (Nat.le_of_ble_eq_true rfl) (Nat.le_of_ble_eq_true rfl) (Nat.le_of_ble_eq_true rfl) (av := [(.ref hp), (.int (1 : Int32)), (.int (0 : Int32)), (.int (1 : Int32)), (.long mark)]) (S := []) rfl (pc' := 437) rfl ?_
      intro T h v X hQ
      obtain ⟨rfl, rfl⟩ := hQ
      show own_Go p e below n0 (own_Fin room_1 s (fun v h => v = some (.int 1))) (T.setTop (mkF m 437 #[.val (.long q0), .second, .val (.long q1), .second, .val (.long q2), .second, .val (.long q3), .second, .val (.long q4), .second, .val (.int i5), .val (.int (0 : Int32)), .val (.int (1 : Int32)), .val (.long q0), .second, .val (.long h1v), .second, .val (.long h2v), .second, .val (.long h3v), .second, .val (.long h4v), .second, .val (.long mark), .second, .val (.ref hp), .val (.ref wa), .val (.ref go), .val (.int (1 : Int32)), .val (.int (1 : Int32)), .unset] [(.int (1 : Int32))]))
      refine own_if_eq C X at_437 (pcT := 520) (pc' := 440) (by decide) (by decide) rfl (fun hc437 => absurd hc437 (by decide)) (fun hc437 => ?_)
      refine own_aload C X at_440 rfl rfl (pc' := 442) rfl ?_
      refine own_iconst C X at_442 (v := 2) (by decide) (pc' := 443) rfl ?_
      refine own_iload C X at_443 rfl (pc' := 445) rfl ?_
      refine own_iload C X at_445 rfl (pc' := 447) rfl ?_
      refine own_lload C X at_447 rfl (pc' := 449) rfl ?_
      refine own_callS C X at_449 (own_m_kpA l Z a0 hw hp (2 : Int32) (0 : Int32) (1 : Int32) mark _ n0 (own_big C X) (by decide) (by decide) [r0, mark, mark, mark, mark, mark, mark] A_hp 2 (by decide) rfl) (hw _ (List.mem_of_getElem? (i := 20) rfl)) (hw _ (List.mem_of_getElem? (i := 21) rfl)) (hw _ (List.mem_of_getElem? (i := 12) rfl)) (hw _ (List.mem_of_getElem? (i := 22) rfl)) (by decide) own_pd_6969 rfl rfl (Nat.le_of_ble_eq_true rfl) (Nat.le_of_ble_eq_true rfl) (Nat.le_of_ble_eq_true rfl) (Nat.le_of_ble_eq_true rfl) (av := [(.ref hp), (.int (2 : Int32)), (.int (0 : Int32)), (.int (1 : Int32)), (.long mark)]) (S := []) rfl (pc' := 452) rfl ?_
      intro T h v X hQ
      obtain ⟨rfl, rfl⟩ := hQ
      show own_Go p e below n0 (own_Fin room_1 s (fun v h => v = some (.int 1))) (T.setTop (mkF m 452 #[.val (.long q0), .second, .val (.long q1), .second, .val (.long q2), .second, .val (.long q3), .second, .val (.long q4), .second, .val (.int i5), .val (.int (0 : Int32)), .val (.int (1 : Int32)), .val (.long q0), .second, .val (.long h1v), .second, .val (.long h2v), .second, .val (.long h3v), .second, .val (.long h4v), .second, .val (.long mark), .second, .val (.ref hp), .val (.ref wa), .val (.ref go), .val (.int (1 : Int32)), .val (.int (1 : Int32)), .unset] [(.int (1 : Int32))]))
      refine own_if_eq C X at_452 (pcT := 520) (pc' := 455) (by decide) (by decide) rfl (fun hc452 => absurd hc452 (by decide)) (fun hc452 => ?_)
      refine own_aload C X at_455 rfl rfl (pc' := 457) rfl ?_
      refine own_iconst C X at_457 (v := 3) (by decide) (pc' := 458) rfl ?_
      refine own_iload C X at_458 rfl (pc' := 460) rfl ?_
      refine own_iload C X at_460 rfl (pc' := 462) rfl ?_
      refine own_lload C X at_462 rfl (pc' := 464) rfl ?_
      refine own_callS C X at_464 (own_m_kpA l Z a0 hw hp (3 : Int32) (0 : Int32) (1 : Int32) mark _ n0 (own_big C X) (by decide) (by decide) [r0, mark, mark, mark, mark, mark, mark] A_hp 3 (by decide) rfl) (hw _ (List.mem_of_getElem? (i := 20) rfl)) (hw _ (List.mem_of_getElem? (i := 21) rfl)) (hw _ (List.mem_of_getElem? (i := 12) rfl)) (hw _ (List.mem_of_getElem? (i := 22) rfl)) (by decide) own_pd_6969 rfl rfl (Nat.le_of_ble_eq_true rfl) (Nat.le_of_ble_eq_true rfl) (Nat.le_of_ble_eq_true rfl) (Nat.le_of_ble_eq_true rfl) (av := [(.ref hp), (.int (3 : Int32)), (.int (0 : Int32)), (.int (1 : Int32)), (.long mark)]) (S := []) rfl (pc' := 467) rfl ?_
      intro T h v X hQ
      obtain ⟨rfl, rfl⟩ := hQ
      show own_Go p e below n0 (own_Fin room_1 s (fun v h => v = some (.int 1))) (T.setTop (mkF m 467 #[.val (.long q0), .second, .val (.long q1), .second, .val (.long q2), .second, .val (.long q3), .second, .val (.long q4), .second, .val (.int i5), .val (.int (0 : Int32)), .val (.int (1 : Int32)), .val (.long q0), .second, .val (.long h1v), .second, .val (.long h2v), .second, .val (.long h3v), .second, .val (.long h4v), .second, .val (.long mark), .second, .val (.ref hp), .val (.ref wa), .val (.ref go), .val (.int (1 : Int32)), .val (.int (1 : Int32)), .unset] [(.int (1 : Int32))]))
      refine own_if_eq C X at_467 (pcT := 520) (pc' := 470) (by decide) (by decide) rfl (fun hc467 => absurd hc467 (by decide)) (fun hc467 => ?_)
      refine own_aload C X at_470 rfl rfl (pc' := 472) rfl ?_
      refine own_iconst C X at_472 (v := 4) (by decide) (pc' := 473) rfl ?_
      refine own_iload C X at_473 rfl (pc' := 475) rfl ?_
      refine own_iload C X at_475 rfl (pc' := 477) rfl ?_
      refine own_lload C X at_477 rfl (pc' := 479) rfl ?_
      refine own_callS C X at_479 (own_m_kpA l Z a0 hw hp (4 : Int32) (0 : Int32) (1 : Int32) mark _ n0 (own_big C X) (by decide) (by decide) [r0, mark, mark, mark, mark, mark, mark] A_hp 4 (by decide) rfl) (hw _ (List.mem_of_getElem? (i := 20) rfl)) (hw _ (List.mem_of_getElem? (i := 21) rfl)) (hw _ (List.mem_of_getElem? (i := 12) rfl)) (hw _ (List.mem_of_getElem? (i := 22) rfl)) (by decide) own_pd_6969 rfl rfl (Nat.le_of_ble_eq_true rfl) (Nat.le_of_ble_eq_true rfl) (Nat.le_of_ble_eq_true rfl) (Nat.le_of_ble_eq_true rfl) (av := [(.ref hp), (.int (4 : Int32)), (.int (0 : Int32)), (.int (1 : Int32)), (.long mark)]) (S := []) rfl (pc' := 482) rfl ?_
      intro T h v X hQ
      obtain ⟨rfl, rfl⟩ := hQ
      show own_Go p e below n0 (own_Fin room_1 s (fun v h => v = some (.int 1))) (T.setTop (mkF m 482 #[.val (.long q0), .second, .val (.long q1), .second, .val (.long q2), .second, .val (.long q3), .second, .val (.long q4), .second, .val (.int i5), .val (.int (0 : Int32)), .val (.int (1 : Int32)), .val (.long q0), .second, .val (.long h1v), .second, .val (.long h2v), .second, .val (.long h3v), .second, .val (.long h4v), .second, .val (.long mark), .second, .val (.ref hp), .val (.ref wa), .val (.ref go), .val (.int (1 : Int32)), .val (.int (1 : Int32)), .unset] [(.int (1 : Int32))]))
      refine own_if_eq C X at_482 (pcT := 520) (pc' := 485) (by decide) (by decide) rfl (fun hc482 => absurd hc482 (by decide)) (fun hc482 => ?_)
      refine own_aload C X at_485 rfl rfl (pc' := 487) rfl ?_
      refine own_iconst C X at_487 (v := 5) (by decide) (pc' := 488) rfl ?_
      refine own_iload C X at_488 rfl (pc' := 490) rfl ?_
      refine own_iload C X at_490 rfl (pc' := 492) rfl ?_
      refine own_lload C X at_492 rfl (pc' := 494) rfl ?_
      refine own_callS C X at_494 (own_m_kpA l Z a0 hw hp (5 : Int32) (0 : Int32) (1 : Int32) mark _ n0 (own_big C X) (by decide) (by decide) [r0, mark, mark, mark, mark, mark, mark] A_hp 5 (by decide) rfl) (hw _ (List.mem_of_getElem? (i := 20) rfl)) (hw _ (List.mem_of_getElem? (i := 21) rfl)) (hw _ (List.mem_of_getElem? (i := 12) rfl)) (hw _ (List.mem_of_getElem? (i := 22) rfl)) (by decide) own_pd_6969 rfl rfl (Nat.le_of_ble_eq_true rfl) (Nat.le_of_ble_eq_true rfl) (Nat.le_of_ble_eq_true rfl) (Nat.le_of_ble_eq_true rfl) (av := [(.ref hp), (.int (5 : Int32)), (.int (0 : Int32)), (.int (1 : Int32)), (.long mark)]) (S := []) rfl (pc' := 497) rfl ?_
      intro T h v X hQ
      obtain ⟨rfl, rfl⟩ := hQ
      show own_Go p e below n0 (own_Fin room_1 s (fun v h => v = some (.int 1))) (T.setTop (mkF m 497 #[.val (.long q0), .second, .val (.long q1), .second, .val (.long q2), .second, .val (.long q3), .second, .val (.long q4), .second, .val (.int i5), .val (.int (0 : Int32)), .val (.int (1 : Int32)), .val (.long q0), .second, .val (.long h1v), .second, .val (.long h2v), .second, .val (.long h3v), .second, .val (.long h4v), .second, .val (.long mark), .second, .val (.ref hp), .val (.ref wa), .val (.ref go), .val (.int (1 : Int32)), .val (.int (1 : Int32)), .unset] [(.int (1 : Int32))]))
      refine own_if_eq C X at_497 (pcT := 520) (pc' := 500) (by decide) (by decide) rfl (fun hc497 => absurd hc497 (by decide)) (fun hc497 => ?_)
      refine own_aload C X at_500 rfl rfl (pc' := 502) rfl ?_
      refine own_bipush C X at_502 (v := 6) (by decide) (pc' := 504) rfl ?_
      refine own_iload C X at_504 rfl (pc' := 506) rfl ?_
      refine own_iload C X at_506 rfl (pc' := 508) rfl ?_
      refine own_lload C X at_508 rfl (pc' := 510) rfl ?_
      refine own_callS C X at_510 (own_m_kpA l Z a0 hw hp (6 : Int32) (0 : Int32) (1 : Int32) mark _ n0 (own_big C X) (by decide) (by decide) [r0, mark, mark, mark, mark, mark, mark] A_hp 6 (by decide) rfl) (hw _ (List.mem_of_getElem? (i := 20) rfl)) (hw _ (List.mem_of_getElem? (i := 21) rfl)) (hw _ (List.mem_of_getElem? (i := 12) rfl)) (hw _ (List.mem_of_getElem? (i := 22) rfl)) (by decide) own_pd_6969 rfl rfl (Nat.le_of_ble_eq_true rfl) (Nat.le_of_ble_eq_true rfl) (Nat.le_of_ble_eq_true rfl) (Nat.le_of_ble_eq_true rfl) (av := [(.ref hp), (.int (6 : Int32)), (.int (0 : Int32)), (.int (1 : Int32)), (.long mark)]) (S := []) rfl (pc' := 513) rfl ?_
      intro T h v X hQ
      obtain ⟨rfl, rfl⟩ := hQ
      show own_Go p e below n0 (own_Fin room_1 s (fun v h => v = some (.int 1))) (T.setTop (mkF m 513 #[.val (.long q0), .second, .val (.long q1), .second, .val (.long q2), .second, .val (.long q3), .second, .val (.long q4), .second, .val (.int i5), .val (.int (0 : Int32)), .val (.int (1 : Int32)), .val (.long q0), .second, .val (.long h1v), .second, .val (.long h2v), .second, .val (.long h3v), .second, .val (.long h4v), .second, .val (.long mark), .second, .val (.ref hp), .val (.ref wa), .val (.ref go), .val (.int (1 : Int32)), .val (.int (1 : Int32)), .unset] [(.int (1 : Int32))]))
      refine own_if_eq C X at_513 (pcT := 520) (pc' := 516) (by decide) (by decide) rfl (fun hc513 => absurd hc513 (by decide)) (fun hc513 => ?_)
      refine own_iconst C X at_516 (v := 1) (by decide) (pc' := 517) rfl ?_
      refine own_goto C X at_517 (pc' := 521) (by decide) (by decide) ?_
      refine own_istore C X at_521 (L' := #[.val (.long q0), .second, .val (.long q1), .second, .val (.long q2), .second, .val (.long q3), .second, .val (.long q4), .second, .val (.int i5), .val (.int (0 : Int32)), .val (.int (1 : Int32)), .val (.long q0), .second, .val (.long h1v), .second, .val (.long h2v), .second, .val (.long h3v), .second, .val (.long h4v), .second, .val (.long mark), .second, .val (.ref hp), .val (.ref wa), .val (.ref go), .val (.int (1 : Int32)), .val (.int (1 : Int32)), .val (.int (1 : Int32))]) rfl (pc' := 523) rfl ?_
      refine own_iload C X at_523 rfl (pc' := 525) rfl ?_
      refine own_if_eq C X at_525 (pcT := 542) (pc' := 528) (by decide) (by decide) rfl (fun hc525 => absurd hc525 (by decide)) (fun hc525 => ?_)
      refine own_iload C X at_528 rfl (pc' := 530) rfl ?_
      refine own_if_eq C X at_530 (pcT := 542) (pc' := 533) (by decide) (by decide) rfl (fun hc530 => absurd hc530 (by decide)) (fun hc530 => ?_)
      refine own_iload C X at_533 rfl (pc' := 535) rfl ?_
      refine own_if_eq C X at_535 (pcT := 542) (pc' := 538) (by decide) (by decide) rfl (fun hc535 => absurd hc535 (by decide)) (fun hc535 => ?_)
      refine own_iconst C X at_538 (v := 1) (by decide) (pc' := 539) rfl ?_
      refine own_goto C X at_539 (pc' := 543) (by decide) (by decide) ?_
      exact own_ireturn_z C X at_543 (Nat.le_of_ble_eq_true rfl) (Nat.le_of_ble_eq_true rfl) (rfl)
    · refine own_aload C X at_116 rfl rfl (pc' := 118) rfl ?_
      refine own_iload C X at_118 rfl (pc' := 120) rfl ?_
      refine own_lload C X at_120 rfl (pc' := 122) rfl ?_
      refine own_lastore C X at_122 A_hp (by decide) (i := 1) (Nat.le_of_ble_eq_true rfl) ge_hp (pc' := 123) rfl ?_
      intro T h X K_ A_hp_
      have A_hp : own_JA Z h hp [mark, q0, mark, mark, mark, mark, mark] := A_hp_
      refine own_iload C X at_123 rfl (pc' := 125) rfl ?_
      refine own_iconst C X at_125 (v := 1) (by decide) (pc' := 126) rfl ?_
      refine own_icmp_le C X at_126 (pcT := 138) (pc' := 129) (by decide) (by decide) rfl (fun hc126 => ?_) (fun hc126 => absurd hc126 (by decide))
      refine own_iload C X at_138 rfl (pc' := 140) rfl ?_
      refine own_iconst C X at_140 (v := 2) (by decide) (pc' := 141) rfl ?_
      refine own_icmp_le C X at_141 (pcT := 153) (pc' := 144) (by decide) (by decide) rfl (fun hc141 => ?_) (fun hc141 => absurd hc141 (by decide))
      refine own_iload C X at_153 rfl (pc' := 155) rfl ?_
      refine own_iconst C X at_155 (v := 3) (by decide) (pc' := 156) rfl ?_
      refine own_icmp_le C X at_156 (pcT := 168) (pc' := 159) (by decide) (by decide) rfl (fun hc156 => ?_) (fun hc156 => absurd hc156 (by decide))
      refine own_iload C X at_168 rfl (pc' := 170) rfl ?_
      refine own_iconst C X at_170 (v := 4) (by decide) (pc' := 171) rfl ?_
      refine own_icmp_le C X at_171 (pcT := 183) (pc' := 174) (by decide) (by decide) rfl (fun hc171 => ?_) (fun hc171 => absurd hc171 (by decide))
      refine own_iconst C X at_183 (v := 5) (by decide) (pc' := 184) rfl ?_
      refine own_newJ C X at_184 (hw _ (List.mem_of_getElem? (i := 5) rfl)) (by decide) (k := 5) (cap := 5) (Nat.le_of_ble_eq_true rfl) (by decide) (Nat.le_of_ble_eq_true rfl) (Nat.le_of_ble_eq_true rfl) (pc' := 186) rfl ?_
      intro T h wa e_wa X K_ ge_wa A_wa_
      have ne_hp_wa : hp ≠ wa := by rw [e_wa]; exact Nat.ne_of_lt A_hp.lt
      have A_wa : own_JA Z h wa [(0 : Int64), (0 : Int64), (0 : Int64), (0 : Int64), (0 : Int64)] := A_wa_
      have A_hp := A_hp.keep K_ nin0
      refine own_astore C X at_186 rfl (L' := #[.val (.long q0), .second, .val (.long q1), .second, .val (.long q2), .second, .val (.long q3), .second, .val (.long q4), .second, .val (.int i5), .val (.int (1 : Int32)), .val (.int (1 : Int32)), .val (.long q0), .second, .val (.long h1v), .second, .val (.long h2v), .second, .val (.long h3v), .second, .val (.long h4v), .second, .val (.long mark), .second, .val (.ref hp), .val (.ref wa), .unset, .unset, .unset, .unset]) rfl (pc' := 188) rfl ?_
      refine own_aload C X at_188 rfl rfl (pc' := 190) rfl ?_
      refine own_iconst C X at_190 (v := 0) (by decide) (pc' := 191) rfl ?_
      refine own_lload C X at_191 rfl (pc' := 193) rfl ?_
      refine own_lastore C X at_193 A_wa (by decide) (i := 0) (Nat.le_of_ble_eq_true rfl) ge_wa (pc' := 194) rfl ?_
      intro T h X K_ A_wa_
      have A_wa : own_JA Z h wa [q4, (0 : Int64), (0 : Int64), (0 : Int64), (0 : Int64)] := A_wa_
      have A_hp := A_hp.keep K_ (ninS ne_hp_wa nin0)
      refine own_aload C X at_194 rfl rfl (pc' := 196) rfl ?_
      refine own_iconst C X at_196 (v := 1) (by decide) (pc' := 197) rfl ?_
      refine own_lload C X at_197 rfl (pc' := 199) rfl ?_
      refine own_lastore C X at_199 A_wa (by decide) (i := 1) (Nat.le_of_ble_eq_true rfl) ge_wa (pc' := 200) rfl ?_
      intro T h X K_ A_wa_
      have A_wa : own_JA Z h wa [q4, h1v, (0 : Int64), (0 : Int64), (0 : Int64)] := A_wa_
      have A_hp := A_hp.keep K_ (ninS ne_hp_wa nin0)
      refine own_aload C X at_200 rfl rfl (pc' := 202) rfl ?_
      refine own_iconst C X at_202 (v := 2) (by decide) (pc' := 203) rfl ?_
      refine own_lload C X at_203 rfl (pc' := 205) rfl ?_
      refine own_lastore C X at_205 A_wa (by decide) (i := 2) (Nat.le_of_ble_eq_true rfl) ge_wa (pc' := 206) rfl ?_
      intro T h X K_ A_wa_
      have A_wa : own_JA Z h wa [q4, h1v, h2v, (0 : Int64), (0 : Int64)] := A_wa_
      have A_hp := A_hp.keep K_ (ninS ne_hp_wa nin0)
      refine own_aload C X at_206 rfl rfl (pc' := 208) rfl ?_
      refine own_iconst C X at_208 (v := 3) (by decide) (pc' := 209) rfl ?_
      refine own_lload C X at_209 rfl (pc' := 211) rfl ?_
      refine own_lastore C X at_211 A_wa (by decide) (i := 3) (Nat.le_of_ble_eq_true rfl) ge_wa (pc' := 212) rfl ?_
      intro T h X K_ A_wa_
      have A_wa : own_JA Z h wa [q4, h1v, h2v, h3v, (0 : Int64)] := A_wa_
      have A_hp := A_hp.keep K_ (ninS ne_hp_wa nin0)
      refine own_aload C X at_212 rfl rfl (pc' := 214) rfl ?_
      refine own_iconst C X at_214 (v := 4) (by decide) (pc' := 215) rfl ?_
      refine own_lload C X at_215 rfl (pc' := 217) rfl ?_
      refine own_lastore C X at_217 A_wa (by decide) (i := 4) (Nat.le_of_ble_eq_true rfl) ge_wa (pc' := 218) rfl ?_
      intro T h X K_ A_wa_
      have A_wa : own_JA Z h wa [q4, h1v, h2v, h3v, h4v] := A_wa_
      have A_hp := A_hp.keep K_ (ninS ne_hp_wa nin0)
      refine own_aload C X at_218 rfl rfl (pc' := 220) rfl ?_
      refine own_iload C X at_220 rfl (pc' := 222) rfl ?_
      refine own_iload C X at_222 rfl (pc' := 224) rfl ?_
      refine own_lload C X at_224 rfl (pc' := 226) rfl ?_
      refine own_callS C X at_226 (own_m_rl11 l Z a0 hw hp q4 _ n0 (own_big C X) q0 mark A_hp ge_hp ) (hw _ (List.mem_of_getElem? (i := 6) rfl)) (hw _ (List.mem_of_getElem? (i := 7) rfl)) (hw _ (List.mem_of_getElem? (i := 8) rfl)) (hw _ (List.mem_of_getElem? (i := 9) rfl)) (by decide) own_pd_5832 rfl rfl (Nat.le_of_ble_eq_true rfl) (Nat.le_of_ble_eq_true rfl) (Nat.le_of_ble_eq_true rfl) (Nat.le_of_ble_eq_true rfl) (av := [(.ref hp), (.int (1 : Int32)), (.int (1 : Int32)), (.long q4)]) (S := []) rfl (pc' := 229) rfl ?_
      intro T h v X hQ
      obtain ⟨rfl, r0, K_, A_hp, od, pm⟩ := hQ
      have A_wa := A_wa.keep K_ (ninS (Ne.symm ne_hp_wa) nin0)
      show own_Go p e below n0 (own_Fin room_1 s (fun v h => v = some (.int 1))) (T.setTop (mkF m 229 #[.val (.long q0), .second, .val (.long q1), .second, .val (.long q2), .second, .val (.long q3), .second, .val (.long q4), .second, .val (.int i5), .val (.int (1 : Int32)), .val (.int (1 : Int32)), .val (.long q0), .second, .val (.long h1v), .second, .val (.long h2v), .second, .val (.long h3v), .second, .val (.long h4v), .second, .val (.long mark), .second, .val (.ref hp), .val (.ref wa), .unset, .unset, .unset, .unset] []))
      refine own_iconst C X at_229 (v := 5) (by decide) (pc' := 230) rfl ?_
      refine own_newJ C X at_230 (hw _ (List.mem_of_getElem? (i := 5) rfl)) (by decide) (k := 5) (cap := 5) (Nat.le_of_ble_eq_true rfl) (by decide) (Nat.le_of_ble_eq_true rfl) (Nat.le_of_ble_eq_true rfl) (pc' := 232) rfl ?_
      intro T h go e_go X K_ ge_go A_go_
      have ne_hp_go : hp ≠ go := by rw [e_go]; exact Nat.ne_of_lt A_hp.lt
      have ne_wa_go : wa ≠ go := by rw [e_go]; exact Nat.ne_of_lt A_wa.lt
      have A_go : own_JA Z h go [(0 : Int64), (0 : Int64), (0 : Int64), (0 : Int64), (0 : Int64)] := A_go_
      have A_hp := A_hp.keep K_ nin0
      have A_wa := A_wa.keep K_ nin0
      refine own_astore C X at_232 rfl (L' := #[.val (.long q0), .second, .val (.long q1), .second, .val (.long q2), .second, .val (.long q3), .second, .val (.long q4), .second, .val (.int i5), .val (.int (1 : Int32)), .val (.int (1 : Int32)), .val (.long q0), .second, .val (.long h1v), .second, .val (.long h2v), .second, .val (.long h3v), .second, .val (.long h4v), .second, .val (.long mark), .second, .val (.ref hp), .val (.ref wa), .val (.ref go), .unset, .unset, .unset]) rfl (pc' := 234) rfl ?_
      refine own_aload C X at_234 rfl rfl (pc' := 236) rfl ?_
      refine own_iconst C X at_236 (v := 0) (by decide) (pc' := 237) rfl ?_
      refine own_aload C X at_237 rfl rfl (pc' := 239) rfl ?_
      refine own_iload C X at_239 rfl (pc' := 241) rfl ?_
      refine own_laload C X at_241 A_hp (by decide) (i := 1) rfl (pc' := 242) rfl ?_
      refine own_lastore C X at_242 A_go (by decide) (i := 0) (Nat.le_of_ble_eq_true rfl) ge_go (pc' := 243) rfl ?_
      intro T h X K_ A_go_
      have A_go : own_JA Z h go [r0, (0 : Int64), (0 : Int64), (0 : Int64), (0 : Int64)] := A_go_
      have A_hp := A_hp.keep K_ (ninS ne_hp_go nin0)
      have A_wa := A_wa.keep K_ (ninS ne_wa_go nin0)
      refine own_aload C X at_243 rfl rfl (pc' := 245) rfl ?_
      refine own_iconst C X at_245 (v := 1) (by decide) (pc' := 246) rfl ?_
      refine own_aload C X at_246 rfl rfl (pc' := 248) rfl ?_
      refine own_iload C X at_248 rfl (pc' := 250) rfl ?_
      refine own_iconst C X at_250 (v := 1) (by decide) (pc' := 251) rfl ?_
      refine own_iadd C X at_251 (z := 2) (by decide) (pc' := 252) rfl ?_
      refine own_laload C X at_252 A_hp (by decide) (i := 2) rfl (pc' := 253) rfl ?_
      refine own_lastore C X at_253 A_go (by decide) (i := 1) (Nat.le_of_ble_eq_true rfl) ge_go (pc' := 254) rfl ?_
      intro T h X K_ A_go_
      have A_go : own_JA Z h go [r0, mark, (0 : Int64), (0 : Int64), (0 : Int64)] := A_go_
      have A_hp := A_hp.keep K_ (ninS ne_hp_go nin0)
      have A_wa := A_wa.keep K_ (ninS ne_wa_go nin0)
      refine own_aload C X at_254 rfl rfl (pc' := 256) rfl ?_
      refine own_iconst C X at_256 (v := 2) (by decide) (pc' := 257) rfl ?_
      refine own_aload C X at_257 rfl rfl (pc' := 259) rfl ?_
      refine own_iload C X at_259 rfl (pc' := 261) rfl ?_
      refine own_iconst C X at_261 (v := 2) (by decide) (pc' := 262) rfl ?_
      refine own_iadd C X at_262 (z := 3) (by decide) (pc' := 263) rfl ?_
      refine own_laload C X at_263 A_hp (by decide) (i := 3) rfl (pc' := 264) rfl ?_
      refine own_lastore C X at_264 A_go (by decide) (i := 2) (Nat.le_of_ble_eq_true rfl) ge_go (pc' := 265) rfl ?_
      intro T h X K_ A_go_
      have A_go : own_JA Z h go [r0, mark, mark, (0 : Int64), (0 : Int64)] := A_go_
      have A_hp := A_hp.keep K_ (ninS ne_hp_go nin0)
      have A_wa := A_wa.keep K_ (ninS ne_wa_go nin0)
      refine own_aload C X at_265 rfl rfl (pc' := 267) rfl ?_
      refine own_iconst C X at_267 (v := 3) (by decide) (pc' := 268) rfl ?_
      refine own_aload C X at_268 rfl rfl (pc' := 270) rfl ?_
      refine own_iload C X at_270 rfl (pc' := 272) rfl ?_
      refine own_iconst C X at_272 (v := 3) (by decide) (pc' := 273) rfl ?_
      refine own_iadd C X at_273 (z := 4) (by decide) (pc' := 274) rfl ?_
      refine own_laload C X at_274 A_hp (by decide) (i := 4) rfl (pc' := 275) rfl ?_
      refine own_lastore C X at_275 A_go (by decide) (i := 3) (Nat.le_of_ble_eq_true rfl) ge_go (pc' := 276) rfl ?_
      intro T h X K_ A_go_
      have A_go : own_JA Z h go [r0, mark, mark, mark, (0 : Int64)] := A_go_
      have A_hp := A_hp.keep K_ (ninS ne_hp_go nin0)
      have A_wa := A_wa.keep K_ (ninS ne_wa_go nin0)
      refine own_aload C X at_276 rfl rfl (pc' := 278) rfl ?_
      refine own_iconst C X at_278 (v := 4) (by decide) (pc' := 279) rfl ?_
      refine own_aload C X at_279 rfl rfl (pc' := 281) rfl ?_
      refine own_iload C X at_281 rfl (pc' := 283) rfl ?_
      refine own_iconst C X at_283 (v := 4) (by decide) (pc' := 284) rfl ?_
      refine own_iadd C X at_284 (z := 5) (by decide) (pc' := 285) rfl ?_
      refine own_laload C X at_285 A_hp (by decide) (i := 5) rfl (pc' := 286) rfl ?_
      refine own_lastore C X at_286 A_go (by decide) (i := 4) (Nat.le_of_ble_eq_true rfl) ge_go (pc' := 287) rfl ?_
      intro T h X K_ A_go_
      have A_go : own_JA Z h go [r0, mark, mark, mark, mark] := A_go_
      have A_hp := A_hp.keep K_ (ninS ne_hp_go nin0)
      have A_wa := A_wa.keep K_ (ninS ne_wa_go nin0)
      refine own_aload C X at_287 rfl rfl (pc' := 289) rfl ?_
      refine own_iload C X at_289 rfl (pc' := 291) rfl ?_
      refine own_iconst C X at_291 (v := 1) (by decide) (pc' := 292) rfl ?_
      refine own_callS C X at_292 (own_m_orN l Z a0 hw go (1 : Int32) (1 : Int32) _ n0 (own_big C X) (by decide)) (hw _ (List.mem_of_getElem? (i := 10) rfl)) (hw _ (List.mem_of_getElem? (i := 11) rfl)) (hw _ (List.mem_of_getElem? (i := 12) rfl)) (hw _ (List.mem_of_getElem? (i := 13) rfl)) (by decide) own_pd_4869 rfl rfl (Nat.le_of_ble_eq_true rfl) (Nat.le_of_ble_eq_true rfl) (Nat.le_of_ble_eq_true rfl) (Nat.le_of_ble_eq_true rfl) (av := [(.ref go), (.int (1 : Int32)), (.int (1 : Int32))]) (S := []) rfl (pc' := 295) rfl ?_
      intro T h v X hQ
      obtain ⟨rfl, rfl⟩ := hQ
      show own_Go p e below n0 (own_Fin room_1 s (fun v h => v = some (.int 1))) (T.setTop (mkF m 295 #[.val (.long q0), .second, .val (.long q1), .second, .val (.long q2), .second, .val (.long q3), .second, .val (.long q4), .second, .val (.int i5), .val (.int (1 : Int32)), .val (.int (1 : Int32)), .val (.long q0), .second, .val (.long h1v), .second, .val (.long h2v), .second, .val (.long h3v), .second, .val (.long h4v), .second, .val (.long mark), .second, .val (.ref hp), .val (.ref wa), .val (.ref go), .unset, .unset, .unset] [(.int (1 : Int32))]))
      refine own_if_eq C X at_295 (pcT := 335) (pc' := 298) (by decide) (by decide) rfl (fun hc295 => absurd hc295 (by decide)) (fun hc295 => ?_)
      refine own_aload C X at_298 rfl rfl (pc' := 300) rfl ?_
      refine own_iload C X at_300 rfl (pc' := 302) rfl ?_
      refine own_iconst C X at_302 (v := 2) (by decide) (pc' := 303) rfl ?_
      refine own_callS C X at_303 (own_m_orN l Z a0 hw go (1 : Int32) (2 : Int32) _ n0 (own_big C X) (by decide)) (hw _ (List.mem_of_getElem? (i := 10) rfl)) (hw _ (List.mem_of_getElem? (i := 11) rfl)) (hw _ (List.mem_of_getElem? (i := 12) rfl)) (hw _ (List.mem_of_getElem? (i := 13) rfl)) (by decide) own_pd_4869 rfl rfl (Nat.le_of_ble_eq_true rfl) (Nat.le_of_ble_eq_true rfl) (Nat.le_of_ble_eq_true rfl) (Nat.le_of_ble_eq_true rfl) (av := [(.ref go), (.int (1 : Int32)), (.int (2 : Int32))]) (S := []) rfl (pc' := 306) rfl ?_
      intro T h v X hQ
      obtain ⟨rfl, rfl⟩ := hQ
      show own_Go p e below n0 (own_Fin room_1 s (fun v h => v = some (.int 1))) (T.setTop (mkF m 306 #[.val (.long q0), .second, .val (.long q1), .second, .val (.long q2), .second, .val (.long q3), .second, .val (.long q4), .second, .val (.int i5), .val (.int (1 : Int32)), .val (.int (1 : Int32)), .val (.long q0), .second, .val (.long h1v), .second, .val (.long h2v), .second, .val (.long h3v), .second, .val (.long h4v), .second, .val (.long mark), .second, .val (.ref hp), .val (.ref wa), .val (.ref go), .unset, .unset, .unset] [(.int (1 : Int32))]))
      refine own_if_eq C X at_306 (pcT := 335) (pc' := 309) (by decide) (by decide) rfl (fun hc306 => absurd hc306 (by decide)) (fun hc306 => ?_)
      refine own_aload C X at_309 rfl rfl (pc' := 311) rfl ?_
      refine own_iload C X at_311 rfl (pc' := 313) rfl ?_
      refine own_iconst C X at_313 (v := 3) (by decide) (pc' := 314) rfl ?_
      refine own_callS C X at_314 (own_m_orN l Z a0 hw go (1 : Int32) (3 : Int32) _ n0 (own_big C X) (by decide)) (hw _ (List.mem_of_getElem? (i := 10) rfl)) (hw _ (List.mem_of_getElem? (i := 11) rfl)) (hw _ (List.mem_of_getElem? (i := 12) rfl)) (hw _ (List.mem_of_getElem? (i := 13) rfl)) (by decide) own_pd_4869 rfl rfl (Nat.le_of_ble_eq_true rfl) (Nat.le_of_ble_eq_true rfl) (Nat.le_of_ble_eq_true rfl) (Nat.le_of_ble_eq_true rfl) (av := [(.ref go), (.int (1 : Int32)), (.int (3 : Int32))]) (S := []) rfl (pc' := 317) rfl ?_
      intro T h v X hQ
      obtain ⟨rfl, rfl⟩ := hQ
      show own_Go p e below n0 (own_Fin room_1 s (fun v h => v = some (.int 1))) (T.setTop (mkF m 317 #[.val (.long q0), .second, .val (.long q1), .second, .val (.long q2), .second, .val (.long q3), .second, .val (.long q4), .second, .val (.int i5), .val (.int (1 : Int32)), .val (.int (1 : Int32)), .val (.long q0), .second, .val (.long h1v), .second, .val (.long h2v), .second, .val (.long h3v), .second, .val (.long h4v), .second, .val (.long mark), .second, .val (.ref hp), .val (.ref wa), .val (.ref go), .unset, .unset, .unset] [(.int (1 : Int32))]))
      refine own_if_eq C X at_317 (pcT := 335) (pc' := 320) (by decide) (by decide) rfl (fun hc317 => absurd hc317 (by decide)) (fun hc317 => ?_)
      refine own_aload C X at_320 rfl rfl (pc' := 322) rfl ?_
      refine own_iload C X at_322 rfl (pc' := 324) rfl ?_
      refine own_iconst C X at_324 (v := 4) (by decide) (pc' := 325) rfl ?_
      refine own_callS C X at_325 (own_m_orN l Z a0 hw go (1 : Int32) (4 : Int32) _ n0 (own_big C X) (by decide)) (hw _ (List.mem_of_getElem? (i := 10) rfl)) (hw _ (List.mem_of_getElem? (i := 11) rfl)) (hw _ (List.mem_of_getElem? (i := 12) rfl)) (hw _ (List.mem_of_getElem? (i := 13) rfl)) (by decide) own_pd_4869 rfl rfl (Nat.le_of_ble_eq_true rfl) (Nat.le_of_ble_eq_true rfl) (Nat.le_of_ble_eq_true rfl) (Nat.le_of_ble_eq_true rfl) (av := [(.ref go), (.int (1 : Int32)), (.int (4 : Int32))]) (S := []) rfl (pc' := 328) rfl ?_
      intro T h v X hQ
      obtain ⟨rfl, rfl⟩ := hQ
      show own_Go p e below n0 (own_Fin room_1 s (fun v h => v = some (.int 1))) (T.setTop (mkF m 328 #[.val (.long q0), .second, .val (.long q1), .second, .val (.long q2), .second, .val (.long q3), .second, .val (.long q4), .second, .val (.int i5), .val (.int (1 : Int32)), .val (.int (1 : Int32)), .val (.long q0), .second, .val (.long h1v), .second, .val (.long h2v), .second, .val (.long h3v), .second, .val (.long h4v), .second, .val (.long mark), .second, .val (.ref hp), .val (.ref wa), .val (.ref go), .unset, .unset, .unset] [(.int (1 : Int32))]))
      refine own_if_eq C X at_328 (pcT := 335) (pc' := 331) (by decide) (by decide) rfl (fun hc328 => absurd hc328 (by decide)) (fun hc328 => ?_)
      refine own_iconst C X at_331 (v := 1) (by decide) (pc' := 332) rfl ?_
      refine own_goto C X at_332 (pc' := 336) (by decide) (by decide) ?_
      refine own_istore C X at_336 (L' := #[.val (.long q0), .second, .val (.long q1), .second, .val (.long q2), .second, .val (.long q3), .second, .val (.long q4), .second, .val (.int i5), .val (.int (1 : Int32)), .val (.int (1 : Int32)), .val (.long q0), .second, .val (.long h1v), .second, .val (.long h2v), .second, .val (.long h3v), .second, .val (.long h4v), .second, .val (.long mark), .second, .val (.ref hp), .val (.ref wa), .val (.ref go), .val (.int (1 : Int32)), .unset, .unset]) rfl (pc' := 338) rfl ?_
      refine own_aload C X at_338 rfl rfl (pc' := 340) rfl ?_
      refine own_aload C X at_340 rfl rfl (pc' := 342) rfl ?_
      refine own_iload C X at_342 rfl (pc' := 344) rfl ?_
      refine own_iconst C X at_344 (v := 0) (by decide) (pc' := 345) rfl ?_
      refine own_callS C X at_345 (own_m_sc1 l Z a0 hw wa go (0 : Int32) _ n0 (own_big C X) q4 h1v h2v h3v h4v r0 mark mark mark mark q4 A_wa A_go (by decide) 0 (by decide) rfl pm) (hw _ (List.mem_of_getElem? (i := 14) rfl)) (hw _ (List.mem_of_getElem? (i := 15) rfl)) (hw _ (List.mem_of_getElem? (i := 12) rfl)) (hw _ (List.mem_of_getElem? (i := 16) rfl)) (by decide) own_pd_7147 rfl rfl (Nat.le_of_ble_eq_true rfl) (Nat.le_of_ble_eq_true rfl) (Nat.le_of_ble_eq_true rfl) (Nat.le_of_ble_eq_true rfl) (av := [(.ref wa), (.ref go), (.int (1 : Int32)), (.int (0 : Int32))]) (S := []) rfl (pc' := 348) rfl ?_
      intro T h v X hQ
      obtain ⟨rfl, rfl⟩ := hQ
      show own_Go p e below n0 (own_Fin room_1 s (fun v h => v = some (.int 1))) (T.setTop (mkF m 348 #[.val (.long q0), .second, .val (.long q1), .second, .val (.long q2), .second, .val (.long q3), .second, .val (.long q4), .second, .val (.int i5), .val (.int (1 : Int32)), .val (.int (1 : Int32)), .val (.long q0), .second, .val (.long h1v), .second, .val (.long h2v), .second, .val (.long h3v), .second, .val (.long h4v), .second, .val (.long mark), .second, .val (.ref hp), .val (.ref wa), .val (.ref go), .val (.int (1 : Int32)), .unset, .unset] [(.int (1 : Int32))]))
      refine own_if_eq C X at_348 (pcT := 407) (pc' := 351) (by decide) (by decide) rfl (fun hc348 => absurd hc348 (by decide)) (fun hc348 => ?_)
      refine own_aload C X at_351 rfl rfl (pc' := 353) rfl ?_
      refine own_aload C X at_353 rfl rfl (pc' := 355) rfl ?_
      refine own_iload C X at_355 rfl (pc' := 357) rfl ?_
      refine own_iconst C X at_357 (v := 1) (by decide) (pc' := 358) rfl ?_
      refine own_callS C X at_358 (own_m_scN l Z a0 hw wa go (1 : Int32) (1 : Int32) _ n0 (own_big C X) (by decide)) (hw _ (List.mem_of_getElem? (i := 14) rfl)) (hw _ (List.mem_of_getElem? (i := 15) rfl)) (hw _ (List.mem_of_getElem? (i := 12) rfl)) (hw _ (List.mem_of_getElem? (i := 16) rfl)) (by decide) own_pd_7147 rfl rfl (Nat.le_of_ble_eq_true rfl) (Nat.le_of_ble_eq_true rfl) (Nat.le_of_ble_eq_true rfl) (Nat.le_of_ble_eq_true rfl) (av := [(.ref wa), (.ref go), (.int (1 : Int32)), (.int (1 : Int32))]) (S := []) rfl (pc' := 361) rfl ?_
      intro T h v X hQ
      obtain ⟨rfl, rfl⟩ := hQ
      show own_Go p e below n0 (own_Fin room_1 s (fun v h => v = some (.int 1))) (T.setTop (mkF m 361 #[.val (.long q0), .second, .val (.long q1), .second, .val (.long q2), .second, .val (.long q3), .second, .val (.long q4), .second, .val (.int i5), .val (.int (1 : Int32)), .val (.int (1 : Int32)), .val (.long q0), .second, .val (.long h1v), .second, .val (.long h2v), .second, .val (.long h3v), .second, .val (.long h4v), .second, .val (.long mark), .second, .val (.ref hp), .val (.ref wa), .val (.ref go), .val (.int (1 : Int32)), .unset, .unset] [(.int (1 : Int32))]))
      refine own_if_eq C X at_361 (pcT := 407) (pc' := 364) (by decide) (by decide) rfl (fun hc361 => absurd hc361 (by decide)) (fun hc361 => ?_)
      refine own_aload C X at_364 rfl rfl (pc' := 366) rfl ?_
      refine own_aload C X at_366 rfl rfl (pc' := 368) rfl ?_
      refine own_iload C X at_368 rfl (pc' := 370) rfl ?_
      refine own_iconst C X at_370 (v := 2) (by decide) (pc' := 371) rfl ?_
      refine own_callS C X at_371 (own_m_scN l Z a0 hw wa go (1 : Int32) (2 : Int32) _ n0 (own_big C X) (by decide)) (hw _ (List.mem_of_getElem? (i := 14) rfl)) (hw _ (List.mem_of_getElem? (i := 15) rfl)) (hw _ (List.mem_of_getElem? (i := 12) rfl)) (hw _ (List.mem_of_getElem? (i := 16) rfl)) (by decide) own_pd_7147 rfl rfl (Nat.le_of_ble_eq_true rfl) (Nat.le_of_ble_eq_true rfl) (Nat.le_of_ble_eq_true rfl) (Nat.le_of_ble_eq_true rfl) (av := [(.ref wa), (.ref go), (.int (1 : Int32)), (.int (2 : Int32))]) (S := []) rfl (pc' := 374) rfl ?_
      intro T h v X hQ
      obtain ⟨rfl, rfl⟩ := hQ
      show own_Go p e below n0 (own_Fin room_1 s (fun v h => v = some (.int 1))) (T.setTop (mkF m 374 #[.val (.long q0), .second, .val (.long q1), .second, .val (.long q2), .second, .val (.long q3), .second, .val (.long q4), .second, .val (.int i5), .val (.int (1 : Int32)), .val (.int (1 : Int32)), .val (.long q0), .second, .val (.long h1v), .second, .val (.long h2v), .second, .val (.long h3v), .second, .val (.long h4v), .second, .val (.long mark), .second, .val (.ref hp), .val (.ref wa), .val (.ref go), .val (.int (1 : Int32)), .unset, .unset] [(.int (1 : Int32))]))
      refine own_if_eq C X at_374 (pcT := 407) (pc' := 377) (by decide) (by decide) rfl (fun hc374 => absurd hc374 (by decide)) (fun hc374 => ?_)
      refine own_aload C X at_377 rfl rfl (pc' := 379) rfl ?_
      refine own_aload C X at_379 rfl rfl (pc' := 381) rfl ?_
      refine own_iload C X at_381 rfl (pc' := 383) rfl ?_
      refine own_iconst C X at_383 (v := 3) (by decide) (pc' := 384) rfl ?_
      refine own_callS C X at_384 (own_m_scN l Z a0 hw wa go (1 : Int32) (3 : Int32) _ n0 (own_big C X) (by decide)) (hw _ (List.mem_of_getElem? (i := 14) rfl)) (hw _ (List.mem_of_getElem? (i := 15) rfl)) (hw _ (List.mem_of_getElem? (i := 12) rfl)) (hw _ (List.mem_of_getElem? (i := 16) rfl)) (by decide) own_pd_7147 rfl rfl (Nat.le_of_ble_eq_true rfl) (Nat.le_of_ble_eq_true rfl) (Nat.le_of_ble_eq_true rfl) (Nat.le_of_ble_eq_true rfl) (av := [(.ref wa), (.ref go), (.int (1 : Int32)), (.int (3 : Int32))]) (S := []) rfl (pc' := 387) rfl ?_
      intro T h v X hQ
      obtain ⟨rfl, rfl⟩ := hQ
      show own_Go p e below n0 (own_Fin room_1 s (fun v h => v = some (.int 1))) (T.setTop (mkF m 387 #[.val (.long q0), .second, .val (.long q1), .second, .val (.long q2), .second, .val (.long q3), .second, .val (.long q4), .second, .val (.int i5), .val (.int (1 : Int32)), .val (.int (1 : Int32)), .val (.long q0), .second, .val (.long h1v), .second, .val (.long h2v), .second, .val (.long h3v), .second, .val (.long h4v), .second, .val (.long mark), .second, .val (.ref hp), .val (.ref wa), .val (.ref go), .val (.int (1 : Int32)), .unset, .unset] [(.int (1 : Int32))]))
      refine own_if_eq C X at_387 (pcT := 407) (pc' := 390) (by decide) (by decide) rfl (fun hc387 => absurd hc387 (by decide)) (fun hc387 => ?_)
      refine own_aload C X at_390 rfl rfl (pc' := 392) rfl ?_
      refine own_aload C X at_392 rfl rfl (pc' := 394) rfl ?_
      refine own_iload C X at_394 rfl (pc' := 396) rfl ?_
      refine own_iconst C X at_396 (v := 4) (by decide) (pc' := 397) rfl ?_
      refine own_callS C X at_397 (own_m_scN l Z a0 hw wa go (1 : Int32) (4 : Int32) _ n0 (own_big C X) (by decide)) (hw _ (List.mem_of_getElem? (i := 14) rfl)) (hw _ (List.mem_of_getElem? (i := 15) rfl)) (hw _ (List.mem_of_getElem? (i := 12) rfl)) (hw _ (List.mem_of_getElem? (i := 16) rfl)) (by decide) own_pd_7147 rfl rfl (Nat.le_of_ble_eq_true rfl) (Nat.le_of_ble_eq_true rfl) (Nat.le_of_ble_eq_true rfl) (Nat.le_of_ble_eq_true rfl) (av := [(.ref wa), (.ref go), (.int (1 : Int32)), (.int (4 : Int32))]) (S := []) rfl (pc' := 400) rfl ?_
      intro T h v X hQ
      obtain ⟨rfl, rfl⟩ := hQ
      show own_Go p e below n0 (own_Fin room_1 s (fun v h => v = some (.int 1))) (T.setTop (mkF m 400 #[.val (.long q0), .second, .val (.long q1), .second, .val (.long q2), .second, .val (.long q3), .second, .val (.long q4), .second, .val (.int i5), .val (.int (1 : Int32)), .val (.int (1 : Int32)), .val (.long q0), .second, .val (.long h1v), .second, .val (.long h2v), .second, .val (.long h3v), .second, .val (.long h4v), .second, .val (.long mark), .second, .val (.ref hp), .val (.ref wa), .val (.ref go), .val (.int (1 : Int32)), .unset, .unset] [(.int (1 : Int32))]))
      refine own_if_eq C X at_400 (pcT := 407) (pc' := 403) (by decide) (by decide) rfl (fun hc400 => absurd hc400 (by decide)) (fun hc400 => ?_)
      refine own_iconst C X at_403 (v := 1) (by decide) (pc' := 404) rfl ?_
      refine own_goto C X at_404 (pc' := 408) (by decide) (by decide) ?_
      refine own_istore C X at_408 (L' := #[.val (.long q0), .second, .val (.long q1), .second, .val (.long q2), .second, .val (.long q3), .second, .val (.long q4), .second, .val (.int i5), .val (.int (1 : Int32)), .val (.int (1 : Int32)), .val (.long q0), .second, .val (.long h1v), .second, .val (.long h2v), .second, .val (.long h3v), .second, .val (.long h4v), .second, .val (.long mark), .second, .val (.ref hp), .val (.ref wa), .val (.ref go), .val (.int (1 : Int32)), .val (.int (1 : Int32)), .unset]) rfl (pc' := 410) rfl ?_
      refine own_aload C X at_410 rfl rfl (pc' := 412) rfl ?_
      refine own_iconst C X at_412 (v := 0) (by decide) (pc' := 413) rfl ?_
      refine own_iload C X at_413 rfl (pc' := 415) rfl ?_
      refine own_iload C X at_415 rfl (pc' := 417) rfl ?_
      refine own_lload C X at_417 rfl (pc' := 419) rfl ?_
      refine own_callS C X at_419 (own_m_kpB l Z a0 hw hp (0 : Int32) (1 : Int32) (1 : Int32) mark _ n0 (own_big C X) (by decide) [mark, r0, mark, mark, mark, mark, mark] A_hp 0 (by decide) rfl) (hw _ (List.mem_of_getElem? (i := 20) rfl)) (hw _ (List.mem_of_getElem? (i := 21) rfl)) (hw _ (List.mem_of_getElem? (i := 12) rfl)) (hw _ (List.mem_of_getElem? (i := 22) rfl)) (by decide) own_pd_6969 rfl rfl (Nat.le_of_ble_eq_true rfl) (Nat.le_of_ble_eq_true rfl) (Nat.le_of_ble_eq_true rfl) (Nat.le_of_ble_eq_true rfl) (av := [(.ref hp), (.int (0 : Int32)), (.int (1 : Int32)), (.int (1 : Int32)), (.long mark)]) (S := []) rfl (pc' := 422) rfl ?_
      intro T h v X hQ
      obtain ⟨rfl, rfl⟩ := hQ
      show own_Go p e below n0 (own_Fin room_1 s (fun v h => v = some (.int 1))) (T.setTop (mkF m 422 #[.val (.long q0), .second, .val (.long q1), .second, .val (.long q2), .second, .val (.long q3), .second, .val (.long q4), .second, .val (.int i5), .val (.int (1 : Int32)), .val (.int (1 : Int32)), .val (.long q0), .second, .val (.long h1v), .second, .val (.long h2v), .second, .val (.long h3v), .second, .val (.long h4v), .second, .val (.long mark), .second, .val (.ref hp), .val (.ref wa), .val (.ref go), .val (.int (1 : Int32)), .val (.int (1 : Int32)), .unset] [(.int (1 : Int32))]))
      refine own_if_eq C X at_422 (pcT := 520) (pc' := 425) (by decide) (by decide) rfl (fun hc422 => absurd hc422 (by decide)) (fun hc422 => ?_)
      refine own_aload C X at_425 rfl rfl (pc' := 427) rfl ?_
      refine own_iconst C X at_427 (v := 1) (by decide) (pc' := 428) rfl ?_
      refine own_iload C X at_428 rfl (pc' := 430) rfl ?_
      refine own_iload C X at_430 rfl (pc' := 432) rfl ?_
      refine own_lload C X at_432 rfl (pc' := 434) rfl ?_
      refine own_callS C X at_434 (own_m_kpI l Z a0 hw hp (1 : Int32) (1 : Int32) (1 : Int32) mark _ n0 (own_big C X) (by decide) (by decide)) (hw _ (List.mem_of_getElem? (i := 20) rfl)) (hw _ (List.mem_of_getElem? (i := 21) rfl)) (hw _ (List.mem_of_getElem? (i := 12) rfl)) (hw _ (List.mem_of_getElem? (i := 22) rfl)) (by decide) own_pd_6969 rfl rfl (Nat.le_of_ble_eq_true rfl) (Nat.le_of_ble_eq_true rfl) (Nat.le_of_ble_eq_true rfl) (Nat.le_of_ble_eq_true rfl) (av := [(.ref hp), (.int (1 : Int32)), (.int (1 : Int32)), (.int (1 : Int32)), (.long mark)]) (S := []) rfl (pc' := 437) rfl ?_
      intro T h v X hQ
      obtain ⟨rfl, rfl⟩ := hQ
      show own_Go p e below n0 (own_Fin room_1 s (fun v h => v = some (.int 1))) (T.setTop (mkF m 437 #[.val (.long q0), .second, .val (.long q1), .second, .val (.long q2), .second, .val (.long q3), .second, .val (.long q4), .second, .val (.int i5), .val (.int (1 : Int32)), .val (.int (1 : Int32)), .val (.long q0), .second, .val (.long h1v), .second, .val (.long h2v), .second, .val (.long h3v), .second, .val (.long h4v), .second, .val (.long mark), .second, .val (.ref hp), .val (.ref wa), .val (.ref go), .val (.int (1 : Int32)), .val (.int (1 : Int32)), .unset] [(.int (1 : Int32))]))
      refine own_if_eq C X at_437 (pcT := 520) (pc' := 440) (by decide) (by decide) rfl (fun hc437 => absurd hc437 (by decide)) (fun hc437 => ?_)
      refine own_aload C X at_440 rfl rfl (pc' := 442) rfl ?_
      refine own_iconst C X at_442 (v := 2) (by decide) (pc' := 443) rfl ?_
      refine own_iload C X at_443 rfl (pc' := 445) rfl ?_
      refine own_iload C X at_445 rfl (pc' := 447) rfl ?_
      refine own_lload C X at_447 rfl (pc' := 449) rfl ?_
      refine own_callS C X at_449 (own_m_kpA l Z a0 hw hp (2 : Int32) (1 : Int32) (1 : Int32) mark _ n0 (own_big C X) (by decide) (by decide) [mark, r0, mark, mark, mark, mark, mark] A_hp 2 (by decide) rfl) (hw _ (List.mem_of_getElem? (i := 20) rfl)) (hw _ (List.mem_of_getElem? (i := 21) rfl)) (hw _ (List.mem_of_getElem? (i := 12) rfl)) (hw _ (List.mem_of_getElem? (i := 22) rfl)) (by decide) own_pd_6969 rfl rfl (Nat.le_of_ble_eq_true rfl) (Nat.le_of_ble_eq_true rfl) (Nat.le_of_ble_eq_true rfl) (Nat.le_of_ble_eq_true rfl) (av := [(.ref hp), (.int (2 : Int32)), (.int (1 : Int32)), (.int (1 : Int32)), (.long mark)]) (S := []) rfl (pc' := 452) rfl ?_
      intro T h v X hQ
      obtain ⟨rfl, rfl⟩ := hQ
      show own_Go p e below n0 (own_Fin room_1 s (fun v h => v = some (.int 1))) (T.setTop (mkF m 452 #[.val (.long q0), .second, .val (.long q1), .second, .val (.long q2), .second, .val (.long q3), .second, .val (.long q4), .second, .val (.int i5), .val (.int (1 : Int32)), .val (.int (1 : Int32)), .val (.long q0), .second, .val (.long h1v), .second, .val (.long h2v), .second, .val (.long h3v), .second, .val (.long h4v), .second, .val (.long mark), .second, .val (.ref hp), .val (.ref wa), .val (.ref go), .val (.int (1 : Int32)), .val (.int (1 : Int32)), .unset] [(.int (1 : Int32))]))
      refine own_if_eq C X at_452 (pcT := 520) (pc' := 455) (by decide) (by decide) rfl (fun hc452 => absurd hc452 (by decide)) (fun hc452 => ?_)
      refine own_aload C X at_455 rfl rfl (pc' := 457) rfl ?_
      refine own_iconst C X at_457 (v := 3) (by decide) (pc' := 458) rfl ?_
      refine own_iload C X at_458 rfl (pc' := 460) rfl ?_
      refine own_iload C X at_460 rfl (pc' := 462) rfl ?_
      refine own_lload C X at_462 rfl (pc' := 464) rfl ?_
      refine own_callS C X at_464 (own_m_kpA l Z a0 hw hp (3 : Int32) (1 : Int32) (1 : Int32) mark _ n0 (own_big C X) (by decide) (by decide) [mark, r0, mark, mark, mark, mark, mark] A_hp 3 (by decide) rfl) (hw _ (List.mem_of_getElem? (i := 20) rfl)) (hw _ (List.mem_of_getElem? (i := 21) rfl)) (hw _ (List.mem_of_getElem? (i := 12) rfl)) (hw _ (List.mem_of_getElem? (i := 22) rfl)) (by decide) own_pd_6969 rfl rfl (Nat.le_of_ble_eq_true rfl) (Nat.le_of_ble_eq_true rfl) (Nat.le_of_ble_eq_true rfl) (Nat.le_of_ble_eq_true rfl) (av := [(.ref hp), (.int (3 : Int32)), (.int (1 : Int32)), (.int (1 : Int32)), (.long mark)]) (S := []) rfl (pc' := 467) rfl ?_
      intro T h v X hQ
      obtain ⟨rfl, rfl⟩ := hQ
      show own_Go p e below n0 (own_Fin room_1 s (fun v h => v = some (.int 1))) (T.setTop (mkF m 467 #[.val (.long q0), .second, .val (.long q1), .second, .val (.long q2), .second, .val (.long q3), .second, .val (.long q4), .second, .val (.int i5), .val (.int (1 : Int32)), .val (.int (1 : Int32)), .val (.long q0), .second, .val (.long h1v), .second, .val (.long h2v), .second, .val (.long h3v), .second, .val (.long h4v), .second, .val (.long mark), .second, .val (.ref hp), .val (.ref wa), .val (.ref go), .val (.int (1 : Int32)), .val (.int (1 : Int32)), .unset] [(.int (1 : Int32))]))
      refine own_if_eq C X at_467 (pcT := 520) (pc' := 470) (by decide) (by decide) rfl (fun hc467 => absurd hc467 (by decide)) (fun hc467 => ?_)
      refine own_aload C X at_470 rfl rfl (pc' := 472) rfl ?_
      refine own_iconst C X at_472 (v := 4) (by decide) (pc' := 473) rfl ?_
      refine own_iload C X at_473 rfl (pc' := 475) rfl ?_
      refine own_iload C X at_475 rfl (pc' := 477) rfl ?_
      refine own_lload C X at_477 rfl (pc' := 479) rfl ?_
      refine own_callS C X at_479 (own_m_kpA l Z a0 hw hp (4 : Int32) (1 : Int32) (1 : Int32) mark _ n0 (own_big C X) (by decide) (by decide) [mark, r0, mark, mark, mark, mark, mark] A_hp 4 (by decide) rfl) (hw _ (List.mem_of_getElem? (i := 20) rfl)) (hw _ (List.mem_of_getElem? (i := 21) rfl)) (hw _ (List.mem_of_getElem? (i := 12) rfl)) (hw _ (List.mem_of_getElem? (i := 22) rfl)) (by decide) own_pd_6969 rfl rfl (Nat.le_of_ble_eq_true rfl) (Nat.le_of_ble_eq_true rfl) (Nat.le_of_ble_eq_true rfl) (Nat.le_of_ble_eq_true rfl) (av := [(.ref hp), (.int (4 : Int32)), (.int (1 : Int32)), (.int (1 : Int32)), (.long mark)]) (S := []) rfl (pc' := 482) rfl ?_
      intro T h v X hQ
      obtain ⟨rfl, rfl⟩ := hQ
      show own_Go p e below n0 (own_Fin room_1 s (fun v h => v = some (.int 1))) (T.setTop (mkF m 482 #[.val (.long q0), .second, .val (.long q1), .second, .val (.long q2), .second, .val (.long q3), .second, .val (.long q4), .second, .val (.int i5), .val (.int (1 : Int32)), .val (.int (1 : Int32)), .val (.long q0), .second, .val (.long h1v), .second, .val (.long h2v), .second, .val (.long h3v), .second, .val (.long h4v), .second, .val (.long mark), .second, .val (.ref hp), .val (.ref wa), .val (.ref go), .val (.int (1 : Int32)), .val (.int (1 : Int32)), .unset] [(.int (1 : Int32))]))
      refine own_if_eq C X at_482 (pcT := 520) (pc' := 485) (by decide) (by decide) rfl (fun hc482 => absurd hc482 (by decide)) (fun hc482 => ?_)
      refine own_aload C X at_485 rfl rfl (pc' := 487) rfl ?_
      refine own_iconst C X at_487 (v := 5) (by decide) (pc' := 488) rfl ?_
      refine own_iload C X at_488 rfl (pc' := 490) rfl ?_
      refine own_iload C X at_490 rfl (pc' := 492) rfl ?_
      refine own_lload C X at_492 rfl (pc' := 494) rfl ?_
      refine own_callS C X at_494 (own_m_kpA l Z a0 hw hp (5 : Int32) (1 : Int32) (1 : Int32) mark _ n0 (own_big C X) (by decide) (by decide) [mark, r0, mark, mark, mark, mark, mark] A_hp 5 (by decide) rfl) (hw _ (List.mem_of_getElem? (i := 20) rfl)) (hw _ (List.mem_of_getElem? (i := 21) rfl)) (hw _ (List.mem_of_getElem? (i := 12) rfl)) (hw _ (List.mem_of_getElem? (i := 22) rfl)) (by decide) own_pd_6969 rfl rfl (Nat.le_of_ble_eq_true rfl) (Nat.le_of_ble_eq_true rfl) (Nat.le_of_ble_eq_true rfl) (Nat.le_of_ble_eq_true rfl) (av := [(.ref hp), (.int (5 : Int32)), (.int (1 : Int32)), (.int (1 : Int32)), (.long mark)]) (S := []) rfl (pc' := 497) rfl ?_
      intro T h v X hQ
      obtain ⟨rfl, rfl⟩ := hQ
      show own_Go p e below n0 (own_Fin room_1 s (fun v h => v = some (.int 1))) (T.setTop (mkF m 497 #[.val (.long q0), .second, .val (.long q1), .second, .val (.long q2), .second, .val (.long q3), .second, .val (.long q4), .second, .val (.int i5), .val (.int (1 : Int32)), .val (.int (1 : Int32)), .val (.long q0), .second, .val (.long h1v), .second, .val (.long h2v), .second, .val (.long h3v), .second, .val (.long h4v), .second, .val (.long mark), .second, .val (.ref hp), .val (.ref wa), .val (.ref go), .val (.int (1 : Int32)), .val (.int (1 : Int32)), .unset] [(.int (1 : Int32))]))
      refine own_if_eq C X at_497 (pcT := 520) (pc' := 500) (by decide) (by decide) rfl (fun hc497 => absurd hc497 (by decide)) (fun hc497 => ?_)
      refine own_aload C X at_500 rfl rfl (pc' := 502) rfl ?_
      refine own_bipush C X at_502 (v := 6) (by decide) (pc' := 504) rfl ?_
      refine own_iload C X at_504 rfl (pc' := 506) rfl ?_
      refine own_iload C X at_506 rfl (pc' := 508) rfl ?_
      refine own_lload C X at_508 rfl (pc' := 510) rfl ?_
      refine own_callS C X at_510 (own_m_kpA l Z a0 hw hp (6 : Int32) (1 : Int32) (1 : Int32) mark _ n0 (own_big C X) (by decide) (by decide) [mark, r0, mark, mark, mark, mark, mark] A_hp 6 (by decide) rfl) (hw _ (List.mem_of_getElem? (i := 20) rfl)) (hw _ (List.mem_of_getElem? (i := 21) rfl)) (hw _ (List.mem_of_getElem? (i := 12) rfl)) (hw _ (List.mem_of_getElem? (i := 22) rfl)) (by decide) own_pd_6969 rfl rfl (Nat.le_of_ble_eq_true rfl) (Nat.le_of_ble_eq_true rfl) (Nat.le_of_ble_eq_true rfl) (Nat.le_of_ble_eq_true rfl) (av := [(.ref hp), (.int (6 : Int32)), (.int (1 : Int32)), (.int (1 : Int32)), (.long mark)]) (S := []) rfl (pc' := 513) rfl ?_
      intro T h v X hQ
      obtain ⟨rfl, rfl⟩ := hQ
      show own_Go p e below n0 (own_Fin room_1 s (fun v h => v = some (.int 1))) (T.setTop (mkF m 513 #[.val (.long q0), .second, .val (.long q1), .second, .val (.long q2), .second, .val (.long q3), .second, .val (.long q4), .second, .val (.int i5), .val (.int (1 : Int32)), .val (.int (1 : Int32)), .val (.long q0), .second, .val (.long h1v), .second, .val (.long h2v), .second, .val (.long h3v), .second, .val (.long h4v), .second, .val (.long mark), .second, .val (.ref hp), .val (.ref wa), .val (.ref go), .val (.int (1 : Int32)), .val (.int (1 : Int32)), .unset] [(.int (1 : Int32))]))
      refine own_if_eq C X at_513 (pcT := 520) (pc' := 516) (by decide) (by decide) rfl (fun hc513 => absurd hc513 (by decide)) (fun hc513 => ?_)
      refine own_iconst C X at_516 (v := 1) (by decide) (pc' := 517) rfl ?_
      refine own_goto C X at_517 (pc' := 521) (by decide) (by decide) ?_
      refine own_istore C X at_521 (L' := #[.val (.long q0), .second, .val (.long q1), .second, .val (.long q2), .second, .val (.long q3), .second, .val (.long q4), .second, .val (.int i5), .val (.int (1 : Int32)), .val (.int (1 : Int32)), .val (.long q0), .second, .val (.long h1v), .second, .val (.long h2v), .second, .val (.long h3v), .second, .val (.long h4v), .second, .val (.long mark), .second, .val (.ref hp), .val (.ref wa), .val (.ref go), .val (.int (1 : Int32)), .val (.int (1 : Int32)), .val (.int (1 : Int32))]) rfl (pc' := 523) rfl ?_
      refine own_iload C X at_523 rfl (pc' := 525) rfl ?_
      refine own_if_eq C X at_525 (pcT := 542) (pc' := 528) (by decide) (by decide) rfl (fun hc525 => absurd hc525 (by decide)) (fun hc525 => ?_)
      refine own_iload C X at_528 rfl (pc' := 530) rfl ?_
      refine own_if_eq C X at_530 (pcT := 542) (pc' := 533) (by decide) (by decide) rfl (fun hc530 => absurd hc530 (by decide)) (fun hc530 => ?_)
      refine own_iload C X at_533 rfl (pc' := 535) rfl ?_
      refine own_if_eq C X at_535 (pcT := 542) (pc' := 538) (by decide) (by decide) rfl (fun hc535 => absurd hc535 (by decide)) (fun hc535 => ?_)
      refine own_iconst C X at_538 (v := 1) (by decide) (pc' := 539) rfl ?_
      refine own_goto C X at_539 (pc' := 543) (by decide) (by decide) ?_
      exact own_ireturn_z C X at_543 (Nat.le_of_ble_eq_true rfl) (Nat.le_of_ble_eq_true rfl) (rfl)
  · rcases own_of _ off e_off with rfl | rfl
    · refine own_aload C X at_116 rfl rfl (pc' := 118) rfl ?_
      refine own_iload C X at_118 rfl (pc' := 120) rfl ?_
      refine own_lload C X at_120 rfl (pc' := 122) rfl ?_
      refine own_lastore C X at_122 A_hp (by decide) (i := 0) (Nat.le_of_ble_eq_true rfl) ge_hp (pc' := 123) rfl ?_
      intro T h X K_ A_hp_
      have A_hp : own_JA Z h hp [q0, mark, mark, mark, mark, mark, mark] := A_hp_
      refine own_iload C X at_123 rfl (pc' := 125) rfl ?_
      refine own_iconst C X at_125 (v := 1) (by decide) (pc' := 126) rfl ?_
      refine own_icmp_le C X at_126 (pcT := 138) (pc' := 129) (by decide) (by decide) rfl (fun hc126 => absurd hc126 (by decide)) (fun hc126 => ?_)
      refine own_aload C X at_129 rfl rfl (pc' := 131) rfl ?_
      refine own_iload C X at_131 rfl (pc' := 133) rfl ?_
      refine own_iconst C X at_133 (v := 1) (by decide) (pc' := 134) rfl ?_
      refine own_iadd C X at_134 (z := 1) (by decide) (pc' := 135) rfl ?_
      refine own_lload C X at_135 rfl (pc' := 137) rfl ?_
      refine own_lastore C X at_137 A_hp (by decide) (i := 1) (Nat.le_of_ble_eq_true rfl) ge_hp (pc' := 138) rfl ?_
      intro T h X K_ A_hp_
      have A_hp : own_JA Z h hp [q0, h1v, mark, mark, mark, mark, mark] := A_hp_
      refine own_iload C X at_138 rfl (pc' := 140) rfl ?_
      refine own_iconst C X at_140 (v := 2) (by decide) (pc' := 141) rfl ?_
      refine own_icmp_le C X at_141 (pcT := 153) (pc' := 144) (by decide) (by decide) rfl (fun hc141 => ?_) (fun hc141 => absurd hc141 (by decide))
      refine own_iload C X at_153 rfl (pc' := 155) rfl ?_
      refine own_iconst C X at_155 (v := 3) (by decide) (pc' := 156) rfl ?_
      refine own_icmp_le C X at_156 (pcT := 168) (pc' := 159) (by decide) (by decide) rfl (fun hc156 => ?_) (fun hc156 => absurd hc156 (by decide))
      refine own_iload C X at_168 rfl (pc' := 170) rfl ?_
      refine own_iconst C X at_170 (v := 4) (by decide) (pc' := 171) rfl ?_
      refine own_icmp_le C X at_171 (pcT := 183) (pc' := 174) (by decide) (by decide) rfl (fun hc171 => ?_) (fun hc171 => absurd hc171 (by decide))
      refine own_iconst C X at_183 (v := 5) (by decide) (pc' := 184) rfl ?_
      refine own_newJ C X at_184 (hw _ (List.mem_of_getElem? (i := 5) rfl)) (by decide) (k := 5) (cap := 5) (Nat.le_of_ble_eq_true rfl) (by decide) (Nat.le_of_ble_eq_true rfl) (Nat.le_of_ble_eq_true rfl) (pc' := 186) rfl ?_
      intro T h wa e_wa X K_ ge_wa A_wa_
      have ne_hp_wa : hp ≠ wa := by rw [e_wa]; exact Nat.ne_of_lt A_hp.lt
      have A_wa : own_JA Z h wa [(0 : Int64), (0 : Int64), (0 : Int64), (0 : Int64), (0 : Int64)] := A_wa_
      have A_hp := A_hp.keep K_ nin0
      refine own_astore C X at_186 rfl (L' := #[.val (.long q0), .second, .val (.long q1), .second, .val (.long q2), .second, .val (.long q3), .second, .val (.long q4), .second, .val (.int i5), .val (.int (0 : Int32)), .val (.int (2 : Int32)), .val (.long q0), .second, .val (.long h1v), .second, .val (.long h2v), .second, .val (.long h3v), .second, .val (.long h4v), .second, .val (.long mark), .second, .val (.ref hp), .val (.ref wa), .unset, .unset, .unset, .unset]) rfl (pc' := 188) rfl ?_
      refine own_aload C X at_188 rfl rfl (pc' := 190) rfl ?_
      refine own_iconst C X at_190 (v := 0) (by decide) (pc' := 191) rfl ?_
      refine own_lload C X at_191 rfl (pc' := 193) rfl ?_
      refine own_lastore C X at_193 A_wa (by decide) (i := 0) (Nat.le_of_ble_eq_true rfl) ge_wa (pc' := 194) rfl ?_
      intro T h X K_ A_wa_
      have A_wa : own_JA Z h wa [q4, (0 : Int64), (0 : Int64), (0 : Int64), (0 : Int64)] := A_wa_
      have A_hp := A_hp.keep K_ (ninS ne_hp_wa nin0)
      refine own_aload C X at_194 rfl rfl (pc' := 196) rfl ?_
      refine own_iconst C X at_196 (v := 1) (by decide) (pc' := 197) rfl ?_
      refine own_lload C X at_197 rfl (pc' := 199) rfl ?_
      refine own_lastore C X at_199 A_wa (by decide) (i := 1) (Nat.le_of_ble_eq_true rfl) ge_wa (pc' := 200) rfl ?_
      intro T h X K_ A_wa_
      have A_wa : own_JA Z h wa [q4, h1v, (0 : Int64), (0 : Int64), (0 : Int64)] := A_wa_
      have A_hp := A_hp.keep K_ (ninS ne_hp_wa nin0)
      refine own_aload C X at_200 rfl rfl (pc' := 202) rfl ?_
      refine own_iconst C X at_202 (v := 2) (by decide) (pc' := 203) rfl ?_
      refine own_lload C X at_203 rfl (pc' := 205) rfl ?_
      refine own_lastore C X at_205 A_wa (by decide) (i := 2) (Nat.le_of_ble_eq_true rfl) ge_wa (pc' := 206) rfl ?_
      intro T h X K_ A_wa_
      have A_wa : own_JA Z h wa [q4, h1v, h2v, (0 : Int64), (0 : Int64)] := A_wa_
      have A_hp := A_hp.keep K_ (ninS ne_hp_wa nin0)
      refine own_aload C X at_206 rfl rfl (pc' := 208) rfl ?_
      refine own_iconst C X at_208 (v := 3) (by decide) (pc' := 209) rfl ?_
      refine own_lload C X at_209 rfl (pc' := 211) rfl ?_
      refine own_lastore C X at_211 A_wa (by decide) (i := 3) (Nat.le_of_ble_eq_true rfl) ge_wa (pc' := 212) rfl ?_
      intro T h X K_ A_wa_
      have A_wa : own_JA Z h wa [q4, h1v, h2v, h3v, (0 : Int64)] := A_wa_
      have A_hp := A_hp.keep K_ (ninS ne_hp_wa nin0)
      refine own_aload C X at_212 rfl rfl (pc' := 214) rfl ?_
      refine own_iconst C X at_214 (v := 4) (by decide) (pc' := 215) rfl ?_
      refine own_lload C X at_215 rfl (pc' := 217) rfl ?_
      refine own_lastore C X at_217 A_wa (by decide) (i := 4) (Nat.le_of_ble_eq_true rfl) ge_wa (pc' := 218) rfl ?_
      intro T h X K_ A_wa_
      have A_wa : own_JA Z h wa [q4, h1v, h2v, h3v, h4v] := A_wa_
      have A_hp := A_hp.keep K_ (ninS ne_hp_wa nin0)
      refine own_aload C X at_218 rfl rfl (pc' := 220) rfl ?_
      refine own_iload C X at_220 rfl (pc' := 222) rfl ?_
      refine own_iload C X at_222 rfl (pc' := 224) rfl ?_
      refine own_lload C X at_224 rfl (pc' := 226) rfl ?_
      refine own_callS C X at_226 (own_m_rl20 l Z a0 hw hp q4 _ n0 (own_big C X) q0 h1v mark A_hp ge_hp ) (hw _ (List.mem_of_getElem? (i := 6) rfl)) (hw _ (List.mem_of_getElem? (i := 7) rfl)) (hw _ (List.mem_of_getElem? (i := 8) rfl)) (hw _ (List.mem_of_getElem? (i := 9) rfl)) (by decide) own_pd_5832 rfl rfl (Nat.le_of_ble_eq_true rfl) (Nat.le_of_ble_eq_true rfl) (Nat.le_of_ble_eq_true rfl) (Nat.le_of_ble_eq_true rfl) (av := [(.ref hp), (.int (0 : Int32)), (.int (2 : Int32)), (.long q4)]) (S := []) rfl (pc' := 229) rfl ?_
      intro T h v X hQ
      obtain ⟨rfl, r0, r1, K_, A_hp, od, pm⟩ := hQ
      have A_wa := A_wa.keep K_ (ninS (Ne.symm ne_hp_wa) nin0)
      show own_Go p e below n0 (own_Fin room_1 s (fun v h => v = some (.int 1))) (T.setTop (mkF m 229 #[.val (.long q0), .second, .val (.long q1), .second, .val (.long q2), .second, .val (.long q3), .second, .val (.long q4), .second, .val (.int i5), .val (.int (0 : Int32)), .val (.int (2 : Int32)), .val (.long q0), .second, .val (.long h1v), .second, .val (.long h2v), .second, .val (.long h3v), .second, .val (.long h4v), .second, .val (.long mark), .second, .val (.ref hp), .val (.ref wa), .unset, .unset, .unset, .unset] []))
      obtain ⟨od1, -⟩ := od
      refine own_iconst C X at_229 (v := 5) (by decide) (pc' := 230) rfl ?_
      refine own_newJ C X at_230 (hw _ (List.mem_of_getElem? (i := 5) rfl)) (by decide) (k := 5) (cap := 5) (Nat.le_of_ble_eq_true rfl) (by decide) (Nat.le_of_ble_eq_true rfl) (Nat.le_of_ble_eq_true rfl) (pc' := 232) rfl ?_
      intro T h go e_go X K_ ge_go A_go_
      have ne_hp_go : hp ≠ go := by rw [e_go]; exact Nat.ne_of_lt A_hp.lt
      have ne_wa_go : wa ≠ go := by rw [e_go]; exact Nat.ne_of_lt A_wa.lt
      have A_go : own_JA Z h go [(0 : Int64), (0 : Int64), (0 : Int64), (0 : Int64), (0 : Int64)] := A_go_
      have A_hp := A_hp.keep K_ nin0
      have A_wa := A_wa.keep K_ nin0
      refine own_astore C X at_232 rfl (L' := #[.val (.long q0), .second, .val (.long q1), .second, .val (.long q2), .second, .val (.long q3), .second, .val (.long q4), .second, .val (.int i5), .val (.int (0 : Int32)), .val (.int (2 : Int32)), .val (.long q0), .second, .val (.long h1v), .second, .val (.long h2v), .second, .val (.long h3v), .second, .val (.long h4v), .second, .val (.long mark), .second, .val (.ref hp), .val (.ref wa), .val (.ref go), .unset, .unset, .unset]) rfl (pc' := 234) rfl ?_
      refine own_aload C X at_234 rfl rfl (pc' := 236) rfl ?_
      refine own_iconst C X at_236 (v := 0) (by decide) (pc' := 237) rfl ?_
      refine own_aload C X at_237 rfl rfl (pc' := 239) rfl ?_
      refine own_iload C X at_239 rfl (pc' := 241) rfl ?_
      refine own_laload C X at_241 A_hp (by decide) (i := 0) rfl (pc' := 242) rfl ?_
      refine own_lastore C X at_242 A_go (by decide) (i := 0) (Nat.le_of_ble_eq_true rfl) ge_go (pc' := 243) rfl ?_
      intro T h X K_ A_go_
      have A_go : own_JA Z h go [r0, (0 : Int64), (0 : Int64), (0 : Int64), (0 : Int64)] := A_go_
      have A_hp := A_hp.keep K_ (ninS ne_hp_go nin0)
      have A_wa := A_wa.keep K_ (ninS ne_wa_go nin0)
      refine own_aload C X at_243 rfl rfl (pc' := 245) rfl ?_
      refine own_iconst C X at_245 (v := 1) (by decide) (pc' := 246) rfl ?_
      refine own_aload C X at_246 rfl rfl (pc' := 248) rfl ?_
      refine own_iload C X at_248 rfl (pc' := 250) rfl ?_
      refine own_iconst C X at_250 (v := 1) (by decide) (pc' := 251) rfl ?_
      refine own_iadd C X at_251 (z := 1) (by decide) (pc' := 252) rfl ?_
      refine own_laload C X at_252 A_hp (by decide) (i := 1) rfl (pc' := 253) rfl ?_
      refine own_lastore C X at_253 A_go (by decide) (i := 1) (Nat.le_of_ble_eq_true rfl) ge_go (pc' := 254) rfl ?_
      intro T h X K_ A_go_
      have A_go : own_JA Z h go [r0, r1, (0 : Int64), (0 : Int64), (0 : Int64)] := A_go_
      have A_hp := A_hp.keep K_ (ninS ne_hp_go nin0)
      have A_wa := A_wa.keep K_ (ninS ne_wa_go nin0)
      refine own_aload C X at_254 rfl rfl (pc' := 256) rfl ?_
      refine own_iconst C X at_256 (v := 2) (by decide) (pc' := 257) rfl ?_
      refine own_aload C X at_257 rfl rfl (pc' := 259) rfl ?_
      refine own_iload C X at_259 rfl (pc' := 261) rfl ?_
      refine own_iconst C X at_261 (v := 2) (by decide) (pc' := 262) rfl ?_
      refine own_iadd C X at_262 (z := 2) (by decide) (pc' := 263) rfl ?_
      refine own_laload C X at_263 A_hp (by decide) (i := 2) rfl (pc' := 264) rfl ?_
      refine own_lastore C X at_264 A_go (by decide) (i := 2) (Nat.le_of_ble_eq_true rfl) ge_go (pc' := 265) rfl ?_
      intro T h X K_ A_go_
      have A_go : own_JA Z h go [r0, r1, mark, (0 : Int64), (0 : Int64)] := A_go_
      have A_hp := A_hp.keep K_ (ninS ne_hp_go nin0)
      have A_wa := A_wa.keep K_ (ninS ne_wa_go nin0)
      refine own_aload C X at_265 rfl rfl (pc' := 267) rfl ?_
      refine own_iconst C X at_267 (v := 3) (by decide) (pc' := 268) rfl ?_
      refine own_aload C X at_268 rfl rfl (pc' := 270) rfl ?_
      refine own_iload C X at_270 rfl (pc' := 272) rfl ?_
      refine own_iconst C X at_272 (v := 3) (by decide) (pc' := 273) rfl ?_
      refine own_iadd C X at_273 (z := 3) (by decide) (pc' := 274) rfl ?_
      refine own_laload C X at_274 A_hp (by decide) (i := 3) rfl (pc' := 275) rfl ?_
      refine own_lastore C X at_275 A_go (by decide) (i := 3) (Nat.le_of_ble_eq_true rfl) ge_go (pc' := 276) rfl ?_
      intro T h X K_ A_go_
      have A_go : own_JA Z h go [r0, r1, mark, mark, (0 : Int64)] := A_go_
      have A_hp := A_hp.keep K_ (ninS ne_hp_go nin0)
      have A_wa := A_wa.keep K_ (ninS ne_wa_go nin0)
      refine own_aload C X at_276 rfl rfl (pc' := 278) rfl ?_
      refine own_iconst C X at_278 (v := 4) (by decide) (pc' := 279) rfl ?_
      refine own_aload C X at_279 rfl rfl (pc' := 281) rfl ?_
      refine own_iload C X at_281 rfl (pc' := 283) rfl ?_
      refine own_iconst C X at_283 (v := 4) (by decide) (pc' := 284) rfl ?_
      refine own_iadd C X at_284 (z := 4) (by decide) (pc' := 285) rfl ?_
      refine own_laload C X at_285 A_hp (by decide) (i := 4) rfl (pc' := 286) rfl ?_
      refine own_lastore C X at_286 A_go (by decide) (i := 4) (Nat.le_of_ble_eq_true rfl) ge_go (pc' := 287) rfl ?_
      intro T h X K_ A_go_
      have A_go : own_JA Z h go [r0, r1, mark, mark, mark] := A_go_
      have A_hp := A_hp.keep K_ (ninS ne_hp_go nin0)
      have A_wa := A_wa.keep K_ (ninS ne_wa_go nin0)
      refine own_aload C X at_287 rfl rfl (pc' := 289) rfl ?_
      refine own_iload C X at_289 rfl (pc' := 291) rfl ?_
      refine own_iconst C X at_291 (v := 1) (by decide) (pc' := 292) rfl ?_
      refine own_callS C X at_292 (own_m_or1 l Z a0 hw go (2 : Int32) _ n0 (own_big C X) (by decide) r0 r1 mark mark mark A_go od1) (hw _ (List.mem_of_getElem? (i := 10) rfl)) (hw _ (List.mem_of_getElem? (i := 11) rfl)) (hw _ (List.mem_of_getElem? (i := 12) rfl)) (hw _ (List.mem_of_getElem? (i := 13) rfl)) (by decide) own_pd_4869 rfl rfl (Nat.le_of_ble_eq_true rfl) (Nat.le_of_ble_eq_true rfl) (Nat.le_of_ble_eq_true rfl) (Nat.le_of_ble_eq_true rfl) (av := [(.ref go), (.int (2 : Int32)), (.int (1 : Int32))]) (S := []) rfl (pc' := 295) rfl ?_
      intro T h v X hQ
      obtain ⟨rfl, rfl⟩ := hQ
      show own_Go p e below n0 (own_Fin room_1 s (fun v h => v = some (.int 1))) (T.setTop (mkF m 295 #[.val (.long q0), .second, .val (.long q1), .second, .val (.long q2), .second, .val (.long q3), .second, .val (.long q4), .second, .val (.int i5), .val (.int (0 : Int32)), .val (.int (2 : Int32)), .val (.long q0), .second, .val (.long h1v), .second, .val (.long h2v), .second, .val (.long h3v), .second, .val (.long h4v), .second, .val (.long mark), .second, .val (.ref hp), .val (.ref wa), .val (.ref go), .unset, .unset, .unset] [(.int (1 : Int32))]))
      refine own_if_eq C X at_295 (pcT := 335) (pc' := 298) (by decide) (by decide) rfl (fun hc295 => absurd hc295 (by decide)) (fun hc295 => ?_)
      refine own_aload C X at_298 rfl rfl (pc' := 300) rfl ?_
      refine own_iload C X at_300 rfl (pc' := 302) rfl ?_
      refine own_iconst C X at_302 (v := 2) (by decide) (pc' := 303) rfl ?_
      refine own_callS C X at_303 (own_m_orN l Z a0 hw go (2 : Int32) (2 : Int32) _ n0 (own_big C X) (by decide)) (hw _ (List.mem_of_getElem? (i := 10) rfl)) (hw _ (List.mem_of_getElem? (i := 11) rfl)) (hw _ (List.mem_of_getElem? (i := 12) rfl)) (hw _ (List.mem_of_getElem? (i := 13) rfl)) (by decide) own_pd_4869 rfl rfl (Nat.le_of_ble_eq_true rfl) (Nat.le_of_ble_eq_true rfl) (Nat.le_of_ble_eq_true rfl) (Nat.le_of_ble_eq_true rfl) (av := [(.ref go), (.int (2 : Int32)), (.int (2 : Int32))]) (S := []) rfl (pc' := 306) rfl ?_
      intro T h v X hQ
      obtain ⟨rfl, rfl⟩ := hQ
      show own_Go p e below n0 (own_Fin room_1 s (fun v h => v = some (.int 1))) (T.setTop (mkF m 306 #[.val (.long q0), .second, .val (.long q1), .second, .val (.long q2), .second, .val (.long q3), .second, .val (.long q4), .second, .val (.int i5), .val (.int (0 : Int32)), .val (.int (2 : Int32)), .val (.long q0), .second, .val (.long h1v), .second, .val (.long h2v), .second, .val (.long h3v), .second, .val (.long h4v), .second, .val (.long mark), .second, .val (.ref hp), .val (.ref wa), .val (.ref go), .unset, .unset, .unset] [(.int (1 : Int32))]))
      refine own_if_eq C X at_306 (pcT := 335) (pc' := 309) (by decide) (by decide) rfl (fun hc306 => absurd hc306 (by decide)) (fun hc306 => ?_)
      refine own_aload C X at_309 rfl rfl (pc' := 311) rfl ?_
      refine own_iload C X at_311 rfl (pc' := 313) rfl ?_
      refine own_iconst C X at_313 (v := 3) (by decide) (pc' := 314) rfl ?_
      refine own_callS C X at_314 (own_m_orN l Z a0 hw go (2 : Int32) (3 : Int32) _ n0 (own_big C X) (by decide)) (hw _ (List.mem_of_getElem? (i := 10) rfl)) (hw _ (List.mem_of_getElem? (i := 11) rfl)) (hw _ (List.mem_of_getElem? (i := 12) rfl)) (hw _ (List.mem_of_getElem? (i := 13) rfl)) (by decide) own_pd_4869 rfl rfl (Nat.le_of_ble_eq_true rfl) (Nat.le_of_ble_eq_true rfl) (Nat.le_of_ble_eq_true rfl) (Nat.le_of_ble_eq_true rfl) (av := [(.ref go), (.int (2 : Int32)), (.int (3 : Int32))]) (S := []) rfl (pc' := 317) rfl ?_
      intro T h v X hQ
      obtain ⟨rfl, rfl⟩ := hQ
      show own_Go p e below n0 (own_Fin room_1 s (fun v h => v = some (.int 1))) (T.setTop (mkF m 317 #[.val (.long q0), .second, .val (.long q1), .second, .val (.long q2), .second, .val (.long q3), .second, .val (.long q4), .second, .val (.int i5), .val (.int (0 : Int32)), .val (.int (2 : Int32)), .val (.long q0), .second, .val (.long h1v), .second, .val (.long h2v), .second, .val (.long h3v), .second, .val (.long h4v), .second, .val (.long mark), .second, .val (.ref hp), .val (.ref wa), .val (.ref go), .unset, .unset, .unset] [(.int (1 : Int32))]))
      refine own_if_eq C X at_317 (pcT := 335) (pc' := 320) (by decide) (by decide) rfl (fun hc317 => absurd hc317 (by decide)) (fun hc317 => ?_)
      refine own_aload C X at_320 rfl rfl (pc' := 322) rfl ?_
      refine own_iload C X at_322 rfl (pc' := 324) rfl ?_
      refine own_iconst C X at_324 (v := 4) (by decide) (pc' := 325) rfl ?_
      refine own_callS C X at_325 (own_m_orN l Z a0 hw go (2 : Int32) (4 : Int32) _ n0 (own_big C X) (by decide)) (hw _ (List.mem_of_getElem? (i := 10) rfl)) (hw _ (List.mem_of_getElem? (i := 11) rfl)) (hw _ (List.mem_of_getElem? (i := 12) rfl)) (hw _ (List.mem_of_getElem? (i := 13) rfl)) (by decide) own_pd_4869 rfl rfl (Nat.le_of_ble_eq_true rfl) (Nat.le_of_ble_eq_true rfl) (Nat.le_of_ble_eq_true rfl) (Nat.le_of_ble_eq_true rfl) (av := [(.ref go), (.int (2 : Int32)), (.int (4 : Int32))]) (S := []) rfl (pc' := 328) rfl ?_
      intro T h v X hQ
      obtain ⟨rfl, rfl⟩ := hQ
      show own_Go p e below n0 (own_Fin room_1 s (fun v h => v = some (.int 1))) (T.setTop (mkF m 328 #[.val (.long q0), .second, .val (.long q1), .second, .val (.long q2), .second, .val (.long q3), .second, .val (.long q4), .second, .val (.int i5), .val (.int (0 : Int32)), .val (.int (2 : Int32)), .val (.long q0), .second, .val (.long h1v), .second, .val (.long h2v), .second, .val (.long h3v), .second, .val (.long h4v), .second, .val (.long mark), .second, .val (.ref hp), .val (.ref wa), .val (.ref go), .unset, .unset, .unset] [(.int (1 : Int32))]))
      refine own_if_eq C X at_328 (pcT := 335) (pc' := 331) (by decide) (by decide) rfl (fun hc328 => absurd hc328 (by decide)) (fun hc328 => ?_)
      refine own_iconst C X at_331 (v := 1) (by decide) (pc' := 332) rfl ?_
      refine own_goto C X at_332 (pc' := 336) (by decide) (by decide) ?_
      refine own_istore C X at_336 (L' := #[.val (.long q0), .second, .val (.long q1), .second, .val (.long q2), .second, .val (.long q3), .second, .val (.long q4), .second, .val (.int i5), .val (.int (0 : Int32)), .val (.int (2 : Int32)), .val (.long q0), .second, .val (.long h1v), .second, .val (.long h2v), .second, .val (.long h3v), .second, .val (.long h4v), .second, .val (.long mark), .second, .val (.ref hp), .val (.ref wa), .val (.ref go), .val (.int (1 : Int32)), .unset, .unset]) rfl (pc' := 338) rfl ?_
      refine own_aload C X at_338 rfl rfl (pc' := 340) rfl ?_
      refine own_aload C X at_340 rfl rfl (pc' := 342) rfl ?_
      refine own_iload C X at_342 rfl (pc' := 344) rfl ?_
      refine own_iconst C X at_344 (v := 0) (by decide) (pc' := 345) rfl ?_
      refine own_callS C X at_345 (own_m_sc2 l Z a0 hw wa go (0 : Int32) _ n0 (own_big C X) q4 h1v h2v h3v h4v r0 r1 mark mark mark q4 A_wa A_go (by decide) 0 (by decide) rfl pm) (hw _ (List.mem_of_getElem? (i := 14) rfl)) (hw _ (List.mem_of_getElem? (i := 15) rfl)) (hw _ (List.mem_of_getElem? (i := 12) rfl)) (hw _ (List.mem_of_getElem? (i := 16) rfl)) (by decide) own_pd_7147 rfl rfl (Nat.le_of_ble_eq_true rfl) (Nat.le_of_ble_eq_true rfl) (Nat.le_of_ble_eq_true rfl) (Nat.le_of_ble_eq_true rfl) (av := [(.ref wa), (.ref go), (.int (2 : Int32)), (.int (0 : Int32))]) (S := []) rfl (pc' := 348) rfl ?_
      intro T h v X hQ
      obtain ⟨rfl, rfl⟩ := hQ
      show own_Go p e below n0 (own_Fin room_1 s (fun v h => v = some (.int 1))) (T.setTop (mkF m 348 #[.val (.long q0), .second, .val (.long q1), .second, .val (.long q2), .second, .val (.long q3), .second, .val (.long q4), .second, .val (.int i5), .val (.int (0 : Int32)), .val (.int (2 : Int32)), .val (.long q0), .second, .val (.long h1v), .second, .val (.long h2v), .second, .val (.long h3v), .second, .val (.long h4v), .second, .val (.long mark), .second, .val (.ref hp), .val (.ref wa), .val (.ref go), .val (.int (1 : Int32)), .unset, .unset] [(.int (1 : Int32))]))
      refine own_if_eq C X at_348 (pcT := 407) (pc' := 351) (by decide) (by decide) rfl (fun hc348 => absurd hc348 (by decide)) (fun hc348 => ?_)
      refine own_aload C X at_351 rfl rfl (pc' := 353) rfl ?_
      refine own_aload C X at_353 rfl rfl (pc' := 355) rfl ?_
      refine own_iload C X at_355 rfl (pc' := 357) rfl ?_
      refine own_iconst C X at_357 (v := 1) (by decide) (pc' := 358) rfl ?_
      refine own_callS C X at_358 (own_m_sc2 l Z a0 hw wa go (1 : Int32) _ n0 (own_big C X) q4 h1v h2v h3v h4v r0 r1 mark mark mark h1v A_wa A_go (by decide) 1 (by decide) rfl pm) (hw _ (List.mem_of_getElem? (i := 14) rfl)) (hw _ (List.mem_of_getElem? (i := 15) rfl)) (hw _ (List.mem_of_getElem? (i := 12) rfl)) (hw _ (List.mem_of_getElem? (i := 16) rfl)) (by decide) own_pd_7147 rfl rfl (Nat.le_of_ble_eq_true rfl) (Nat.le_of_ble_eq_true rfl) (Nat.le_of_ble_eq_true rfl) (Nat.le_of_ble_eq_true rfl) (av := [(.ref wa), (.ref go), (.int (2 : Int32)), (.int (1 : Int32))]) (S := []) rfl (pc' := 361) rfl ?_
      intro T h v X hQ
      obtain ⟨rfl, rfl⟩ := hQ
      show own_Go p e below n0 (own_Fin room_1 s (fun v h => v = some (.int 1))) (T.setTop (mkF m 361 #[.val (.long q0), .second, .val (.long q1), .second, .val (.long q2), .second, .val (.long q3), .second, .val (.long q4), .second, .val (.int i5), .val (.int (0 : Int32)), .val (.int (2 : Int32)), .val (.long q0), .second, .val (.long h1v), .second, .val (.long h2v), .second, .val (.long h3v), .second, .val (.long h4v), .second, .val (.long mark), .second, .val (.ref hp), .val (.ref wa), .val (.ref go), .val (.int (1 : Int32)), .unset, .unset] [(.int (1 : Int32))]))
      refine own_if_eq C X at_361 (pcT := 407) (pc' := 364) (by decide) (by decide) rfl (fun hc361 => absurd hc361 (by decide)) (fun hc361 => ?_)
      refine own_aload C X at_364 rfl rfl (pc' := 366) rfl ?_
      refine own_aload C X at_366 rfl rfl (pc' := 368) rfl ?_
      refine own_iload C X at_368 rfl (pc' := 370) rfl ?_
      refine own_iconst C X at_370 (v := 2) (by decide) (pc' := 371) rfl ?_
      refine own_callS C X at_371 (own_m_scN l Z a0 hw wa go (2 : Int32) (2 : Int32) _ n0 (own_big C X) (by decide)) (hw _ (List.mem_of_getElem? (i := 14) rfl)) (hw _ (List.mem_of_getElem? (i := 15) rfl)) (hw _ (List.mem_of_getElem? (i := 12) rfl)) (hw _ (List.mem_of_getElem? (i := 16) rfl)) (by decide) own_pd_7147 rfl rfl (Nat.le_of_ble_eq_true rfl) (Nat.le_of_ble_eq_true rfl) (Nat.le_of_ble_eq_true rfl) (Nat.le_of_ble_eq_true rfl) (av := [(.ref wa), (.ref go), (.int (2 : Int32)), (.int (2 : Int32))]) (S := []) rfl (pc' := 374) rfl ?_
      intro T h v X hQ
      obtain ⟨rfl, rfl⟩ := hQ
      show own_Go p e below n0 (own_Fin room_1 s (fun v h => v = some (.int 1))) (T.setTop (mkF m 374 #[.val (.long q0), .second, .val (.long q1), .second, .val (.long q2), .second, .val (.long q3), .second, .val (.long q4), .second, .val (.int i5), .val (.int (0 : Int32)), .val (.int (2 : Int32)), .val (.long q0), .second, .val (.long h1v), .second, .val (.long h2v), .second, .val (.long h3v), .second, .val (.long h4v), .second, .val (.long mark), .second, .val (.ref hp), .val (.ref wa), .val (.ref go), .val (.int (1 : Int32)), .unset, .unset] [(.int (1 : Int32))]))
      refine own_if_eq C X at_374 (pcT := 407) (pc' := 377) (by decide) (by decide) rfl (fun hc374 => absurd hc374 (by decide)) (fun hc374 => ?_)
      refine own_aload C X at_377 rfl rfl (pc' := 379) rfl ?_
      refine own_aload C X at_379 rfl rfl (pc' := 381) rfl ?_
      refine own_iload C X at_381 rfl (pc' := 383) rfl ?_
      refine own_iconst C X at_383 (v := 3) (by decide) (pc' := 384) rfl ?_
      refine own_callS C X at_384 (own_m_scN l Z a0 hw wa go (2 : Int32) (3 : Int32) _ n0 (own_big C X) (by decide)) (hw _ (List.mem_of_getElem? (i := 14) rfl)) (hw _ (List.mem_of_getElem? (i := 15) rfl)) (hw _ (List.mem_of_getElem? (i := 12) rfl)) (hw _ (List.mem_of_getElem? (i := 16) rfl)) (by decide) own_pd_7147 rfl rfl (Nat.le_of_ble_eq_true rfl) (Nat.le_of_ble_eq_true rfl) (Nat.le_of_ble_eq_true rfl) (Nat.le_of_ble_eq_true rfl) (av := [(.ref wa), (.ref go), (.int (2 : Int32)), (.int (3 : Int32))]) (S := []) rfl (pc' := 387) rfl ?_
      intro T h v X hQ
      obtain ⟨rfl, rfl⟩ := hQ
      show own_Go p e below n0 (own_Fin room_1 s (fun v h => v = some (.int 1))) (T.setTop (mkF m 387 #[.val (.long q0), .second, .val (.long q1), .second, .val (.long q2), .second, .val (.long q3), .second, .val (.long q4), .second, .val (.int i5), .val (.int (0 : Int32)), .val (.int (2 : Int32)), .val (.long q0), .second, .val (.long h1v), .second, .val (.long h2v), .second, .val (.long h3v), .second, .val (.long h4v), .second, .val (.long mark), .second, .val (.ref hp), .val (.ref wa), .val (.ref go), .val (.int (1 : Int32)), .unset, .unset] [(.int (1 : Int32))]))
      refine own_if_eq C X at_387 (pcT := 407) (pc' := 390) (by decide) (by decide) rfl (fun hc387 => absurd hc387 (by decide)) (fun hc387 => ?_)
      refine own_aload C X at_390 rfl rfl (pc' := 392) rfl ?_
      refine own_aload C X at_392 rfl rfl (pc' := 394) rfl ?_
      refine own_iload C X at_394 rfl (pc' := 396) rfl ?_
      refine own_iconst C X at_396 (v := 4) (by decide) (pc' := 397) rfl ?_
      refine own_callS C X at_397 (own_m_scN l Z a0 hw wa go (2 : Int32) (4 : Int32) _ n0 (own_big C X) (by decide)) (hw _ (List.mem_of_getElem? (i := 14) rfl)) (hw _ (List.mem_of_getElem? (i := 15) rfl)) (hw _ (List.mem_of_getElem? (i := 12) rfl)) (hw _ (List.mem_of_getElem? (i := 16) rfl)) (by decide) own_pd_7147 rfl rfl (Nat.le_of_ble_eq_true rfl) (Nat.le_of_ble_eq_true rfl) (Nat.le_of_ble_eq_true rfl) (Nat.le_of_ble_eq_true rfl) (av := [(.ref wa), (.ref go), (.int (2 : Int32)), (.int (4 : Int32))]) (S := []) rfl (pc' := 400) rfl ?_
      intro T h v X hQ
      obtain ⟨rfl, rfl⟩ := hQ
      show own_Go p e below n0 (own_Fin room_1 s (fun v h => v = some (.int 1))) (T.setTop (mkF m 400 #[.val (.long q0), .second, .val (.long q1), .second, .val (.long q2), .second, .val (.long q3), .second, .val (.long q4), .second, .val (.int i5), .val (.int (0 : Int32)), .val (.int (2 : Int32)), .val (.long q0), .second, .val (.long h1v), .second, .val (.long h2v), .second, .val (.long h3v), .second, .val (.long h4v), .second, .val (.long mark), .second, .val (.ref hp), .val (.ref wa), .val (.ref go), .val (.int (1 : Int32)), .unset, .unset] [(.int (1 : Int32))]))
      refine own_if_eq C X at_400 (pcT := 407) (pc' := 403) (by decide) (by decide) rfl (fun hc400 => absurd hc400 (by decide)) (fun hc400 => ?_)
      refine own_iconst C X at_403 (v := 1) (by decide) (pc' := 404) rfl ?_
      refine own_goto C X at_404 (pc' := 408) (by decide) (by decide) ?_
      refine own_istore C X at_408 (L' := #[.val (.long q0), .second, .val (.long q1), .second, .val (.long q2), .second, .val (.long q3), .second, .val (.long q4), .second, .val (.int i5), .val (.int (0 : Int32)), .val (.int (2 : Int32)), .val (.long q0), .second, .val (.long h1v), .second, .val (.long h2v), .second, .val (.long h3v), .second, .val (.long h4v), .second, .val (.long mark), .second, .val (.ref hp), .val (.ref wa), .val (.ref go), .val (.int (1 : Int32)), .val (.int (1 : Int32)), .unset]) rfl (pc' := 410) rfl ?_
      refine own_aload C X at_410 rfl rfl (pc' := 412) rfl ?_
      refine own_iconst C X at_412 (v := 0) (by decide) (pc' := 413) rfl ?_
      refine own_iload C X at_413 rfl (pc' := 415) rfl ?_
      refine own_iload C X at_415 rfl (pc' := 417) rfl ?_
      refine own_lload C X at_417 rfl (pc' := 419) rfl ?_
      refine own_callS C X at_419 (own_m_kpI l Z a0 hw hp (0 : Int32) (0 : Int32) (2 : Int32) mark _ n0 (own_big C X) (by decide) (by decide)) (hw _ (List.mem_of_getElem? (i := 20) rfl)) (hw _ (List.mem_of_getElem? (i := 21) rfl)) (hw _ (List.mem_of_getElem? (i := 12) rfl)) (hw _ (List.mem_of_getElem? (i := 22) rfl)) (by decide) own_pd_6969 rfl rfl (Nat.le_of_ble_eq_true rfl) (Nat.le_of_ble_eq_true rfl) (Nat.le_of_ble_eq_true rfl) (Nat.le_of_ble_eq_true rfl) (av := [(.ref hp), (.int (0 : Int32)), (.int (0 : Int32)), (.int (2 : Int32)), (.long mark)]) (S := []) rfl (pc' := 422) rfl ?_
      intro T h v X hQ
      obtain ⟨rfl, rfl⟩ := hQ
      show own_Go p e below n0 (own_Fin room_1 s (fun v h => v = some (.int 1))) (T.setTop (mkF m 422 #[.val (.long q0), .second, .val (.long q1), .second, .val (.long q2), .second, .val (.long q3), .second, .val (.long q4), .second, .val (.int i5), .val (.int (0 : Int32)), .val (.int (2 : Int32)), .val (.long q0), .second, .val (.long h1v), .second, .val (.long h2v), .second, .val (.long h3v), .second, .val (.long h4v), .second, .val (.long mark), .second, .val (.ref hp), .val (.ref wa), .val (.ref go), .val (.int (1 : Int32)), .val (.int (1 : Int32)), .unset] [(.int (1 : Int32))]))
      refine own_if_eq C X at_422 (pcT := 520) (pc' := 425) (by decide) (by decide) rfl (fun hc422 => absurd hc422 (by decide)) (fun hc422 => ?_)
      refine own_aload C X at_425 rfl rfl (pc' := 427) rfl ?_
      refine own_iconst C X at_427 (v := 1) (by decide) (pc' := 428) rfl ?_
      refine own_iload C X at_428 rfl (pc' := 430) rfl ?_
      refine own_iload C X at_430 rfl (pc' := 432) rfl ?_
      refine own_lload C X at_432 rfl (pc' := 434) rfl ?_
      refine own_callS C X at_434 (own_m_kpI l Z a0 hw hp (1 : Int32) (0 : Int32) (2 : Int32) mark _ n0 (own_big C X) (by decide) (by decide)) (hw _ (List.mem_of_getElem? (i := 20) rfl)) (hw _ (List.mem_of_getElem? (i := 21) rfl)) (hw _ (List.mem_of_getElem? (i := 12) rfl)) (hw _ (List.mem_of_getElem? (i := 22) rfl)) (by decide) own_pd_6969 rfl rfl (Nat.le_of_ble_eq_true rfl) (Nat.le_of_ble_eq_true rfl) (Nat.le_of_ble_eq_true rfl) (Nat.le_of_ble_eq_true rfl) (av := [(.ref hp), (.int (1 : Int32)), (.int (0 : Int32)), (.int (2 : Int32)), (.long mark)]) (S := []) rfl (pc' := 437) rfl ?_
      intro T h v X hQ
      obtain ⟨rfl, rfl⟩ := hQ
      show own_Go p e below n0 (own_Fin room_1 s (fun v h => v = some (.int 1))) (T.setTop (mkF m 437 #[.val (.long q0), .second, .val (.long q1), .second, .val (.long q2), .second, .val (.long q3), .second, .val (.long q4), .second, .val (.int i5), .val (.int (0 : Int32)), .val (.int (2 : Int32)), .val (.long q0), .second, .val (.long h1v), .second, .val (.long h2v), .second, .val (.long h3v), .second, .val (.long h4v), .second, .val (.long mark), .second, .val (.ref hp), .val (.ref wa), .val (.ref go), .val (.int (1 : Int32)), .val (.int (1 : Int32)), .unset] [(.int (1 : Int32))]))
      refine own_if_eq C X at_437 (pcT := 520) (pc' := 440) (by decide) (by decide) rfl (fun hc437 => absurd hc437 (by decide)) (fun hc437 => ?_)
      refine own_aload C X at_440 rfl rfl (pc' := 442) rfl ?_
      refine own_iconst C X at_442 (v := 2) (by decide) (pc' := 443) rfl ?_
      refine own_iload C X at_443 rfl (pc' := 445) rfl ?_
      refine own_iload C X at_445 rfl (pc' := 447) rfl ?_
      refine own_lload C X at_447 rfl (pc' := 449) rfl ?_
      refine own_callS C X at_449 (own_m_kpA l Z a0 hw hp (2 : Int32) (0 : Int32) (2 : Int32) mark _ n0 (own_big C X) (by decide) (by decide) [r0, r1, mark, mark, mark, mark, mark] A_hp 2 (by decide) rfl) (hw _ (List.mem_of_getElem? (i := 20) rfl)) (hw _ (List.mem_of_getElem? (i := 21) rfl)) (hw _ (List.mem_of_getElem? (i := 12) rfl)) (hw _ (List.mem_of_getElem? (i := 22) rfl)) (by decide) own_pd_6969 rfl rfl (Nat.le_of_ble_eq_true rfl) (Nat.le_of_ble_eq_true rfl) (Nat.le_of_ble_eq_true rfl) (Nat.le_of_ble_eq_true rfl) (av := [(.ref hp), (.int (2 : Int32)), (.int (0 : Int32)), (.int (2 : Int32)), (.long mark)]) (S := []) rfl (pc' := 452) rfl ?_
      intro T h v X hQ
      obtain ⟨rfl, rfl⟩ := hQ
      show own_Go p e below n0 (own_Fin room_1 s (fun v h => v = some (.int 1))) (T.setTop (mkF m 452 #[.val (.long q0), .second, .val (.long q1), .second, .val (.long q2), .second, .val (.long q3), .second, .val (.long q4), .second, .val (.int i5), .val (.int (0 : Int32)), .val (.int (2 : Int32)), .val (.long q0), .second, .val (.long h1v), .second, .val (.long h2v), .second, .val (.long h3v), .second, .val (.long h4v), .second, .val (.long mark), .second, .val (.ref hp), .val (.ref wa), .val (.ref go), .val (.int (1 : Int32)), .val (.int (1 : Int32)), .unset] [(.int (1 : Int32))]))
      refine own_if_eq C X at_452 (pcT := 520) (pc' := 455) (by decide) (by decide) rfl (fun hc452 => absurd hc452 (by decide)) (fun hc452 => ?_)
      refine own_aload C X at_455 rfl rfl (pc' := 457) rfl ?_
      refine own_iconst C X at_457 (v := 3) (by decide) (pc' := 458) rfl ?_
      refine own_iload C X at_458 rfl (pc' := 460) rfl ?_
      refine own_iload C X at_460 rfl (pc' := 462) rfl ?_
      refine own_lload C X at_462 rfl (pc' := 464) rfl ?_
      refine own_callS C X at_464 (own_m_kpA l Z a0 hw hp (3 : Int32) (0 : Int32) (2 : Int32) mark _ n0 (own_big C X) (by decide) (by decide) [r0, r1, mark, mark, mark, mark, mark] A_hp 3 (by decide) rfl) (hw _ (List.mem_of_getElem? (i := 20) rfl)) (hw _ (List.mem_of_getElem? (i := 21) rfl)) (hw _ (List.mem_of_getElem? (i := 12) rfl)) (hw _ (List.mem_of_getElem? (i := 22) rfl)) (by decide) own_pd_6969 rfl rfl (Nat.le_of_ble_eq_true rfl) (Nat.le_of_ble_eq_true rfl) (Nat.le_of_ble_eq_true rfl) (Nat.le_of_ble_eq_true rfl) (av := [(.ref hp), (.int (3 : Int32)), (.int (0 : Int32)), (.int (2 : Int32)), (.long mark)]) (S := []) rfl (pc' := 467) rfl ?_
      intro T h v X hQ
      obtain ⟨rfl, rfl⟩ := hQ
      show own_Go p e below n0 (own_Fin room_1 s (fun v h => v = some (.int 1))) (T.setTop (mkF m 467 #[.val (.long q0), .second, .val (.long q1), .second, .val (.long q2), .second, .val (.long q3), .second, .val (.long q4), .second, .val (.int i5), .val (.int (0 : Int32)), .val (.int (2 : Int32)), .val (.long q0), .second, .val (.long h1v), .second, .val (.long h2v), .second, .val (.long h3v), .second, .val (.long h4v), .second, .val (.long mark), .second, .val (.ref hp), .val (.ref wa), .val (.ref go), .val (.int (1 : Int32)), .val (.int (1 : Int32)), .unset] [(.int (1 : Int32))]))
      refine own_if_eq C X at_467 (pcT := 520) (pc' := 470) (by decide) (by decide) rfl (fun hc467 => absurd hc467 (by decide)) (fun hc467 => ?_)
      refine own_aload C X at_470 rfl rfl (pc' := 472) rfl ?_
      refine own_iconst C X at_472 (v := 4) (by decide) (pc' := 473) rfl ?_
      refine own_iload C X at_473 rfl (pc' := 475) rfl ?_
      refine own_iload C X at_475 rfl (pc' := 477) rfl ?_
      refine own_lload C X at_477 rfl (pc' := 479) rfl ?_
      refine own_callS C X at_479 (own_m_kpA l Z a0 hw hp (4 : Int32) (0 : Int32) (2 : Int32) mark _ n0 (own_big C X) (by decide) (by decide) [r0, r1, mark, mark, mark, mark, mark] A_hp 4 (by decide) rfl) (hw _ (List.mem_of_getElem? (i := 20) rfl)) (hw _ (List.mem_of_getElem? (i := 21) rfl)) (hw _ (List.mem_of_getElem? (i := 12) rfl)) (hw _ (List.mem_of_getElem? (i := 22) rfl)) (by decide) own_pd_6969 rfl rfl (Nat.le_of_ble_eq_true rfl) (Nat.le_of_ble_eq_true rfl) (Nat.le_of_ble_eq_true rfl) (Nat.le_of_ble_eq_true rfl) (av := [(.ref hp), (.int (4 : Int32)), (.int (0 : Int32)), (.int (2 : Int32)), (.long mark)]) (S := []) rfl (pc' := 482) rfl ?_
      intro T h v X hQ
      obtain ⟨rfl, rfl⟩ := hQ
      show own_Go p e below n0 (own_Fin room_1 s (fun v h => v = some (.int 1))) (T.setTop (mkF m 482 #[.val (.long q0), .second, .val (.long q1), .second, .val (.long q2), .second, .val (.long q3), .second, .val (.long q4), .second, .val (.int i5), .val (.int (0 : Int32)), .val (.int (2 : Int32)), .val (.long q0), .second, .val (.long h1v), .second, .val (.long h2v), .second, .val (.long h3v), .second, .val (.long h4v), .second, .val (.long mark), .second, .val (.ref hp), .val (.ref wa), .val (.ref go), .val (.int (1 : Int32)), .val (.int (1 : Int32)), .unset] [(.int (1 : Int32))]))
      refine own_if_eq C X at_482 (pcT := 520) (pc' := 485) (by decide) (by decide) rfl (fun hc482 => absurd hc482 (by decide)) (fun hc482 => ?_)
      refine own_aload C X at_485 rfl rfl (pc' := 487) rfl ?_
      refine own_iconst C X at_487 (v := 5) (by decide) (pc' := 488) rfl ?_
      refine own_iload C X at_488 rfl (pc' := 490) rfl ?_
      refine own_iload C X at_490 rfl (pc' := 492) rfl ?_
      refine own_lload C X at_492 rfl (pc' := 494) rfl ?_
      refine own_callS C X at_494 (own_m_kpA l Z a0 hw hp (5 : Int32) (0 : Int32) (2 : Int32) mark _ n0 (own_big C X) (by decide) (by decide) [r0, r1, mark, mark, mark, mark, mark] A_hp 5 (by decide) rfl) (hw _ (List.mem_of_getElem? (i := 20) rfl)) (hw _ (List.mem_of_getElem? (i := 21) rfl)) (hw _ (List.mem_of_getElem? (i := 12) rfl)) (hw _ (List.mem_of_getElem? (i := 22) rfl)) (by decide) own_pd_6969 rfl rfl (Nat.le_of_ble_eq_true rfl) (Nat.le_of_ble_eq_true rfl) (Nat.le_of_ble_eq_true rfl) (Nat.le_of_ble_eq_true rfl) (av := [(.ref hp), (.int (5 : Int32)), (.int (0 : Int32)), (.int (2 : Int32)), (.long mark)]) (S := []) rfl (pc' := 497) rfl ?_
      intro T h v X hQ
      obtain ⟨rfl, rfl⟩ := hQ
      show own_Go p e below n0 (own_Fin room_1 s (fun v h => v = some (.int 1))) (T.setTop (mkF m 497 #[.val (.long q0), .second, .val (.long q1), .second, .val (.long q2), .second, .val (.long q3), .second, .val (.long q4), .second, .val (.int i5), .val (.int (0 : Int32)), .val (.int (2 : Int32)), .val (.long q0), .second, .val (.long h1v), .second, .val (.long h2v), .second, .val (.long h3v), .second, .val (.long h4v), .second, .val (.long mark), .second, .val (.ref hp), .val (.ref wa), .val (.ref go), .val (.int (1 : Int32)), .val (.int (1 : Int32)), .unset] [(.int (1 : Int32))]))
      refine own_if_eq C X at_497 (pcT := 520) (pc' := 500) (by decide) (by decide) rfl (fun hc497 => absurd hc497 (by decide)) (fun hc497 => ?_)
      refine own_aload C X at_500 rfl rfl (pc' := 502) rfl ?_
      refine own_bipush C X at_502 (v := 6) (by decide) (pc' := 504) rfl ?_
      refine own_iload C X at_504 rfl (pc' := 506) rfl ?_
      refine own_iload C X at_506 rfl (pc' := 508) rfl ?_
      refine own_lload C X at_508 rfl (pc' := 510) rfl ?_
      refine own_callS C X at_510 (own_m_kpA l Z a0 hw hp (6 : Int32) (0 : Int32) (2 : Int32) mark _ n0 (own_big C X) (by decide) (by decide) [r0, r1, mark, mark, mark, mark, mark] A_hp 6 (by decide) rfl) (hw _ (List.mem_of_getElem? (i := 20) rfl)) (hw _ (List.mem_of_getElem? (i := 21) rfl)) (hw _ (List.mem_of_getElem? (i := 12) rfl)) (hw _ (List.mem_of_getElem? (i := 22) rfl)) (by decide) own_pd_6969 rfl rfl (Nat.le_of_ble_eq_true rfl) (Nat.le_of_ble_eq_true rfl) (Nat.le_of_ble_eq_true rfl) (Nat.le_of_ble_eq_true rfl) (av := [(.ref hp), (.int (6 : Int32)), (.int (0 : Int32)), (.int (2 : Int32)), (.long mark)]) (S := []) rfl (pc' := 513) rfl ?_
      intro T h v X hQ
      obtain ⟨rfl, rfl⟩ := hQ
      show own_Go p e below n0 (own_Fin room_1 s (fun v h => v = some (.int 1))) (T.setTop (mkF m 513 #[.val (.long q0), .second, .val (.long q1), .second, .val (.long q2), .second, .val (.long q3), .second, .val (.long q4), .second, .val (.int i5), .val (.int (0 : Int32)), .val (.int (2 : Int32)), .val (.long q0), .second, .val (.long h1v), .second, .val (.long h2v), .second, .val (.long h3v), .second, .val (.long h4v), .second, .val (.long mark), .second, .val (.ref hp), .val (.ref wa), .val (.ref go), .val (.int (1 : Int32)), .val (.int (1 : Int32)), .unset] [(.int (1 : Int32))]))
      refine own_if_eq C X at_513 (pcT := 520) (pc' := 516) (by decide) (by decide) rfl (fun hc513 => absurd hc513 (by decide)) (fun hc513 => ?_)
      refine own_iconst C X at_516 (v := 1) (by decide) (pc' := 517) rfl ?_
      refine own_goto C X at_517 (pc' := 521) (by decide) (by decide) ?_
      refine own_istore C X at_521 (L' := #[.val (.long q0), .second, .val (.long q1), .second, .val (.long q2), .second, .val (.long q3), .second, .val (.long q4), .second, .val (.int i5), .val (.int (0 : Int32)), .val (.int (2 : Int32)), .val (.long q0), .second, .val (.long h1v), .second, .val (.long h2v), .second, .val (.long h3v), .second, .val (.long h4v), .second, .val (.long mark), .second, .val (.ref hp), .val (.ref wa), .val (.ref go), .val (.int (1 : Int32)), .val (.int (1 : Int32)), .val (.int (1 : Int32))]) rfl (pc' := 523) rfl ?_
      refine own_iload C X at_523 rfl (pc' := 525) rfl ?_
      refine own_if_eq C X at_525 (pcT := 542) (pc' := 528) (by decide) (by decide) rfl (fun hc525 => absurd hc525 (by decide)) (fun hc525 => ?_)
      refine own_iload C X at_528 rfl (pc' := 530) rfl ?_
      refine own_if_eq C X at_530 (pcT := 542) (pc' := 533) (by decide) (by decide) rfl (fun hc530 => absurd hc530 (by decide)) (fun hc530 => ?_)
      refine own_iload C X at_533 rfl (pc' := 535) rfl ?_
      refine own_if_eq C X at_535 (pcT := 542) (pc' := 538) (by decide) (by decide) rfl (fun hc535 => absurd hc535 (by decide)) (fun hc535 => ?_)
      refine own_iconst C X at_538 (v := 1) (by decide) (pc' := 539) rfl ?_
      refine own_goto C X at_539 (pc' := 543) (by decide) (by decide) ?_
      exact own_ireturn_z C X at_543 (Nat.le_of_ble_eq_true rfl) (Nat.le_of_ble_eq_true rfl) (rfl)
    · refine own_aload C X at_116 rfl rfl (pc' := 118) rfl ?_
      refine own_iload C X at_118 rfl (pc' := 120) rfl ?_
      refine own_lload C X at_120 rfl (pc' := 122) rfl ?_
      refine own_lastore C X at_122 A_hp (by decide) (i := 1) (Nat.le_of_ble_eq_true rfl) ge_hp (pc' := 123) rfl ?_
      intro T h X K_ A_hp_
      have A_hp : own_JA Z h hp [mark, q0, mark, mark, mark, mark, mark] := A_hp_
      refine own_iload C X at_123 rfl (pc' := 125) rfl ?_
      refine own_iconst C X at_125 (v := 1) (by decide) (pc' := 126) rfl ?_
      refine own_icmp_le C X at_126 (pcT := 138) (pc' := 129) (by decide) (by decide) rfl (fun hc126 => absurd hc126 (by decide)) (fun hc126 => ?_)
      refine own_aload C X at_129 rfl rfl (pc' := 131) rfl ?_
      refine own_iload C X at_131 rfl (pc' := 133) rfl ?_
      refine own_iconst C X at_133 (v := 1) (by decide) (pc' := 134) rfl ?_
      refine own_iadd C X at_134 (z := 2) (by decide) (pc' := 135) rfl ?_
      refine own_lload C X at_135 rfl (pc' := 137) rfl ?_
      refine own_lastore C X at_137 A_hp (by decide) (i := 2) (Nat.le_of_ble_eq_true rfl) ge_hp (pc' := 138) rfl ?_
      intro T h X K_ A_hp_
      have A_hp : own_JA Z h hp [mark, q0, h1v, mark, mark, mark, mark] := A_hp_
      refine own_iload C X at_138 rfl (pc' := 140) rfl ?_
      refine own_iconst C X at_140 (v := 2) (by decide) (pc' := 141) rfl ?_
      refine own_icmp_le C X at_141 (pcT := 153) (pc' := 144) (by decide) (by decide) rfl (fun hc141 => ?_) (fun hc141 => absurd hc141 (by decide))
      refine own_iload C X at_153 rfl (pc' := 155) rfl ?_
      refine own_iconst C X at_155 (v := 3) (by decide) (pc' := 156) rfl ?_
      refine own_icmp_le C X at_156 (pcT := 168) (pc' := 159) (by decide) (by decide) rfl (fun hc156 => ?_) (fun hc156 => absurd hc156 (by decide))
      refine own_iload C X at_168 rfl (pc' := 170) rfl ?_
      refine own_iconst C X at_170 (v := 4) (by decide) (pc' := 171) rfl ?_
      refine own_icmp_le C X at_171 (pcT := 183) (pc' := 174) (by decide) (by decide) rfl (fun hc171 => ?_) (fun hc171 => absurd hc171 (by decide))
      refine own_iconst C X at_183 (v := 5) (by decide) (pc' := 184) rfl ?_
      refine own_newJ C X at_184 (hw _ (List.mem_of_getElem? (i := 5) rfl)) (by decide) (k := 5) (cap := 5) (Nat.le_of_ble_eq_true rfl) (by decide) (Nat.le_of_ble_eq_true rfl) (Nat.le_of_ble_eq_true rfl) (pc' := 186) rfl ?_
      intro T h wa e_wa X K_ ge_wa A_wa_
      have ne_hp_wa : hp ≠ wa := by rw [e_wa]; exact Nat.ne_of_lt A_hp.lt
      have A_wa : own_JA Z h wa [(0 : Int64), (0 : Int64), (0 : Int64), (0 : Int64), (0 : Int64)] := A_wa_
      have A_hp := A_hp.keep K_ nin0
      refine own_astore C X at_186 rfl (L' := #[.val (.long q0), .second, .val (.long q1), .second, .val (.long q2), .second, .val (.long q3), .second, .val (.long q4), .second, .val (.int i5), .val (.int (1 : Int32)), .val (.int (2 : Int32)), .val (.long q0), .second, .val (.long h1v), .second, .val (.long h2v), .second, .val (.long h3v), .second, .val (.long h4v), .second, .val (.long mark), .second, .val (.ref hp), .val (.ref wa), .unset, .unset, .unset, .unset]) rfl (pc' := 188) rfl ?_
      refine own_aload C X at_188 rfl rfl (pc' := 190) rfl ?_
      refine own_iconst C X at_190 (v := 0) (by decide) (pc' := 191) rfl ?_
      refine own_lload C X at_191 rfl (pc' := 193) rfl ?_
      refine own_lastore C X at_193 A_wa (by decide) (i := 0) (Nat.le_of_ble_eq_true rfl) ge_wa (pc' := 194) rfl ?_
      intro T h X K_ A_wa_
      have A_wa : own_JA Z h wa [q4, (0 : Int64), (0 : Int64), (0 : Int64), (0 : Int64)] := A_wa_
      have A_hp := A_hp.keep K_ (ninS ne_hp_wa nin0)
      refine own_aload C X at_194 rfl rfl (pc' := 196) rfl ?_
      refine own_iconst C X at_196 (v := 1) (by decide) (pc' := 197) rfl ?_
      refine own_lload C X at_197 rfl (pc' := 199) rfl ?_
      refine own_lastore C X at_199 A_wa (by decide) (i := 1) (Nat.le_of_ble_eq_true rfl) ge_wa (pc' := 200) rfl ?_
      intro T h X K_ A_wa_
      have A_wa : own_JA Z h wa [q4, h1v, (0 : Int64), (0 : Int64), (0 : Int64)] := A_wa_
      have A_hp := A_hp.keep K_ (ninS ne_hp_wa nin0)
      refine own_aload C X at_200 rfl rfl (pc' := 202) rfl ?_
      refine own_iconst C X at_202 (v := 2) (by decide) (pc' := 203) rfl ?_
      refine own_lload C X at_203 rfl (pc' := 205) rfl ?_
      refine own_lastore C X at_205 A_wa (by decide) (i := 2) (Nat.le_of_ble_eq_true rfl) ge_wa (pc' := 206) rfl ?_
      intro T h X K_ A_wa_
      have A_wa : own_JA Z h wa [q4, h1v, h2v, (0 : Int64), (0 : Int64)] := A_wa_
      have A_hp := A_hp.keep K_ (ninS ne_hp_wa nin0)
      refine own_aload C X at_206 rfl rfl (pc' := 208) rfl ?_
      refine own_iconst C X at_208 (v := 3) (by decide) (pc' := 209) rfl ?_
      refine own_lload C X at_209 rfl (pc' := 211) rfl ?_
      refine own_lastore C X at_211 A_wa (by decide) (i := 3) (Nat.le_of_ble_eq_true rfl) ge_wa (pc' := 212) rfl ?_
      intro T h X K_ A_wa_
      have A_wa : own_JA Z h wa [q4, h1v, h2v, h3v, (0 : Int64)] := A_wa_
      have A_hp := A_hp.keep K_ (ninS ne_hp_wa nin0)
      refine own_aload C X at_212 rfl rfl (pc' := 214) rfl ?_
      refine own_iconst C X at_214 (v := 4) (by decide) (pc' := 215) rfl ?_
      refine own_lload C X at_215 rfl (pc' := 217) rfl ?_
      refine own_lastore C X at_217 A_wa (by decide) (i := 4) (Nat.le_of_ble_eq_true rfl) ge_wa (pc' := 218) rfl ?_
      intro T h X K_ A_wa_
      have A_wa : own_JA Z h wa [q4, h1v, h2v, h3v, h4v] := A_wa_
      have A_hp := A_hp.keep K_ (ninS ne_hp_wa nin0)
      refine own_aload C X at_218 rfl rfl (pc' := 220) rfl ?_
      refine own_iload C X at_220 rfl (pc' := 222) rfl ?_
      refine own_iload C X at_222 rfl (pc' := 224) rfl ?_
      refine own_lload C X at_224 rfl (pc' := 226) rfl ?_
      refine own_callS C X at_226 (own_m_rl21 l Z a0 hw hp q4 _ n0 (own_big C X) q0 h1v mark A_hp ge_hp ) (hw _ (List.mem_of_getElem? (i := 6) rfl)) (hw _ (List.mem_of_getElem? (i := 7) rfl)) (hw _ (List.mem_of_getElem? (i := 8) rfl)) (hw _ (List.mem_of_getElem? (i := 9) rfl)) (by decide) own_pd_5832 rfl rfl (Nat.le_of_ble_eq_true rfl) (Nat.le_of_ble_eq_true rfl) (Nat.le_of_ble_eq_true rfl) (Nat.le_of_ble_eq_true rfl) (av := [(.ref hp), (.int (1 : Int32)), (.int (2 : Int32)), (.long q4)]) (S := []) rfl (pc' := 229) rfl ?_
      intro T h v X hQ
      obtain ⟨rfl, r0, r1, K_, A_hp, od, pm⟩ := hQ
      have A_wa := A_wa.keep K_ (ninS (Ne.symm ne_hp_wa) nin0)
      show own_Go p e below n0 (own_Fin room_1 s (fun v h => v = some (.int 1))) (T.setTop (mkF m 229 #[.val (.long q0), .second, .val (.long q1), .second, .val (.long q2), .second, .val (.long q3), .second, .val (.long q4), .second, .val (.int i5), .val (.int (1 : Int32)), .val (.int (2 : Int32)), .val (.long q0), .second, .val (.long h1v), .second, .val (.long h2v), .second, .val (.long h3v), .second, .val (.long h4v), .second, .val (.long mark), .second, .val (.ref hp), .val (.ref wa), .unset, .unset, .unset, .unset] []))
      obtain ⟨od1, -⟩ := od
      refine own_iconst C X at_229 (v := 5) (by decide) (pc' := 230) rfl ?_
      refine own_newJ C X at_230 (hw _ (List.mem_of_getElem? (i := 5) rfl)) (by decide) (k := 5) (cap := 5) (Nat.le_of_ble_eq_true rfl) (by decide) (Nat.le_of_ble_eq_true rfl) (Nat.le_of_ble_eq_true rfl) (pc' := 232) rfl ?_
      intro T h go e_go X K_ ge_go A_go_
      have ne_hp_go : hp ≠ go := by rw [e_go]; exact Nat.ne_of_lt A_hp.lt
      have ne_wa_go : wa ≠ go := by rw [e_go]; exact Nat.ne_of_lt A_wa.lt
      have A_go : own_JA Z h go [(0 : Int64), (0 : Int64), (0 : Int64), (0 : Int64), (0 : Int64)] := A_go_
      have A_hp := A_hp.keep K_ nin0
      have A_wa := A_wa.keep K_ nin0
      refine own_astore C X at_232 rfl (L' := #[.val (.long q0), .second, .val (.long q1), .second, .val (.long q2), .second, .val (.long q3), .second, .val (.long q4), .second, .val (.int i5), .val (.int (1 : Int32)), .val (.int (2 : Int32)), .val (.long q0), .second, .val (.long h1v), .second, .val (.long h2v), .second, .val (.long h3v), .second, .val (.long h4v), .second, .val (.long mark), .second, .val (.ref hp), .val (.ref wa), .val (.ref go), .unset, .unset, .unset]) rfl (pc' := 234) rfl ?_
      refine own_aload C X at_234 rfl rfl (pc' := 236) rfl ?_
      refine own_iconst C X at_236 (v := 0) (by decide) (pc' := 237) rfl ?_
      refine own_aload C X at_237 rfl rfl (pc' := 239) rfl ?_
      refine own_iload C X at_239 rfl (pc' := 241) rfl ?_
      refine own_laload C X at_241 A_hp (by decide) (i := 1) rfl (pc' := 242) rfl ?_
      refine own_lastore C X at_242 A_go (by decide) (i := 0) (Nat.le_of_ble_eq_true rfl) ge_go (pc' := 243) rfl ?_
      intro T h X K_ A_go_
      have A_go : own_JA Z h go [r0, (0 : Int64), (0 : Int64), (0 : Int64), (0 : Int64)] := A_go_
      have A_hp := A_hp.keep K_ (ninS ne_hp_go nin0)
      have A_wa := A_wa.keep K_ (ninS ne_wa_go nin0)
      refine own_aload C X at_243 rfl rfl (pc' := 245) rfl ?_
      refine own_iconst C X at_245 (v := 1) (by decide) (pc' := 246) rfl ?_
      refine own_aload C X at_246 rfl rfl (pc' := 248) rfl ?_
      refine own_iload C X at_248 rfl (pc' := 250) rfl ?_
      refine own_iconst C X at_250 (v := 1) (by decide) (pc' := 251) rfl ?_
      refine own_iadd C X at_251 (z := 2) (by decide) (pc' := 252) rfl ?_
      refine own_laload C X at_252 A_hp (by decide) (i := 2) rfl (pc' := 253) rfl ?_
      refine own_lastore C X at_253 A_go (by decide) (i := 1) (Nat.le_of_ble_eq_true rfl) ge_go (pc' := 254) rfl ?_
      intro T h X K_ A_go_
      have A_go : own_JA Z h go [r0, r1, (0 : Int64), (0 : Int64), (0 : Int64)] := A_go_
      have A_hp := A_hp.keep K_ (ninS ne_hp_go nin0)
      have A_wa := A_wa.keep K_ (ninS ne_wa_go nin0)
      refine own_aload C X at_254 rfl rfl (pc' := 256) rfl ?_
      refine own_iconst C X at_256 (v := 2) (by decide) (pc' := 257) rfl ?_
      refine own_aload C X at_257 rfl rfl (pc' := 259) rfl ?_
      refine own_iload C X at_259 rfl (pc' := 261) rfl ?_
      refine own_iconst C X at_261 (v := 2) (by decide) (pc' := 262) rfl ?_
      refine own_iadd C X at_262 (z := 3) (by decide) (pc' := 263) rfl ?_
      refine own_laload C X at_263 A_hp (by decide) (i := 3) rfl (pc' := 264) rfl ?_
      refine own_lastore C X at_264 A_go (by decide) (i := 2) (Nat.le_of_ble_eq_true rfl) ge_go (pc' := 265) rfl ?_
      intro T h X K_ A_go_
      have A_go : own_JA Z h go [r0, r1, mark, (0 : Int64), (0 : Int64)] := A_go_
      have A_hp := A_hp.keep K_ (ninS ne_hp_go nin0)
      have A_wa := A_wa.keep K_ (ninS ne_wa_go nin0)
      refine own_aload C X at_265 rfl rfl (pc' := 267) rfl ?_
      refine own_iconst C X at_267 (v := 3) (by decide) (pc' := 268) rfl ?_
      refine own_aload C X at_268 rfl rfl (pc' := 270) rfl ?_
      refine own_iload C X at_270 rfl (pc' := 272) rfl ?_
      refine own_iconst C X at_272 (v := 3) (by decide) (pc' := 273) rfl ?_
      refine own_iadd C X at_273 (z := 4) (by decide) (pc' := 274) rfl ?_
      refine own_laload C X at_274 A_hp (by decide) (i := 4) rfl (pc' := 275) rfl ?_
      refine own_lastore C X at_275 A_go (by decide) (i := 3) (Nat.le_of_ble_eq_true rfl) ge_go (pc' := 276) rfl ?_
      intro T h X K_ A_go_
      have A_go : own_JA Z h go [r0, r1, mark, mark, (0 : Int64)] := A_go_
      have A_hp := A_hp.keep K_ (ninS ne_hp_go nin0)
      have A_wa := A_wa.keep K_ (ninS ne_wa_go nin0)
      refine own_aload C X at_276 rfl rfl (pc' := 278) rfl ?_
      refine own_iconst C X at_278 (v := 4) (by decide) (pc' := 279) rfl ?_
      refine own_aload C X at_279 rfl rfl (pc' := 281) rfl ?_
      refine own_iload C X at_281 rfl (pc' := 283) rfl ?_
      refine own_iconst C X at_283 (v := 4) (by decide) (pc' := 284) rfl ?_
      refine own_iadd C X at_284 (z := 5) (by decide) (pc' := 285) rfl ?_
      refine own_laload C X at_285 A_hp (by decide) (i := 5) rfl (pc' := 286) rfl ?_
      refine own_lastore C X at_286 A_go (by decide) (i := 4) (Nat.le_of_ble_eq_true rfl) ge_go (pc' := 287) rfl ?_
      intro T h X K_ A_go_
      have A_go : own_JA Z h go [r0, r1, mark, mark, mark] := A_go_
      have A_hp := A_hp.keep K_ (ninS ne_hp_go nin0)
      have A_wa := A_wa.keep K_ (ninS ne_wa_go nin0)
      refine own_aload C X at_287 rfl rfl (pc' := 289) rfl ?_
      refine own_iload C X at_289 rfl (pc' := 291) rfl ?_
      refine own_iconst C X at_291 (v := 1) (by decide) (pc' := 292) rfl ?_
      refine own_callS C X at_292 (own_m_or1 l Z a0 hw go (2 : Int32) _ n0 (own_big C X) (by decide) r0 r1 mark mark mark A_go od1) (hw _ (List.mem_of_getElem? (i := 10) rfl)) (hw _ (List.mem_of_getElem? (i := 11) rfl)) (hw _ (List.mem_of_getElem? (i := 12) rfl)) (hw _ (List.mem_of_getElem? (i := 13) rfl)) (by decide) own_pd_4869 rfl rfl (Nat.le_of_ble_eq_true rfl) (Nat.le_of_ble_eq_true rfl) (Nat.le_of_ble_eq_true rfl) (Nat.le_of_ble_eq_true rfl) (av := [(.ref go), (.int (2 : Int32)), (.int (1 : Int32))]) (S := []) rfl (pc' := 295) rfl ?_
      intro T h v X hQ
      obtain ⟨rfl, rfl⟩ := hQ
      show own_Go p e below n0 (own_Fin room_1 s (fun v h => v = some (.int 1))) (T.setTop (mkF m 295 #[.val (.long q0), .second, .val (.long q1), .second, .val (.long q2), .second, .val (.long q3), .second, .val (.long q4), .second, .val (.int i5), .val (.int (1 : Int32)), .val (.int (2 : Int32)), .val (.long q0), .second, .val (.long h1v), .second, .val (.long h2v), .second, .val (.long h3v), .second, .val (.long h4v), .second, .val (.long mark), .second, .val (.ref hp), .val (.ref wa), .val (.ref go), .unset, .unset, .unset] [(.int (1 : Int32))]))
      refine own_if_eq C X at_295 (pcT := 335) (pc' := 298) (by decide) (by decide) rfl (fun hc295 => absurd hc295 (by decide)) (fun hc295 => ?_)
      refine own_aload C X at_298 rfl rfl (pc' := 300) rfl ?_
      refine own_iload C X at_300 rfl (pc' := 302) rfl ?_
      refine own_iconst C X at_302 (v := 2) (by decide) (pc' := 303) rfl ?_
      refine own_callS C X at_303 (own_m_orN l Z a0 hw go (2 : Int32) (2 : Int32) _ n0 (own_big C X) (by decide)) (hw _ (List.mem_of_getElem? (i := 10) rfl)) (hw _ (List.mem_of_getElem? (i := 11) rfl)) (hw _ (List.mem_of_getElem? (i := 12) rfl)) (hw _ (List.mem_of_getElem? (i := 13) rfl)) (by decide) own_pd_4869 rfl rfl (Nat.le_of_ble_eq_true rfl) (Nat.le_of_ble_eq_true rfl) (Nat.le_of_ble_eq_true rfl) (Nat.le_of_ble_eq_true rfl) (av := [(.ref go), (.int (2 : Int32)), (.int (2 : Int32))]) (S := []) rfl (pc' := 306) rfl ?_
      intro T h v X hQ
      obtain ⟨rfl, rfl⟩ := hQ
      show own_Go p e below n0 (own_Fin room_1 s (fun v h => v = some (.int 1))) (T.setTop (mkF m 306 #[.val (.long q0), .second, .val (.long q1), .second, .val (.long q2), .second, .val (.long q3), .second, .val (.long q4), .second, .val (.int i5), .val (.int (1 : Int32)), .val (.int (2 : Int32)), .val (.long q0), .second, .val (.long h1v), .second, .val (.long h2v), .second, .val (.long h3v), .second, .val (.long h4v), .second, .val (.long mark), .second, .val (.ref hp), .val (.ref wa), .val (.ref go), .unset, .unset, .unset] [(.int (1 : Int32))]))
      refine own_if_eq C X at_306 (pcT := 335) (pc' := 309) (by decide) (by decide) rfl (fun hc306 => absurd hc306 (by decide)) (fun hc306 => ?_)
      refine own_aload C X at_309 rfl rfl (pc' := 311) rfl ?_
      refine own_iload C X at_311 rfl (pc' := 313) rfl ?_
      refine own_iconst C X at_313 (v := 3) (by decide) (pc' := 314) rfl ?_
      refine own_callS C X at_314 (own_m_orN l Z a0 hw go (2 : Int32) (3 : Int32) _ n0 (own_big C X) (by decide)) (hw _ (List.mem_of_getElem? (i := 10) rfl)) (hw _ (List.mem_of_getElem? (i := 11) rfl)) (hw _ (List.mem_of_getElem? (i := 12) rfl)) (hw _ (List.mem_of_getElem? (i := 13) rfl)) (by decide) own_pd_4869 rfl rfl (Nat.le_of_ble_eq_true rfl) (Nat.le_of_ble_eq_true rfl) (Nat.le_of_ble_eq_true rfl) (Nat.le_of_ble_eq_true rfl) (av := [(.ref go), (.int (2 : Int32)), (.int (3 : Int32))]) (S := []) rfl (pc' := 317) rfl ?_
      intro T h v X hQ
      obtain ⟨rfl, rfl⟩ := hQ
      show own_Go p e below n0 (own_Fin room_1 s (fun v h => v = some (.int 1))) (T.setTop (mkF m 317 #[.val (.long q0), .second, .val (.long q1), .second, .val (.long q2), .second, .val (.long q3), .second, .val (.long q4), .second, .val (.int i5), .val (.int (1 : Int32)), .val (.int (2 : Int32)), .val (.long q0), .second, .val (.long h1v), .second, .val (.long h2v), .second, .val (.long h3v), .second, .val (.long h4v), .second, .val (.long mark), .second, .val (.ref hp), .val (.ref wa), .val (.ref go), .unset, .unset, .unset] [(.int (1 : Int32))]))
      refine own_if_eq C X at_317 (pcT := 335) (pc' := 320) (by decide) (by decide) rfl (fun hc317 => absurd hc317 (by decide)) (fun hc317 => ?_)
      refine own_aload C X at_320 rfl rfl (pc' := 322) rfl ?_
      refine own_iload C X at_322 rfl (pc' := 324) rfl ?_
      refine own_iconst C X at_324 (v := 4) (by decide) (pc' := 325) rfl ?_
      refine own_callS C X at_325 (own_m_orN l Z a0 hw go (2 : Int32) (4 : Int32) _ n0 (own_big C X) (by decide)) (hw _ (List.mem_of_getElem? (i := 10) rfl)) (hw _ (List.mem_of_getElem? (i := 11) rfl)) (hw _ (List.mem_of_getElem? (i := 12) rfl)) (hw _ (List.mem_of_getElem? (i := 13) rfl)) (by decide) own_pd_4869 rfl rfl (Nat.le_of_ble_eq_true rfl) (Nat.le_of_ble_eq_true rfl) (Nat.le_of_ble_eq_true rfl) (Nat.le_of_ble_eq_true rfl) (av := [(.ref go), (.int (2 : Int32)), (.int (4 : Int32))]) (S := []) rfl (pc' := 328) rfl ?_
      intro T h v X hQ
      obtain ⟨rfl, rfl⟩ := hQ
      show own_Go p e below n0 (own_Fin room_1 s (fun v h => v = some (.int 1))) (T.setTop (mkF m 328 #[.val (.long q0), .second, .val (.long q1), .second, .val (.long q2), .second, .val (.long q3), .second, .val (.long q4), .second, .val (.int i5), .val (.int (1 : Int32)), .val (.int (2 : Int32)), .val (.long q0), .second, .val (.long h1v), .second, .val (.long h2v), .second, .val (.long h3v), .second, .val (.long h4v), .second, .val (.long mark), .second, .val (.ref hp), .val (.ref wa), .val (.ref go), .unset, .unset, .unset] [(.int (1 : Int32))]))
      refine own_if_eq C X at_328 (pcT := 335) (pc' := 331) (by decide) (by decide) rfl (fun hc328 => absurd hc328 (by decide)) (fun hc328 => ?_)
      refine own_iconst C X at_331 (v := 1) (by decide) (pc' := 332) rfl ?_
      refine own_goto C X at_332 (pc' := 336) (by decide) (by decide) ?_
      refine own_istore C X at_336 (L' := #[.val (.long q0), .second, .val (.long q1), .second, .val (.long q2), .second, .val (.long q3), .second, .val (.long q4), .second, .val (.int i5), .val (.int (1 : Int32)), .val (.int (2 : Int32)), .val (.long q0), .second, .val (.long h1v), .second, .val (.long h2v), .second, .val (.long h3v), .second, .val (.long h4v), .second, .val (.long mark), .second, .val (.ref hp), .val (.ref wa), .val (.ref go), .val (.int (1 : Int32)), .unset, .unset]) rfl (pc' := 338) rfl ?_
      refine own_aload C X at_338 rfl rfl (pc' := 340) rfl ?_
      refine own_aload C X at_340 rfl rfl (pc' := 342) rfl ?_
      refine own_iload C X at_342 rfl (pc' := 344) rfl ?_
      refine own_iconst C X at_344 (v := 0) (by decide) (pc' := 345) rfl ?_
      refine own_callS C X at_345 (own_m_sc2 l Z a0 hw wa go (0 : Int32) _ n0 (own_big C X) q4 h1v h2v h3v h4v r0 r1 mark mark mark q4 A_wa A_go (by decide) 0 (by decide) rfl pm) (hw _ (List.mem_of_getElem? (i := 14) rfl)) (hw _ (List.mem_of_getElem? (i := 15) rfl)) (hw _ (List.mem_of_getElem? (i := 12) rfl)) (hw _ (List.mem_of_getElem? (i := 16) rfl)) (by decide) own_pd_7147 rfl rfl (Nat.le_of_ble_eq_true rfl) (Nat.le_of_ble_eq_true rfl) (Nat.le_of_ble_eq_true rfl) (Nat.le_of_ble_eq_true rfl) (av := [(.ref wa), (.ref go), (.int (2 : Int32)), (.int (0 : Int32))]) (S := []) rfl (pc' := 348) rfl ?_
      intro T h v X hQ
      obtain ⟨rfl, rfl⟩ := hQ
      show own_Go p e below n0 (own_Fin room_1 s (fun v h => v = some (.int 1))) (T.setTop (mkF m 348 #[.val (.long q0), .second, .val (.long q1), .second, .val (.long q2), .second, .val (.long q3), .second, .val (.long q4), .second, .val (.int i5), .val (.int (1 : Int32)), .val (.int (2 : Int32)), .val (.long q0), .second, .val (.long h1v), .second, .val (.long h2v), .second, .val (.long h3v), .second, .val (.long h4v), .second, .val (.long mark), .second, .val (.ref hp), .val (.ref wa), .val (.ref go), .val (.int (1 : Int32)), .unset, .unset] [(.int (1 : Int32))]))
      refine own_if_eq C X at_348 (pcT := 407) (pc' := 351) (by decide) (by decide) rfl (fun hc348 => absurd hc348 (by decide)) (fun hc348 => ?_)
      refine own_aload C X at_351 rfl rfl (pc' := 353) rfl ?_
      refine own_aload C X at_353 rfl rfl (pc' := 355) rfl ?_
      refine own_iload C X at_355 rfl (pc' := 357) rfl ?_
      refine own_iconst C X at_357 (v := 1) (by decide) (pc' := 358) rfl ?_
      refine own_callS C X at_358 (own_m_sc2 l Z a0 hw wa go (1 : Int32) _ n0 (own_big C X) q4 h1v h2v h3v h4v r0 r1 mark mark mark h1v A_wa A_go (by decide) 1 (by decide) rfl pm) (hw _ (List.mem_of_getElem? (i := 14) rfl)) (hw _ (List.mem_of_getElem? (i := 15) rfl)) (hw _ (List.mem_of_getElem? (i := 12) rfl)) (hw _ (List.mem_of_getElem? (i := 16) rfl)) (by decide) own_pd_7147 rfl rfl (Nat.le_of_ble_eq_true rfl) (Nat.le_of_ble_eq_true rfl) (Nat.le_of_ble_eq_true rfl) (Nat.le_of_ble_eq_true rfl) (av := [(.ref wa), (.ref go), (.int (2 : Int32)), (.int (1 : Int32))]) (S := []) rfl (pc' := 361) rfl ?_
      intro T h v X hQ
      obtain ⟨rfl, rfl⟩ := hQ
      show own_Go p e below n0 (own_Fin room_1 s (fun v h => v = some (.int 1))) (T.setTop (mkF m 361 #[.val (.long q0), .second, .val (.long q1), .second, .val (.long q2), .second, .val (.long q3), .second, .val (.long q4), .second, .val (.int i5), .val (.int (1 : Int32)), .val (.int (2 : Int32)), .val (.long q0), .second, .val (.long h1v), .second, .val (.long h2v), .second, .val (.long h3v), .second, .val (.long h4v), .second, .val (.long mark), .second, .val (.ref hp), .val (.ref wa), .val (.ref go), .val (.int (1 : Int32)), .unset, .unset] [(.int (1 : Int32))]))
      refine own_if_eq C X at_361 (pcT := 407) (pc' := 364) (by decide) (by decide) rfl (fun hc361 => absurd hc361 (by decide)) (fun hc361 => ?_)
      refine own_aload C X at_364 rfl rfl (pc' := 366) rfl ?_
      refine own_aload C X at_366 rfl rfl (pc' := 368) rfl ?_
      refine own_iload C X at_368 rfl (pc' := 370) rfl ?_
      refine own_iconst C X at_370 (v := 2) (by decide) (pc' := 371) rfl ?_
      refine own_callS C X at_371 (own_m_scN l Z a0 hw wa go (2 : Int32) (2 : Int32) _ n0 (own_big C X) (by decide)) (hw _ (List.mem_of_getElem? (i := 14) rfl)) (hw _ (List.mem_of_getElem? (i := 15) rfl)) (hw _ (List.mem_of_getElem? (i := 12) rfl)) (hw _ (List.mem_of_getElem? (i := 16) rfl)) (by decide) own_pd_7147 rfl rfl (Nat.le_of_ble_eq_true rfl) (Nat.le_of_ble_eq_true rfl) (Nat.le_of_ble_eq_true rfl) (Nat.le_of_ble_eq_true rfl) (av := [(.ref wa), (.ref go), (.int (2 : Int32)), (.int (2 : Int32))]) (S := []) rfl (pc' := 374) rfl ?_
      intro T h v X hQ
      obtain ⟨rfl, rfl⟩ := hQ
      show own_Go p e below n0 (own_Fin room_1 s (fun v h => v = some (.int 1))) (T.setTop (mkF m 374 #[.val (.long q0), .second, .val (.long q1), .second, .val (.long q2), .second, .val (.long q3), .second, .val (.long q4), .second, .val (.int i5), .val (.int (1 : Int32)), .val (.int (2 : Int32)), .val (.long q0), .second, .val (.long h1v), .second, .val (.long h2v), .second, .val (.long h3v), .second, .val (.long h4v), .second, .val (.long mark), .second, .val (.ref hp), .val (.ref wa), .val (.ref go), .val (.int (1 : Int32)), .unset, .unset] [(.int (1 : Int32))]))
      refine own_if_eq C X at_374 (pcT := 407) (pc' := 377) (by decide) (by decide) rfl (fun hc374 => absurd hc374 (by decide)) (fun hc374 => ?_)
      refine own_aload C X at_377 rfl rfl (pc' := 379) rfl ?_
      refine own_aload C X at_379 rfl rfl (pc' := 381) rfl ?_
      refine own_iload C X at_381 rfl (pc' := 383) rfl ?_
      refine own_iconst C X at_383 (v := 3) (by decide) (pc' := 384) rfl ?_
      refine own_callS C X at_384 (own_m_scN l Z a0 hw wa go (2 : Int32) (3 : Int32) _ n0 (own_big C X) (by decide)) (hw _ (List.mem_of_getElem? (i := 14) rfl)) (hw _ (List.mem_of_getElem? (i := 15) rfl)) (hw _ (List.mem_of_getElem? (i := 12) rfl)) (hw _ (List.mem_of_getElem? (i := 16) rfl)) (by decide) own_pd_7147 rfl rfl (Nat.le_of_ble_eq_true rfl) (Nat.le_of_ble_eq_true rfl) (Nat.le_of_ble_eq_true rfl) (Nat.le_of_ble_eq_true rfl) (av := [(.ref wa), (.ref go), (.int (2 : Int32)), (.int (3 : Int32))]) (S := []) rfl (pc' := 387) rfl ?_
      intro T h v X hQ
      obtain ⟨rfl, rfl⟩ := hQ
      show own_Go p e below n0 (own_Fin room_1 s (fun v h => v = some (.int 1))) (T.setTop (mkF m 387 #[.val (.long q0), .second, .val (.long q1), .second, .val (.long q2), .second, .val (.long q3), .second, .val (.long q4), .second, .val (.int i5), .val (.int (1 : Int32)), .val (.int (2 : Int32)), .val (.long q0), .second, .val (.long h1v), .second, .val (.long h2v), .second, .val (.long h3v), .second, .val (.long h4v), .second, .val (.long mark), .second, .val (.ref hp), .val (.ref wa), .val (.ref go), .val (.int (1 : Int32)), .unset, .unset] [(.int (1 : Int32))]))
      refine own_if_eq C X at_387 (pcT := 407) (pc' := 390) (by decide) (by decide) rfl (fun hc387 => absurd hc387 (by decide)) (fun hc387 => ?_)
      refine own_aload C X at_390 rfl rfl (pc' := 392) rfl ?_
      refine own_aload C X at_392 rfl rfl (pc' := 394) rfl ?_
      refine own_iload C X at_394 rfl (pc' := 396) rfl ?_
      refine own_iconst C X at_396 (v := 4) (by decide) (pc' := 397) rfl ?_
      refine own_callS C X at_397 (own_m_scN l Z a0 hw wa go (2 : Int32) (4 : Int32) _ n0 (own_big C X) (by decide)) (hw _ (List.mem_of_getElem? (i := 14) rfl)) (hw _ (List.mem_of_getElem? (i := 15) rfl)) (hw _ (List.mem_of_getElem? (i := 12) rfl)) (hw _ (List.mem_of_getElem? (i := 16) rfl)) (by decide) own_pd_7147 rfl rfl (Nat.le_of_ble_eq_true rfl) (Nat.le_of_ble_eq_true rfl) (Nat.le_of_ble_eq_true rfl) (Nat.le_of_ble_eq_true rfl) (av := [(.ref wa), (.ref go), (.int (2 : Int32)), (.int (4 : Int32))]) (S := []) rfl (pc' := 400) rfl ?_
      intro T h v X hQ
      obtain ⟨rfl, rfl⟩ := hQ
      show own_Go p e below n0 (own_Fin room_1 s (fun v h => v = some (.int 1))) (T.setTop (mkF m 400 #[.val (.long q0), .second, .val (.long q1), .second, .val (.long q2), .second, .val (.long q3), .second, .val (.long q4), .second, .val (.int i5), .val (.int (1 : Int32)), .val (.int (2 : Int32)), .val (.long q0), .second, .val (.long h1v), .second, .val (.long h2v), .second, .val (.long h3v), .second, .val (.long h4v), .second, .val (.long mark), .second, .val (.ref hp), .val (.ref wa), .val (.ref go), .val (.int (1 : Int32)), .unset, .unset] [(.int (1 : Int32))]))
      refine own_if_eq C X at_400 (pcT := 407) (pc' := 403) (by decide) (by decide) rfl (fun hc400 => absurd hc400 (by decide)) (fun hc400 => ?_)
      refine own_iconst C X at_403 (v := 1) (by decide) (pc' := 404) rfl ?_
      refine own_goto C X at_404 (pc' := 408) (by decide) (by decide) ?_
      refine own_istore C X at_408 (L' := #[.val (.long q0), .second, .val (.long q1), .second, .val (.long q2), .second, .val (.long q3), .second, .val (.long q4), .second, .val (.int i5), .val (.int (1 : Int32)), .val (.int (2 : Int32)), .val (.long q0), .second, .val (.long h1v), .second, .val (.long h2v), .second, .val (.long h3v), .second, .val (.long h4v), .second, .val (.long mark), .second, .val (.ref hp), .val (.ref wa), .val (.ref go), .val (.int (1 : Int32)), .val (.int (1 : Int32)), .unset]) rfl (pc' := 410) rfl ?_
      refine own_aload C X at_410 rfl rfl (pc' := 412) rfl ?_
      refine own_iconst C X at_412 (v := 0) (by decide) (pc' := 413) rfl ?_
      refine own_iload C X at_413 rfl (pc' := 415) rfl ?_
      refine own_iload C X at_415 rfl (pc' := 417) rfl ?_
      refine own_lload C X at_417 rfl (pc' := 419) rfl ?_
      refine own_callS C X at_419 (own_m_kpB l Z a0 hw hp (0 : Int32) (1 : Int32) (2 : Int32) mark _ n0 (own_big C X) (by decide) [mark, r0, r1, mark, mark, mark, mark] A_hp 0 (by decide) rfl) (hw _ (List.mem_of_getElem? (i := 20) rfl)) (hw _ (List.mem_of_getElem? (i := 21) rfl)) (hw _ (List.mem_of_getElem? (i := 12) rfl)) (hw _ (List.mem_of_getElem? (i := 22) rfl)) (by decide) own_pd_6969 rfl rfl (Nat.le_of_ble_eq_true rfl) (Nat.le_of_ble_eq_true rfl) (Nat.le_of_ble_eq_true rfl) (Nat.le_of_ble_eq_true rfl) (av := [(.ref hp), (.int (0 : Int32)), (.int (1 : Int32)), (.int (2 : Int32)), (.long mark)]) (S := []) rfl (pc' := 422) rfl ?_
      intro T h v X hQ
      obtain ⟨rfl, rfl⟩ := hQ
      show own_Go p e below n0 (own_Fin room_1 s (fun v h => v = some (.int 1))) (T.setTop (mkF m 422 #[.val (.long q0), .second, .val (.long q1), .second, .val (.long q2), .second, .val (.long q3), .second, .val (.long q4), .second, .val (.int i5), .val (.int (1 : Int32)), .val (.int (2 : Int32)), .val (.long q0), .second, .val (.long h1v), .second, .val (.long h2v), .second, .val (.long h3v), .second, .val (.long h4v), .second, .val (.long mark), .second, .val (.ref hp), .val (.ref wa), .val (.ref go), .val (.int (1 : Int32)), .val (.int (1 : Int32)), .unset] [(.int (1 : Int32))]))
      refine own_if_eq C X at_422 (pcT := 520) (pc' := 425) (by decide) (by decide) rfl (fun hc422 => absurd hc422 (by decide)) (fun hc422 => ?_)
      refine own_aload C X at_425 rfl rfl (pc' := 427) rfl ?_
      refine own_iconst C X at_427 (v := 1) (by decide) (pc' := 428) rfl ?_
      refine own_iload C X at_428 rfl (pc' := 430) rfl ?_
      refine own_iload C X at_430 rfl (pc' := 432) rfl ?_
      refine own_lload C X at_432 rfl (pc' := 434) rfl ?_
      refine own_callS C X at_434 (own_m_kpI l Z a0 hw hp (1 : Int32) (1 : Int32) (2 : Int32) mark _ n0 (own_big C X) (by decide) (by decide)) (hw _ (List.mem_of_getElem? (i := 20) rfl)) (hw _ (List.mem_of_getElem? (i := 21) rfl)) (hw _ (List.mem_of_getElem? (i := 12) rfl)) (hw _ (List.mem_of_getElem? (i := 22) rfl)) (by decide) own_pd_6969 rfl rfl (Nat.le_of_ble_eq_true rfl) (Nat.le_of_ble_eq_true rfl) (Nat.le_of_ble_eq_true rfl) (Nat.le_of_ble_eq_true rfl) (av := [(.ref hp), (.int (1 : Int32)), (.int (1 : Int32)), (.int (2 : Int32)), (.long mark)]) (S := []) rfl (pc' := 437) rfl ?_
      intro T h v X hQ
      obtain ⟨rfl, rfl⟩ := hQ
      show own_Go p e below n0 (own_Fin room_1 s (fun v h => v = some (.int 1))) (T.setTop (mkF m 437 #[.val (.long q0), .second, .val (.long q1), .second, .val (.long q2), .second, .val (.long q3), .second, .val (.long q4), .second, .val (.int i5), .val (.int (1 : Int32)), .val (.int (2 : Int32)), .val (.long q0), .second, .val (.long h1v), .second, .val (.long h2v), .second, .val (.long h3v), .second, .val (.long h4v), .second, .val (.long mark), .second, .val (.ref hp), .val (.ref wa), .val (.ref go), .val (.int (1 : Int32)), .val (.int (1 : Int32)), .unset] [(.int (1 : Int32))]))
      refine own_if_eq C X at_437 (pcT := 520) (pc' := 440) (by decide) (by decide) rfl (fun hc437 => absurd hc437 (by decide)) (fun hc437 => ?_)
      refine own_aload C X at_440 rfl rfl (pc' := 442) rfl ?_
      refine own_iconst C X at_442 (v := 2) (by decide) (pc' := 443) rfl ?_
      refine own_iload C X at_443 rfl (pc' := 445) rfl ?_
      refine own_iload C X at_445 rfl (pc' := 447) rfl ?_
      refine own_lload C X at_447 rfl (pc' := 449) rfl ?_
      refine own_callS C X at_449 (own_m_kpI l Z a0 hw hp (2 : Int32) (1 : Int32) (2 : Int32) mark _ n0 (own_big C X) (by decide) (by decide)) (hw _ (List.mem_of_getElem? (i := 20) rfl)) (hw _ (List.mem_of_getElem? (i := 21) rfl)) (hw _ (List.mem_of_getElem? (i := 12) rfl)) (hw _ (List.mem_of_getElem? (i := 22) rfl)) (by decide) own_pd_6969 rfl rfl (Nat.le_of_ble_eq_true rfl) (Nat.le_of_ble_eq_true rfl) (Nat.le_of_ble_eq_true rfl) (Nat.le_of_ble_eq_true rfl) (av := [(.ref hp), (.int (2 : Int32)), (.int (1 : Int32)), (.int (2 : Int32)), (.long mark)]) (S := []) rfl (pc' := 452) rfl ?_
      intro T h v X hQ
      obtain ⟨rfl, rfl⟩ := hQ
      show own_Go p e below n0 (own_Fin room_1 s (fun v h => v = some (.int 1))) (T.setTop (mkF m 452 #[.val (.long q0), .second, .val (.long q1), .second, .val (.long q2), .second, .val (.long q3), .second, .val (.long q4), .second, .val (.int i5), .val (.int (1 : Int32)), .val (.int (2 : Int32)), .val (.long q0), .second, .val (.long h1v), .second, .val (.long h2v), .second, .val (.long h3v), .second, .val (.long h4v), .second, .val (.long mark), .second, .val (.ref hp), .val (.ref wa), .val (.ref go), .val (.int (1 : Int32)), .val (.int (1 : Int32)), .unset] [(.int (1 : Int32))]))
      refine own_if_eq C X at_452 (pcT := 520) (pc' := 455) (by decide) (by decide) rfl (fun hc452 => absurd hc452 (by decide)) (fun hc452 => ?_)
      refine own_aload C X at_455 rfl rfl (pc' := 457) rfl ?_
      refine own_iconst C X at_457 (v := 3) (by decide) (pc' := 458) rfl ?_
      refine own_iload C X at_458 rfl (pc' := 460) rfl ?_
      refine own_iload C X at_460 rfl (pc' := 462) rfl ?_
      refine own_lload C X at_462 rfl (pc' := 464) rfl ?_
      refine own_callS C X at_464 (own_m_kpA l Z a0 hw hp (3 : Int32) (1 : Int32) (2 : Int32) mark _ n0 (own_big C X) (by decide) (by decide) [mark, r0, r1, mark, mark, mark, mark] A_hp 3 (by decide) rfl) (hw _ (List.mem_of_getElem? (i := 20) rfl)) (hw _ (List.mem_of_getElem? (i := 21) rfl)) (hw _ (List.mem_of_getElem? (i := 12) rfl)) (hw _ (List.mem_of_getElem? (i := 22) rfl)) (by decide) own_pd_6969 rfl rfl (Nat.le_of_ble_eq_true rfl) (Nat.le_of_ble_eq_true rfl) (Nat.le_of_ble_eq_true rfl) (Nat.le_of_ble_eq_true rfl) (av := [(.ref hp), (.int (3 : Int32)), (.int (1 : Int32)), (.int (2 : Int32)), (.long mark)]) (S := []) rfl (pc' := 467) rfl ?_
      intro T h v X hQ
      obtain ⟨rfl, rfl⟩ := hQ
      show own_Go p e below n0 (own_Fin room_1 s (fun v h => v = some (.int 1))) (T.setTop (mkF m 467 #[.val (.long q0), .second, .val (.long q1), .second, .val (.long q2), .second, .val (.long q3), .second, .val (.long q4), .second, .val (.int i5), .val (.int (1 : Int32)), .val (.int (2 : Int32)), .val (.long q0), .second, .val (.long h1v), .second, .val (.long h2v), .second, .val (.long h3v), .second, .val (.long h4v), .second, .val (.long mark), .second, .val (.ref hp), .val (.ref wa), .val (.ref go), .val (.int (1 : Int32)), .val (.int (1 : Int32)), .unset] [(.int (1 : Int32))]))
      refine own_if_eq C X at_467 (pcT := 520) (pc' := 470) (by decide) (by decide) rfl (fun hc467 => absurd hc467 (by decide)) (fun hc467 => ?_)
      refine own_aload C X at_470 rfl rfl (pc' := 472) rfl ?_
      refine own_iconst C X at_472 (v := 4) (by decide) (pc' := 473) rfl ?_
      refine own_iload C X at_473 rfl (pc' := 475) rfl ?_
      refine own_iload C X at_475 rfl (pc' := 477) rfl ?_
      refine own_lload C X at_477 rfl (pc' := 479) rfl ?_
      refine own_callS C X at_479 (own_m_kpA l Z a0 hw hp (4 : Int32) (1 : Int32) (2 : Int32) mark _ n0 (own_big C X) (by decide) (by decide) [mark, r0, r1, mark, mark, mark, mark] A_hp 4 (by decide) rfl) (hw _ (List.mem_of_getElem? (i := 20) rfl)) (hw _ (List.mem_of_getElem? (i := 21) rfl)) (hw _ (List.mem_of_getElem? (i := 12) rfl)) (hw _ (List.mem_of_getElem? (i := 22) rfl)) (by decide) own_pd_6969 rfl rfl (Nat.le_of_ble_eq_true rfl) (Nat.le_of_ble_eq_true rfl) (Nat.le_of_ble_eq_true rfl) (Nat.le_of_ble_eq_true rfl) (av := [(.ref hp), (.int (4 : Int32)), (.int (1 : Int32)), (.int (2 : Int32)), (.long mark)]) (S := []) rfl (pc' := 482) rfl ?_
      intro T h v X hQ
      obtain ⟨rfl, rfl⟩ := hQ
      show own_Go p e below n0 (own_Fin room_1 s (fun v h => v = some (.int 1))) (T.setTop (mkF m 482 #[.val (.long q0), .second, .val (.long q1), .second, .val (.long q2), .second, .val (.long q3), .second, .val (.long q4), .second, .val (.int i5), .val (.int (1 : Int32)), .val (.int (2 : Int32)), .val (.long q0), .second, .val (.long h1v), .second, .val (.long h2v), .second, .val (.long h3v), .second, .val (.long h4v), .second, .val (.long mark), .second, .val (.ref hp), .val (.ref wa), .val (.ref go), .val (.int (1 : Int32)), .val (.int (1 : Int32)), .unset] [(.int (1 : Int32))]))
      refine own_if_eq C X at_482 (pcT := 520) (pc' := 485) (by decide) (by decide) rfl (fun hc482 => absurd hc482 (by decide)) (fun hc482 => ?_)
      refine own_aload C X at_485 rfl rfl (pc' := 487) rfl ?_
      refine own_iconst C X at_487 (v := 5) (by decide) (pc' := 488) rfl ?_
      refine own_iload C X at_488 rfl (pc' := 490) rfl ?_
      refine own_iload C X at_490 rfl (pc' := 492) rfl ?_
      refine own_lload C X at_492 rfl (pc' := 494) rfl ?_
      refine own_callS C X at_494 (own_m_kpA l Z a0 hw hp (5 : Int32) (1 : Int32) (2 : Int32) mark _ n0 (own_big C X) (by decide) (by decide) [mark, r0, r1, mark, mark, mark, mark] A_hp 5 (by decide) rfl) (hw _ (List.mem_of_getElem? (i := 20) rfl)) (hw _ (List.mem_of_getElem? (i := 21) rfl)) (hw _ (List.mem_of_getElem? (i := 12) rfl)) (hw _ (List.mem_of_getElem? (i := 22) rfl)) (by decide) own_pd_6969 rfl rfl (Nat.le_of_ble_eq_true rfl) (Nat.le_of_ble_eq_true rfl) (Nat.le_of_ble_eq_true rfl) (Nat.le_of_ble_eq_true rfl) (av := [(.ref hp), (.int (5 : Int32)), (.int (1 : Int32)), (.int (2 : Int32)), (.long mark)]) (S := []) rfl (pc' := 497) rfl ?_
      intro T h v X hQ
      obtain ⟨rfl, rfl⟩ := hQ
      show own_Go p e below n0 (own_Fin room_1 s (fun v h => v = some (.int 1))) (T.setTop (mkF m 497 #[.val (.long q0), .second, .val (.long q1), .second, .val (.long q2), .second, .val (.long q3), .second, .val (.long q4), .second, .val (.int i5), .val (.int (1 : Int32)), .val (.int (2 : Int32)), .val (.long q0), .second, .val (.long h1v), .second, .val (.long h2v), .second, .val (.long h3v), .second, .val (.long h4v), .second, .val (.long mark), .second, .val (.ref hp), .val (.ref wa), .val (.ref go), .val (.int (1 : Int32)), .val (.int (1 : Int32)), .unset] [(.int (1 : Int32))]))
      refine own_if_eq C X at_497 (pcT := 520) (pc' := 500) (by decide) (by decide) rfl (fun hc497 => absurd hc497 (by decide)) (fun hc497 => ?_)
      refine own_aload C X at_500 rfl rfl (pc' := 502) rfl ?_
      refine own_bipush C X at_502 (v := 6) (by decide) (pc' := 504) rfl ?_
      refine own_iload C X at_504 rfl (pc' := 506) rfl ?_
      refine own_iload C X at_506 rfl (pc' := 508) rfl ?_
      refine own_lload C X at_508 rfl (pc' := 510) rfl ?_
      refine own_callS C X at_510 (own_m_kpA l Z a0 hw hp (6 : Int32) (1 : Int32) (2 : Int32) mark _ n0 (own_big C X) (by decide) (by decide) [mark, r0, r1, mark, mark, mark, mark] A_hp 6 (by decide) rfl) (hw _ (List.mem_of_getElem? (i := 20) rfl)) (hw _ (List.mem_of_getElem? (i := 21) rfl)) (hw _ (List.mem_of_getElem? (i := 12) rfl)) (hw _ (List.mem_of_getElem? (i := 22) rfl)) (by decide) own_pd_6969 rfl rfl (Nat.le_of_ble_eq_true rfl) (Nat.le_of_ble_eq_true rfl) (Nat.le_of_ble_eq_true rfl) (Nat.le_of_ble_eq_true rfl) (av := [(.ref hp), (.int (6 : Int32)), (.int (1 : Int32)), (.int (2 : Int32)), (.long mark)]) (S := []) rfl (pc' := 513) rfl ?_
      intro T h v X hQ
      obtain ⟨rfl, rfl⟩ := hQ
      show own_Go p e below n0 (own_Fin room_1 s (fun v h => v = some (.int 1))) (T.setTop (mkF m 513 #[.val (.long q0), .second, .val (.long q1), .second, .val (.long q2), .second, .val (.long q3), .second, .val (.long q4), .second, .val (.int i5), .val (.int (1 : Int32)), .val (.int (2 : Int32)), .val (.long q0), .second, .val (.long h1v), .second, .val (.long h2v), .second, .val (.long h3v), .second, .val (.long h4v), .second, .val (.long mark), .second, .val (.ref hp), .val (.ref wa), .val (.ref go), .val (.int (1 : Int32)), .val (.int (1 : Int32)), .unset] [(.int (1 : Int32))]))
      refine own_if_eq C X at_513 (pcT := 520) (pc' := 516) (by decide) (by decide) rfl (fun hc513 => absurd hc513 (by decide)) (fun hc513 => ?_)
      refine own_iconst C X at_516 (v := 1) (by decide) (pc' := 517) rfl ?_
      refine own_goto C X at_517 (pc' := 521) (by decide) (by decide) ?_
      refine own_istore C X at_521 (L' := #[.val (.long q0), .second, .val (.long q1), .second, .val (.long q2), .second, .val (.long q3), .second, .val (.long q4), .second, .val (.int i5), .val (.int (1 : Int32)), .val (.int (2 : Int32)), .val (.long q0), .second, .val (.long h1v), .second, .val (.long h2v), .second, .val (.long h3v), .second, .val (.long h4v), .second, .val (.long mark), .second, .val (.ref hp), .val (.ref wa), .val (.ref go), .val (.int (1 : Int32)), .val (.int (1 : Int32)), .val (.int (1 : Int32))]) rfl (pc' := 523) rfl ?_
      refine own_iload C X at_523 rfl (pc' := 525) rfl ?_
      refine own_if_eq C X at_525 (pcT := 542) (pc' := 528) (by decide) (by decide) rfl (fun hc525 => absurd hc525 (by decide)) (fun hc525 => ?_)
      refine own_iload C X at_528 rfl (pc' := 530) rfl ?_
      refine own_if_eq C X at_530 (pcT := 542) (pc' := 533) (by decide) (by decide) rfl (fun hc530 => absurd hc530 (by decide)) (fun hc530 => ?_)
      refine own_iload C X at_533 rfl (pc' := 535) rfl ?_
      refine own_if_eq C X at_535 (pcT := 542) (pc' := 538) (by decide) (by decide) rfl (fun hc535 => absurd hc535 (by decide)) (fun hc535 => ?_)
      refine own_iconst C X at_538 (v := 1) (by decide) (pc' := 539) rfl ?_
      refine own_goto C X at_539 (pc' := 543) (by decide) (by decide) ?_
      exact own_ireturn_z C X at_543 (Nat.le_of_ble_eq_true rfl) (Nat.le_of_ble_eq_true rfl) (rfl)
  · rcases own_of _ off e_off with rfl | rfl
    · refine own_aload C X at_116 rfl rfl (pc' := 118) rfl ?_
      refine own_iload C X at_118 rfl (pc' := 120) rfl ?_
      refine own_lload C X at_120 rfl (pc' := 122) rfl ?_
      refine own_lastore C X at_122 A_hp (by decide) (i := 0) (Nat.le_of_ble_eq_true rfl) ge_hp (pc' := 123) rfl ?_
      intro T h X K_ A_hp_
      have A_hp : own_JA Z h hp [q0, mark, mark, mark, mark, mark, mark] := A_hp_
      refine own_iload C X at_123 rfl (pc' := 125) rfl ?_
      refine own_iconst C X at_125 (v := 1) (by decide) (pc' := 126) rfl ?_
      refine own_icmp_le C X at_126 (pcT := 138) (pc' := 129) (by decide) (by decide) rfl (fun hc126 => absurd hc126 (by decide)) (fun hc126 => ?_)
      refine own_aload C X at_129 rfl rfl (pc' := 131) rfl ?_
      refine own_iload C X at_131 rfl (pc' := 133) rfl ?_
      refine own_iconst C X at_133 (v := 1) (by decide) (pc' := 134) rfl ?_
      refine own_iadd C X at_134 (z := 1) (by decide) (pc' := 135) rfl ?_
      refine own_lload C X at_135 rfl (pc' := 137) rfl ?_
      refine own_lastore C X at_137 A_hp (by decide) (i := 1) (Nat.le_of_ble_eq_true rfl) ge_hp (pc' := 138) rfl ?_
      intro T h X K_ A_hp_
      have A_hp : own_JA Z h hp [q0, h1v, mark, mark, mark, mark, mark] := A_hp_
      refine own_iload C X at_138 rfl (pc' := 140) rfl ?_
      refine own_iconst C X at_140 (v := 2) (by decide) (pc' := 141) rfl ?_
      refine own_icmp_le C X at_141 (pcT := 153) (pc' := 144) (by decide) (by decide) rfl (fun hc141 => absurd hc141 (by decide)) (fun hc141 => ?_)
      refine own_aload C X at_144 rfl rfl (pc' := 146) rfl ?_
      refine own_iload C X at_146 rfl (pc' := 148) rfl ?_
      refine own_iconst C X at_148 (v := 2) (by decide) (pc' := 149) rfl ?_
      refine own_iadd C X at_149 (z := 2) (by decide) (pc' := 150) rfl ?_
      refine own_lload C X at_150 rfl (pc' := 152) rfl ?_
      refine own_lastore C X at_152 A_hp (by decide) (i := 2) (Nat.le_of_ble_eq_true rfl) ge_hp (pc' := 153) rfl ?_
      intro T h X K_ A_hp_
      have A_hp : own_JA Z h hp [q0, h1v, h2v, mark, mark, mark, mark] := A_hp_
      refine own_iload C X at_153 rfl (pc' := 155) rfl ?_
      refine own_iconst C X at_155 (v := 3) (by decide) (pc' := 156) rfl ?_
      refine own_icmp_le C X at_156 (pcT := 168) (pc' := 159) (by decide) (by decide) rfl (fun hc156 => ?_) (fun hc156 => absurd hc156 (by decide))
      refine own_iload C X at_168 rfl (pc' := 170) rfl ?_
      refine own_iconst C X at_170 (v := 4) (by decide) (pc' := 171) rfl ?_
      refine own_icmp_le C X at_171 (pcT := 183) (pc' := 174) (by decide) (by decide) rfl (fun hc171 => ?_) (fun hc171 => absurd hc171 (by decide))
      refine own_iconst C X at_183 (v := 5) (by decide) (pc' := 184) rfl ?_
      refine own_newJ C X at_184 (hw _ (List.mem_of_getElem? (i := 5) rfl)) (by decide) (k := 5) (cap := 5) (Nat.le_of_ble_eq_true rfl) (by decide) (Nat.le_of_ble_eq_true rfl) (Nat.le_of_ble_eq_true rfl) (pc' := 186) rfl ?_
      intro T h wa e_wa X K_ ge_wa A_wa_
      have ne_hp_wa : hp ≠ wa := by rw [e_wa]; exact Nat.ne_of_lt A_hp.lt
      have A_wa : own_JA Z h wa [(0 : Int64), (0 : Int64), (0 : Int64), (0 : Int64), (0 : Int64)] := A_wa_
      have A_hp := A_hp.keep K_ nin0
      refine own_astore C X at_186 rfl (L' := #[.val (.long q0), .second, .val (.long q1), .second, .val (.long q2), .second, .val (.long q3), .second, .val (.long q4), .second, .val (.int i5), .val (.int (0 : Int32)), .val (.int (3 : Int32)), .val (.long q0), .second, .val (.long h1v), .second, .val (.long h2v), .second, .val (.long h3v), .second, .val (.long h4v), .second, .val (.long mark), .second, .val (.ref hp), .val (.ref wa), .unset, .unset, .unset, .unset]) rfl (pc' := 188) rfl ?_
      refine own_aload C X at_188 rfl rfl (pc' := 190) rfl ?_
      refine own_iconst C X at_190 (v := 0) (by decide) (pc' := 191) rfl ?_
      refine own_lload C X at_191 rfl (pc' := 193) rfl ?_
      refine own_lastore C X at_193 A_wa (by decide) (i := 0) (Nat.le_of_ble_eq_true rfl) ge_wa (pc' := 194) rfl ?_
      intro T h X K_ A_wa_
      have A_wa : own_JA Z h wa [q4, (0 : Int64), (0 : Int64), (0 : Int64), (0 : Int64)] := A_wa_
      have A_hp := A_hp.keep K_ (ninS ne_hp_wa nin0)
      refine own_aload C X at_194 rfl rfl (pc' := 196) rfl ?_
      refine own_iconst C X at_196 (v := 1) (by decide) (pc' := 197) rfl ?_
      refine own_lload C X at_197 rfl (pc' := 199) rfl ?_
      refine own_lastore C X at_199 A_wa (by decide) (i := 1) (Nat.le_of_ble_eq_true rfl) ge_wa (pc' := 200) rfl ?_
      intro T h X K_ A_wa_
      have A_wa : own_JA Z h wa [q4, h1v, (0 : Int64), (0 : Int64), (0 : Int64)] := A_wa_
      have A_hp := A_hp.keep K_ (ninS ne_hp_wa nin0)
      refine own_aload C X at_200 rfl rfl (pc' := 202) rfl ?_
      refine own_iconst C X at_202 (v := 2) (by decide) (pc' := 203) rfl ?_
      refine own_lload C X at_203 rfl (pc' := 205) rfl ?_
      refine own_lastore C X at_205 A_wa (by decide) (i := 2) (Nat.le_of_ble_eq_true rfl) ge_wa (pc' := 206) rfl ?_
      intro T h X K_ A_wa_
      have A_wa : own_JA Z h wa [q4, h1v, h2v, (0 : Int64), (0 : Int64)] := A_wa_
      have A_hp := A_hp.keep K_ (ninS ne_hp_wa nin0)
      refine own_aload C X at_206 rfl rfl (pc' := 208) rfl ?_
      refine own_iconst C X at_208 (v := 3) (by decide) (pc' := 209) rfl ?_
      refine own_lload C X at_209 rfl (pc' := 211) rfl ?_
      refine own_lastore C X at_211 A_wa (by decide) (i := 3) (Nat.le_of_ble_eq_true rfl) ge_wa (pc' := 212) rfl ?_
      intro T h X K_ A_wa_
      have A_wa : own_JA Z h wa [q4, h1v, h2v, h3v, (0 : Int64)] := A_wa_
      have A_hp := A_hp.keep K_ (ninS ne_hp_wa nin0)
      refine own_aload C X at_212 rfl rfl (pc' := 214) rfl ?_
      refine own_iconst C X at_214 (v := 4) (by decide) (pc' := 215) rfl ?_
      refine own_lload C X at_215 rfl (pc' := 217) rfl ?_
      refine own_lastore C X at_217 A_wa (by decide) (i := 4) (Nat.le_of_ble_eq_true rfl) ge_wa (pc' := 218) rfl ?_
      intro T h X K_ A_wa_
      have A_wa : own_JA Z h wa [q4, h1v, h2v, h3v, h4v] := A_wa_
      have A_hp := A_hp.keep K_ (ninS ne_hp_wa nin0)
      refine own_aload C X at_218 rfl rfl (pc' := 220) rfl ?_
      refine own_iload C X at_220 rfl (pc' := 222) rfl ?_
      refine own_iload C X at_222 rfl (pc' := 224) rfl ?_
      refine own_lload C X at_224 rfl (pc' := 226) rfl ?_
      refine own_callS C X at_226 (own_m_rl30 l Z a0 hw hp q4 _ n0 (own_big C X) q0 h1v h2v mark A_hp ge_hp ) (hw _ (List.mem_of_getElem? (i := 6) rfl)) (hw _ (List.mem_of_getElem? (i := 7) rfl)) (hw _ (List.mem_of_getElem? (i := 8) rfl)) (hw _ (List.mem_of_getElem? (i := 9) rfl)) (by decide) own_pd_5832 rfl rfl (Nat.le_of_ble_eq_true rfl) (Nat.le_of_ble_eq_true rfl) (Nat.le_of_ble_eq_true rfl) (Nat.le_of_ble_eq_true rfl) (av := [(.ref hp), (.int (0 : Int32)), (.int (3 : Int32)), (.long q4)]) (S := []) rfl (pc' := 229) rfl ?_
      intro T h v X hQ
      obtain ⟨rfl, r0, r1, r2, K_, A_hp, od, pm⟩ := hQ
      have A_wa := A_wa.keep K_ (ninS (Ne.symm ne_hp_wa) nin0)
      show own_Go p e below n0 (own_Fin room_1 s (fun v h => v = some (.int 1))) (T.setTop (mkF m 229 #[.val (.long q0), .second, .val (.long q1), .second, .val (.long q2), .second, .val (.long q3), .second, .val (.long q4), .second, .val (.int i5), .val (.int (0 : Int32)), .val (.int (3 : Int32)), .val (.long q0), .second, .val (.long h1v), .second, .val (.long h2v), .second, .val (.long h3v), .second, .val (.long h4v), .second, .val (.long mark), .second, .val (.ref hp), .val (.ref wa), .unset, .unset, .unset, .unset] []))
      obtain ⟨od1, od2, -⟩ := od
      refine own_iconst C X at_229 (v := 5) (by decide) (pc' := 230) rfl ?_
      refine own_newJ C X at_230 (hw _ (List.mem_of_getElem? (i := 5) rfl)) (by decide) (k := 5) (cap := 5) (Nat.le_of_ble_eq_true rfl) (by decide) (Nat.le_of_ble_eq_true rfl) (Nat.le_of_ble_eq_true rfl) (pc' := 232) rfl ?_
      intro T h go e_go X K_ ge_go A_go_
      have ne_hp_go : hp ≠ go := by rw [e_go]; exact Nat.ne_of_lt A_hp.lt
      have ne_wa_go : wa ≠ go := by rw [e_go]; exact Nat.ne_of_lt A_wa.lt
      have A_go : own_JA Z h go [(0 : Int64), (0 : Int64), (0 : Int64), (0 : Int64), (0 : Int64)] := A_go_
      have A_hp := A_hp.keep K_ nin0
      have A_wa := A_wa.keep K_ nin0
      refine own_astore C X at_232 rfl (L' := #[.val (.long q0), .second, .val (.long q1), .second, .val (.long q2), .second, .val (.long q3), .second, .val (.long q4), .second, .val (.int i5), .val (.int (0 : Int32)), .val (.int (3 : Int32)), .val (.long q0), .second, .val (.long h1v), .second, .val (.long h2v), .second, .val (.long h3v), .second, .val (.long h4v), .second, .val (.long mark), .second, .val (.ref hp), .val (.ref wa), .val (.ref go), .unset, .unset, .unset]) rfl (pc' := 234) rfl ?_
      refine own_aload C X at_234 rfl rfl (pc' := 236) rfl ?_
      refine own_iconst C X at_236 (v := 0) (by decide) (pc' := 237) rfl ?_
      refine own_aload C X at_237 rfl rfl (pc' := 239) rfl ?_
      refine own_iload C X at_239 rfl (pc' := 241) rfl ?_
      refine own_laload C X at_241 A_hp (by decide) (i := 0) rfl (pc' := 242) rfl ?_
      refine own_lastore C X at_242 A_go (by decide) (i := 0) (Nat.le_of_ble_eq_true rfl) ge_go (pc' := 243) rfl ?_
      intro T h X K_ A_go_
      have A_go : own_JA Z h go [r0, (0 : Int64), (0 : Int64), (0 : Int64), (0 : Int64)] := A_go_
      have A_hp := A_hp.keep K_ (ninS ne_hp_go nin0)
      have A_wa := A_wa.keep K_ (ninS ne_wa_go nin0)
      refine own_aload C X at_243 rfl rfl (pc' := 245) rfl ?_
      refine own_iconst C X at_245 (v := 1) (by decide) (pc' := 246) rfl ?_
      refine own_aload C X at_246 rfl rfl (pc' := 248) rfl ?_
      refine own_iload C X at_248 rfl (pc' := 250) rfl ?_
      refine own_iconst C X at_250 (v := 1) (by decide) (pc' := 251) rfl ?_
      refine own_iadd C X at_251 (z := 1) (by decide) (pc' := 252) rfl ?_
      refine own_laload C X at_252 A_hp (by decide) (i := 1) rfl (pc' := 253) rfl ?_
      refine own_lastore C X at_253 A_go (by decide) (i := 1) (Nat.le_of_ble_eq_true rfl) ge_go (pc' := 254) rfl ?_
      intro T h X K_ A_go_
      have A_go : own_JA Z h go [r0, r1, (0 : Int64), (0 : Int64), (0 : Int64)] := A_go_
      have A_hp := A_hp.keep K_ (ninS ne_hp_go nin0)
      have A_wa := A_wa.keep K_ (ninS ne_wa_go nin0)
      refine own_aload C X at_254 rfl rfl (pc' := 256) rfl ?_
      refine own_iconst C X at_256 (v := 2) (by decide) (pc' := 257) rfl ?_
      refine own_aload C X at_257 rfl rfl (pc' := 259) rfl ?_
      refine own_iload C X at_259 rfl (pc' := 261) rfl ?_
      refine own_iconst C X at_261 (v := 2) (by decide) (pc' := 262) rfl ?_
      refine own_iadd C X at_262 (z := 2) (by decide) (pc' := 263) rfl ?_
      refine own_laload C X at_263 A_hp (by decide) (i := 2) rfl (pc' := 264) rfl ?_
      refine own_lastore C X at_264 A_go (by decide) (i := 2) (Nat.le_of_ble_eq_true rfl) ge_go (pc' := 265) rfl ?_
      intro T h X K_ A_go_
      have A_go : own_JA Z h go [r0, r1, r2, (0 : Int64), (0 : Int64)] := A_go_
      have A_hp := A_hp.keep K_ (ninS ne_hp_go nin0)
      have A_wa := A_wa.keep K_ (ninS ne_wa_go nin0)
      refine own_aload C X at_265 rfl rfl (pc' := 267) rfl ?_
      refine own_iconst C X at_267 (v := 3) (by decide) (pc' := 268) rfl ?_
      refine own_aload C X at_268 rfl rfl (pc' := 270) rfl ?_
      refine own_iload C X at_270 rfl (pc' := 272) rfl ?_
      refine own_iconst C X at_272 (v := 3) (by decide) (pc' := 273) rfl ?_
      refine own_iadd C X at_273 (z := 3) (by decide) (pc' := 274) rfl ?_
      refine own_laload C X at_274 A_hp (by decide) (i := 3) rfl (pc' := 275) rfl ?_
      refine own_lastore C X at_275 A_go (by decide) (i := 3) (Nat.le_of_ble_eq_true rfl) ge_go (pc' := 276) rfl ?_
      intro T h X K_ A_go_
      have A_go : own_JA Z h go [r0, r1, r2, mark, (0 : Int64)] := A_go_
      have A_hp := A_hp.keep K_ (ninS ne_hp_go nin0)
      have A_wa := A_wa.keep K_ (ninS ne_wa_go nin0)
      refine own_aload C X at_276 rfl rfl (pc' := 278) rfl ?_
      refine own_iconst C X at_278 (v := 4) (by decide) (pc' := 279) rfl ?_
      refine own_aload C X at_279 rfl rfl (pc' := 281) rfl ?_
      refine own_iload C X at_281 rfl (pc' := 283) rfl ?_
      refine own_iconst C X at_283 (v := 4) (by decide) (pc' := 284) rfl ?_
      refine own_iadd C X at_284 (z := 4) (by decide) (pc' := 285) rfl ?_
      refine own_laload C X at_285 A_hp (by decide) (i := 4) rfl (pc' := 286) rfl ?_
      refine own_lastore C X at_286 A_go (by decide) (i := 4) (Nat.le_of_ble_eq_true rfl) ge_go (pc' := 287) rfl ?_
      intro T h X K_ A_go_
      have A_go : own_JA Z h go [r0, r1, r2, mark, mark] := A_go_
      have A_hp := A_hp.keep K_ (ninS ne_hp_go nin0)
      have A_wa := A_wa.keep K_ (ninS ne_wa_go nin0)
      refine own_aload C X at_287 rfl rfl (pc' := 289) rfl ?_
      refine own_iload C X at_289 rfl (pc' := 291) rfl ?_
      refine own_iconst C X at_291 (v := 1) (by decide) (pc' := 292) rfl ?_
      refine own_callS C X at_292 (own_m_or1 l Z a0 hw go (3 : Int32) _ n0 (own_big C X) (by decide) r0 r1 r2 mark mark A_go od1) (hw _ (List.mem_of_getElem? (i := 10) rfl)) (hw _ (List.mem_of_getElem? (i := 11) rfl)) (hw _ (List.mem_of_getElem? (i := 12) rfl)) (hw _ (List.mem_of_getElem? (i := 13) rfl)) (by decide) own_pd_4869 rfl rfl (Nat.le_of_ble_eq_true rfl) (Nat.le_of_ble_eq_true rfl) (Nat.le_of_ble_eq_true rfl) (Nat.le_of_ble_eq_true rfl) (av := [(.ref go), (.int (3 : Int32)), (.int (1 : Int32))]) (S := []) rfl (pc' := 295) rfl ?_
      intro T h v X hQ
      obtain ⟨rfl, rfl⟩ := hQ
      show own_Go p e below n0 (own_Fin room_1 s (fun v h => v = some (.int 1))) (T.setTop (mkF m 295 #[.val (.long q0), .second, .val (.long q1), .second, .val (.long q2), .second, .val (.long q3), .second, .val (.long q4), .second, .val (.int i5), .val (.int (0 : Int32)), .val (.int (3 : Int32)), .val (.long q0), .second, .val (.long h1v), .second, .val (.long h2v), .second, .val (.long h3v), .second, .val (.long h4v), .second, .val (.long mark), .second, .val (.ref hp), .val (.ref wa), .val (.ref go), .unset, .unset, .unset] [(.int (1 : Int32))]))
      refine own_if_eq C X at_295 (pcT := 335) (pc' := 298) (by decide) (by decide) rfl (fun hc295 => absurd hc295 (by decide)) (fun hc295 => ?_)
      refine own_aload C X at_298 rfl rfl (pc' := 300) rfl ?_
      refine own_iload C X at_300 rfl (pc' := 302) rfl ?_
      refine own_iconst C X at_302 (v := 2) (by decide) (pc' := 303) rfl ?_
      refine own_callS C X at_303 (own_m_or2 l Z a0 hw go (3 : Int32) _ n0 (own_big C X) (by decide) r0 r1 r2 mark mark A_go od2) (hw _ (List.mem_of_getElem? (i := 10) rfl)) (hw _ (List.mem_of_getElem? (i := 11) rfl)) (hw _ (List.mem_of_getElem? (i := 12) rfl)) (hw _ (List.mem_of_getElem? (i := 13) rfl)) (by decide) own_pd_4869 rfl rfl (Nat.le_of_ble_eq_true rfl) (Nat.le_of_ble_eq_true rfl) (Nat.le_of_ble_eq_true rfl) (Nat.le_of_ble_eq_true rfl) (av := [(.ref go), (.int (3 : Int32)), (.int (2 : Int32))]) (S := []) rfl (pc' := 306) rfl ?_
      intro T h v X hQ
      obtain ⟨rfl, rfl⟩ := hQ
      show own_Go p e below n0 (own_Fin room_1 s (fun v h => v = some (.int 1))) (T.setTop (mkF m 306 #[.val (.long q0), .second, .val (.long q1), .second, .val (.long q2), .second, .val (.long q3), .second, .val (.long q4), .second, .val (.int i5), .val (.int (0 : Int32)), .val (.int (3 : Int32)), .val (.long q0), .second, .val (.long h1v), .second, .val (.long h2v), .second, .val (.long h3v), .second, .val (.long h4v), .second, .val (.long mark), .second, .val (.ref hp), .val (.ref wa), .val (.ref go), .unset, .unset, .unset] [(.int (1 : Int32))]))
      refine own_if_eq C X at_306 (pcT := 335) (pc' := 309) (by decide) (by decide) rfl (fun hc306 => absurd hc306 (by decide)) (fun hc306 => ?_)
      refine own_aload C X at_309 rfl rfl (pc' := 311) rfl ?_
      refine own_iload C X at_311 rfl (pc' := 313) rfl ?_
      refine own_iconst C X at_313 (v := 3) (by decide) (pc' := 314) rfl ?_
      refine own_callS C X at_314 (own_m_orN l Z a0 hw go (3 : Int32) (3 : Int32) _ n0 (own_big C X) (by decide)) (hw _ (List.mem_of_getElem? (i := 10) rfl)) (hw _ (List.mem_of_getElem? (i := 11) rfl)) (hw _ (List.mem_of_getElem? (i := 12) rfl)) (hw _ (List.mem_of_getElem? (i := 13) rfl)) (by decide) own_pd_4869 rfl rfl (Nat.le_of_ble_eq_true rfl) (Nat.le_of_ble_eq_true rfl) (Nat.le_of_ble_eq_true rfl) (Nat.le_of_ble_eq_true rfl) (av := [(.ref go), (.int (3 : Int32)), (.int (3 : Int32))]) (S := []) rfl (pc' := 317) rfl ?_
      intro T h v X hQ
      obtain ⟨rfl, rfl⟩ := hQ
      show own_Go p e below n0 (own_Fin room_1 s (fun v h => v = some (.int 1))) (T.setTop (mkF m 317 #[.val (.long q0), .second, .val (.long q1), .second, .val (.long q2), .second, .val (.long q3), .second, .val (.long q4), .second, .val (.int i5), .val (.int (0 : Int32)), .val (.int (3 : Int32)), .val (.long q0), .second, .val (.long h1v), .second, .val (.long h2v), .second, .val (.long h3v), .second, .val (.long h4v), .second, .val (.long mark), .second, .val (.ref hp), .val (.ref wa), .val (.ref go), .unset, .unset, .unset] [(.int (1 : Int32))]))
      refine own_if_eq C X at_317 (pcT := 335) (pc' := 320) (by decide) (by decide) rfl (fun hc317 => absurd hc317 (by decide)) (fun hc317 => ?_)
      refine own_aload C X at_320 rfl rfl (pc' := 322) rfl ?_
      refine own_iload C X at_322 rfl (pc' := 324) rfl ?_
      refine own_iconst C X at_324 (v := 4) (by decide) (pc' := 325) rfl ?_
      refine own_callS C X at_325 (own_m_orN l Z a0 hw go (3 : Int32) (4 : Int32) _ n0 (own_big C X) (by decide)) (hw _ (List.mem_of_getElem? (i := 10) rfl)) (hw _ (List.mem_of_getElem? (i := 11) rfl)) (hw _ (List.mem_of_getElem? (i := 12) rfl)) (hw _ (List.mem_of_getElem? (i := 13) rfl)) (by decide) own_pd_4869 rfl rfl (Nat.le_of_ble_eq_true rfl) (Nat.le_of_ble_eq_true rfl) (Nat.le_of_ble_eq_true rfl) (Nat.le_of_ble_eq_true rfl) (av := [(.ref go), (.int (3 : Int32)), (.int (4 : Int32))]) (S := []) rfl (pc' := 328) rfl ?_
      intro T h v X hQ
      obtain ⟨rfl, rfl⟩ := hQ
      show own_Go p e below n0 (own_Fin room_1 s (fun v h => v = some (.int 1))) (T.setTop (mkF m 328 #[.val (.long q0), .second, .val (.long q1), .second, .val (.long q2), .second, .val (.long q3), .second, .val (.long q4), .second, .val (.int i5), .val (.int (0 : Int32)), .val (.int (3 : Int32)), .val (.long q0), .second, .val (.long h1v), .second, .val (.long h2v), .second, .val (.long h3v), .second, .val (.long h4v), .second, .val (.long mark), .second, .val (.ref hp), .val (.ref wa), .val (.ref go), .unset, .unset, .unset] [(.int (1 : Int32))]))
      refine own_if_eq C X at_328 (pcT := 335) (pc' := 331) (by decide) (by decide) rfl (fun hc328 => absurd hc328 (by decide)) (fun hc328 => ?_)
      refine own_iconst C X at_331 (v := 1) (by decide) (pc' := 332) rfl ?_
      refine own_goto C X at_332 (pc' := 336) (by decide) (by decide) ?_
      refine own_istore C X at_336 (L' := #[.val (.long q0), .second, .val (.long q1), .second, .val (.long q2), .second, .val (.long q3), .second, .val (.long q4), .second, .val (.int i5), .val (.int (0 : Int32)), .val (.int (3 : Int32)), .val (.long q0), .second, .val (.long h1v), .second, .val (.long h2v), .second, .val (.long h3v), .second, .val (.long h4v), .second, .val (.long mark), .second, .val (.ref hp), .val (.ref wa), .val (.ref go), .val (.int (1 : Int32)), .unset, .unset]) rfl (pc' := 338) rfl ?_
      refine own_aload C X at_338 rfl rfl (pc' := 340) rfl ?_
      refine own_aload C X at_340 rfl rfl (pc' := 342) rfl ?_
      refine own_iload C X at_342 rfl (pc' := 344) rfl ?_
      refine own_iconst C X at_344 (v := 0) (by decide) (pc' := 345) rfl ?_
      refine own_callS C X at_345 (own_m_sc3 l Z a0 hw wa go (0 : Int32) _ n0 (own_big C X) q4 h1v h2v h3v h4v r0 r1 r2 mark mark q4 A_wa A_go (by decide) 0 (by decide) rfl pm) (hw _ (List.mem_of_getElem? (i := 14) rfl)) (hw _ (List.mem_of_getElem? (i := 15) rfl)) (hw _ (List.mem_of_getElem? (i := 12) rfl)) (hw _ (List.mem_of_getElem? (i := 16) rfl)) (by decide) own_pd_7147 rfl rfl (Nat.le_of_ble_eq_true rfl) (Nat.le_of_ble_eq_true rfl) (Nat.le_of_ble_eq_true rfl) (Nat.le_of_ble_eq_true rfl) (av := [(.ref wa), (.ref go), (.int (3 : Int32)), (.int (0 : Int32))]) (S := []) rfl (pc' := 348) rfl ?_
      intro T h v X hQ
      obtain ⟨rfl, rfl⟩ := hQ
      show own_Go p e below n0 (own_Fin room_1 s (fun v h => v = some (.int 1))) (T.setTop (mkF m 348 #[.val (.long q0), .second, .val (.long q1), .second, .val (.long q2), .second, .val (.long q3), .second, .val (.long q4), .second, .val (.int i5), .val (.int (0 : Int32)), .val (.int (3 : Int32)), .val (.long q0), .second, .val (.long h1v), .second, .val (.long h2v), .second, .val (.long h3v), .second, .val (.long h4v), .second, .val (.long mark), .second, .val (.ref hp), .val (.ref wa), .val (.ref go), .val (.int (1 : Int32)), .unset, .unset] [(.int (1 : Int32))]))
      refine own_if_eq C X at_348 (pcT := 407) (pc' := 351) (by decide) (by decide) rfl (fun hc348 => absurd hc348 (by decide)) (fun hc348 => ?_)
      refine own_aload C X at_351 rfl rfl (pc' := 353) rfl ?_
      refine own_aload C X at_353 rfl rfl (pc' := 355) rfl ?_
      refine own_iload C X at_355 rfl (pc' := 357) rfl ?_
      refine own_iconst C X at_357 (v := 1) (by decide) (pc' := 358) rfl ?_
      refine own_callS C X at_358 (own_m_sc3 l Z a0 hw wa go (1 : Int32) _ n0 (own_big C X) q4 h1v h2v h3v h4v r0 r1 r2 mark mark h1v A_wa A_go (by decide) 1 (by decide) rfl pm) (hw _ (List.mem_of_getElem? (i := 14) rfl)) (hw _ (List.mem_of_getElem? (i := 15) rfl)) (hw _ (List.mem_of_getElem? (i := 12) rfl)) (hw _ (List.mem_of_getElem? (i := 16) rfl)) (by decide) own_pd_7147 rfl rfl (Nat.le_of_ble_eq_true rfl) (Nat.le_of_ble_eq_true rfl) (Nat.le_of_ble_eq_true rfl) (Nat.le_of_ble_eq_true rfl) (av := [(.ref wa), (.ref go), (.int (3 : Int32)), (.int (1 : Int32))]) (S := []) rfl (pc' := 361) rfl ?_
      intro T h v X hQ
      obtain ⟨rfl, rfl⟩ := hQ
      show own_Go p e below n0 (own_Fin room_1 s (fun v h => v = some (.int 1))) (T.setTop (mkF m 361 #[.val (.long q0), .second, .val (.long q1), .second, .val (.long q2), .second, .val (.long q3), .second, .val (.long q4), .second, .val (.int i5), .val (.int (0 : Int32)), .val (.int (3 : Int32)), .val (.long q0), .second, .val (.long h1v), .second, .val (.long h2v), .second, .val (.long h3v), .second, .val (.long h4v), .second, .val (.long mark), .second, .val (.ref hp), .val (.ref wa), .val (.ref go), .val (.int (1 : Int32)), .unset, .unset] [(.int (1 : Int32))]))
      refine own_if_eq C X at_361 (pcT := 407) (pc' := 364) (by decide) (by decide) rfl (fun hc361 => absurd hc361 (by decide)) (fun hc361 => ?_)
      refine own_aload C X at_364 rfl rfl (pc' := 366) rfl ?_
      refine own_aload C X at_366 rfl rfl (pc' := 368) rfl ?_
      refine own_iload C X at_368 rfl (pc' := 370) rfl ?_
      refine own_iconst C X at_370 (v := 2) (by decide) (pc' := 371) rfl ?_
      refine own_callS C X at_371 (own_m_sc3 l Z a0 hw wa go (2 : Int32) _ n0 (own_big C X) q4 h1v h2v h3v h4v r0 r1 r2 mark mark h2v A_wa A_go (by decide) 2 (by decide) rfl pm) (hw _ (List.mem_of_getElem? (i := 14) rfl)) (hw _ (List.mem_of_getElem? (i := 15) rfl)) (hw _ (List.mem_of_getElem? (i := 12) rfl)) (hw _ (List.mem_of_getElem? (i := 16) rfl)) (by decide) own_pd_7147 rfl rfl (Nat.le_of_ble_eq_true rfl) (Nat.le_of_ble_eq_true rfl) (Nat.le_of_ble_eq_true rfl) (Nat.le_of_ble_eq_true rfl) (av := [(.ref wa), (.ref go), (.int (3 : Int32)), (.int (2 : Int32))]) (S := []) rfl (pc' := 374) rfl ?_
      intro T h v X hQ
      obtain ⟨rfl, rfl⟩ := hQ
      show own_Go p e below n0 (own_Fin room_1 s (fun v h => v = some (.int 1))) (T.setTop (mkF m 374 #[.val (.long q0), .second, .val (.long q1), .second, .val (.long q2), .second, .val (.long q3), .second, .val (.long q4), .second, .val (.int i5), .val (.int (0 : Int32)), .val (.int (3 : Int32)), .val (.long q0), .second, .val (.long h1v), .second, .val (.long h2v), .second, .val (.long h3v), .second, .val (.long h4v), .second, .val (.long mark), .second, .val (.ref hp), .val (.ref wa), .val (.ref go), .val (.int (1 : Int32)), .unset, .unset] [(.int (1 : Int32))]))
      refine own_if_eq C X at_374 (pcT := 407) (pc' := 377) (by decide) (by decide) rfl (fun hc374 => absurd hc374 (by decide)) (fun hc374 => ?_)
      refine own_aload C X at_377 rfl rfl (pc' := 379) rfl ?_
      refine own_aload C X at_379 rfl rfl (pc' := 381) rfl ?_
      refine own_iload C X at_381 rfl (pc' := 383) rfl ?_
      refine own_iconst C X at_383 (v := 3) (by decide) (pc' := 384) rfl ?_
      refine own_callS C X at_384 (own_m_scN l Z a0 hw wa go (3 : Int32) (3 : Int32) _ n0 (own_big C X) (by decide)) (hw _ (List.mem_of_getElem? (i := 14) rfl)) (hw _ (List.mem_of_getElem? (i := 15) rfl)) (hw _ (List.mem_of_getElem? (i := 12) rfl)) (hw _ (List.mem_of_getElem? (i := 16) rfl)) (by decide) own_pd_7147 rfl rfl (Nat.le_of_ble_eq_true rfl) (Nat.le_of_ble_eq_true rfl) (Nat.le_of_ble_eq_true rfl) (Nat.le_of_ble_eq_true rfl) (av := [(.ref wa), (.ref go), (.int (3 : Int32)), (.int (3 : Int32))]) (S := []) rfl (pc' := 387) rfl ?_
      intro T h v X hQ
      obtain ⟨rfl, rfl⟩ := hQ
      show own_Go p e below n0 (own_Fin room_1 s (fun v h => v = some (.int 1))) (T.setTop (mkF m 387 #[.val (.long q0), .second, .val (.long q1), .second, .val (.long q2), .second, .val (.long q3), .second, .val (.long q4), .second, .val (.int i5), .val (.int (0 : Int32)), .val (.int (3 : Int32)), .val (.long q0), .second, .val (.long h1v), .second, .val (.long h2v), .second, .val (.long h3v), .second, .val (.long h4v), .second, .val (.long mark), .second, .val (.ref hp), .val (.ref wa), .val (.ref go), .val (.int (1 : Int32)), .unset, .unset] [(.int (1 : Int32))]))
      refine own_if_eq C X at_387 (pcT := 407) (pc' := 390) (by decide) (by decide) rfl (fun hc387 => absurd hc387 (by decide)) (fun hc387 => ?_)
      refine own_aload C X at_390 rfl rfl (pc' := 392) rfl ?_
      refine own_aload C X at_392 rfl rfl (pc' := 394) rfl ?_
      refine own_iload C X at_394 rfl (pc' := 396) rfl ?_
      refine own_iconst C X at_396 (v := 4) (by decide) (pc' := 397) rfl ?_
      refine own_callS C X at_397 (own_m_scN l Z a0 hw wa go (3 : Int32) (4 : Int32) _ n0 (own_big C X) (by decide)) (hw _ (List.mem_of_getElem? (i := 14) rfl)) (hw _ (List.mem_of_getElem? (i := 15) rfl)) (hw _ (List.mem_of_getElem? (i := 12) rfl)) (hw _ (List.mem_of_getElem? (i := 16) rfl)) (by decide) own_pd_7147 rfl rfl (Nat.le_of_ble_eq_true rfl) (Nat.le_of_ble_eq_true rfl) (Nat.le_of_ble_eq_true rfl) (Nat.le_of_ble_eq_true rfl) (av := [(.ref wa), (.ref go), (.int (3 : Int32)), (.int (4 : Int32))]) (S := []) rfl (pc' := 400) rfl ?_
      intro T h v X hQ
      obtain ⟨rfl, rfl⟩ := hQ
      show own_Go p e below n0 (own_Fin room_1 s (fun v h => v = some (.int 1))) (T.setTop (mkF m 400 #[.val (.long q0), .second, .val (.long q1), .second, .val (.long q2), .second, .val (.long q3), .second, .val (.long q4), .second, .val (.int i5), .val (.int (0 : Int32)), .val (.int (3 : Int32)), .val (.long q0), .second, .val (.long h1v), .second, .val (.long h2v), .second, .val (.long h3v), .second, .val (.long h4v), .second, .val (.long mark), .second, .val (.ref hp), .val (.ref wa), .val (.ref go), .val (.int (1 : Int32)), .unset, .unset] [(.int (1 : Int32))]))
      refine own_if_eq C X at_400 (pcT := 407) (pc' := 403) (by decide) (by decide) rfl (fun hc400 => absurd hc400 (by decide)) (fun hc400 => ?_)
      refine own_iconst C X at_403 (v := 1) (by decide) (pc' := 404) rfl ?_
      refine own_goto C X at_404 (pc' := 408) (by decide) (by decide) ?_
      refine own_istore C X at_408 (L' := #[.val (.long q0), .second, .val (.long q1), .second, .val (.long q2), .second, .val (.long q3), .second, .val (.long q4), .second, .val (.int i5), .val (.int (0 : Int32)), .val (.int (3 : Int32)), .val (.long q0), .second, .val (.long h1v), .second, .val (.long h2v), .second, .val (.long h3v), .second, .val (.long h4v), .second, .val (.long mark), .second, .val (.ref hp), .val (.ref wa), .val (.ref go), .val (.int (1 : Int32)), .val (.int (1 : Int32)), .unset]) rfl (pc' := 410) rfl ?_
      refine own_aload C X at_410 rfl rfl (pc' := 412) rfl ?_
      refine own_iconst C X at_412 (v := 0) (by decide) (pc' := 413) rfl ?_
      refine own_iload C X at_413 rfl (pc' := 415) rfl ?_
      refine own_iload C X at_415 rfl (pc' := 417) rfl ?_
      refine own_lload C X at_417 rfl (pc' := 419) rfl ?_
      refine own_callS C X at_419 (own_m_kpI l Z a0 hw hp (0 : Int32) (0 : Int32) (3 : Int32) mark _ n0 (own_big C X) (by decide) (by decide)) (hw _ (List.mem_of_getElem? (i := 20) rfl)) (hw _ (List.mem_of_getElem? (i := 21) rfl)) (hw _ (List.mem_of_getElem? (i := 12) rfl)) (hw _ (List.mem_of_getElem? (i := 22) rfl)) (by decide) own_pd_6969 rfl rfl (Nat.le_of_ble_eq_true rfl) (Nat.le_of_ble_eq_true rfl) (Nat.le_of_ble_eq_true rfl) (Nat.le_of_ble_eq_true rfl) (av := [(.ref hp), (.int (0 : Int32)), (.int (0 : Int32)), (.int (3 : Int32)), (.long mark)]) (S := []) rfl (pc' := 422) rfl ?_
      intro T h v X hQ
      obtain ⟨rfl, rfl⟩ := hQ
      show own_Go p e below n0 (own_Fin room_1 s (fun v h => v = some (.int 1))) (T.setTop (mkF m 422 #[.val (.long q0), .second, .val (.long q1), .second, .val (.long q2), .second, .val (.long q3), .second, .val (.long q4), .second, .val (.int i5), .val (.int (0 : Int32)), .val (.int (3 : Int32)), .val (.long q0), .second, .val (.long h1v), .second, .val (.long h2v), .second, .val (.long h3v), .second, .val (.long h4v), .second, .val (.long mark), .second, .val (.ref hp), .val (.ref wa), .val (.ref go), .val (.int (1 : Int32)), .val (.int (1 : Int32)), .unset] [(.int (1 : Int32))]))
      refine own_if_eq C X at_422 (pcT := 520) (pc' := 425) (by decide) (by decide) rfl (fun hc422 => absurd hc422 (by decide)) (fun hc422 => ?_)
      refine own_aload C X at_425 rfl rfl (pc' := 427) rfl ?_
      refine own_iconst C X at_427 (v := 1) (by decide) (pc' := 428) rfl ?_
      refine own_iload C X at_428 rfl (pc' := 430) rfl ?_
      refine own_iload C X at_430 rfl (pc' := 432) rfl ?_
      refine own_lload C X at_432 rfl (pc' := 434) rfl ?_
      refine own_callS C X at_434 (own_m_kpI l Z a0 hw hp (1 : Int32) (0 : Int32) (3 : Int32) mark _ n0 (own_big C X) (by decide) (by decide)) (hw _ (List.mem_of_getElem? (i := 20) rfl)) (hw _ (List.mem_of_getElem? (i := 21) rfl)) (hw _ (List.mem_of_getElem? (i := 12) rfl)) (hw _ (List.mem_of_getElem? (i := 22) rfl)) (by decide) own_pd_6969 rfl rfl (Nat.le_of_ble_eq_true rfl) (Nat.le_of_ble_eq_true rfl) (Nat.le_of_ble_eq_true rfl) (Nat.le_of_ble_eq_true rfl) (av := [(.ref hp), (.int (1 : Int32)), (.int (0 : Int32)), (.int (3 : Int32)), (.long mark)]) (S := []) rfl (pc' := 437) rfl ?_
      intro T h v X hQ
      obtain ⟨rfl, rfl⟩ := hQ
      show own_Go p e below n0 (own_Fin room_1 s (fun v h => v = some (.int 1))) (T.setTop (mkF m 437 #[.val (.long q0), .second, .val (.long q1), .second, .val (.long q2), .second, .val (.long q3), .second, .val (.long q4), .second, .val (.int i5), .val (.int (0 : Int32)), .val (.int (3 : Int32)), .val (.long q0), .second, .val (.long h1v), .second, .val (.long h2v), .second, .val (.long h3v), .second, .val (.long h4v), .second, .val (.long mark), .second, .val (.ref hp), .val (.ref wa), .val (.ref go), .val (.int (1 : Int32)), .val (.int (1 : Int32)), .unset] [(.int (1 : Int32))]))
      refine own_if_eq C X at_437 (pcT := 520) (pc' := 440) (by decide) (by decide) rfl (fun hc437 => absurd hc437 (by decide)) (fun hc437 => ?_)
      refine own_aload C X at_440 rfl rfl (pc' := 442) rfl ?_
      refine own_iconst C X at_442 (v := 2) (by decide) (pc' := 443) rfl ?_
      refine own_iload C X at_443 rfl (pc' := 445) rfl ?_
      refine own_iload C X at_445 rfl (pc' := 447) rfl ?_
      refine own_lload C X at_447 rfl (pc' := 449) rfl ?_
      refine own_callS C X at_449 (own_m_kpI l Z a0 hw hp (2 : Int32) (0 : Int32) (3 : Int32) mark _ n0 (own_big C X) (by decide) (by decide)) (hw _ (List.mem_of_getElem? (i := 20) rfl)) (hw _ (List.mem_of_getElem? (i := 21) rfl)) (hw _ (List.mem_of_getElem? (i := 12) rfl)) (hw _ (List.mem_of_getElem? (i := 22) rfl)) (by decide) own_pd_6969 rfl rfl (Nat.le_of_ble_eq_true rfl) (Nat.le_of_ble_eq_true rfl) (Nat.le_of_ble_eq_true rfl) (Nat.le_of_ble_eq_true rfl) (av := [(.ref hp), (.int (2 : Int32)), (.int (0 : Int32)), (.int (3 : Int32)), (.long mark)]) (S := []) rfl (pc' := 452) rfl ?_
      intro T h v X hQ
      obtain ⟨rfl, rfl⟩ := hQ
      show own_Go p e below n0 (own_Fin room_1 s (fun v h => v = some (.int 1))) (T.setTop (mkF m 452 #[.val (.long q0), .second, .val (.long q1), .second, .val (.long q2), .second, .val (.long q3), .second, .val (.long q4), .second, .val (.int i5), .val (.int (0 : Int32)), .val (.int (3 : Int32)), .val (.long q0), .second, .val (.long h1v), .second, .val (.long h2v), .second, .val (.long h3v), .second, .val (.long h4v), .second, .val (.long mark), .second, .val (.ref hp), .val (.ref wa), .val (.ref go), .val (.int (1 : Int32)), .val (.int (1 : Int32)), .unset] [(.int (1 : Int32))]))
      refine own_if_eq C X at_452 (pcT := 520) (pc' := 455) (by decide) (by decide) rfl (fun hc452 => absurd hc452 (by decide)) (fun hc452 => ?_)
      refine own_aload C X at_455 rfl rfl (pc' := 457) rfl ?_
      refine own_iconst C X at_457 (v := 3) (by decide) (pc' := 458) rfl ?_
      refine own_iload C X at_458 rfl (pc' := 460) rfl ?_
      refine own_iload C X at_460 rfl (pc' := 462) rfl ?_
      refine own_lload C X at_462 rfl (pc' := 464) rfl ?_
      refine own_callS C X at_464 (own_m_kpA l Z a0 hw hp (3 : Int32) (0 : Int32) (3 : Int32) mark _ n0 (own_big C X) (by decide) (by decide) [r0, r1, r2, mark, mark, mark, mark] A_hp 3 (by decide) rfl) (hw _ (List.mem_of_getElem? (i := 20) rfl)) (hw _ (List.mem_of_getElem? (i := 21) rfl)) (hw _ (List.mem_of_getElem? (i := 12) rfl)) (hw _ (List.mem_of_getElem? (i := 22) rfl)) (by decide) own_pd_6969 rfl rfl (Nat.le_of_ble_eq_true rfl) (Nat.le_of_ble_eq_true rfl) (Nat.le_of_ble_eq_true rfl) (Nat.le_of_ble_eq_true rfl) (av := [(.ref hp), (.int (3 : Int32)), (.int (0 : Int32)), (.int (3 : Int32)), (.long mark)]) (S := []) rfl (pc' := 467) rfl ?_
      intro T h v X hQ
      obtain ⟨rfl, rfl⟩ := hQ
      show own_Go p e below n0 (own_Fin room_1 s (fun v h => v = some (.int 1))) (T.setTop (mkF m 467 #[.val (.long q0), .second, .val (.long q1), .second, .val (.long q2), .second, .val (.long q3), .second, .val (.long q4), .second, .val (.int i5), .val (.int (0 : Int32)), .val (.int (3 : Int32)), .val (.long q0), .second, .val (.long h1v), .second, .val (.long h2v), .second, .val (.long h3v), .second, .val (.long h4v), .second, .val (.long mark), .second, .val (.ref hp), .val (.ref wa), .val (.ref go), .val (.int (1 : Int32)), .val (.int (1 : Int32)), .unset] [(.int (1 : Int32))]))
      refine own_if_eq C X at_467 (pcT := 520) (pc' := 470) (by decide) (by decide) rfl (fun hc467 => absurd hc467 (by decide)) (fun hc467 => ?_)
      refine own_aload C X at_470 rfl rfl (pc' := 472) rfl ?_
      refine own_iconst C X at_472 (v := 4) (by decide) (pc' := 473) rfl ?_
      refine own_iload C X at_473 rfl (pc' := 475) rfl ?_
      refine own_iload C X at_475 rfl (pc' := 477) rfl ?_
      refine own_lload C X at_477 rfl (pc' := 479) rfl ?_
      refine own_callS C X at_479 (own_m_kpA l Z a0 hw hp (4 : Int32) (0 : Int32) (3 : Int32) mark _ n0 (own_big C X) (by decide) (by decide) [r0, r1, r2, mark, mark, mark, mark] A_hp 4 (by decide) rfl) (hw _ (List.mem_of_getElem? (i := 20) rfl)) (hw _ (List.mem_of_getElem? (i := 21) rfl)) (hw _ (List.mem_of_getElem? (i := 12) rfl)) (hw _ (List.mem_of_getElem? (i := 22) rfl)) (by decide) own_pd_6969 rfl rfl (Nat.le_of_ble_eq_true rfl) (Nat.le_of_ble_eq_true rfl) (Nat.le_of_ble_eq_true rfl) (Nat.le_of_ble_eq_true rfl) (av := [(.ref hp), (.int (4 : Int32)), (.int (0 : Int32)), (.int (3 : Int32)), (.long mark)]) (S := []) rfl (pc' := 482) rfl ?_
      intro T h v X hQ
      obtain ⟨rfl, rfl⟩ := hQ
      show own_Go p e below n0 (own_Fin room_1 s (fun v h => v = some (.int 1))) (T.setTop (mkF m 482 #[.val (.long q0), .second, .val (.long q1), .second, .val (.long q2), .second, .val (.long q3), .second, .val (.long q4), .second, .val (.int i5), .val (.int (0 : Int32)), .val (.int (3 : Int32)), .val (.long q0), .second, .val (.long h1v), .second, .val (.long h2v), .second, .val (.long h3v), .second, .val (.long h4v), .second, .val (.long mark), .second, .val (.ref hp), .val (.ref wa), .val (.ref go), .val (.int (1 : Int32)), .val (.int (1 : Int32)), .unset] [(.int (1 : Int32))]))
      refine own_if_eq C X at_482 (pcT := 520) (pc' := 485) (by decide) (by decide) rfl (fun hc482 => absurd hc482 (by decide)) (fun hc482 => ?_)
      refine own_aload C X at_485 rfl rfl (pc' := 487) rfl ?_
      refine own_iconst C X at_487 (v := 5) (by decide) (pc' := 488) rfl ?_
      refine own_iload C X at_488 rfl (pc' := 490) rfl ?_
      refine own_iload C X at_490 rfl (pc' := 492) rfl ?_
      refine own_lload C X at_492 rfl (pc' := 494) rfl ?_
      refine own_callS C X at_494 (own_m_kpA l Z a0 hw hp (5 : Int32) (0 : Int32) (3 : Int32) mark _ n0 (own_big C X) (by decide) (by decide) [r0, r1, r2, mark, mark, mark, mark] A_hp 5 (by decide) rfl) (hw _ (List.mem_of_getElem? (i := 20) rfl)) (hw _ (List.mem_of_getElem? (i := 21) rfl)) (hw _ (List.mem_of_getElem? (i := 12) rfl)) (hw _ (List.mem_of_getElem? (i := 22) rfl)) (by decide) own_pd_6969 rfl rfl (Nat.le_of_ble_eq_true rfl) (Nat.le_of_ble_eq_true rfl) (Nat.le_of_ble_eq_true rfl) (Nat.le_of_ble_eq_true rfl) (av := [(.ref hp), (.int (5 : Int32)), (.int (0 : Int32)), (.int (3 : Int32)), (.long mark)]) (S := []) rfl (pc' := 497) rfl ?_
      intro T h v X hQ
      obtain ⟨rfl, rfl⟩ := hQ
      show own_Go p e below n0 (own_Fin room_1 s (fun v h => v = some (.int 1))) (T.setTop (mkF m 497 #[.val (.long q0), .second, .val (.long q1), .second, .val (.long q2), .second, .val (.long q3), .second, .val (.long q4), .second, .val (.int i5), .val (.int (0 : Int32)), .val (.int (3 : Int32)), .val (.long q0), .second, .val (.long h1v), .second, .val (.long h2v), .second, .val (.long h3v), .second, .val (.long h4v), .second, .val (.long mark), .second, .val (.ref hp), .val (.ref wa), .val (.ref go), .val (.int (1 : Int32)), .val (.int (1 : Int32)), .unset] [(.int (1 : Int32))]))
      refine own_if_eq C X at_497 (pcT := 520) (pc' := 500) (by decide) (by decide) rfl (fun hc497 => absurd hc497 (by decide)) (fun hc497 => ?_)
      refine own_aload C X at_500 rfl rfl (pc' := 502) rfl ?_
      refine own_bipush C X at_502 (v := 6) (by decide) (pc' := 504) rfl ?_
      refine own_iload C X at_504 rfl (pc' := 506) rfl ?_
      refine own_iload C X at_506 rfl (pc' := 508) rfl ?_
      refine own_lload C X at_508 rfl (pc' := 510) rfl ?_
      refine own_callS C X at_510 (own_m_kpA l Z a0 hw hp (6 : Int32) (0 : Int32) (3 : Int32) mark _ n0 (own_big C X) (by decide) (by decide) [r0, r1, r2, mark, mark, mark, mark] A_hp 6 (by decide) rfl) (hw _ (List.mem_of_getElem? (i := 20) rfl)) (hw _ (List.mem_of_getElem? (i := 21) rfl)) (hw _ (List.mem_of_getElem? (i := 12) rfl)) (hw _ (List.mem_of_getElem? (i := 22) rfl)) (by decide) own_pd_6969 rfl rfl (Nat.le_of_ble_eq_true rfl) (Nat.le_of_ble_eq_true rfl) (Nat.le_of_ble_eq_true rfl) (Nat.le_of_ble_eq_true rfl) (av := [(.ref hp), (.int (6 : Int32)), (.int (0 : Int32)), (.int (3 : Int32)), (.long mark)]) (S := []) rfl (pc' := 513) rfl ?_
      intro T h v X hQ
      obtain ⟨rfl, rfl⟩ := hQ
      show own_Go p e below n0 (own_Fin room_1 s (fun v h => v = some (.int 1))) (T.setTop (mkF m 513 #[.val (.long q0), .second, .val (.long q1), .second, .val (.long q2), .second, .val (.long q3), .second, .val (.long q4), .second, .val (.int i5), .val (.int (0 : Int32)), .val (.int (3 : Int32)), .val (.long q0), .second, .val (.long h1v), .second, .val (.long h2v), .second, .val (.long h3v), .second, .val (.long h4v), .second, .val (.long mark), .second, .val (.ref hp), .val (.ref wa), .val (.ref go), .val (.int (1 : Int32)), .val (.int (1 : Int32)), .unset] [(.int (1 : Int32))]))
      refine own_if_eq C X at_513 (pcT := 520) (pc' := 516) (by decide) (by decide) rfl (fun hc513 => absurd hc513 (by decide)) (fun hc513 => ?_)
      refine own_iconst C X at_516 (v := 1) (by decide) (pc' := 517) rfl ?_
      refine own_goto C X at_517 (pc' := 521) (by decide) (by decide) ?_
      refine own_istore C X at_521 (L' := #[.val (.long q0), .second, .val (.long q1), .second, .val (.long q2), .second, .val (.long q3), .second, .val (.long q4), .second, .val (.int i5), .val (.int (0 : Int32)), .val (.int (3 : Int32)), .val (.long q0), .second, .val (.long h1v), .second, .val (.long h2v), .second, .val (.long h3v), .second, .val (.long h4v), .second, .val (.long mark), .second, .val (.ref hp), .val (.ref wa), .val (.ref go), .val (.int (1 : Int32)), .val (.int (1 : Int32)), .val (.int (1 : Int32))]) rfl (pc' := 523) rfl ?_
      refine own_iload C X at_523 rfl (pc' := 525) rfl ?_
      refine own_if_eq C X at_525 (pcT := 542) (pc' := 528) (by decide) (by decide) rfl (fun hc525 => absurd hc525 (by decide)) (fun hc525 => ?_)
      refine own_iload C X at_528 rfl (pc' := 530) rfl ?_
      refine own_if_eq C X at_530 (pcT := 542) (pc' := 533) (by decide) (by decide) rfl (fun hc530 => absurd hc530 (by decide)) (fun hc530 => ?_)
      refine own_iload C X at_533 rfl (pc' := 535) rfl ?_
      refine own_if_eq C X at_535 (pcT := 542) (pc' := 538) (by decide) (by decide) rfl (fun hc535 => absurd hc535 (by decide)) (fun hc535 => ?_)
      refine own_iconst C X at_538 (v := 1) (by decide) (pc' := 539) rfl ?_
      refine own_goto C X at_539 (pc' := 543) (by decide) (by decide) ?_
      exact own_ireturn_z C X at_543 (Nat.le_of_ble_eq_true rfl) (Nat.le_of_ble_eq_true rfl) (rfl)
    · refine own_aload C X at_116 rfl rfl (pc' := 118) rfl ?_
      refine own_iload C X at_118 rfl (pc' := 120) rfl ?_
      refine own_lload C X at_120 rfl (pc' := 122) rfl ?_
      refine own_lastore C X at_122 A_hp (by decide) (i := 1) (Nat.le_of_ble_eq_true rfl) ge_hp (pc' := 123) rfl ?_
      intro T h X K_ A_hp_
      have A_hp : own_JA Z h hp [mark, q0, mark, mark, mark, mark, mark] := A_hp_
      refine own_iload C X at_123 rfl (pc' := 125) rfl ?_
      refine own_iconst C X at_125 (v := 1) (by decide) (pc' := 126) rfl ?_
      refine own_icmp_le C X at_126 (pcT := 138) (pc' := 129) (by decide) (by decide) rfl (fun hc126 => absurd hc126 (by decide)) (fun hc126 => ?_)
      refine own_aload C X at_129 rfl rfl (pc' := 131) rfl ?_
      refine own_iload C X at_131 rfl (pc' := 133) rfl ?_
      refine own_iconst C X at_133 (v := 1) (by decide) (pc' := 134) rfl ?_
      refine own_iadd C X at_134 (z := 2) (by decide) (pc' := 135) rfl ?_
      refine own_lload C X at_135 rfl (pc' := 137) rfl ?_
      refine own_lastore C X at_137 A_hp (by decide) (i := 2) (Nat.le_of_ble_eq_true rfl) ge_hp (pc' := 138) rfl ?_
      intro T h X K_ A_hp_
      have A_hp : own_JA Z h hp [mark, q0, h1v, mark, mark, mark, mark] := A_hp_
      refine own_iload C X at_138 rfl (pc' := 140) rfl ?_
      refine own_iconst C X at_140 (v := 2) (by decide) (pc' := 141) rfl ?_
      refine own_icmp_le C X at_141 (pcT := 153) (pc' := 144) (by decide) (by decide) rfl (fun hc141 => absurd hc141 (by decide)) (fun hc141 => ?_)
      refine own_aload C X at_144 rfl rfl (pc' := 146) rfl ?_
      refine own_iload C X at_146 rfl (pc' := 148) rfl ?_
      refine own_iconst C X at_148 (v := 2) (by decide) (pc' := 149) rfl ?_
      refine own_iadd C X at_149 (z := 3) (by decide) (pc' := 150) rfl ?_
      refine own_lload C X at_150 rfl (pc' := 152) rfl ?_
      refine own_lastore C X at_152 A_hp (by decide) (i := 3) (Nat.le_of_ble_eq_true rfl) ge_hp (pc' := 153) rfl ?_
      intro T h X K_ A_hp_
      have A_hp : own_JA Z h hp [mark, q0, h1v, h2v, mark, mark, mark] := A_hp_
      refine own_iload C X at_153 rfl (pc' := 155) rfl ?_
      refine own_iconst C X at_155 (v := 3) (by decide) (pc' := 156) rfl ?_
      refine own_icmp_le C X at_156 (pcT := 168) (pc' := 159) (by decide) (by decide) rfl (fun hc156 => ?_) (fun hc156 => absurd hc156 (by decide))
      refine own_iload C X at_168 rfl (pc' := 170) rfl ?_
      refine own_iconst C X at_170 (v := 4) (by decide) (pc' := 171) rfl ?_
      refine own_icmp_le C X at_171 (pcT := 183) (pc' := 174) (by decide) (by decide) rfl (fun hc171 => ?_) (fun hc171 => absurd hc171 (by decide))
      refine own_iconst C X at_183 (v := 5) (by decide) (pc' := 184) rfl ?_
      refine own_newJ C X at_184 (hw _ (List.mem_of_getElem? (i := 5) rfl)) (by decide) (k := 5) (cap := 5) (Nat.le_of_ble_eq_true rfl) (by decide) (Nat.le_of_ble_eq_true rfl) (Nat.le_of_ble_eq_true rfl) (pc' := 186) rfl ?_
      intro T h wa e_wa X K_ ge_wa A_wa_
      have ne_hp_wa : hp ≠ wa := by rw [e_wa]; exact Nat.ne_of_lt A_hp.lt
      have A_wa : own_JA Z h wa [(0 : Int64), (0 : Int64), (0 : Int64), (0 : Int64), (0 : Int64)] := A_wa_
      have A_hp := A_hp.keep K_ nin0
      refine own_astore C X at_186 rfl (L' := #[.val (.long q0), .second, .val (.long q1), .second, .val (.long q2), .second, .val (.long q3), .second, .val (.long q4), .second, .val (.int i5), .val (.int (1 : Int32)), .val (.int (3 : Int32)), .val (.long q0), .second, .val (.long h1v), .second, .val (.long h2v), .second, .val (.long h3v), .second, .val (.long h4v), .second, .val (.long mark), .second, .val (.ref hp), .val (.ref wa), .unset, .unset, .unset, .unset]) rfl (pc' := 188) rfl ?_
      refine own_aload C X at_188 rfl rfl (pc' := 190) rfl ?_
      refine own_iconst C X at_190 (v := 0) (by decide) (pc' := 191) rfl ?_
      refine own_lload C X at_191 rfl (pc' := 193) rfl ?_
      refine own_lastore C X at_193 A_wa (by decide) (i := 0) (Nat.le_of_ble_eq_true rfl) ge_wa (pc' := 194) rfl ?_
      intro T h X K_ A_wa_
      have A_wa : own_JA Z h wa [q4, (0 : Int64), (0 : Int64), (0 : Int64), (0 : Int64)] := A_wa_
      have A_hp := A_hp.keep K_ (ninS ne_hp_wa nin0)
      refine own_aload C X at_194 rfl rfl (pc' := 196) rfl ?_
      refine own_iconst C X at_196 (v := 1) (by decide) (pc' := 197) rfl ?_
      refine own_lload C X at_197 rfl (pc' := 199) rfl ?_
      refine own_lastore C X at_199 A_wa (by decide) (i := 1) (Nat.le_of_ble_eq_true rfl) ge_wa (pc' := 200) rfl ?_
      intro T h X K_ A_wa_
      have A_wa : own_JA Z h wa [q4, h1v, (0 : Int64), (0 : Int64), (0 : Int64)] := A_wa_
      have A_hp := A_hp.keep K_ (ninS ne_hp_wa nin0)
      refine own_aload C X at_200 rfl rfl (pc' := 202) rfl ?_
      refine own_iconst C X at_202 (v := 2) (by decide) (pc' := 203) rfl ?_
      refine own_lload C X at_203 rfl (pc' := 205) rfl ?_
      refine own_lastore C X at_205 A_wa (by decide) (i := 2) (Nat.le_of_ble_eq_true rfl) ge_wa (pc' := 206) rfl ?_
      intro T h X K_ A_wa_
      have A_wa : own_JA Z h wa [q4, h1v, h2v, (0 : Int64), (0 : Int64)] := A_wa_
      have A_hp := A_hp.keep K_ (ninS ne_hp_wa nin0)
      refine own_aload C X at_206 rfl rfl (pc' := 208) rfl ?_
      refine own_iconst C X at_208 (v := 3) (by decide) (pc' := 209) rfl ?_
      refine own_lload C X at_209 rfl (pc' := 211) rfl ?_
      refine own_lastore C X at_211 A_wa (by decide) (i := 3) (Nat.le_of_ble_eq_true rfl) ge_wa (pc' := 212) rfl ?_
      intro T h X K_ A_wa_
      have A_wa : own_JA Z h wa [q4, h1v, h2v, h3v, (0 : Int64)] := A_wa_
      have A_hp := A_hp.keep K_ (ninS ne_hp_wa nin0)
      refine own_aload C X at_212 rfl rfl (pc' := 214) rfl ?_
      refine own_iconst C X at_214 (v := 4) (by decide) (pc' := 215) rfl ?_
      refine own_lload C X at_215 rfl (pc' := 217) rfl ?_
      refine own_lastore C X at_217 A_wa (by decide) (i := 4) (Nat.le_of_ble_eq_true rfl) ge_wa (pc' := 218) rfl ?_
      intro T h X K_ A_wa_
      have A_wa : own_JA Z h wa [q4, h1v, h2v, h3v, h4v] := A_wa_
      have A_hp := A_hp.keep K_ (ninS ne_hp_wa nin0)
      refine own_aload C X at_218 rfl rfl (pc' := 220) rfl ?_
      refine own_iload C X at_220 rfl (pc' := 222) rfl ?_
      refine own_iload C X at_222 rfl (pc' := 224) rfl ?_
      refine own_lload C X at_224 rfl (pc' := 226) rfl ?_
      refine own_callS C X at_226 (own_m_rl31 l Z a0 hw hp q4 _ n0 (own_big C X) q0 h1v h2v mark A_hp ge_hp ) (hw _ (List.mem_of_getElem? (i := 6) rfl)) (hw _ (List.mem_of_getElem? (i := 7) rfl)) (hw _ (List.mem_of_getElem? (i := 8) rfl)) (hw _ (List.mem_of_getElem? (i := 9) rfl)) (by decide) own_pd_5832 rfl rfl (Nat.le_of_ble_eq_true rfl) (Nat.le_of_ble_eq_true rfl) (Nat.le_of_ble_eq_true rfl) (Nat.le_of_ble_eq_true rfl) (av := [(.ref hp), (.int (1 : Int32)), (.int (3 : Int32)), (.long q4)]) (S := []) rfl (pc' := 229) rfl ?_
      intro T h v X hQ
      obtain ⟨rfl, r0, r1, r2, K_, A_hp, od, pm⟩ := hQ
      have A_wa := A_wa.keep K_ (ninS (Ne.symm ne_hp_wa) nin0)
      show own_Go p e below n0 (own_Fin room_1 s (fun v h => v = some (.int 1))) (T.setTop (mkF m 229 #[.val (.long q0), .second, .val (.long q1), .second, .val (.long q2), .second, .val (.long q3), .second, .val (.long q4), .second, .val (.int i5), .val (.int (1 : Int32)), .val (.int (3 : Int32)), .val (.long q0), .second, .val (.long h1v), .second, .val (.long h2v), .second, .val (.long h3v), .second, .val (.long h4v), .second, .val (.long mark), .second, .val (.ref hp), .val (.ref wa), .unset, .unset, .unset, .unset] []))
      obtain ⟨od1, od2, -⟩ := od
      refine own_iconst C X at_229 (v := 5) (by decide) (pc' := 230) rfl ?_
      refine own_newJ C X at_230 (hw _ (List.mem_of_getElem? (i := 5) rfl)) (by decide) (k := 5) (cap := 5) (Nat.le_of_ble_eq_true rfl) (by decide) (Nat.le_of_ble_eq_true rfl) (Nat.le_of_ble_eq_true rfl) (pc' := 232) rfl ?_
      intro T h go e_go X K_ ge_go A_go_
      have ne_hp_go : hp ≠ go := by rw [e_go]; exact Nat.ne_of_lt A_hp.lt
      have ne_wa_go : wa ≠ go := by rw [e_go]; exact Nat.ne_of_lt A_wa.lt
      have A_go : own_JA Z h go [(0 : Int64), (0 : Int64), (0 : Int64), (0 : Int64), (0 : Int64)] := A_go_
      have A_hp := A_hp.keep K_ nin0
      have A_wa := A_wa.keep K_ nin0
      refine own_astore C X at_232 rfl (L' := #[.val (.long q0), .second, .val (.long q1), .second, .val (.long q2), .second, .val (.long q3), .second, .val (.long q4), .second, .val (.int i5), .val (.int (1 : Int32)), .val (.int (3 : Int32)), .val (.long q0), .second, .val (.long h1v), .second, .val (.long h2v), .second, .val (.long h3v), .second, .val (.long h4v), .second, .val (.long mark), .second, .val (.ref hp), .val (.ref wa), .val (.ref go), .unset, .unset, .unset]) rfl (pc' := 234) rfl ?_
      refine own_aload C X at_234 rfl rfl (pc' := 236) rfl ?_
      refine own_iconst C X at_236 (v := 0) (by decide) (pc' := 237) rfl ?_
      refine own_aload C X at_237 rfl rfl (pc' := 239) rfl ?_
      refine own_iload C X at_239 rfl (pc' := 241) rfl ?_
      refine own_laload C X at_241 A_hp (by decide) (i := 1) rfl (pc' := 242) rfl ?_
      refine own_lastore C X at_242 A_go (by decide) (i := 0) (Nat.le_of_ble_eq_true rfl) ge_go (pc' := 243) rfl ?_
      intro T h X K_ A_go_
      have A_go : own_JA Z h go [r0, (0 : Int64), (0 : Int64), (0 : Int64), (0 : Int64)] := A_go_
      have A_hp := A_hp.keep K_ (ninS ne_hp_go nin0)
      have A_wa := A_wa.keep K_ (ninS ne_wa_go nin0)
      refine own_aload C X at_243 rfl rfl (pc' := 245) rfl ?_
      refine own_iconst C X at_245 (v := 1) (by decide) (pc' := 246) rfl ?_
      refine own_aload C X at_246 rfl rfl (pc' := 248) rfl ?_
      refine own_iload C X at_248 rfl (pc' := 250) rfl ?_
      refine own_iconst C X at_250 (v := 1) (by decide) (pc' := 251) rfl ?_
      refine own_iadd C X at_251 (z := 2) (by decide) (pc' := 252) rfl ?_
      refine own_laload C X at_252 A_hp (by decide) (i := 2) rfl (pc' := 253) rfl ?_
      refine own_lastore C X at_253 A_go (by decide) (i := 1) (Nat.le_of_ble_eq_true rfl) ge_go (pc' := 254) rfl ?_
      intro T h X K_ A_go_
      have A_go : own_JA Z h go [r0, r1, (0 : Int64), (0 : Int64), (0 : Int64)] := A_go_
      have A_hp := A_hp.keep K_ (ninS ne_hp_go nin0)
      have A_wa := A_wa.keep K_ (ninS ne_wa_go nin0)
      refine own_aload C X at_254 rfl rfl (pc' := 256) rfl ?_
      refine own_iconst C X at_256 (v := 2) (by decide) (pc' := 257) rfl ?_
      refine own_aload C X at_257 rfl rfl (pc' := 259) rfl ?_
      refine own_iload C X at_259 rfl (pc' := 261) rfl ?_
      refine own_iconst C X at_261 (v := 2) (by decide) (pc' := 262) rfl ?_
      refine own_iadd C X at_262 (z := 3) (by decide) (pc' := 263) rfl ?_
      refine own_laload C X at_263 A_hp (by decide) (i := 3) rfl (pc' := 264) rfl ?_
      refine own_lastore C X at_264 A_go (by decide) (i := 2) (Nat.le_of_ble_eq_true rfl) ge_go (pc' := 265) rfl ?_
      intro T h X K_ A_go_
      have A_go : own_JA Z h go [r0, r1, r2, (0 : Int64), (0 : Int64)] := A_go_
      have A_hp := A_hp.keep K_ (ninS ne_hp_go nin0)
      have A_wa := A_wa.keep K_ (ninS ne_wa_go nin0)
      refine own_aload C X at_265 rfl rfl (pc' := 267) rfl ?_
      refine own_iconst C X at_267 (v := 3) (by decide) (pc' := 268) rfl ?_
      refine own_aload C X at_268 rfl rfl (pc' := 270) rfl ?_
      refine own_iload C X at_270 rfl (pc' := 272) rfl ?_
      refine own_iconst C X at_272 (v := 3) (by decide) (pc' := 273) rfl ?_
      refine own_iadd C X at_273 (z := 4) (by decide) (pc' := 274) rfl ?_
      refine own_laload C X at_274 A_hp (by decide) (i := 4) rfl (pc' := 275) rfl ?_
      refine own_lastore C X at_275 A_go (by decide) (i := 3) (Nat.le_of_ble_eq_true rfl) ge_go (pc' := 276) rfl ?_
      intro T h X K_ A_go_
      have A_go : own_JA Z h go [r0, r1, r2, mark, (0 : Int64)] := A_go_
      have A_hp := A_hp.keep K_ (ninS ne_hp_go nin0)
      have A_wa := A_wa.keep K_ (ninS ne_wa_go nin0)
      refine own_aload C X at_276 rfl rfl (pc' := 278) rfl ?_
      refine own_iconst C X at_278 (v := 4) (by decide) (pc' := 279) rfl ?_
      refine own_aload C X at_279 rfl rfl (pc' := 281) rfl ?_
      refine own_iload C X at_281 rfl (pc' := 283) rfl ?_
      refine own_iconst C X at_283 (v := 4) (by decide) (pc' := 284) rfl ?_
      refine own_iadd C X at_284 (z := 5) (by decide) (pc' := 285) rfl ?_
      refine own_laload C X at_285 A_hp (by decide) (i := 5) rfl (pc' := 286) rfl ?_
      refine own_lastore C X at_286 A_go (by decide) (i := 4) (Nat.le_of_ble_eq_true rfl) ge_go (pc' := 287) rfl ?_
      intro T h X K_ A_go_
      have A_go : own_JA Z h go [r0, r1, r2, mark, mark] := A_go_
      have A_hp := A_hp.keep K_ (ninS ne_hp_go nin0)
      have A_wa := A_wa.keep K_ (ninS ne_wa_go nin0)
      refine own_aload C X at_287 rfl rfl (pc' := 289) rfl ?_
      refine own_iload C X at_289 rfl (pc' := 291) rfl ?_
      refine own_iconst C X at_291 (v := 1) (by decide) (pc' := 292) rfl ?_
      refine own_callS C X at_292 (own_m_or1 l Z a0 hw go (3 : Int32) _ n0 (own_big C X) (by decide) r0 r1 r2 mark mark A_go od1) (hw _ (List.mem_of_getElem? (i := 10) rfl)) (hw _ (List.mem_of_getElem? (i := 11) rfl)) (hw _ (List.mem_of_getElem? (i := 12) rfl)) (hw _ (List.mem_of_getElem? (i := 13) rfl)) (by decide) own_pd_4869 rfl rfl (Nat.le_of_ble_eq_true rfl) (Nat.le_of_ble_eq_true rfl) (Nat.le_of_ble_eq_true rfl) (Nat.le_of_ble_eq_true rfl) (av := [(.ref go), (.int (3 : Int32)), (.int (1 : Int32))]) (S := []) rfl (pc' := 295) rfl ?_
      intro T h v X hQ
      obtain ⟨rfl, rfl⟩ := hQ
      show own_Go p e below n0 (own_Fin room_1 s (fun v h => v = some (.int 1))) (T.setTop (mkF m 295 #[.val (.long q0), .second, .val (.long q1), .second, .val (.long q2), .second, .val (.long q3), .second, .val (.long q4), .second, .val (.int i5), .val (.int (1 : Int32)), .val (.int (3 : Int32)), .val (.long q0), .second, .val (.long h1v), .second, .val (.long h2v), .second, .val (.long h3v), .second, .val (.long h4v), .second, .val (.long mark), .second, .val (.ref hp), .val (.ref wa), .val (.ref go), .unset, .unset, .unset] [(.int (1 : Int32))]))
      refine own_if_eq C X at_295 (pcT := 335) (pc' := 298) (by decide) (by decide) rfl (fun hc295 => absurd hc295 (by decide)) (fun hc295 => ?_)
      refine own_aload C X at_298 rfl rfl (pc' := 300) rfl ?_
      refine own_iload C X at_300 rfl (pc' := 302) rfl ?_
      refine own_iconst C X at_302 (v := 2) (by decide) (pc' := 303) rfl ?_
      refine own_callS C X at_303 (own_m_or2 l Z a0 hw go (3 : Int32) _ n0 (own_big C X) (by decide) r0 r1 r2 mark mark A_go od2) (hw _ (List.mem_of_getElem? (i := 10) rfl)) (hw _ (List.mem_of_getElem? (i := 11) rfl)) (hw _ (List.mem_of_getElem? (i := 12) rfl)) (hw _ (List.mem_of_getElem? (i := 13) rfl)) (by decide) own_pd_4869 rfl rfl (Nat.le_of_ble_eq_true rfl) (Nat.le_of_ble_eq_true rfl) (Nat.le_of_ble_eq_true rfl) (Nat.le_of_ble_eq_true rfl) (av := [(.ref go), (.int (3 : Int32)), (.int (2 : Int32))]) (S := []) rfl (pc' := 306) rfl ?_
      intro T h v X hQ
      obtain ⟨rfl, rfl⟩ := hQ
      show own_Go p e below n0 (own_Fin room_1 s (fun v h => v = some (.int 1))) (T.setTop (mkF m 306 #[.val (.long q0), .second, .val (.long q1), .second, .val (.long q2), .second, .val (.long q3), .second, .val (.long q4), .second, .val (.int i5), .val (.int (1 : Int32)), .val (.int (3 : Int32)), .val (.long q0), .second, .val (.long h1v), .second, .val (.long h2v), .second, .val (.long h3v), .second, .val (.long h4v), .second, .val (.long mark), .second, .val (.ref hp), .val (.ref wa), .val (.ref go), .unset, .unset, .unset] [(.int (1 : Int32))]))
      refine own_if_eq C X at_306 (pcT := 335) (pc' := 309) (by decide) (by decide) rfl (fun hc306 => absurd hc306 (by decide)) (fun hc306 => ?_)
      refine own_aload C X at_309 rfl rfl (pc' := 311) rfl ?_
      refine own_iload C X at_311 rfl (pc' := 313) rfl ?_
      refine own_iconst C X at_313 (v := 3) (by decide) (pc' := 314) rfl ?_
      refine own_callS C X at_314 (own_m_orN l Z a0 hw go (3 : Int32) (3 : Int32) _ n0 (own_big C X) (by decide)) (hw _ (List.mem_of_getElem? (i := 10) rfl)) (hw _ (List.mem_of_getElem? (i := 11) rfl)) (hw _ (List.mem_of_getElem? (i := 12) rfl)) (hw _ (List.mem_of_getElem? (i := 13) rfl)) (by decide) own_pd_4869 rfl rfl (Nat.le_of_ble_eq_true rfl) (Nat.le_of_ble_eq_true rfl) (Nat.le_of_ble_eq_true rfl) (Nat.le_of_ble_eq_true rfl) (av := [(.ref go), (.int (3 : Int32)), (.int (3 : Int32))]) (S := []) rfl (pc' := 317) rfl ?_
      intro T h v X hQ
      obtain ⟨rfl, rfl⟩ := hQ
      show own_Go p e below n0 (own_Fin room_1 s (fun v h => v = some (.int 1))) (T.setTop (mkF m 317 #[.val (.long q0), .second, .val (.long q1), .second, .val (.long q2), .second, .val (.long q3), .second, .val (.long q4), .second, .val (.int i5), .val (.int (1 : Int32)), .val (.int (3 : Int32)), .val (.long q0), .second, .val (.long h1v), .second, .val (.long h2v), .second, .val (.long h3v), .second, .val (.long h4v), .second, .val (.long mark), .second, .val (.ref hp), .val (.ref wa), .val (.ref go), .unset, .unset, .unset] [(.int (1 : Int32))]))
      refine own_if_eq C X at_317 (pcT := 335) (pc' := 320) (by decide) (by decide) rfl (fun hc317 => absurd hc317 (by decide)) (fun hc317 => ?_)
      refine own_aload C X at_320 rfl rfl (pc' := 322) rfl ?_
      refine own_iload C X at_322 rfl (pc' := 324) rfl ?_
      refine own_iconst C X at_324 (v := 4) (by decide) (pc' := 325) rfl ?_
      refine own_callS C X at_325 (own_m_orN l Z a0 hw go (3 : Int32) (4 : Int32) _ n0 (own_big C X) (by decide)) (hw _ (List.mem_of_getElem? (i := 10) rfl)) (hw _ (List.mem_of_getElem? (i := 11) rfl)) (hw _ (List.mem_of_getElem? (i := 12) rfl)) (hw _ (List.mem_of_getElem? (i := 13) rfl)) (by decide) own_pd_4869 rfl rfl (Nat.le_of_ble_eq_true rfl) (Nat.le_of_ble_eq_true rfl) (Nat.le_of_ble_eq_true rfl) (Nat.le_of_ble_eq_true rfl) (av := [(.ref go), (.int (3 : Int32)), (.int (4 : Int32))]) (S := []) rfl (pc' := 328) rfl ?_
      intro T h v X hQ
      obtain ⟨rfl, rfl⟩ := hQ
      show own_Go p e below n0 (own_Fin room_1 s (fun v h => v = some (.int 1))) (T.setTop (mkF m 328 #[.val (.long q0), .second, .val (.long q1), .second, .val (.long q2), .second, .val (.long q3), .second, .val (.long q4), .second, .val (.int i5), .val (.int (1 : Int32)), .val (.int (3 : Int32)), .val (.long q0), .second, .val (.long h1v), .second, .val (.long h2v), .second, .val (.long h3v), .second, .val (.long h4v), .second, .val (.long mark), .second, .val (.ref hp), .val (.ref wa), .val (.ref go), .unset, .unset, .unset] [(.int (1 : Int32))]))
      refine own_if_eq C X at_328 (pcT := 335) (pc' := 331) (by decide) (by decide) rfl (fun hc328 => absurd hc328 (by decide)) (fun hc328 => ?_)
      refine own_iconst C X at_331 (v := 1) (by decide) (pc' := 332) rfl ?_
      refine own_goto C X at_332 (pc' := 336) (by decide) (by decide) ?_
      refine own_istore C X at_336 (L' := #[.val (.long q0), .second, .val (.long q1), .second, .val (.long q2), .second, .val (.long q3), .second, .val (.long q4), .second, .val (.int i5), .val (.int (1 : Int32)), .val (.int (3 : Int32)), .val (.long q0), .second, .val (.long h1v), .second, .val (.long h2v), .second, .val (.long h3v), .second, .val (.long h4v), .second, .val (.long mark), .second, .val (.ref hp), .val (.ref wa), .val (.ref go), .val (.int (1 : Int32)), .unset, .unset]) rfl (pc' := 338) rfl ?_
      refine own_aload C X at_338 rfl rfl (pc' := 340) rfl ?_
      refine own_aload C X at_340 rfl rfl (pc' := 342) rfl ?_
      refine own_iload C X at_342 rfl (pc' := 344) rfl ?_
      refine own_iconst C X at_344 (v := 0) (by decide) (pc' := 345) rfl ?_
      refine own_callS C X at_345 (own_m_sc3 l Z a0 hw wa go (0 : Int32) _ n0 (own_big C X) q4 h1v h2v h3v h4v r0 r1 r2 mark mark q4 A_wa A_go (by decide) 0 (by decide) rfl pm) (hw _ (List.mem_of_getElem? (i := 14) rfl)) (hw _ (List.mem_of_getElem? (i := 15) rfl)) (hw _ (List.mem_of_getElem? (i := 12) rfl)) (hw _ (List.mem_of_getElem? (i := 16) rfl)) (by decide) own_pd_7147 rfl rfl (Nat.le_of_ble_eq_true rfl) (Nat.le_of_ble_eq_true rfl) (Nat.le_of_ble_eq_true rfl) (Nat.le_of_ble_eq_true rfl) (av := [(.ref wa), (.ref go), (.int (3 : Int32)), (.int (0 : Int32))]) (S := []) rfl (pc' := 348) rfl ?_
      intro T h v X hQ
      obtain ⟨rfl, rfl⟩ := hQ
      show own_Go p e below n0 (own_Fin room_1 s (fun v h => v = some (.int 1))) (T.setTop (mkF m 348 #[.val (.long q0), .second, .val (.long q1), .second, .val (.long q2), .second, .val (.long q3), .second, .val (.long q4), .second, .val (.int i5), .val (.int (1 : Int32)), .val (.int (3 : Int32)), .val (.long q0), .second, .val (.long h1v), .second, .val (.long h2v), .second, .val (.long h3v), .second, .val (.long h4v), .second, .val (.long mark), .second, .val (.ref hp), .val (.ref wa), .val (.ref go), .val (.int (1 : Int32)), .unset, .unset] [(.int (1 : Int32))]))
      refine own_if_eq C X at_348 (pcT := 407) (pc' := 351) (by decide) (by decide) rfl (fun hc348 => absurd hc348 (by decide)) (fun hc348 => ?_)
      refine own_aload C X at_351 rfl rfl (pc' := 353) rfl ?_
      refine own_aload C X at_353 rfl rfl (pc' := 355) rfl ?_
      refine own_iload C X at_355 rfl (pc' := 357) rfl ?_
      refine own_iconst C X at_357 (v := 1) (by decide) (pc' := 358) rfl ?_
      refine own_callS C X at_358 (own_m_sc3 l Z a0 hw wa go (1 : Int32) _ n0 (own_big C X) q4 h1v h2v h3v h4v r0 r1 r2 mark mark h1v A_wa A_go (by decide) 1 (by decide) rfl pm) (hw _ (List.mem_of_getElem? (i := 14) rfl)) (hw _ (List.mem_of_getElem? (i := 15) rfl)) (hw _ (List.mem_of_getElem? (i := 12) rfl)) (hw _ (List.mem_of_getElem? (i := 16) rfl)) (by decide) own_pd_7147 rfl rfl (Nat.le_of_ble_eq_true rfl) (Nat.le_of_ble_eq_true rfl) (Nat.le_of_ble_eq_true rfl) (Nat.le_of_ble_eq_true rfl) (av := [(.ref wa), (.ref go), (.int (3 : Int32)), (.int (1 : Int32))]) (S := []) rfl (pc' := 361) rfl ?_
      intro T h v X hQ
      obtain ⟨rfl, rfl⟩ := hQ
      show own_Go p e below n0 (own_Fin room_1 s (fun v h => v = some (.int 1))) (T.setTop (mkF m 361 #[.val (.long q0), .second, .val (.long q1), .second, .val (.long q2), .second, .val (.long q3), .second, .val (.long q4), .second, .val (.int i5), .val (.int (1 : Int32)), .val (.int (3 : Int32)), .val (.long q0), .second, .val (.long h1v), .second, .val (.long h2v), .second, .val (.long h3v), .second, .val (.long h4v), .second, .val (.long mark), .second, .val (.ref hp), .val (.ref wa), .val (.ref go), .val (.int (1 : Int32)), .unset, .unset] [(.int (1 : Int32))]))
      refine own_if_eq C X at_361 (pcT := 407) (pc' := 364) (by decide) (by decide) rfl (fun hc361 => absurd hc361 (by decide)) (fun hc361 => ?_)
      refine own_aload C X at_364 rfl rfl (pc' := 366) rfl ?_
      refine own_aload C X at_366 rfl rfl (pc' := 368) rfl ?_
      refine own_iload C X at_368 rfl (pc' := 370) rfl ?_
      refine own_iconst C X at_370 (v := 2) (by decide) (pc' := 371) rfl ?_
      refine own_callS C X at_371 (own_m_sc3 l Z a0 hw wa go (2 : Int32) _ n0 (own_big C X) q4 h1v h2v h3v h4v r0 r1 r2 mark mark h2v A_wa A_go (by decide) 2 (by decide) rfl pm) (hw _ (List.mem_of_getElem? (i := 14) rfl)) (hw _ (List.mem_of_getElem? (i := 15) rfl)) (hw _ (List.mem_of_getElem? (i := 12) rfl)) (hw _ (List.mem_of_getElem? (i := 16) rfl)) (by decide) own_pd_7147 rfl rfl (Nat.le_of_ble_eq_true rfl) (Nat.le_of_ble_eq_true rfl) (Nat.le_of_ble_eq_true rfl) (Nat.le_of_ble_eq_true rfl) (av := [(.ref wa), (.ref go), (.int (3 : Int32)), (.int (2 : Int32))]) (S := []) rfl (pc' := 374) rfl ?_
      intro T h v X hQ
      obtain ⟨rfl, rfl⟩ := hQ
      show own_Go p e below n0 (own_Fin room_1 s (fun v h => v = some (.int 1))) (T.setTop (mkF m 374 #[.val (.long q0), .second, .val (.long q1), .second, .val (.long q2), .second, .val (.long q3), .second, .val (.long q4), .second, .val (.int i5), .val (.int (1 : Int32)), .val (.int (3 : Int32)), .val (.long q0), .second, .val (.long h1v), .second, .val (.long h2v), .second, .val (.long h3v), .second, .val (.long h4v), .second, .val (.long mark), .second, .val (.ref hp), .val (.ref wa), .val (.ref go), .val (.int (1 : Int32)), .unset, .unset] [(.int (1 : Int32))]))
      refine own_if_eq C X at_374 (pcT := 407) (pc' := 377) (by decide) (by decide) rfl (fun hc374 => absurd hc374 (by decide)) (fun hc374 => ?_)
      refine own_aload C X at_377 rfl rfl (pc' := 379) rfl ?_
      refine own_aload C X at_379 rfl rfl (pc' := 381) rfl ?_
      refine own_iload C X at_381 rfl (pc' := 383) rfl ?_
      refine own_iconst C X at_383 (v := 3) (by decide) (pc' := 384) rfl ?_
      refine own_callS C X at_384 (own_m_scN l Z a0 hw wa go (3 : Int32) (3 : Int32) _ n0 (own_big C X) (by decide)) (hw _ (List.mem_of_getElem? (i := 14) rfl)) (hw _ (List.mem_of_getElem? (i := 15) rfl)) (hw _ (List.mem_of_getElem? (i := 12) rfl)) (hw _ (List.mem_of_getElem? (i := 16) rfl)) (by decide) own_pd_7147 rfl rfl (Nat.le_of_ble_eq_true rfl) (Nat.le_of_ble_eq_true rfl) (Nat.le_of_ble_eq_true rfl) (Nat.le_of_ble_eq_true rfl) (av := [(.ref wa), (.ref go), (.int (3 : Int32)), (.int (3 : Int32))]) (S := []) rfl (pc' := 387) rfl ?_
      intro T h v X hQ
      obtain ⟨rfl, rfl⟩ := hQ
      show own_Go p e below n0 (own_Fin room_1 s (fun v h => v = some (.int 1))) (T.setTop (mkF m 387 #[.val (.long q0), .second, .val (.long q1), .second, .val (.long q2), .second, .val (.long q3), .second, .val (.long q4), .second, .val (.int i5), .val (.int (1 : Int32)), .val (.int (3 : Int32)), .val (.long q0), .second, .val (.long h1v), .second, .val (.long h2v), .second, .val (.long h3v), .second, .val (.long h4v), .second, .val (.long mark), .second, .val (.ref hp), .val (.ref wa), .val (.ref go), .val (.int (1 : Int32)), .unset, .unset] [(.int (1 : Int32))]))
      refine own_if_eq C X at_387 (pcT := 407) (pc' := 390) (by decide) (by decide) rfl (fun hc387 => absurd hc387 (by decide)) (fun hc387 => ?_)
      refine own_aload C X at_390 rfl rfl (pc' := 392) rfl ?_
      refine own_aload C X at_392 rfl rfl (pc' := 394) rfl ?_
      refine own_iload C X at_394 rfl (pc' := 396) rfl ?_
      refine own_iconst C X at_396 (v := 4) (by decide) (pc' := 397) rfl ?_
      refine own_callS C X at_397 (own_m_scN l Z a0 hw wa go (3 : Int32) (4 : Int32) _ n0 (own_big C X) (by decide)) (hw _ (List.mem_of_getElem? (i := 14) rfl)) (hw _ (List.mem_of_getElem? (i := 15) rfl)) (hw _ (List.mem_of_getElem? (i := 12) rfl)) (hw _ (List.mem_of_getElem? (i := 16) rfl)) (by decide) own_pd_7147 rfl rfl (Nat.le_of_ble_eq_true rfl) (Nat.le_of_ble_eq_true rfl) (Nat.le_of_ble_eq_true rfl) (Nat.le_of_ble_eq_true rfl) (av := [(.ref wa), (.ref go), (.int (3 : Int32)), (.int (4 : Int32))]) (S := []) rfl (pc' := 400) rfl ?_
      intro T h v X hQ
      obtain ⟨rfl, rfl⟩ := hQ
      show own_Go p e below n0 (own_Fin room_1 s (fun v h => v = some (.int 1))) (T.setTop (mkF m 400 #[.val (.long q0), .second, .val (.long q1), .second, .val (.long q2), .second, .val (.long q3), .second, .val (.long q4), .second, .val (.int i5), .val (.int (1 : Int32)), .val (.int (3 : Int32)), .val (.long q0), .second, .val (.long h1v), .second, .val (.long h2v), .second, .val (.long h3v), .second, .val (.long h4v), .second, .val (.long mark), .second, .val (.ref hp), .val (.ref wa), .val (.ref go), .val (.int (1 : Int32)), .unset, .unset] [(.int (1 : Int32))]))
      refine own_if_eq C X at_400 (pcT := 407) (pc' := 403) (by decide) (by decide) rfl (fun hc400 => absurd hc400 (by decide)) (fun hc400 => ?_)
      refine own_iconst C X at_403 (v := 1) (by decide) (pc' := 404) rfl ?_
      refine own_goto C X at_404 (pc' := 408) (by decide) (by decide) ?_
      refine own_istore C X at_408 (L' := #[.val (.long q0), .second, .val (.long q1), .second, .val (.long q2), .second, .val (.long q3), .second, .val (.long q4), .second, .val (.int i5), .val (.int (1 : Int32)), .val (.int (3 : Int32)), .val (.long q0), .second, .val (.long h1v), .second, .val (.long h2v), .second, .val (.long h3v), .second, .val (.long h4v), .second, .val (.long mark), .second, .val (.ref hp), .val (.ref wa), .val (.ref go), .val (.int (1 : Int32)), .val (.int (1 : Int32)), .unset]) rfl (pc' := 410) rfl ?_
      refine own_aload C X at_410 rfl rfl (pc' := 412) rfl ?_
      refine own_iconst C X at_412 (v := 0) (by decide) (pc' := 413) rfl ?_
      refine own_iload C X at_413 rfl (pc' := 415) rfl ?_
      refine own_iload C X at_415 rfl (pc' := 417) rfl ?_
      refine own_lload C X at_417 rfl (pc' := 419) rfl ?_
      refine own_callS C X at_419 (own_m_kpB l Z a0 hw hp (0 : Int32) (1 : Int32) (3 : Int32) mark _ n0 (own_big C X) (by decide) [mark, r0, r1, r2, mark, mark, mark] A_hp 0 (by decide) rfl) (hw _ (List.mem_of_getElem? (i := 20) rfl)) (hw _ (List.mem_of_getElem? (i := 21) rfl)) (hw _ (List.mem_of_getElem? (i := 12) rfl)) (hw _ (List.mem_of_getElem? (i := 22) rfl)) (by decide) own_pd_6969 rfl rfl (Nat.le_of_ble_eq_true rfl) (Nat.le_of_ble_eq_true rfl) (Nat.le_of_ble_eq_true rfl) (Nat.le_of_ble_eq_true rfl) (av := [(.ref hp), (.int (0 : Int32)), (.int (1 : Int32)), (.int (3 : Int32)), (.long mark)]) (S := []) rfl (pc' := 422) rfl ?_
      intro T h v X hQ
      obtain ⟨rfl, rfl⟩ := hQ
      show own_Go p e below n0 (own_Fin room_1 s (fun v h => v = some (.int 1))) (T.setTop (mkF m 422 #[.val (.long q0), .second, .val (.long q1), .second, .val (.long q2), .second, .val (.long q3), .second, .val (.long q4), .second, .val (.int i5), .val (.int (1 : Int32)), .val (.int (3 : Int32)), .val (.long q0), .second, .val (.long h1v), .second, .val (.long h2v), .second, .val (.long h3v), .second, .val (.long h4v), .second, .val (.long mark), .second, .val (.ref hp), .val (.ref wa), .val (.ref go), .val (.int (1 : Int32)), .val (.int (1 : Int32)), .unset] [(.int (1 : Int32))]))
      refine own_if_eq C X at_422 (pcT := 520) (pc' := 425) (by decide) (by decide) rfl (fun hc422 => absurd hc422 (by decide)) (fun hc422 => ?_)
      refine own_aload C X at_425 rfl rfl (pc' := 427) rfl ?_
      refine own_iconst C X at_427 (v := 1) (by decide) (pc' := 428) rfl ?_
      refine own_iload C X at_428 rfl (pc' := 430) rfl ?_
      refine own_iload C X at_430 rfl (pc' := 432) rfl ?_
      refine own_lload C X at_432 rfl (pc' := 434) rfl ?_
      refine own_callS C X at_434 (own_m_kpI l Z a0 hw hp (1 : Int32) (1 : Int32) (3 : Int32) mark _ n0 (own_big C X) (by decide) (by decide)) (hw _ (List.mem_of_getElem? (i := 20) rfl)) (hw _ (List.mem_of_getElem? (i := 21) rfl)) (hw _ (List.mem_of_getElem? (i := 12) rfl)) (hw _ (List.mem_of_getElem? (i := 22) rfl)) (by decide) own_pd_6969 rfl rfl (Nat.le_of_ble_eq_true rfl) (Nat.le_of_ble_eq_true rfl) (Nat.le_of_ble_eq_true rfl) (Nat.le_of_ble_eq_true rfl) (av := [(.ref hp), (.int (1 : Int32)), (.int (1 : Int32)), (.int (3 : Int32)), (.long mark)]) (S := []) rfl (pc' := 437) rfl ?_
      intro T h v X hQ
      obtain ⟨rfl, rfl⟩ := hQ
      show own_Go p e below n0 (own_Fin room_1 s (fun v h => v = some (.int 1))) (T.setTop (mkF m 437 #[.val (.long q0), .second, .val (.long q1), .second, .val (.long q2), .second, .val (.long q3), .second, .val (.long q4), .second, .val (.int i5), .val (.int (1 : Int32)), .val (.int (3 : Int32)), .val (.long q0), .second, .val (.long h1v), .second, .val (.long h2v), .second, .val (.long h3v), .second, .val (.long h4v), .second, .val (.long mark), .second, .val (.ref hp), .val (.ref wa), .val (.ref go), .val (.int (1 : Int32)), .val (.int (1 : Int32)), .unset] [(.int (1 : Int32))]))
      refine own_if_eq C X at_437 (pcT := 520) (pc' := 440) (by decide) (by decide) rfl (fun hc437 => absurd hc437 (by decide)) (fun hc437 => ?_)
      refine own_aload C X at_440 rfl rfl (pc' := 442) rfl ?_
      refine own_iconst C X at_442 (v := 2) (by decide) (pc' := 443) rfl ?_
      refine own_iload C X at_443 rfl (pc' := 445) rfl ?_
      refine own_iload C X at_445 rfl (pc' := 447) rfl ?_
      refine own_lload C X at_447 rfl (pc' := 449) rfl ?_
      refine own_callS C X at_449 (own_m_kpI l Z a0 hw hp (2 : Int32) (1 : Int32) (3 : Int32) mark _ n0 (own_big C X) (by decide) (by decide)) (hw _ (List.mem_of_getElem? (i := 20) rfl)) (hw _ (List.mem_of_getElem? (i := 21) rfl)) (hw _ (List.mem_of_getElem? (i := 12) rfl)) (hw _ (List.mem_of_getElem? (i := 22) rfl)) (by decide) own_pd_6969 rfl rfl (Nat.le_of_ble_eq_true rfl) (Nat.le_of_ble_eq_true rfl) (Nat.le_of_ble_eq_true rfl) (Nat.le_of_ble_eq_true rfl) (av := [(.ref hp), (.int (2 : Int32)), (.int (1 : Int32)), (.int (3 : Int32)), (.long mark)]) (S := []) rfl (pc' := 452) rfl ?_
      intro T h v X hQ
      obtain ⟨rfl, rfl⟩ := hQ
      show own_Go p e below n0 (own_Fin room_1 s (fun v h => v = some (.int 1))) (T.setTop (mkF m 452 #[.val (.long q0), .second, .val (.long q1), .second, .val (.long q2), .second, .val (.long q3), .second, .val (.long q4), .second, .val (.int i5), .val (.int (1 : Int32)), .val (.int (3 : Int32)), .val (.long q0), .second, .val (.long h1v), .second, .val (.long h2v), .second, .val (.long h3v), .second, .val (.long h4v), .second, .val (.long mark), .second, .val (.ref hp), .val (.ref wa), .val (.ref go), .val (.int (1 : Int32)), .val (.int (1 : Int32)), .unset] [(.int (1 : Int32))]))
      refine own_if_eq C X at_452 (pcT := 520) (pc' := 455) (by decide) (by decide) rfl (fun hc452 => absurd hc452 (by decide)) (fun hc452 => ?_)
      refine own_aload C X at_455 rfl rfl (pc' := 457) rfl ?_
      refine own_iconst C X at_457 (v := 3) (by decide) (pc' := 458) rfl ?_
      refine own_iload C X at_458 rfl (pc' := 460) rfl ?_
      refine own_iload C X at_460 rfl (pc' := 462) rfl ?_
      refine own_lload C X at_462 rfl (pc' := 464) rfl ?_
      refine own_callS C X at_464 (own_m_kpI l Z a0 hw hp (3 : Int32) (1 : Int32) (3 : Int32) mark _ n0 (own_big C X) (by decide) (by decide)) (hw _ (List.mem_of_getElem? (i := 20) rfl)) (hw _ (List.mem_of_getElem? (i := 21) rfl)) (hw _ (List.mem_of_getElem? (i := 12) rfl)) (hw _ (List.mem_of_getElem? (i := 22) rfl)) (by decide) own_pd_6969 rfl rfl (Nat.le_of_ble_eq_true rfl) (Nat.le_of_ble_eq_true rfl) (Nat.le_of_ble_eq_true rfl) (Nat.le_of_ble_eq_true rfl) (av := [(.ref hp), (.int (3 : Int32)), (.int (1 : Int32)), (.int (3 : Int32)), (.long mark)]) (S := []) rfl (pc' := 467) rfl ?_
      intro T h v X hQ
      obtain ⟨rfl, rfl⟩ := hQ
      show own_Go p e below n0 (own_Fin room_1 s (fun v h => v = some (.int 1))) (T.setTop (mkF m 467 #[.val (.long q0), .second, .val (.long q1), .second, .val (.long q2), .second, .val (.long q3), .second, .val (.long q4), .second, .val (.int i5), .val (.int (1 : Int32)), .val (.int (3 : Int32)), .val (.long q0), .second, .val (.long h1v), .second, .val (.long h2v), .second, .val (.long h3v), .second, .val (.long h4v), .second, .val (.long mark), .second, .val (.ref hp), .val (.ref wa), .val (.ref go), .val (.int (1 : Int32)), .val (.int (1 : Int32)), .unset] [(.int (1 : Int32))]))
      refine own_if_eq C X at_467 (pcT := 520) (pc' := 470) (by decide) (by decide) rfl (fun hc467 => absurd hc467 (by decide)) (fun hc467 => ?_)
      refine own_aload C X at_470 rfl rfl (pc' := 472) rfl ?_
      refine own_iconst C X at_472 (v := 4) (by decide) (pc' := 473) rfl ?_
      refine own_iload C X at_473 rfl (pc' := 475) rfl ?_
      refine own_iload C X at_475 rfl (pc' := 477) rfl ?_
      refine own_lload C X at_477 rfl (pc' := 479) rfl ?_
      refine own_callS C X at_479 (own_m_kpA l Z a0 hw hp (4 : Int32) (1 : Int32) (3 : Int32) mark _ n0 (own_big C X) (by decide) (by decide) [mark, r0, r1, r2, mark, mark, mark] A_hp 4 (by decide) rfl) (hw _ (List.mem_of_getElem? (i := 20) rfl)) (hw _ (List.mem_of_getElem? (i := 21) rfl)) (hw _ (List.mem_of_getElem? (i := 12) rfl)) (hw _ (List.mem_of_getElem? (i := 22) rfl)) (by decide) own_pd_6969 rfl rfl (Nat.le_of_ble_eq_true rfl) (Nat.le_of_ble_eq_true rfl) (Nat.le_of_ble_eq_true rfl) (Nat.le_of_ble_eq_true rfl) (av := [(.ref hp), (.int (4 : Int32)), (.int (1 : Int32)), (.int (3 : Int32)), (.long mark)]) (S := []) rfl (pc' := 482) rfl ?_
      intro T h v X hQ
      obtain ⟨rfl, rfl⟩ := hQ
      show own_Go p e below n0 (own_Fin room_1 s (fun v h => v = some (.int 1))) (T.setTop (mkF m 482 #[.val (.long q0), .second, .val (.long q1), .second, .val (.long q2), .second, .val (.long q3), .second, .val (.long q4), .second, .val (.int i5), .val (.int (1 : Int32)), .val (.int (3 : Int32)), .val (.long q0), .second, .val (.long h1v), .second, .val (.long h2v), .second, .val (.long h3v), .second, .val (.long h4v), .second, .val (.long mark), .second, .val (.ref hp), .val (.ref wa), .val (.ref go), .val (.int (1 : Int32)), .val (.int (1 : Int32)), .unset] [(.int (1 : Int32))]))
      refine own_if_eq C X at_482 (pcT := 520) (pc' := 485) (by decide) (by decide) rfl (fun hc482 => absurd hc482 (by decide)) (fun hc482 => ?_)
      refine own_aload C X at_485 rfl rfl (pc' := 487) rfl ?_
      refine own_iconst C X at_487 (v := 5) (by decide) (pc' := 488) rfl ?_
      refine own_iload C X at_488 rfl (pc' := 490) rfl ?_
      refine own_iload C X at_490 rfl (pc' := 492) rfl ?_
      refine own_lload C X at_492 rfl (pc' := 494) rfl ?_
      refine own_callS C X at_494 (own_m_kpA l Z a0 hw hp (5 : Int32) (1 : Int32) (3 : Int32) mark _ n0 (own_big C X) (by decide) (by decide) [mark, r0, r1, r2, mark, mark, mark] A_hp 5 (by decide) rfl) (hw _ (List.mem_of_getElem? (i := 20) rfl)) (hw _ (List.mem_of_getElem? (i := 21) rfl)) (hw _ (List.mem_of_getElem? (i := 12) rfl)) (hw _ (List.mem_of_getElem? (i := 22) rfl)) (by decide) own_pd_6969 rfl rfl (Nat.le_of_ble_eq_true rfl) (Nat.le_of_ble_eq_true rfl) (Nat.le_of_ble_eq_true rfl) (Nat.le_of_ble_eq_true rfl) (av := [(.ref hp), (.int (5 : Int32)), (.int (1 : Int32)), (.int (3 : Int32)), (.long mark)]) (S := []) rfl (pc' := 497) rfl ?_
      intro T h v X hQ
      obtain ⟨rfl, rfl⟩ := hQ
      show own_Go p e below n0 (own_Fin room_1 s (fun v h => v = some (.int 1))) (T.setTop (mkF m 497 #[.val (.long q0), .second, .val (.long q1), .second, .val (.long q2), .second, .val (.long q3), .second, .val (.long q4), .second, .val (.int i5), .val (.int (1 : Int32)), .val (.int (3 : Int32)), .val (.long q0), .second, .val (.long h1v), .second, .val (.long h2v), .second, .val (.long h3v), .second, .val (.long h4v), .second, .val (.long mark), .second, .val (.ref hp), .val (.ref wa), .val (.ref go), .val (.int (1 : Int32)), .val (.int (1 : Int32)), .unset] [(.int (1 : Int32))]))
      refine own_if_eq C X at_497 (pcT := 520) (pc' := 500) (by decide) (by decide) rfl (fun hc497 => absurd hc497 (by decide)) (fun hc497 => ?_)
      refine own_aload C X at_500 rfl rfl (pc' := 502) rfl ?_
      refine own_bipush C X at_502 (v := 6) (by decide) (pc' := 504) rfl ?_
      refine own_iload C X at_504 rfl (pc' := 506) rfl ?_
      refine own_iload C X at_506 rfl (pc' := 508) rfl ?_
      refine own_lload C X at_508 rfl (pc' := 510) rfl ?_
      refine own_callS C X at_510 (own_m_kpA l Z a0 hw hp (6 : Int32) (1 : Int32) (3 : Int32) mark _ n0 (own_big C X) (by decide) (by decide) [mark, r0, r1, r2, mark, mark, mark] A_hp 6 (by decide) rfl) (hw _ (List.mem_of_getElem? (i := 20) rfl)) (hw _ (List.mem_of_getElem? (i := 21) rfl)) (hw _ (List.mem_of_getElem? (i := 12) rfl)) (hw _ (List.mem_of_getElem? (i := 22) rfl)) (by decide) own_pd_6969 rfl rfl (Nat.le_of_ble_eq_true rfl) (Nat.le_of_ble_eq_true rfl) (Nat.le_of_ble_eq_true rfl) (Nat.le_of_ble_eq_true rfl) (av := [(.ref hp), (.int (6 : Int32)), (.int (1 : Int32)), (.int (3 : Int32)), (.long mark)]) (S := []) rfl (pc' := 513) rfl ?_
      intro T h v X hQ
      obtain ⟨rfl, rfl⟩ := hQ
      show own_Go p e below n0 (own_Fin room_1 s (fun v h => v = some (.int 1))) (T.setTop (mkF m 513 #[.val (.long q0), .second, .val (.long q1), .second, .val (.long q2), .second, .val (.long q3), .second, .val (.long q4), .second, .val (.int i5), .val (.int (1 : Int32)), .val (.int (3 : Int32)), .val (.long q0), .second, .val (.long h1v), .second, .val (.long h2v), .second, .val (.long h3v), .second, .val (.long h4v), .second, .val (.long mark), .second, .val (.ref hp), .val (.ref wa), .val (.ref go), .val (.int (1 : Int32)), .val (.int (1 : Int32)), .unset] [(.int (1 : Int32))]))
      refine own_if_eq C X at_513 (pcT := 520) (pc' := 516) (by decide) (by decide) rfl (fun hc513 => absurd hc513 (by decide)) (fun hc513 => ?_)
      refine own_iconst C X at_516 (v := 1) (by decide) (pc' := 517) rfl ?_
      refine own_goto C X at_517 (pc' := 521) (by decide) (by decide) ?_
      refine own_istore C X at_521 (L' := #[.val (.long q0), .second, .val (.long q1), .second, .val (.long q2), .second, .val (.long q3), .second, .val (.long q4), .second, .val (.int i5), .val (.int (1 : Int32)), .val (.int (3 : Int32)), .val (.long q0), .second, .val (.long h1v), .second, .val (.long h2v), .second, .val (.long h3v), .second, .val (.long h4v), .second, .val (.long mark), .second, .val (.ref hp), .val (.ref wa), .val (.ref go), .val (.int (1 : Int32)), .val (.int (1 : Int32)), .val (.int (1 : Int32))]) rfl (pc' := 523) rfl ?_
      refine own_iload C X at_523 rfl (pc' := 525) rfl ?_
      refine own_if_eq C X at_525 (pcT := 542) (pc' := 528) (by decide) (by decide) rfl (fun hc525 => absurd hc525 (by decide)) (fun hc525 => ?_)
      refine own_iload C X at_528 rfl (pc' := 530) rfl ?_
      refine own_if_eq C X at_530 (pcT := 542) (pc' := 533) (by decide) (by decide) rfl (fun hc530 => absurd hc530 (by decide)) (fun hc530 => ?_)
      refine own_iload C X at_533 rfl (pc' := 535) rfl ?_
      refine own_if_eq C X at_535 (pcT := 542) (pc' := 538) (by decide) (by decide) rfl (fun hc535 => absurd hc535 (by decide)) (fun hc535 => ?_)
      refine own_iconst C X at_538 (v := 1) (by decide) (pc' := 539) rfl ?_
      refine own_goto C X at_539 (pc' := 543) (by decide) (by decide) ?_
      exact own_ireturn_z C X at_543 (Nat.le_of_ble_eq_true rfl) (Nat.le_of_ble_eq_true rfl) (rfl)
  · rcases own_of _ off e_off with rfl | rfl
    · refine own_aload C X at_116 rfl rfl (pc' := 118) rfl ?_
      refine own_iload C X at_118 rfl (pc' := 120) rfl ?_
      refine own_lload C X at_120 rfl (pc' := 122) rfl ?_
      refine own_lastore C X at_122 A_hp (by decide) (i := 0) (Nat.le_of_ble_eq_true rfl) ge_hp (pc' := 123) rfl ?_
      intro T h X K_ A_hp_
      have A_hp : own_JA Z h hp [q0, mark, mark, mark, mark, mark, mark] := A_hp_
      refine own_iload C X at_123 rfl (pc' := 125) rfl ?_
      refine own_iconst C X at_125 (v := 1) (by decide) (pc' := 126) rfl ?_
      refine own_icmp_le C X at_126 (pcT := 138) (pc' := 129) (by decide) (by decide) rfl (fun hc126 => absurd hc126 (by decide)) (fun hc126 => ?_)
      refine own_aload C X at_129 rfl rfl (pc' := 131) rfl ?_
      refine own_iload C X at_131 rfl (pc' := 133) rfl ?_
      refine own_iconst C X at_133 (v := 1) (by decide) (pc' := 134) rfl ?_
      refine own_iadd C X at_134 (z := 1) (by decide) (pc' := 135) rfl ?_
      refine own_lload C X at_135 rfl (pc' := 137) rfl ?_
      refine own_lastore C X at_137 A_hp (by decide) (i := 1) (Nat.le_of_ble_eq_true rfl) ge_hp (pc' := 138) rfl ?_
      intro T h X K_ A_hp_
      have A_hp : own_JA Z h hp [q0, h1v, mark, mark, mark, mark, mark] := A_hp_
      refine own_iload C X at_138 rfl (pc' := 140) rfl ?_
      refine own_iconst C X at_140 (v := 2) (by decide) (pc' := 141) rfl ?_
      refine own_icmp_le C X at_141 (pcT := 153) (pc' := 144) (by decide) (by decide) rfl (fun hc141 => absurd hc141 (by decide)) (fun hc141 => ?_)
      refine own_aload C X at_144 rfl rfl (pc' := 146) rfl ?_
      refine own_iload C X at_146 rfl (pc' := 148) rfl ?_
      refine own_iconst C X at_148 (v := 2) (by decide) (pc' := 149) rfl ?_
      refine own_iadd C X at_149 (z := 2) (by decide) (pc' := 150) rfl ?_
      refine own_lload C X at_150 rfl (pc' := 152) rfl ?_
      refine own_lastore C X at_152 A_hp (by decide) (i := 2) (Nat.le_of_ble_eq_true rfl) ge_hp (pc' := 153) rfl ?_
      intro T h X K_ A_hp_
      have A_hp : own_JA Z h hp [q0, h1v, h2v, mark, mark, mark, mark] := A_hp_
      refine own_iload C X at_153 rfl (pc' := 155) rfl ?_
      refine own_iconst C X at_155 (v := 3) (by decide) (pc' := 156) rfl ?_
      refine own_icmp_le C X at_156 (pcT := 168) (pc' := 159) (by decide) (by decide) rfl (fun hc156 => absurd hc156 (by decide)) (fun hc156 => ?_)
      refine own_aload C X at_159 rfl rfl (pc' := 161) rfl ?_
      refine own_iload C X at_161 rfl (pc' := 163) rfl ?_
      refine own_iconst C X at_163 (v := 3) (by decide) (pc' := 164) rfl ?_
      refine own_iadd C X at_164 (z := 3) (by decide) (pc' := 165) rfl ?_
      refine own_lload C X at_165 rfl (pc' := 167) rfl ?_
      refine own_lastore C X at_167 A_hp (by decide) (i := 3) (Nat.le_of_ble_eq_true rfl) ge_hp (pc' := 168) rfl ?_
      intro T h X K_ A_hp_
      have A_hp : own_JA Z h hp [q0, h1v, h2v, h3v, mark, mark, mark] := A_hp_
      refine own_iload C X at_168 rfl (pc' := 170) rfl ?_
      refine own_iconst C X at_170 (v := 4) (by decide) (pc' := 171) rfl ?_
      refine own_icmp_le C X at_171 (pcT := 183) (pc' := 174) (by decide) (by decide) rfl (fun hc171 => ?_) (fun hc171 => absurd hc171 (by decide))
      refine own_iconst C X at_183 (v := 5) (by decide) (pc' := 184) rfl ?_
      refine own_newJ C X at_184 (hw _ (List.mem_of_getElem? (i := 5) rfl)) (by decide) (k := 5) (cap := 5) (Nat.le_of_ble_eq_true rfl) (by decide) (Nat.le_of_ble_eq_true rfl) (Nat.le_of_ble_eq_true rfl) (pc' := 186) rfl ?_
      intro T h wa e_wa X K_ ge_wa A_wa_
      have ne_hp_wa : hp ≠ wa := by rw [e_wa]; exact Nat.ne_of_lt A_hp.lt
      have A_wa : own_JA Z h wa [(0 : Int64), (0 : Int64), (0 : Int64), (0 : Int64), (0 : Int64)] := A_wa_
      have A_hp := A_hp.keep K_ nin0
      refine own_astore C X at_186 rfl (L' := #[.val (.long q0), .second, .val (.long q1), .second, .val (.long q2), .second, .val (.long q3), .second, .val (.long q4), .second, .val (.int i5), .val (.int (0 : Int32)), .val (.int (4 : Int32)), .val (.long q0), .second, .val (.long h1v), .second, .val (.long h2v), .second, .val (.long h3v), .second, .val (.long h4v), .second, .val (.long mark), .second, .val (.ref hp), .val (.ref wa), .unset, .unset, .unset, .unset]) rfl (pc' := 188) rfl ?_
      refine own_aload C X at_188 rfl rfl (pc' := 190) rfl ?_
      refine own_iconst C X at_190 (v := 0) (by decide) (pc' := 191) rfl ?_
      refine own_lload C X at_191 rfl (pc' := 193) rfl ?_
      refine own_lastore C X at_193 A_wa (by decide) (i := 0) (Nat.le_of_ble_eq_true rfl) ge_wa (pc' := 194) rfl ?_
      intro T h X K_ A_wa_
      have A_wa : own_JA Z h wa [q4, (0 : Int64), (0 : Int64), (0 : Int64), (0 : Int64)] := A_wa_
      have A_hp := A_hp.keep K_ (ninS ne_hp_wa nin0)
      refine own_aload C X at_194 rfl rfl (pc' := 196) rfl ?_
      refine own_iconst C X at_196 (v := 1) (by decide) (pc' := 197) rfl ?_
      refine own_lload C X at_197 rfl (pc' := 199) rfl ?_
      refine own_lastore C X at_199 A_wa (by decide) (i := 1) (Nat.le_of_ble_eq_true rfl) ge_wa (pc' := 200) rfl ?_
      intro T h X K_ A_wa_
      have A_wa : own_JA Z h wa [q4, h1v, (0 : Int64), (0 : Int64), (0 : Int64)] := A_wa_
      have A_hp := A_hp.keep K_ (ninS ne_hp_wa nin0)
      refine own_aload C X at_200 rfl rfl (pc' := 202) rfl ?_
      refine own_iconst C X at_202 (v := 2) (by decide) (pc' := 203) rfl ?_
      refine own_lload C X at_203 rfl (pc' := 205) rfl ?_
      refine own_lastore C X at_205 A_wa (by decide) (i := 2) (Nat.le_of_ble_eq_true rfl) ge_wa (pc' := 206) rfl ?_
      intro T h X K_ A_wa_
      have A_wa : own_JA Z h wa [q4, h1v, h2v, (0 : Int64), (0 : Int64)] := A_wa_
      have A_hp := A_hp.keep K_ (ninS ne_hp_wa nin0)
      refine own_aload C X at_206 rfl rfl (pc' := 208) rfl ?_
      refine own_iconst C X at_208 (v := 3) (by decide) (pc' := 209) rfl ?_
      refine own_lload C X at_209 rfl (pc' := 211) rfl ?_
      refine own_lastore C X at_211 A_wa (by decide) (i := 3) (Nat.le_of_ble_eq_true rfl) ge_wa (pc' := 212) rfl ?_
      intro T h X K_ A_wa_
      have A_wa : own_JA Z h wa [q4, h1v, h2v, h3v, (0 : Int64)] := A_wa_
      have A_hp := A_hp.keep K_ (ninS ne_hp_wa nin0)
      refine own_aload C X at_212 rfl rfl (pc' := 214) rfl ?_
      refine own_iconst C X at_214 (v := 4) (by decide) (pc' := 215) rfl ?_
      refine own_lload C X at_215 rfl (pc' := 217) rfl ?_
      refine own_lastore C X at_217 A_wa (by decide) (i := 4) (Nat.le_of_ble_eq_true rfl) ge_wa (pc' := 218) rfl ?_
      intro T h X K_ A_wa_
      have A_wa : own_JA Z h wa [q4, h1v, h2v, h3v, h4v] := A_wa_
      have A_hp := A_hp.keep K_ (ninS ne_hp_wa nin0)
      refine own_aload C X at_218 rfl rfl (pc' := 220) rfl ?_
      refine own_iload C X at_220 rfl (pc' := 222) rfl ?_
      refine own_iload C X at_222 rfl (pc' := 224) rfl ?_
      refine own_lload C X at_224 rfl (pc' := 226) rfl ?_
      refine own_callS C X at_226 (own_m_rl40 l Z a0 hw hp q4 _ n0 (own_big C X) q0 h1v h2v h3v mark A_hp ge_hp l_h3v) (hw _ (List.mem_of_getElem? (i := 6) rfl)) (hw _ (List.mem_of_getElem? (i := 7) rfl)) (hw _ (List.mem_of_getElem? (i := 8) rfl)) (hw _ (List.mem_of_getElem? (i := 9) rfl)) (by decide) own_pd_5832 rfl rfl (Nat.le_of_ble_eq_true rfl) (Nat.le_of_ble_eq_true rfl) (Nat.le_of_ble_eq_true rfl) (Nat.le_of_ble_eq_true rfl) (av := [(.ref hp), (.int (0 : Int32)), (.int (4 : Int32)), (.long q4)]) (S := []) rfl (pc' := 229) rfl ?_
      intro T h v X hQ
      obtain ⟨rfl, r0, r1, r2, r3, K_, A_hp, od, pm⟩ := hQ
      have A_wa := A_wa.keep K_ (ninS (Ne.symm ne_hp_wa) nin0)
      show own_Go p e below n0 (own_Fin room_1 s (fun v h => v = some (.int 1))) (T.setTop (mkF m 229 #[.val (.long q0), .second, .val (.long q1), .second, .val (.long q2), .second, .val (.long q3), .second, .val (.long q4), .second, .val (.int i5), .val (.int (0 : Int32)), .val (.int (4 : Int32)), .val (.long q0), .second, .val (.long h1v), .second, .val (.long h2v), .second, .val (.long h3v), .second, .val (.long h4v), .second, .val (.long mark), .second, .val (.ref hp), .val (.ref wa), .unset, .unset, .unset, .unset] []))
      obtain ⟨od1, od2, od3, -⟩ := od
      refine own_iconst C X at_229 (v := 5) (by decide) (pc' := 230) rfl ?_
      refine own_newJ C X at_230 (hw _ (List.mem_of_getElem? (i := 5) rfl)) (by decide) (k := 5) (cap := 5) (Nat.le_of_ble_eq_true rfl) (by decide) (Nat.le_of_ble_eq_true rfl) (Nat.le_of_ble_eq_true rfl) (pc' := 232) rfl ?_
      intro T h go e_go X K_ ge_go A_go_
      have ne_hp_go : hp ≠ go := by rw [e_go]; exact Nat.ne_of_lt A_hp.lt
      have ne_wa_go : wa ≠ go := by rw [e_go]; exact Nat.ne_of_lt A_wa.lt
      have A_go : own_JA Z h go [(0 : Int64), (0 : Int64), (0 : Int64), (0 : Int64), (0 : Int64)] := A_go_
      have A_hp := A_hp.keep K_ nin0
      have A_wa := A_wa.keep K_ nin0
      refine own_astore C X at_232 rfl (L' := #[.val (.long q0), .second, .val (.long q1), .second, .val (.long q2), .second, .val (.long q3), .second, .val (.long q4), .second, .val (.int i5), .val (.int (0 : Int32)), .val (.int (4 : Int32)), .val (.long q0), .second, .val (.long h1v), .second, .val (.long h2v), .second, .val (.long h3v), .second, .val (.long h4v), .second, .val (.long mark), .second, .val (.ref hp), .val (.ref wa), .val (.ref go), .unset, .unset, .unset]) rfl (pc' := 234) rfl ?_
      refine own_aload C X at_234 rfl rfl (pc' := 236) rfl ?_
      refine own_iconst C X at_236 (v := 0) (by decide) (pc' := 237) rfl ?_
      refine own_aload C X at_237 rfl rfl (pc' := 239) rfl ?_
      refine own_iload C X at_239 rfl (pc' := 241) rfl ?_
      refine own_laload C X at_241 A_hp (by decide) (i := 0) rfl (pc' := 242) rfl ?_
      refine own_lastore C X at_242 A_go (by decide) (i := 0) (Nat.le_of_ble_eq_true rfl) ge_go (pc' := 243) rfl ?_
      intro T h X K_ A_go_
      have A_go : own_JA Z h go [r0, (0 : Int64), (0 : Int64), (0 : Int64), (0 : Int64)] := A_go_
      have A_hp := A_hp.keep K_ (ninS ne_hp_go nin0)
      have A_wa := A_wa.keep K_ (ninS ne_wa_go nin0)
      refine own_aload C X at_243 rfl rfl (pc' := 245) rfl ?_
      refine own_iconst C X at_245 (v := 1) (by decide) (pc' := 246) rfl ?_
      refine own_aload C X at_246 rfl rfl (pc' := 248) rfl ?_
      refine own_iload C X at_248 rfl (pc' := 250) rfl ?_
      refine own_iconst C X at_250 (v := 1) (by decide) (pc' := 251) rfl ?_
      refine own_iadd C X at_251 (z := 1) (by decide) (pc' := 252) rfl ?_
      refine own_laload C X at_252 A_hp (by decide) (i := 1) rfl (pc' := 253) rfl ?_
      refine own_lastore C X at_253 A_go (by decide) (i := 1) (Nat.le_of_ble_eq_true rfl) ge_go (pc' := 254) rfl ?_
      intro T h X K_ A_go_
      have A_go : own_JA Z h go [r0, r1, (0 : Int64), (0 : Int64), (0 : Int64)] := A_go_
      have A_hp := A_hp.keep K_ (ninS ne_hp_go nin0)
      have A_wa := A_wa.keep K_ (ninS ne_wa_go nin0)
      refine own_aload C X at_254 rfl rfl (pc' := 256) rfl ?_
      refine own_iconst C X at_256 (v := 2) (by decide) (pc' := 257) rfl ?_
      refine own_aload C X at_257 rfl rfl (pc' := 259) rfl ?_
      refine own_iload C X at_259 rfl (pc' := 261) rfl ?_
      refine own_iconst C X at_261 (v := 2) (by decide) (pc' := 262) rfl ?_
      refine own_iadd C X at_262 (z := 2) (by decide) (pc' := 263) rfl ?_
      refine own_laload C X at_263 A_hp (by decide) (i := 2) rfl (pc' := 264) rfl ?_
      refine own_lastore C X at_264 A_go (by decide) (i := 2) (Nat.le_of_ble_eq_true rfl) ge_go (pc' := 265) rfl ?_
      intro T h X K_ A_go_
      have A_go : own_JA Z h go [r0, r1, r2, (0 : Int64), (0 : Int64)] := A_go_
      have A_hp := A_hp.keep K_ (ninS ne_hp_go nin0)
      have A_wa := A_wa.keep K_ (ninS ne_wa_go nin0)
      refine own_aload C X at_265 rfl rfl (pc' := 267) rfl ?_
      refine own_iconst C X at_267 (v := 3) (by decide) (pc' := 268) rfl ?_
      refine own_aload C X at_268 rfl rfl (pc' := 270) rfl ?_
      refine own_iload C X at_270 rfl (pc' := 272) rfl ?_
      refine own_iconst C X at_272 (v := 3) (by decide) (pc' := 273) rfl ?_
      refine own_iadd C X at_273 (z := 3) (by decide) (pc' := 274) rfl ?_
      refine own_laload C X at_274 A_hp (by decide) (i := 3) rfl (pc' := 275) rfl ?_
      refine own_lastore C X at_275 A_go (by decide) (i := 3) (Nat.le_of_ble_eq_true rfl) ge_go (pc' := 276) rfl ?_
      intro T h X K_ A_go_
      have A_go : own_JA Z h go [r0, r1, r2, r3, (0 : Int64)] := A_go_
      have A_hp := A_hp.keep K_ (ninS ne_hp_go nin0)
      have A_wa := A_wa.keep K_ (ninS ne_wa_go nin0)
      refine own_aload C X at_276 rfl rfl (pc' := 278) rfl ?_
      refine own_iconst C X at_278 (v := 4) (by decide) (pc' := 279) rfl ?_
      refine own_aload C X at_279 rfl rfl (pc' := 281) rfl ?_
      refine own_iload C X at_281 rfl (pc' := 283) rfl ?_
      refine own_iconst C X at_283 (v := 4) (by decide) (pc' := 284) rfl ?_
      refine own_iadd C X at_284 (z := 4) (by decide) (pc' := 285) rfl ?_
      refine own_laload C X at_285 A_hp (by decide) (i := 4) rfl (pc' := 286) rfl ?_
      refine own_lastore C X at_286 A_go (by decide) (i := 4) (Nat.le_of_ble_eq_true rfl) ge_go (pc' := 287) rfl ?_
      intro T h X K_ A_go_
      have A_go : own_JA Z h go [r0, r1, r2, r3, mark] := A_go_
      have A_hp := A_hp.keep K_ (ninS ne_hp_go nin0)
      have A_wa := A_wa.keep K_ (ninS ne_wa_go nin0)
      refine own_aload C X at_287 rfl rfl (pc' := 289) rfl ?_
      refine own_iload C X at_289 rfl (pc' := 291) rfl ?_
      refine own_iconst C X at_291 (v := 1) (by decide) (pc' := 292) rfl ?_
      refine own_callS C X at_292 (own_m_or1 l Z a0 hw go (4 : Int32) _ n0 (own_big C X) (by decide) r0 r1 r2 r3 mark A_go od1) (hw _ (List.mem_of_getElem? (i := 10) rfl)) (hw _ (List.mem_of_getElem? (i := 11) rfl)) (hw _ (List.mem_of_getElem? (i := 12) rfl)) (hw _ (List.mem_of_getElem? (i := 13) rfl)) (by decide) own_pd_4869 rfl rfl (Nat.le_of_ble_eq_true rfl) (Nat.le_of_ble_eq_true rfl) (Nat.le_of_ble_eq_true rfl) (Nat.le_of_ble_eq_true rfl) (av := [(.ref go), (.int (4 : Int32)), (.int (1 : Int32))]) (S := []) rfl (pc' := 295) rfl ?_
      intro T h v X hQ
      obtain ⟨rfl, rfl⟩ := hQ
      show own_Go p e below n0 (own_Fin room_1 s (fun v h => v = some (.int 1))) (T.setTop (mkF m 295 #[.val (.long q0), .second, .val (.long q1), .second, .val (.long q2), .second, .val (.long q3), .second, .val (.long q4), .second, .val (.int i5), .val (.int (0 : Int32)), .val (.int (4 : Int32)), .val (.long q0), .second, .val (.long h1v), .second, .val (.long h2v), .second, .val (.long h3v), .second, .val (.long h4v), .second, .val (.long mark), .second, .val (.ref hp), .val (.ref wa), .val (.ref go), .unset, .unset, .unset] [(.int (1 : Int32))]))
      refine own_if_eq C X at_295 (pcT := 335) (pc' := 298) (by decide) (by decide) rfl (fun hc295 => absurd hc295 (by decide)) (fun hc295 => ?_)
      refine own_aload C X at_298 rfl rfl (pc' := 300) rfl ?_
      refine own_iload C X at_300 rfl (pc' := 302) rfl ?_
      refine own_iconst C X at_302 (v := 2) (by decide) (pc' := 303) rfl ?_
      refine own_callS C X at_303 (own_m_or2 l Z a0 hw go (4 : Int32) _ n0 (own_big C X) (by decide) r0 r1 r2 r3 mark A_go od2) (hw _ (List.mem_of_getElem? (i := 10) rfl)) (hw _ (List.mem_of_getElem? (i := 11) rfl)) (hw _ (List.mem_of_getElem? (i := 12) rfl)) (hw _ (List.mem_of_getElem? (i := 13) rfl)) (by decide) own_pd_4869 rfl rfl (Nat.le_of_ble_eq_true rfl) (Nat.le_of_ble_eq_true rfl) (Nat.le_of_ble_eq_true rfl) (Nat.le_of_ble_eq_true rfl) (av := [(.ref go), (.int (4 : Int32)), (.int (2 : Int32))]) (S := []) rfl (pc' := 306) rfl ?_
      intro T h v X hQ
      obtain ⟨rfl, rfl⟩ := hQ
      show own_Go p e below n0 (own_Fin room_1 s (fun v h => v = some (.int 1))) (T.setTop (mkF m 306 #[.val (.long q0), .second, .val (.long q1), .second, .val (.long q2), .second, .val (.long q3), .second, .val (.long q4), .second, .val (.int i5), .val (.int (0 : Int32)), .val (.int (4 : Int32)), .val (.long q0), .second, .val (.long h1v), .second, .val (.long h2v), .second, .val (.long h3v), .second, .val (.long h4v), .second, .val (.long mark), .second, .val (.ref hp), .val (.ref wa), .val (.ref go), .unset, .unset, .unset] [(.int (1 : Int32))]))
      refine own_if_eq C X at_306 (pcT := 335) (pc' := 309) (by decide) (by decide) rfl (fun hc306 => absurd hc306 (by decide)) (fun hc306 => ?_)
      refine own_aload C X at_309 rfl rfl (pc' := 311) rfl ?_
      refine own_iload C X at_311 rfl (pc' := 313) rfl ?_
      refine own_iconst C X at_313 (v := 3) (by decide) (pc' := 314) rfl ?_
      refine own_callS C X at_314 (own_m_or3 l Z a0 hw go (4 : Int32) _ n0 (own_big C X) (by decide) r0 r1 r2 r3 mark A_go od3) (hw _ (List.mem_of_getElem? (i := 10) rfl)) (hw _ (List.mem_of_getElem? (i := 11) rfl)) (hw _ (List.mem_of_getElem? (i := 12) rfl)) (hw _ (List.mem_of_getElem? (i := 13) rfl)) (by decide) own_pd_4869 rfl rfl (Nat.le_of_ble_eq_true rfl) (Nat.le_of_ble_eq_true rfl) (Nat.le_of_ble_eq_true rfl) (Nat.le_of_ble_eq_true rfl) (av := [(.ref go), (.int (4 : Int32)), (.int (3 : Int32))]) (S := []) rfl (pc' := 317) rfl ?_
      intro T h v X hQ
      obtain ⟨rfl, rfl⟩ := hQ
      show own_Go p e below n0 (own_Fin room_1 s (fun v h => v = some (.int 1))) (T.setTop (mkF m 317 #[.val (.long q0), .second, .val (.long q1), .second, .val (.long q2), .second, .val (.long q3), .second, .val (.long q4), .second, .val (.int i5), .val (.int (0 : Int32)), .val (.int (4 : Int32)), .val (.long q0), .second, .val (.long h1v), .second, .val (.long h2v), .second, .val (.long h3v), .second, .val (.long h4v), .second, .val (.long mark), .second, .val (.ref hp), .val (.ref wa), .val (.ref go), .unset, .unset, .unset] [(.int (1 : Int32))]))
      refine own_if_eq C X at_317 (pcT := 335) (pc' := 320) (by decide) (by decide) rfl (fun hc317 => absurd hc317 (by decide)) (fun hc317 => ?_)
      refine own_aload C X at_320 rfl rfl (pc' := 322) rfl ?_
      refine own_iload C X at_322 rfl (pc' := 324) rfl ?_
      refine own_iconst C X at_324 (v := 4) (by decide) (pc' := 325) rfl ?_
      refine own_callS C X at_325 (own_m_orN l Z a0 hw go (4 : Int32) (4 : Int32) _ n0 (own_big C X) (by decide)) (hw _ (List.mem_of_getElem? (i := 10) rfl)) (hw _ (List.mem_of_getElem? (i := 11) rfl)) (hw _ (List.mem_of_getElem? (i := 12) rfl)) (hw _ (List.mem_of_getElem? (i := 13) rfl)) (by decide) own_pd_4869 rfl rfl (Nat.le_of_ble_eq_true rfl) (Nat.le_of_ble_eq_true rfl) (Nat.le_of_ble_eq_true rfl) (Nat.le_of_ble_eq_true rfl) (av := [(.ref go), (.int (4 : Int32)), (.int (4 : Int32))]) (S := []) rfl (pc' := 328) rfl ?_
      intro T h v X hQ
      obtain ⟨rfl, rfl⟩ := hQ
      show own_Go p e below n0 (own_Fin room_1 s (fun v h => v = some (.int 1))) (T.setTop (mkF m 328 #[.val (.long q0), .second, .val (.long q1), .second, .val (.long q2), .second, .val (.long q3), .second, .val (.long q4), .second, .val (.int i5), .val (.int (0 : Int32)), .val (.int (4 : Int32)), .val (.long q0), .second, .val (.long h1v), .second, .val (.long h2v), .second, .val (.long h3v), .second, .val (.long h4v), .second, .val (.long mark), .second, .val (.ref hp), .val (.ref wa), .val (.ref go), .unset, .unset, .unset] [(.int (1 : Int32))]))
      refine own_if_eq C X at_328 (pcT := 335) (pc' := 331) (by decide) (by decide) rfl (fun hc328 => absurd hc328 (by decide)) (fun hc328 => ?_)
      refine own_iconst C X at_331 (v := 1) (by decide) (pc' := 332) rfl ?_
      refine own_goto C X at_332 (pc' := 336) (by decide) (by decide) ?_
      refine own_istore C X at_336 (L' := #[.val (.long q0), .second, .val (.long q1), .second, .val (.long q2), .second, .val (.long q3), .second, .val (.long q4), .second, .val (.int i5), .val (.int (0 : Int32)), .val (.int (4 : Int32)), .val (.long q0), .second, .val (.long h1v), .second, .val (.long h2v), .second, .val (.long h3v), .second, .val (.long h4v), .second, .val (.long mark), .second, .val (.ref hp), .val (.ref wa), .val (.ref go), .val (.int (1 : Int32)), .unset, .unset]) rfl (pc' := 338) rfl ?_
      refine own_aload C X at_338 rfl rfl (pc' := 340) rfl ?_
      refine own_aload C X at_340 rfl rfl (pc' := 342) rfl ?_
      refine own_iload C X at_342 rfl (pc' := 344) rfl ?_
      refine own_iconst C X at_344 (v := 0) (by decide) (pc' := 345) rfl ?_
      refine own_callS C X at_345 (own_m_sc4 l Z a0 hw wa go (0 : Int32) _ n0 (own_big C X) q4 h1v h2v h3v h4v r0 r1 r2 r3 mark q4 A_wa A_go (by decide) 0 (by decide) rfl pm) (hw _ (List.mem_of_getElem? (i := 14) rfl)) (hw _ (List.mem_of_getElem? (i := 15) rfl)) (hw _ (List.mem_of_getElem? (i := 12) rfl)) (hw _ (List.mem_of_getElem? (i := 16) rfl)) (by decide) own_pd_7147 rfl rfl (Nat.le_of_ble_eq_true rfl) (Nat.le_of_ble_eq_true rfl) (Nat.le_of_ble_eq_true rfl) (Nat.le_of_ble_eq_true rfl) (av := [(.ref wa), (.ref go), (.int (4 : Int32)), (.int (0 : Int32))]) (S := []) rfl (pc' := 348) rfl ?_
      intro T h v X hQ
      obtain ⟨rfl, rfl⟩ := hQ
      show own_Go p e below n0 (own_Fin room_1 s (fun v h => v = some (.int 1))) (T.setTop (mkF m 348 #[.val (.long q0), .second, .val (.long q1), .second, .val (.long q2), .second, .val (.long q3), .second, .val (.long q4), .second, .val (.int i5), .val (.int (0 : Int32)), .val (.int (4 : Int32)), .val (.long q0), .second, .val (.long h1v), .second, .val (.long h2v), .second, .val (.long h3v), .second, .val (.long h4v), .second, .val (.long mark), .second, .val (.ref hp), .val (.ref wa), .val (.ref go), .val (.int (1 : Int32)), .unset, .unset] [(.int (1 : Int32))]))
      refine own_if_eq C X at_348 (pcT := 407) (pc' := 351) (by decide) (by decide) rfl (fun hc348 => absurd hc348 (by decide)) (fun hc348 => ?_)
      refine own_aload C X at_351 rfl rfl (pc' := 353) rfl ?_
      refine own_aload C X at_353 rfl rfl (pc' := 355) rfl ?_
      refine own_iload C X at_355 rfl (pc' := 357) rfl ?_
      refine own_iconst C X at_357 (v := 1) (by decide) (pc' := 358) rfl ?_
      refine own_callS C X at_358 (own_m_sc4 l Z a0 hw wa go (1 : Int32) _ n0 (own_big C X) q4 h1v h2v h3v h4v r0 r1 r2 r3 mark h1v A_wa A_go (by decide) 1 (by decide) rfl pm) (hw _ (List.mem_of_getElem? (i := 14) rfl)) (hw _ (List.mem_of_getElem? (i := 15) rfl)) (hw _ (List.mem_of_getElem? (i := 12) rfl)) (hw _ (List.mem_of_getElem? (i := 16) rfl)) (by decide) own_pd_7147 rfl rfl (Nat.le_of_ble_eq_true rfl) (Nat.le_of_ble_eq_true rfl) (Nat.le_of_ble_eq_true rfl) (Nat.le_of_ble_eq_true rfl) (av := [(.ref wa), (.ref go), (.int (4 : Int32)), (.int (1 : Int32))]) (S := []) rfl (pc' := 361) rfl ?_
      intro T h v X hQ
      obtain ⟨rfl, rfl⟩ := hQ
      show own_Go p e below n0 (own_Fin room_1 s (fun v h => v = some (.int 1))) (T.setTop (mkF m 361 #[.val (.long q0), .second, .val (.long q1), .second, .val (.long q2), .second, .val (.long q3), .second, .val (.long q4), .second, .val (.int i5), .val (.int (0 : Int32)), .val (.int (4 : Int32)), .val (.long q0), .second, .val (.long h1v), .second, .val (.long h2v), .second, .val (.long h3v), .second, .val (.long h4v), .second, .val (.long mark), .second, .val (.ref hp), .val (.ref wa), .val (.ref go), .val (.int (1 : Int32)), .unset, .unset] [(.int (1 : Int32))]))
      refine own_if_eq C X at_361 (pcT := 407) (pc' := 364) (by decide) (by decide) rfl (fun hc361 => absurd hc361 (by decide)) (fun hc361 => ?_)
      refine own_aload C X at_364 rfl rfl (pc' := 366) rfl ?_
      refine own_aload C X at_366 rfl rfl (pc' := 368) rfl ?_
      refine own_iload C X at_368 rfl (pc' := 370) rfl ?_
      refine own_iconst C X at_370 (v := 2) (by decide) (pc' := 371) rfl ?_
      refine own_callS C X at_371 (own_m_sc4 l Z a0 hw wa go (2 : Int32) _ n0 (own_big C X) q4 h1v h2v h3v h4v r0 r1 r2 r3 mark h2v A_wa A_go (by decide) 2 (by decide) rfl pm) (hw _ (List.mem_of_getElem? (i := 14) rfl)) (hw _ (List.mem_of_getElem? (i := 15) rfl)) (hw _ (List.mem_of_getElem? (i := 12) rfl)) (hw _ (List.mem_of_getElem? (i := 16) rfl)) (by decide) own_pd_7147 rfl rfl (Nat.le_of_ble_eq_true rfl) (Nat.le_of_ble_eq_true rfl) (Nat.le_of_ble_eq_true rfl) (Nat.le_of_ble_eq_true rfl) (av := [(.ref wa), (.ref go), (.int (4 : Int32)), (.int (2 : Int32))]) (S := []) rfl (pc' := 374) rfl ?_
      intro T h v X hQ
      obtain ⟨rfl, rfl⟩ := hQ
      show own_Go p e below n0 (own_Fin room_1 s (fun v h => v = some (.int 1))) (T.setTop (mkF m 374 #[.val (.long q0), .second, .val (.long q1), .second, .val (.long q2), .second, .val (.long q3), .second, .val (.long q4), .second, .val (.int i5), .val (.int (0 : Int32)), .val (.int (4 : Int32)), .val (.long q0), .second, .val (.long h1v), .second, .val (.long h2v), .second, .val (.long h3v), .second, .val (.long h4v), .second, .val (.long mark), .second, .val (.ref hp), .val (.ref wa), .val (.ref go), .val (.int (1 : Int32)), .unset, .unset] [(.int (1 : Int32))]))
      refine own_if_eq C X at_374 (pcT := 407) (pc' := 377) (by decide) (by decide) rfl (fun hc374 => absurd hc374 (by decide)) (fun hc374 => ?_)
      refine own_aload C X at_377 rfl rfl (pc' := 379) rfl ?_
      refine own_aload C X at_379 rfl rfl (pc' := 381) rfl ?_
      refine own_iload C X at_381 rfl (pc' := 383) rfl ?_
      refine own_iconst C X at_383 (v := 3) (by decide) (pc' := 384) rfl ?_
      refine own_callS C X at_384 (own_m_sc4 l Z a0 hw wa go (3 : Int32) _ n0 (own_big C X) q4 h1v h2v h3v h4v r0 r1 r2 r3 mark h3v A_wa A_go (by decide) 3 (by decide) rfl pm) (hw _ (List.mem_of_getElem? (i := 14) rfl)) (hw _ (List.mem_of_getElem? (i := 15) rfl)) (hw _ (List.mem_of_getElem? (i := 12) rfl)) (hw _ (List.mem_of_getElem? (i := 16) rfl)) (by decide) own_pd_7147 rfl rfl (Nat.le_of_ble_eq_true rfl) (Nat.le_of_ble_eq_true rfl) (Nat.le_of_ble_eq_true rfl) (Nat.le_of_ble_eq_true rfl) (av := [(.ref wa), (.ref go), (.int (4 : Int32)), (.int (3 : Int32))]) (S := []) rfl (pc' := 387) rfl ?_
      intro T h v X hQ
      obtain ⟨rfl, rfl⟩ := hQ
      show own_Go p e below n0 (own_Fin room_1 s (fun v h => v = some (.int 1))) (T.setTop (mkF m 387 #[.val (.long q0), .second, .val (.long q1), .second, .val (.long q2), .second, .val (.long q3), .second, .val (.long q4), .second, .val (.int i5), .val (.int (0 : Int32)), .val (.int (4 : Int32)), .val (.long q0), .second, .val (.long h1v), .second, .val (.long h2v), .second, .val (.long h3v), .second, .val (.long h4v), .second, .val (.long mark), .second, .val (.ref hp), .val (.ref wa), .val (.ref go), .val (.int (1 : Int32)), .unset, .unset] [(.int (1 : Int32))]))
      refine own_if_eq C X at_387 (pcT := 407) (pc' := 390) (by decide) (by decide) rfl (fun hc387 => absurd hc387 (by decide)) (fun hc387 => ?_)
      refine own_aload C X at_390 rfl rfl (pc' := 392) rfl ?_
      refine own_aload C X at_392 rfl rfl (pc' := 394) rfl ?_
      refine own_iload C X at_394 rfl (pc' := 396) rfl ?_
      refine own_iconst C X at_396 (v := 4) (by decide) (pc' := 397) rfl ?_
      refine own_callS C X at_397 (own_m_scN l Z a0 hw wa go (4 : Int32) (4 : Int32) _ n0 (own_big C X) (by decide)) (hw _ (List.mem_of_getElem? (i := 14) rfl)) (hw _ (List.mem_of_getElem? (i := 15) rfl)) (hw _ (List.mem_of_getElem? (i := 12) rfl)) (hw _ (List.mem_of_getElem? (i := 16) rfl)) (by decide) own_pd_7147 rfl rfl (Nat.le_of_ble_eq_true rfl) (Nat.le_of_ble_eq_true rfl) (Nat.le_of_ble_eq_true rfl) (Nat.le_of_ble_eq_true rfl) (av := [(.ref wa), (.ref go), (.int (4 : Int32)), (.int (4 : Int32))]) (S := []) rfl (pc' := 400) rfl ?_
      intro T h v X hQ
      obtain ⟨rfl, rfl⟩ := hQ
      show own_Go p e below n0 (own_Fin room_1 s (fun v h => v = some (.int 1))) (T.setTop (mkF m 400 #[.val (.long q0), .second, .val (.long q1), .second, .val (.long q2), .second, .val (.long q3), .second, .val (.long q4), .second, .val (.int i5), .val (.int (0 : Int32)), .val (.int (4 : Int32)), .val (.long q0), .second, .val (.long h1v), .second, .val (.long h2v), .second, .val (.long h3v), .second, .val (.long h4v), .second, .val (.long mark), .second, .val (.ref hp), .val (.ref wa), .val (.ref go), .val (.int (1 : Int32)), .unset, .unset] [(.int (1 : Int32))]))
      refine own_if_eq C X at_400 (pcT := 407) (pc' := 403) (by decide) (by decide) rfl (fun hc400 => absurd hc400 (by decide)) (fun hc400 => ?_)
      refine own_iconst C X at_403 (v := 1) (by decide) (pc' := 404) rfl ?_
      refine own_goto C X at_404 (pc' := 408) (by decide) (by decide) ?_
      refine own_istore C X at_408 (L' := #[.val (.long q0), .second, .val (.long q1), .second, .val (.long q2), .second, .val (.long q3), .second, .val (.long q4), .second, .val (.int i5), .val (.int (0 : Int32)), .val (.int (4 : Int32)), .val (.long q0), .second, .val (.long h1v), .second, .val (.long h2v), .second, .val (.long h3v), .second, .val (.long h4v), .second, .val (.long mark), .second, .val (.ref hp), .val (.ref wa), .val (.ref go), .val (.int (1 : Int32)), .val (.int (1 : Int32)), .unset]) rfl (pc' := 410) rfl ?_
      refine own_aload C X at_410 rfl rfl (pc' := 412) rfl ?_
      refine own_iconst C X at_412 (v := 0) (by decide) (pc' := 413) rfl ?_
      refine own_iload C X at_413 rfl (pc' := 415) rfl ?_
      refine own_iload C X at_415 rfl (pc' := 417) rfl ?_
      refine own_lload C X at_417 rfl (pc' := 419) rfl ?_
      refine own_callS C X at_419 (own_m_kpI l Z a0 hw hp (0 : Int32) (0 : Int32) (4 : Int32) mark _ n0 (own_big C X) (by decide) (by decide)) (hw _ (List.mem_of_getElem? (i := 20) rfl)) (hw _ (List.mem_of_getElem? (i := 21) rfl)) (hw _ (List.mem_of_getElem? (i := 12) rfl)) (hw _ (List.mem_of_getElem? (i := 22) rfl)) (by decide) own_pd_6969 rfl rfl (Nat.le_of_ble_eq_true rfl) (Nat.le_of_ble_eq_true rfl) (Nat.le_of_ble_eq_true rfl) (Nat.le_of_ble_eq_true rfl) (av := [(.ref hp), (.int (0 : Int32)), (.int (0 : Int32)), (.int (4 : Int32)), (.long mark)]) (S := []) rfl (pc' := 422) rfl ?_
      intro T h v X hQ
      obtain ⟨rfl, rfl⟩ := hQ
      show own_Go p e below n0 (own_Fin room_1 s (fun v h => v = some (.int 1))) (T.setTop (mkF m 422 #[.val (.long q0), .second, .val (.long q1), .second, .val (.long q2), .second, .val (.long q3), .second, .val (.long q4), .second, .val (.int i5), .val (.int (0 : Int32)), .val (.int (4 : Int32)), .val (.long q0), .second, .val (.long h1v), .second, .val (.long h2v), .second, .val (.long h3v), .second, .val (.long h4v), .second, .val (.long mark), .second, .val (.ref hp), .val (.ref wa), .val (.ref go), .val (.int (1 : Int32)), .val (.int (1 : Int32)), .unset] [(.int (1 : Int32))]))
      refine own_if_eq C X at_422 (pcT := 520) (pc' := 425) (by decide) (by decide) rfl (fun hc422 => absurd hc422 (by decide)) (fun hc422 => ?_)
      refine own_aload C X at_425 rfl rfl (pc' := 427) rfl ?_
      refine own_iconst C X at_427 (v := 1) (by decide) (pc' := 428) rfl ?_
      refine own_iload C X at_428 rfl (pc' := 430) rfl ?_
      refine own_iload C X at_430 rfl (pc' := 432) rfl ?_
      refine own_lload C X at_432 rfl (pc' := 434) rfl ?_
      refine own_callS C X at_434 (own_m_kpI l Z a0 hw hp (1 : Int32) (0 : Int32) (4 : Int32) mark _ n0 (own_big C X) (by decide) (by decide)) (hw _ (List.mem_of_getElem? (i := 20) rfl)) (hw _ (List.mem_of_getElem? (i := 21) rfl)) (hw _ (List.mem_of_getElem? (i := 12) rfl)) (hw _ (List.mem_of_getElem? (i := 22) rfl)) (by decide) own_pd_6969 rfl rfl (Nat.le_of_ble_eq_true rfl) (Nat.le_of_ble_eq_true rfl) (Nat.le_of_ble_eq_true rfl) (Nat.le_of_ble_eq_true rfl) (av := [(.ref hp), (.int (1 : Int32)), (.int (0 : Int32)), (.int (4 : Int32)), (.long mark)]) (S := []) rfl (pc' := 437) rfl ?_
      intro T h v X hQ
      obtain ⟨rfl, rfl⟩ := hQ
      show own_Go p e below n0 (own_Fin room_1 s (fun v h => v = some (.int 1))) (T.setTop (mkF m 437 #[.val (.long q0), .second, .val (.long q1), .second, .val (.long q2), .second, .val (.long q3), .second, .val (.long q4), .second, .val (.int i5), .val (.int (0 : Int32)), .val (.int (4 : Int32)), .val (.long q0), .second, .val (.long h1v), .second, .val (.long h2v), .second, .val (.long h3v), .second, .val (.long h4v), .second, .val (.long mark), .second, .val (.ref hp), .val (.ref wa), .val (.ref go), .val (.int (1 : Int32)), .val (.int (1 : Int32)), .unset] [(.int (1 : Int32))]))
      refine own_if_eq C X at_437 (pcT := 520) (pc' := 440) (by decide) (by decide) rfl (fun hc437 => absurd hc437 (by decide)) (fun hc437 => ?_)
      refine own_aload C X at_440 rfl rfl (pc' := 442) rfl ?_
      refine own_iconst C X at_442 (v := 2) (by decide) (pc' := 443) rfl ?_
      refine own_iload C X at_443 rfl (pc' := 445) rfl ?_
      refine own_iload C X at_445 rfl (pc' := 447) rfl ?_
      refine own_lload C X at_447 rfl (pc' := 449) rfl ?_
      refine own_callS C X at_449 (own_m_kpI l Z a0 hw hp (2 : Int32) (0 : Int32) (4 : Int32) mark _ n0 (own_big C X) (by decide) (by decide)) (hw _ (List.mem_of_getElem? (i := 20) rfl)) (hw _ (List.mem_of_getElem? (i := 21) rfl)) (hw _ (List.mem_of_getElem? (i := 12) rfl)) (hw _ (List.mem_of_getElem? (i := 22) rfl)) (by decide) own_pd_6969 rfl rfl (Nat.le_of_ble_eq_true rfl) (Nat.le_of_ble_eq_true rfl) (Nat.le_of_ble_eq_true rfl) (Nat.le_of_ble_eq_true rfl) (av := [(.ref hp), (.int (2 : Int32)), (.int (0 : Int32)), (.int (4 : Int32)), (.long mark)]) (S := []) rfl (pc' := 452) rfl ?_
      intro T h v X hQ
      obtain ⟨rfl, rfl⟩ := hQ
      show own_Go p e below n0 (own_Fin room_1 s (fun v h => v = some (.int 1))) (T.setTop (mkF m 452 #[.val (.long q0), .second, .val (.long q1), .second, .val (.long q2), .second, .val (.long q3), .second, .val (.long q4), .second, .val (.int i5), .val (.int (0 : Int32)), .val (.int (4 : Int32)), .val (.long q0), .second, .val (.long h1v), .second, .val (.long h2v), .second, .val (.long h3v), .second, .val (.long h4v), .second, .val (.long mark), .second, .val (.ref hp), .val (.ref wa), .val (.ref go), .val (.int (1 : Int32)), .val (.int (1 : Int32)), .unset] [(.int (1 : Int32))]))
      refine own_if_eq C X at_452 (pcT := 520) (pc' := 455) (by decide) (by decide) rfl (fun hc452 => absurd hc452 (by decide)) (fun hc452 => ?_)
      refine own_aload C X at_455 rfl rfl (pc' := 457) rfl ?_
      refine own_iconst C X at_457 (v := 3) (by decide) (pc' := 458) rfl ?_
      refine own_iload C X at_458 rfl (pc' := 460) rfl ?_
      refine own_iload C X at_460 rfl (pc' := 462) rfl ?_
      refine own_lload C X at_462 rfl (pc' := 464) rfl ?_
      refine own_callS C X at_464 (own_m_kpI l Z a0 hw hp (3 : Int32) (0 : Int32) (4 : Int32) mark _ n0 (own_big C X) (by decide) (by decide)) (hw _ (List.mem_of_getElem? (i := 20) rfl)) (hw _ (List.mem_of_getElem? (i := 21) rfl)) (hw _ (List.mem_of_getElem? (i := 12) rfl)) (hw _ (List.mem_of_getElem? (i := 22) rfl)) (by decide) own_pd_6969 rfl rfl (Nat.le_of_ble_eq_true rfl) (Nat.le_of_ble_eq_true rfl) (Nat.le_of_ble_eq_true rfl) (Nat.le_of_ble_eq_true rfl) (av := [(.ref hp), (.int (3 : Int32)), (.int (0 : Int32)), (.int (4 : Int32)), (.long mark)]) (S := []) rfl (pc' := 467) rfl ?_
      intro T h v X hQ
      obtain ⟨rfl, rfl⟩ := hQ
      show own_Go p e below n0 (own_Fin room_1 s (fun v h => v = some (.int 1))) (T.setTop (mkF m 467 #[.val (.long q0), .second, .val (.long q1), .second, .val (.long q2), .second, .val (.long q3), .second, .val (.long q4), .second, .val (.int i5), .val (.int (0 : Int32)), .val (.int (4 : Int32)), .val (.long q0), .second, .val (.long h1v), .second, .val (.long h2v), .second, .val (.long h3v), .second, .val (.long h4v), .second, .val (.long mark), .second, .val (.ref hp), .val (.ref wa), .val (.ref go), .val (.int (1 : Int32)), .val (.int (1 : Int32)), .unset] [(.int (1 : Int32))]))
      refine own_if_eq C X at_467 (pcT := 520) (pc' := 470) (by decide) (by decide) rfl (fun hc467 => absurd hc467 (by decide)) (fun hc467 => ?_)
      refine own_aload C X at_470 rfl rfl (pc' := 472) rfl ?_
      refine own_iconst C X at_472 (v := 4) (by decide) (pc' := 473) rfl ?_
      refine own_iload C X at_473 rfl (pc' := 475) rfl ?_
      refine own_iload C X at_475 rfl (pc' := 477) rfl ?_
      refine own_lload C X at_477 rfl (pc' := 479) rfl ?_
      refine own_callS C X at_479 (own_m_kpA l Z a0 hw hp (4 : Int32) (0 : Int32) (4 : Int32) mark _ n0 (own_big C X) (by decide) (by decide) [r0, r1, r2, r3, mark, mark, mark] A_hp 4 (by decide) rfl) (hw _ (List.mem_of_getElem? (i := 20) rfl)) (hw _ (List.mem_of_getElem? (i := 21) rfl)) (hw _ (List.mem_of_getElem? (i := 12) rfl)) (hw _ (List.mem_of_getElem? (i := 22) rfl)) (by decide) own_pd_6969 rfl rfl (Nat.le_of_ble_eq_true rfl) (Nat.le_of_ble_eq_true rfl) (Nat.le_of_ble_eq_true rfl) (Nat.le_of_ble_eq_true rfl) (av := [(.ref hp), (.int (4 : Int32)), (.int (0 : Int32)), (.int (4 : Int32)), (.long mark)]) (S := []) rfl (pc' := 482) rfl ?_
      intro T h v X hQ
      obtain ⟨rfl, rfl⟩ := hQ
      show own_Go p e below n0 (own_Fin room_1 s (fun v h => v = some (.int 1))) (T.setTop (mkF m 482 #[.val (.long q0), .second, .val (.long q1), .second, .val (.long q2), .second, .val (.long q3), .second, .val (.long q4), .second, .val (.int i5), .val (.int (0 : Int32)), .val (.int (4 : Int32)), .val (.long q0), .second, .val (.long h1v), .second, .val (.long h2v), .second, .val (.long h3v), .second, .val (.long h4v), .second, .val (.long mark), .second, .val (.ref hp), .val (.ref wa), .val (.ref go), .val (.int (1 : Int32)), .val (.int (1 : Int32)), .unset] [(.int (1 : Int32))]))
      refine own_if_eq C X at_482 (pcT := 520) (pc' := 485) (by decide) (by decide) rfl (fun hc482 => absurd hc482 (by decide)) (fun hc482 => ?_)
      refine own_aload C X at_485 rfl rfl (pc' := 487) rfl ?_
      refine own_iconst C X at_487 (v := 5) (by decide) (pc' := 488) rfl ?_
      refine own_iload C X at_488 rfl (pc' := 490) rfl ?_
      refine own_iload C X at_490 rfl (pc' := 492) rfl ?_
      refine own_lload C X at_492 rfl (pc' := 494) rfl ?_
      refine own_callS C X at_494 (own_m_kpA l Z a0 hw hp (5 : Int32) (0 : Int32) (4 : Int32) mark _ n0 (own_big C X) (by decide) (by decide) [r0, r1, r2, r3, mark, mark, mark] A_hp 5 (by decide) rfl) (hw _ (List.mem_of_getElem? (i := 20) rfl)) (hw _ (List.mem_of_getElem? (i := 21) rfl)) (hw _ (List.mem_of_getElem? (i := 12) rfl)) (hw _ (List.mem_of_getElem? (i := 22) rfl)) (by decide) own_pd_6969 rfl rfl (Nat.le_of_ble_eq_true rfl) (Nat.le_of_ble_eq_true rfl) (Nat.le_of_ble_eq_true rfl) (Nat.le_of_ble_eq_true rfl) (av := [(.ref hp), (.int (5 : Int32)), (.int (0 : Int32)), (.int (4 : Int32)), (.long mark)]) (S := []) rfl (pc' := 497) rfl ?_
      intro T h v X hQ
      obtain ⟨rfl, rfl⟩ := hQ
      show own_Go p e below n0 (own_Fin room_1 s (fun v h => v = some (.int 1))) (T.setTop (mkF m 497 #[.val (.long q0), .second, .val (.long q1), .second, .val (.long q2), .second, .val (.long q3), .second, .val (.long q4), .second, .val (.int i5), .val (.int (0 : Int32)), .val (.int (4 : Int32)), .val (.long q0), .second, .val (.long h1v), .second, .val (.long h2v), .second, .val (.long h3v), .second, .val (.long h4v), .second, .val (.long mark), .second, .val (.ref hp), .val (.ref wa), .val (.ref go), .val (.int (1 : Int32)), .val (.int (1 : Int32)), .unset] [(.int (1 : Int32))]))
      refine own_if_eq C X at_497 (pcT := 520) (pc' := 500) (by decide) (by decide) rfl (fun hc497 => absurd hc497 (by decide)) (fun hc497 => ?_)
      refine own_aload C X at_500 rfl rfl (pc' := 502) rfl ?_
      refine own_bipush C X at_502 (v := 6) (by decide) (pc' := 504) rfl ?_
      refine own_iload C X at_504 rfl (pc' := 506) rfl ?_
      refine own_iload C X at_506 rfl (pc' := 508) rfl ?_
      refine own_lload C X at_508 rfl (pc' := 510) rfl ?_
      refine own_callS C X at_510 (own_m_kpA l Z a0 hw hp (6 : Int32) (0 : Int32) (4 : Int32) mark _ n0 (own_big C X) (by decide) (by decide) [r0, r1, r2, r3, mark, mark, mark] A_hp 6 (by decide) rfl) (hw _ (List.mem_of_getElem? (i := 20) rfl)) (hw _ (List.mem_of_getElem? (i := 21) rfl)) (hw _ (List.mem_of_getElem? (i := 12) rfl)) (hw _ (List.mem_of_getElem? (i := 22) rfl)) (by decide) own_pd_6969 rfl rfl (Nat.le_of_ble_eq_true rfl) (Nat.le_of_ble_eq_true rfl) (Nat.le_of_ble_eq_true rfl) (Nat.le_of_ble_eq_true rfl) (av := [(.ref hp), (.int (6 : Int32)), (.int (0 : Int32)), (.int (4 : Int32)), (.long mark)]) (S := []) rfl (pc' := 513) rfl ?_
      intro T h v X hQ
      obtain ⟨rfl, rfl⟩ := hQ
      show own_Go p e below n0 (own_Fin room_1 s (fun v h => v = some (.int 1))) (T.setTop (mkF m 513 #[.val (.long q0), .second, .val (.long q1), .second, .val (.long q2), .second, .val (.long q3), .second, .val (.long q4), .second, .val (.int i5), .val (.int (0 : Int32)), .val (.int (4 : Int32)), .val (.long q0), .second, .val (.long h1v), .second, .val (.long h2v), .second, .val (.long h3v), .second, .val (.long h4v), .second, .val (.long mark), .second, .val (.ref hp), .val (.ref wa), .val (.ref go), .val (.int (1 : Int32)), .val (.int (1 : Int32)), .unset] [(.int (1 : Int32))]))
      refine own_if_eq C X at_513 (pcT := 520) (pc' := 516) (by decide) (by decide) rfl (fun hc513 => absurd hc513 (by decide)) (fun hc513 => ?_)
      refine own_iconst C X at_516 (v := 1) (by decide) (pc' := 517) rfl ?_
      refine own_goto C X at_517 (pc' := 521) (by decide) (by decide) ?_
      refine own_istore C X at_521 (L' := #[.val (.long q0), .second, .val (.long q1), .second, .val (.long q2), .second, .val (.long q3), .second, .val (.long q4), .second, .val (.int i5), .val (.int (0 : Int32)), .val (.int (4 : Int32)), .val (.long q0), .second, .val (.long h1v), .second, .val (.long h2v), .second, .val (.long h3v), .second, .val (.long h4v), .second, .val (.long mark), .second, .val (.ref hp), .val (.ref wa), .val (.ref go), .val (.int (1 : Int32)), .val (.int (1 : Int32)), .val (.int (1 : Int32))]) rfl (pc' := 523) rfl ?_
      refine own_iload C X at_523 rfl (pc' := 525) rfl ?_
      refine own_if_eq C X at_525 (pcT := 542) (pc' := 528) (by decide) (by decide) rfl (fun hc525 => absurd hc525 (by decide)) (fun hc525 => ?_)
      refine own_iload C X at_528 rfl (pc' := 530) rfl ?_
      refine own_if_eq C X at_530 (pcT := 542) (pc' := 533) (by decide) (by decide) rfl (fun hc530 => absurd hc530 (by decide)) (fun hc530 => ?_)
      refine own_iload C X at_533 rfl (pc' := 535) rfl ?_
      refine own_if_eq C X at_535 (pcT := 542) (pc' := 538) (by decide) (by decide) rfl (fun hc535 => absurd hc535 (by decide)) (fun hc535 => ?_)
      refine own_iconst C X at_538 (v := 1) (by decide) (pc' := 539) rfl ?_
      refine own_goto C X at_539 (pc' := 543) (by decide) (by decide) ?_
      exact own_ireturn_z C X at_543 (Nat.le_of_ble_eq_true rfl) (Nat.le_of_ble_eq_true rfl) (rfl)
    · refine own_aload C X at_116 rfl rfl (pc' := 118) rfl ?_
      refine own_iload C X at_118 rfl (pc' := 120) rfl ?_
      refine own_lload C X at_120 rfl (pc' := 122) rfl ?_
      refine own_lastore C X at_122 A_hp (by decide) (i := 1) (Nat.le_of_ble_eq_true rfl) ge_hp (pc' := 123) rfl ?_
      intro T h X K_ A_hp_
      have A_hp : own_JA Z h hp [mark, q0, mark, mark, mark, mark, mark] := A_hp_
      refine own_iload C X at_123 rfl (pc' := 125) rfl ?_
      refine own_iconst C X at_125 (v := 1) (by decide) (pc' := 126) rfl ?_
      refine own_icmp_le C X at_126 (pcT := 138) (pc' := 129) (by decide) (by decide) rfl (fun hc126 => absurd hc126 (by decide)) (fun hc126 => ?_)
      refine own_aload C X at_129 rfl rfl (pc' := 131) rfl ?_
      refine own_iload C X at_131 rfl (pc' := 133) rfl ?_
      refine own_iconst C X at_133 (v := 1) (by decide) (pc' := 134) rfl ?_
      refine own_iadd C X at_134 (z := 2) (by decide) (pc' := 135) rfl ?_
      refine own_lload C X at_135 rfl (pc' := 137) rfl ?_
      refine own_lastore C X at_137 A_hp (by decide) (i := 2) (Nat.le_of_ble_eq_true rfl) ge_hp (pc' := 138) rfl ?_
      intro T h X K_ A_hp_
      have A_hp : own_JA Z h hp [mark, q0, h1v, mark, mark, mark, mark] := A_hp_
      refine own_iload C X at_138 rfl (pc' := 140) rfl ?_
      refine own_iconst C X at_140 (v := 2) (by decide) (pc' := 141) rfl ?_
      refine own_icmp_le C X at_141 (pcT := 153) (pc' := 144) (by decide) (by decide) rfl (fun hc141 => absurd hc141 (by decide)) (fun hc141 => ?_)
      refine own_aload C X at_144 rfl rfl (pc' := 146) rfl ?_
      refine own_iload C X at_146 rfl (pc' := 148) rfl ?_
      refine own_iconst C X at_148 (v := 2) (by decide) (pc' := 149) rfl ?_
      refine own_iadd C X at_149 (z := 3) (by decide) (pc' := 150) rfl ?_
      refine own_lload C X at_150 rfl (pc' := 152) rfl ?_
      refine own_lastore C X at_152 A_hp (by decide) (i := 3) (Nat.le_of_ble_eq_true rfl) ge_hp (pc' := 153) rfl ?_
      intro T h X K_ A_hp_
      have A_hp : own_JA Z h hp [mark, q0, h1v, h2v, mark, mark, mark] := A_hp_
      refine own_iload C X at_153 rfl (pc' := 155) rfl ?_
      refine own_iconst C X at_155 (v := 3) (by decide) (pc' := 156) rfl ?_
      refine own_icmp_le C X at_156 (pcT := 168) (pc' := 159) (by decide) (by decide) rfl (fun hc156 => absurd hc156 (by decide)) (fun hc156 => ?_)
      refine own_aload C X at_159 rfl rfl (pc' := 161) rfl ?_
      refine own_iload C X at_161 rfl (pc' := 163) rfl ?_
      refine own_iconst C X at_163 (v := 3) (by decide) (pc' := 164) rfl ?_
      refine own_iadd C X at_164 (z := 4) (by decide) (pc' := 165) rfl ?_
      refine own_lload C X at_165 rfl (pc' := 167) rfl ?_
      refine own_lastore C X at_167 A_hp (by decide) (i := 4) (Nat.le_of_ble_eq_true rfl) ge_hp (pc' := 168) rfl ?_
      intro T h X K_ A_hp_
      have A_hp : own_JA Z h hp [mark, q0, h1v, h2v, h3v, mark, mark] := A_hp_
      refine own_iload C X at_168 rfl (pc' := 170) rfl ?_
      refine own_iconst C X at_170 (v := 4) (by decide) (pc' := 171) rfl ?_
      refine own_icmp_le C X at_171 (pcT := 183) (pc' := 174) (by decide) (by decide) rfl (fun hc171 => ?_) (fun hc171 => absurd hc171 (by decide))
      refine own_iconst C X at_183 (v := 5) (by decide) (pc' := 184) rfl ?_
      refine own_newJ C X at_184 (hw _ (List.mem_of_getElem? (i := 5) rfl)) (by decide) (k := 5) (cap := 5) (Nat.le_of_ble_eq_true rfl) (by decide) (Nat.le_of_ble_eq_true rfl) (Nat.le_of_ble_eq_true rfl) (pc' := 186) rfl ?_
      intro T h wa e_wa X K_ ge_wa A_wa_
      have ne_hp_wa : hp ≠ wa := by rw [e_wa]; exact Nat.ne_of_lt A_hp.lt
      have A_wa : own_JA Z h wa [(0 : Int64), (0 : Int64), (0 : Int64), (0 : Int64), (0 : Int64)] := A_wa_
      have A_hp := A_hp.keep K_ nin0
      refine own_astore C X at_186 rfl (L' := #[.val (.long q0), .second, .val (.long q1), .second, .val (.long q2), .second, .val (.long q3), .second, .val (.long q4), .second, .val (.int i5), .val (.int (1 : Int32)), .val (.int (4 : Int32)), .val (.long q0), .second, .val (.long h1v), .second, .val (.long h2v), .second, .val (.long h3v), .second, .val (.long h4v), .second, .val (.long mark), .second, .val (.ref hp), .val (.ref wa), .unset, .unset, .unset, .unset]) rfl (pc' := 188) rfl ?_
      refine own_aload C X at_188 rfl rfl (pc' := 190) rfl ?_
      refine own_iconst C X at_190 (v := 0) (by decide) (pc' := 191) rfl ?_
      refine own_lload C X at_191 rfl (pc' := 193) rfl ?_
      refine own_lastore C X at_193 A_wa (by decide) (i := 0) (Nat.le_of_ble_eq_true rfl) ge_wa (pc' := 194) rfl ?_
      intro T h X K_ A_wa_
      have A_wa : own_JA Z h wa [q4, (0 : Int64), (0 : Int64), (0 : Int64), (0 : Int64)] := A_wa_
      have A_hp := A_hp.keep K_ (ninS ne_hp_wa nin0)
      refine own_aload C X at_194 rfl rfl (pc' := 196) rfl ?_
      refine own_iconst C X at_196 (v := 1) (by decide) (pc' := 197) rfl ?_
      refine own_lload C X at_197 rfl (pc' := 199) rfl ?_
      refine own_lastore C X at_199 A_wa (by decide) (i := 1) (Nat.le_of_ble_eq_true rfl) ge_wa (pc' := 200) rfl ?_
      intro T h X K_ A_wa_
      have A_wa : own_JA Z h wa [q4, h1v, (0 : Int64), (0 : Int64), (0 : Int64)] := A_wa_
      have A_hp := A_hp.keep K_ (ninS ne_hp_wa nin0)
      refine own_aload C X at_200 rfl rfl (pc' := 202) rfl ?_
      refine own_iconst C X at_202 (v := 2) (by decide) (pc' := 203) rfl ?_
      refine own_lload C X at_203 rfl (pc' := 205) rfl ?_
      refine own_lastore C X at_205 A_wa (by decide) (i := 2) (Nat.le_of_ble_eq_true rfl) ge_wa (pc' := 206) rfl ?_
      intro T h X K_ A_wa_
      have A_wa : own_JA Z h wa [q4, h1v, h2v, (0 : Int64), (0 : Int64)] := A_wa_
      have A_hp := A_hp.keep K_ (ninS ne_hp_wa nin0)
      refine own_aload C X at_206 rfl rfl (pc' := 208) rfl ?_
      refine own_iconst C X at_208 (v := 3) (by decide) (pc' := 209) rfl ?_
      refine own_lload C X at_209 rfl (pc' := 211) rfl ?_
      refine own_lastore C X at_211 A_wa (by decide) (i := 3) (Nat.le_of_ble_eq_true rfl) ge_wa (pc' := 212) rfl ?_
      intro T h X K_ A_wa_
      have A_wa : own_JA Z h wa [q4, h1v, h2v, h3v, (0 : Int64)] := A_wa_
      have A_hp := A_hp.keep K_ (ninS ne_hp_wa nin0)
      refine own_aload C X at_212 rfl rfl (pc' := 214) rfl ?_
      refine own_iconst C X at_214 (v := 4) (by decide) (pc' := 215) rfl ?_
      refine own_lload C X at_215 rfl (pc' := 217) rfl ?_
      refine own_lastore C X at_217 A_wa (by decide) (i := 4) (Nat.le_of_ble_eq_true rfl) ge_wa (pc' := 218) rfl ?_
      intro T h X K_ A_wa_
      have A_wa : own_JA Z h wa [q4, h1v, h2v, h3v, h4v] := A_wa_
      have A_hp := A_hp.keep K_ (ninS ne_hp_wa nin0)
      refine own_aload C X at_218 rfl rfl (pc' := 220) rfl ?_
      refine own_iload C X at_220 rfl (pc' := 222) rfl ?_
      refine own_iload C X at_222 rfl (pc' := 224) rfl ?_
      refine own_lload C X at_224 rfl (pc' := 226) rfl ?_
      refine own_callS C X at_226 (own_m_rl41 l Z a0 hw hp q4 _ n0 (own_big C X) q0 h1v h2v h3v mark A_hp ge_hp l_h3v) (hw _ (List.mem_of_getElem? (i := 6) rfl)) (hw _ (List.mem_of_getElem? (i := 7) rfl)) (hw _ (List.mem_of_getElem? (i := 8) rfl)) (hw _ (List.mem_of_getElem? (i := 9) rfl)) (by decide) own_pd_5832 rfl rfl (Nat.le_of_ble_eq_true rfl) (Nat.le_of_ble_eq_true rfl) (Nat.le_of_ble_eq_true rfl) (Nat.le_of_ble_eq_true rfl) (av := [(.ref hp), (.int (1 : Int32)), (.int (4 : Int32)), (.long q4)]) (S := []) rfl (pc' := 229) rfl ?_
      intro T h v X hQ
      obtain ⟨rfl, r0, r1, r2, r3, K_, A_hp, od, pm⟩ := hQ
      have A_wa := A_wa.keep K_ (ninS (Ne.symm ne_hp_wa) nin0)
      show own_Go p e below n0 (own_Fin room_1 s (fun v h => v = some (.int 1))) (T.setTop (mkF m 229 #[.val (.long q0), .second, .val (.long q1), .second, .val (.long q2), .second, .val (.long q3), .second, .val (.long q4), .second, .val (.int i5), .val (.int (1 : Int32)), .val (.int (4 : Int32)), .val (.long q0), .second, .val (.long h1v), .second, .val (.long h2v), .second, .val (.long h3v), .second, .val (.long h4v), .second, .val (.long mark), .second, .val (.ref hp), .val (.ref wa), .unset, .unset, .unset, .unset] []))
      obtain ⟨od1, od2, od3, -⟩ := od
      refine own_iconst C X at_229 (v := 5) (by decide) (pc' := 230) rfl ?_
      refine own_newJ C X at_230 (hw _ (List.mem_of_getElem? (i := 5) rfl)) (by decide) (k := 5) (cap := 5) (Nat.le_of_ble_eq_true rfl) (by decide) (Nat.le_of_ble_eq_true rfl) (Nat.le_of_ble_eq_true rfl) (pc' := 232) rfl ?_
      intro T h go e_go X K_ ge_go A_go_
      have ne_hp_go : hp ≠ go := by rw [e_go]; exact Nat.ne_of_lt A_hp.lt
      have ne_wa_go : wa ≠ go := by rw [e_go]; exact Nat.ne_of_lt A_wa.lt
      have A_go : own_JA Z h go [(0 : Int64), (0 : Int64), (0 : Int64), (0 : Int64), (0 : Int64)] := A_go_
      have A_hp := A_hp.keep K_ nin0
      have A_wa := A_wa.keep K_ nin0
      refine own_astore C X at_232 rfl (L' := #[.val (.long q0), .second, .val (.long q1), .second, .val (.long q2), .second, .val (.long q3), .second, .val (.long q4), .second, .val (.int i5), .val (.int (1 : Int32)), .val (.int (4 : Int32)), .val (.long q0), .second, .val (.long h1v), .second, .val (.long h2v), .second, .val (.long h3v), .second, .val (.long h4v), .second, .val (.long mark), .second, .val (.ref hp), .val (.ref wa), .val (.ref go), .unset, .unset, .unset]) rfl (pc' := 234) rfl ?_
      refine own_aload C X at_234 rfl rfl (pc' := 236) rfl ?_
      refine own_iconst C X at_236 (v := 0) (by decide) (pc' := 237) rfl ?_
      refine own_aload C X at_237 rfl rfl (pc' := 239) rfl ?_
      refine own_iload C X at_239 rfl (pc' := 241) rfl ?_
      refine own_laload C X at_241 A_hp (by decide) (i := 1) rfl (pc' := 242) rfl ?_
      refine own_lastore C X at_242 A_go (by decide) (i := 0) (Nat.le_of_ble_eq_true rfl) ge_go (pc' := 243) rfl ?_
      intro T h X K_ A_go_
      have A_go : own_JA Z h go [r0, (0 : Int64), (0 : Int64), (0 : Int64), (0 : Int64)] := A_go_
      have A_hp := A_hp.keep K_ (ninS ne_hp_go nin0)
      have A_wa := A_wa.keep K_ (ninS ne_wa_go nin0)
      refine own_aload C X at_243 rfl rfl (pc' := 245) rfl ?_
      refine own_iconst C X at_245 (v := 1) (by decide) (pc' := 246) rfl ?_
      refine own_aload C X at_246 rfl rfl (pc' := 248) rfl ?_
      refine own_iload C X at_248 rfl (pc' := 250) rfl ?_
      refine own_iconst C X at_250 (v := 1) (by decide) (pc' := 251) rfl ?_
      refine own_iadd C X at_251 (z := 2) (by decide) (pc' := 252) rfl ?_
      refine own_laload C X at_252 A_hp (by decide) (i := 2) rfl (pc' := 253) rfl ?_
      refine own_lastore C X at_253 A_go (by decide) (i := 1) (Nat.le_of_ble_eq_true rfl) ge_go (pc' := 254) rfl ?_
      intro T h X K_ A_go_
      have A_go : own_JA Z h go [r0, r1, (0 : Int64), (0 : Int64), (0 : Int64)] := A_go_
      have A_hp := A_hp.keep K_ (ninS ne_hp_go nin0)
      have A_wa := A_wa.keep K_ (ninS ne_wa_go nin0)
      refine own_aload C X at_254 rfl rfl (pc' := 256) rfl ?_
      refine own_iconst C X at_256 (v := 2) (by decide) (pc' := 257) rfl ?_
      refine own_aload C X at_257 rfl rfl (pc' := 259) rfl ?_
      refine own_iload C X at_259 rfl (pc' := 261) rfl ?_
      refine own_iconst C X at_261 (v := 2) (by decide) (pc' := 262) rfl ?_
      refine own_iadd C X at_262 (z := 3) (by decide) (pc' := 263) rfl ?_
      refine own_laload C X at_263 A_hp (by decide) (i := 3) rfl (pc' := 264) rfl ?_
      refine own_lastore C X at_264 A_go (by decide) (i := 2) (Nat.le_of_ble_eq_true rfl) ge_go (pc' := 265) rfl ?_
      intro T h X K_ A_go_
      have A_go : own_JA Z h go [r0, r1, r2, (0 : Int64), (0 : Int64)] := A_go_
      have A_hp := A_hp.keep K_ (ninS ne_hp_go nin0)
      have A_wa := A_wa.keep K_ (ninS ne_wa_go nin0)
      refine own_aload C X at_265 rfl rfl (pc' := 267) rfl ?_
      refine own_iconst C X at_267 (v := 3) (by decide) (pc' := 268) rfl ?_
      refine own_aload C X at_268 rfl rfl (pc' := 270) rfl ?_
      refine own_iload C X at_270 rfl (pc' := 272) rfl ?_
      refine own_iconst C X at_272 (v := 3) (by decide) (pc' := 273) rfl ?_
      refine own_iadd C X at_273 (z := 4) (by decide) (pc' := 274) rfl ?_
      refine own_laload C X at_274 A_hp (by decide) (i := 4) rfl (pc' := 275) rfl ?_
      refine own_lastore C X at_275 A_go (by decide) (i := 3) (Nat.le_of_ble_eq_true rfl) ge_go (pc' := 276) rfl ?_
      intro T h X K_ A_go_
      have A_go : own_JA Z h go [r0, r1, r2, r3, (0 : Int64)] := A_go_
      have A_hp := A_hp.keep K_ (ninS ne_hp_go nin0)
      have A_wa := A_wa.keep K_ (ninS ne_wa_go nin0)
      refine own_aload C X at_276 rfl rfl (pc' := 278) rfl ?_
      refine own_iconst C X at_278 (v := 4) (by decide) (pc' := 279) rfl ?_
      refine own_aload C X at_279 rfl rfl (pc' := 281) rfl ?_
      refine own_iload C X at_281 rfl (pc' := 283) rfl ?_
      refine own_iconst C X at_283 (v := 4) (by decide) (pc' := 284) rfl ?_
      refine own_iadd C X at_284 (z := 5) (by decide) (pc' := 285) rfl ?_
      refine own_laload C X at_285 A_hp (by decide) (i := 5) rfl (pc' := 286) rfl ?_
      refine own_lastore C X at_286 A_go (by decide) (i := 4) (Nat.le_of_ble_eq_true rfl) ge_go (pc' := 287) rfl ?_
      intro T h X K_ A_go_
      have A_go : own_JA Z h go [r0, r1, r2, r3, mark] := A_go_
      have A_hp := A_hp.keep K_ (ninS ne_hp_go nin0)
      have A_wa := A_wa.keep K_ (ninS ne_wa_go nin0)
      refine own_aload C X at_287 rfl rfl (pc' := 289) rfl ?_
      refine own_iload C X at_289 rfl (pc' := 291) rfl ?_
      refine own_iconst C X at_291 (v := 1) (by decide) (pc' := 292) rfl ?_
      refine own_callS C X at_292 (own_m_or1 l Z a0 hw go (4 : Int32) _ n0 (own_big C X) (by decide) r0 r1 r2 r3 mark A_go od1) (hw _ (List.mem_of_getElem? (i := 10) rfl)) (hw _ (List.mem_of_getElem? (i := 11) rfl)) (hw _ (List.mem_of_getElem? (i := 12) rfl)) (hw _ (List.mem_of_getElem? (i := 13) rfl)) (by decide) own_pd_4869 rfl rfl (Nat.le_of_ble_eq_true rfl) (Nat.le_of_ble_eq_true rfl) (Nat.le_of_ble_eq_true rfl) (Nat.le_of_ble_eq_true rfl) (av := [(.ref go), (.int (4 : Int32)), (.int (1 : Int32))]) (S := []) rfl (pc' := 295) rfl ?_
      intro T h v X hQ
      obtain ⟨rfl, rfl⟩ := hQ
      show own_Go p e below n0 (own_Fin room_1 s (fun v h => v = some (.int 1))) (T.setTop (mkF m 295 #[.val (.long q0), .second, .val (.long q1), .second, .val (.long q2), .second, .val (.long q3), .second, .val (.long q4), .second, .val (.int i5), .val (.int (1 : Int32)), .val (.int (4 : Int32)), .val (.long q0), .second, .val (.long h1v), .second, .val (.long h2v), .second, .val (.long h3v), .second, .val (.long h4v), .second, .val (.long mark), .second, .val (.ref hp), .val (.ref wa), .val (.ref go), .unset, .unset, .unset] [(.int (1 : Int32))]))
      refine own_if_eq C X at_295 (pcT := 335) (pc' := 298) (by decide) (by decide) rfl (fun hc295 => absurd hc295 (by decide)) (fun hc295 => ?_)
      refine own_aload C X at_298 rfl rfl (pc' := 300) rfl ?_
      refine own_iload C X at_300 rfl (pc' := 302) rfl ?_
      refine own_iconst C X at_302 (v := 2) (by decide) (pc' := 303) rfl ?_
      refine own_callS C X at_303 (own_m_or2 l Z a0 hw go (4 : Int32) _ n0 (own_big C X) (by decide) r0 r1 r2 r3 mark A_go od2) (hw _ (List.mem_of_getElem? (i := 10) rfl)) (hw _ (List.mem_of_getElem? (i := 11) rfl)) (hw _ (List.mem_of_getElem? (i := 12) rfl)) (hw _ (List.mem_of_getElem? (i := 13) rfl)) (by decide) own_pd_4869 rfl rfl (Nat.le_of_ble_eq_true rfl) (Nat.le_of_ble_eq_true rfl) (Nat.le_of_ble_eq_true rfl) (Nat.le_of_ble_eq_true rfl) (av := [(.ref go), (.int (4 : Int32)), (.int (2 : Int32))]) (S := []) rfl (pc' := 306) rfl ?_
      intro T h v X hQ
      obtain ⟨rfl, rfl⟩ := hQ
      show own_Go p e below n0 (own_Fin room_1 s (fun v h => v = some (.int 1))) (T.setTop (mkF m 306 #[.val (.long q0), .second, .val (.long q1), .second, .val (.long q2), .second, .val (.long q3), .second, .val (.long q4), .second, .val (.int i5), .val (.int (1 : Int32)), .val (.int (4 : Int32)), .val (.long q0), .second, .val (.long h1v), .second, .val (.long h2v), .second, .val (.long h3v), .second, .val (.long h4v), .second, .val (.long mark), .second, .val (.ref hp), .val (.ref wa), .val (.ref go), .unset, .unset, .unset] [(.int (1 : Int32))]))
      refine own_if_eq C X at_306 (pcT := 335) (pc' := 309) (by decide) (by decide) rfl (fun hc306 => absurd hc306 (by decide)) (fun hc306 => ?_)
      refine own_aload C X at_309 rfl rfl (pc' := 311) rfl ?_
      refine own_iload C X at_311 rfl (pc' := 313) rfl ?_
      refine own_iconst C X at_313 (v := 3) (by decide) (pc' := 314) rfl ?_
      refine own_callS C X at_314 (own_m_or3 l Z a0 hw go (4 : Int32) _ n0 (own_big C X) (by decide) r0 r1 r2 r3 mark A_go od3) (hw _ (List.mem_of_getElem? (i := 10) rfl)) (hw _ (List.mem_of_getElem? (i := 11) rfl)) (hw _ (List.mem_of_getElem? (i := 12) rfl)) (hw _ (List.mem_of_getElem? (i := 13) rfl)) (by decide) own_pd_4869 rfl rfl (Nat.le_of_ble_eq_true rfl) (Nat.le_of_ble_eq_true rfl) (Nat.le_of_ble_eq_true rfl) (Nat.le_of_ble_eq_true rfl) (av := [(.ref go), (.int (4 : Int32)), (.int (3 : Int32))]) (S := []) rfl (pc' := 317) rfl ?_
      intro T h v X hQ
      obtain ⟨rfl, rfl⟩ := hQ
      show own_Go p e below n0 (own_Fin room_1 s (fun v h => v = some (.int 1))) (T.setTop (mkF m 317 #[.val (.long q0), .second, .val (.long q1), .second, .val (.long q2), .second, .val (.long q3), .second, .val (.long q4), .second, .val (.int i5), .val (.int (1 : Int32)), .val (.int (4 : Int32)), .val (.long q0), .second, .val (.long h1v), .second, .val (.long h2v), .second, .val (.long h3v), .second, .val (.long h4v), .second, .val (.long mark), .second, .val (.ref hp), .val (.ref wa), .val (.ref go), .unset, .unset, .unset] [(.int (1 : Int32))]))
      refine own_if_eq C X at_317 (pcT := 335) (pc' := 320) (by decide) (by decide) rfl (fun hc317 => absurd hc317 (by decide)) (fun hc317 => ?_)
      refine own_aload C X at_320 rfl rfl (pc' := 322) rfl ?_
      refine own_iload C X at_322 rfl (pc' := 324) rfl ?_
      refine own_iconst C X at_324 (v := 4) (by decide) (pc' := 325) rfl ?_
      refine own_callS C X at_325 (own_m_orN l Z a0 hw go (4 : Int32) (4 : Int32) _ n0 (own_big C X) (by decide)) (hw _ (List.mem_of_getElem? (i := 10) rfl)) (hw _ (List.mem_of_getElem? (i := 11) rfl)) (hw _ (List.mem_of_getElem? (i := 12) rfl)) (hw _ (List.mem_of_getElem? (i := 13) rfl)) (by decide) own_pd_4869 rfl rfl (Nat.le_of_ble_eq_true rfl) (Nat.le_of_ble_eq_true rfl) (Nat.le_of_ble_eq_true rfl) (Nat.le_of_ble_eq_true rfl) (av := [(.ref go), (.int (4 : Int32)), (.int (4 : Int32))]) (S := []) rfl (pc' := 328) rfl ?_
      intro T h v X hQ
      obtain ⟨rfl, rfl⟩ := hQ
      show own_Go p e below n0 (own_Fin room_1 s (fun v h => v = some (.int 1))) (T.setTop (mkF m 328 #[.val (.long q0), .second, .val (.long q1), .second, .val (.long q2), .second, .val (.long q3), .second, .val (.long q4), .second, .val (.int i5), .val (.int (1 : Int32)), .val (.int (4 : Int32)), .val (.long q0), .second, .val (.long h1v), .second, .val (.long h2v), .second, .val (.long h3v), .second, .val (.long h4v), .second, .val (.long mark), .second, .val (.ref hp), .val (.ref wa), .val (.ref go), .unset, .unset, .unset] [(.int (1 : Int32))]))
      refine own_if_eq C X at_328 (pcT := 335) (pc' := 331) (by decide) (by decide) rfl (fun hc328 => absurd hc328 (by decide)) (fun hc328 => ?_)
      refine own_iconst C X at_331 (v := 1) (by decide) (pc' := 332) rfl ?_
      refine own_goto C X at_332 (pc' := 336) (by decide) (by decide) ?_
      refine own_istore C X at_336 (L' := #[.val (.long q0), .second, .val (.long q1), .second, .val (.long q2), .second, .val (.long q3), .second, .val (.long q4), .second, .val (.int i5), .val (.int (1 : Int32)), .val (.int (4 : Int32)), .val (.long q0), .second, .val (.long h1v), .second, .val (.long h2v), .second, .val (.long h3v), .second, .val (.long h4v), .second, .val (.long mark), .second, .val (.ref hp), .val (.ref wa), .val (.ref go), .val (.int (1 : Int32)), .unset, .unset]) rfl (pc' := 338) rfl ?_
      refine own_aload C X at_338 rfl rfl (pc' := 340) rfl ?_
      refine own_aload C X at_340 rfl rfl (pc' := 342) rfl ?_
      refine own_iload C X at_342 rfl (pc' := 344) rfl ?_
      refine own_iconst C X at_344 (v := 0) (by decide) (pc' := 345) rfl ?_
      refine own_callS C X at_345 (own_m_sc4 l Z a0 hw wa go (0 : Int32) _ n0 (own_big C X) q4 h1v h2v h3v h4v r0 r1 r2 r3 mark q4 A_wa A_go (by decide) 0 (by decide) rfl pm) (hw _ (List.mem_of_getElem? (i := 14) rfl)) (hw _ (List.mem_of_getElem? (i := 15) rfl)) (hw _ (List.mem_of_getElem? (i := 12) rfl)) (hw _ (List.mem_of_getElem? (i := 16) rfl)) (by decide) own_pd_7147 rfl rfl (Nat.le_of_ble_eq_true rfl) (Nat.le_of_ble_eq_true rfl) (Nat.le_of_ble_eq_true rfl) (Nat.le_of_ble_eq_true rfl) (av := [(.ref wa), (.ref go), (.int (4 : Int32)), (.int (0 : Int32))]) (S := []) rfl (pc' := 348) rfl ?_
      intro T h v X hQ
      obtain ⟨rfl, rfl⟩ := hQ
      show own_Go p e below n0 (own_Fin room_1 s (fun v h => v = some (.int 1))) (T.setTop (mkF m 348 #[.val (.long q0), .second, .val (.long q1), .second, .val (.long q2), .second, .val (.long q3), .second, .val (.long q4), .second, .val (.int i5), .val (.int (1 : Int32)), .val (.int (4 : Int32)), .val (.long q0), .second, .val (.long h1v), .second, .val (.long h2v), .second, .val (.long h3v), .second, .val (.long h4v), .second, .val (.long mark), .second, .val (.ref hp), .val (.ref wa), .val (.ref go), .val (.int (1 : Int32)), .unset, .unset] [(.int (1 : Int32))]))
      refine own_if_eq C X at_348 (pcT := 407) (pc' := 351) (by decide) (by decide) rfl (fun hc348 => absurd hc348 (by decide)) (fun hc348 => ?_)
      refine own_aload C X at_351 rfl rfl (pc' := 353) rfl ?_
      refine own_aload C X at_353 rfl rfl (pc' := 355) rfl ?_
      refine own_iload C X at_355 rfl (pc' := 357) rfl ?_
      refine own_iconst C X at_357 (v := 1) (by decide) (pc' := 358) rfl ?_
      refine own_callS C X at_358 (own_m_sc4 l Z a0 hw wa go (1 : Int32) _ n0 (own_big C X) q4 h1v h2v h3v h4v r0 r1 r2 r3 mark h1v A_wa A_go (by decide) 1 (by decide) rfl pm) (hw _ (List.mem_of_getElem? (i := 14) rfl)) (hw _ (List.mem_of_getElem? (i := 15) rfl)) (hw _ (List.mem_of_getElem? (i := 12) rfl)) (hw _ (List.mem_of_getElem? (i := 16) rfl)) (by decide) own_pd_7147 rfl rfl (Nat.le_of_ble_eq_true rfl) (Nat.le_of_ble_eq_true rfl) (Nat.le_of_ble_eq_true rfl) (Nat.le_of_ble_eq_true rfl) (av := [(.ref wa), (.ref go), (.int (4 : Int32)), (.int (1 : Int32))]) (S := []) rfl (pc' := 361) rfl ?_
      intro T h v X hQ
      obtain ⟨rfl, rfl⟩ := hQ
      show own_Go p e below n0 (own_Fin room_1 s (fun v h => v = some (.int 1))) (T.setTop (mkF m 361 #[.val (.long q0), .second, .val (.long q1), .second, .val (.long q2), .second, .val (.long q3), .second, .val (.long q4), .second, .val (.int i5), .val (.int (1 : Int32)), .val (.int (4 : Int32)), .val (.long q0), .second, .val (.long h1v), .second, .val (.long h2v), .second, .val (.long h3v), .second, .val (.long h4v), .second, .val (.long mark), .second, .val (.ref hp), .val (.ref wa), .val (.ref go), .val (.int (1 : Int32)), .unset, .unset] [(.int (1 : Int32))]))
      refine own_if_eq C X at_361 (pcT := 407) (pc' := 364) (by decide) (by decide) rfl (fun hc361 => absurd hc361 (by decide)) (fun hc361 => ?_)
      refine own_aload C X at_364 rfl rfl (pc' := 366) rfl ?_
      refine own_aload C X at_366 rfl rfl (pc' := 368) rfl ?_
      refine own_iload C X at_368 rfl (pc' := 370) rfl ?_
      refine own_iconst C X at_370 (v := 2) (by decide) (pc' := 371) rfl ?_
      refine own_callS C X at_371 (own_m_sc4 l Z a0 hw wa go (2 : Int32) _ n0 (own_big C X) q4 h1v h2v h3v h4v r0 r1 r2 r3 mark h2v A_wa A_go (by decide) 2 (by decide) rfl pm) (hw _ (List.mem_of_getElem? (i := 14) rfl)) (hw _ (List.mem_of_getElem? (i := 15) rfl)) (hw _ (List.mem_of_getElem? (i := 12) rfl)) (hw _ (List.mem_of_getElem? (i := 16) rfl)) (by decide) own_pd_7147 rfl rfl (Nat.le_of_ble_eq_true rfl) (Nat.le_of_ble_eq_true rfl) (Nat.le_of_ble_eq_true rfl) (Nat.le_of_ble_eq_true rfl) (av := [(.ref wa), (.ref go), (.int (4 : Int32)), (.int (2 : Int32))]) (S := []) rfl (pc' := 374) rfl ?_
      intro T h v X hQ
      obtain ⟨rfl, rfl⟩ := hQ
      show own_Go p e below n0 (own_Fin room_1 s (fun v h => v = some (.int 1))) (T.setTop (mkF m 374 #[.val (.long q0), .second, .val (.long q1), .second, .val (.long q2), .second, .val (.long q3), .second, .val (.long q4), .second, .val (.int i5), .val (.int (1 : Int32)), .val (.int (4 : Int32)), .val (.long q0), .second, .val (.long h1v), .second, .val (.long h2v), .second, .val (.long h3v), .second, .val (.long h4v), .second, .val (.long mark), .second, .val (.ref hp), .val (.ref wa), .val (.ref go), .val (.int (1 : Int32)), .unset, .unset] [(.int (1 : Int32))]))
      refine own_if_eq C X at_374 (pcT := 407) (pc' := 377) (by decide) (by decide) rfl (fun hc374 => absurd hc374 (by decide)) (fun hc374 => ?_)
      refine own_aload C X at_377 rfl rfl (pc' := 379) rfl ?_
      refine own_aload C X at_379 rfl rfl (pc' := 381) rfl ?_
      refine own_iload C X at_381 rfl (pc' := 383) rfl ?_
      refine own_iconst C X at_383 (v := 3) (by decide) (pc' := 384) rfl ?_
      refine own_callS C X at_384 (own_m_sc4 l Z a0 hw wa go (3 : Int32) _ n0 (own_big C X) q4 h1v h2v h3v h4v r0 r1 r2 r3 mark h3v A_wa A_go (by decide) 3 (by decide) rfl pm) (hw _ (List.mem_of_getElem? (i := 14) rfl)) (hw _ (List.mem_of_getElem? (i := 15) rfl)) (hw _ (List.mem_of_getElem? (i := 12) rfl)) (hw _ (List.mem_of_getElem? (i := 16) rfl)) (by decide) own_pd_7147 rfl rfl (Nat.le_of_ble_eq_true rfl) (Nat.le_of_ble_eq_true rfl) (Nat.le_of_ble_eq_true rfl) (Nat.le_of_ble_eq_true rfl) (av := [(.ref wa), (.ref go), (.int (4 : Int32)), (.int (3 : Int32))]) (S := []) rfl (pc' := 387) rfl ?_
      intro T h v X hQ
      obtain ⟨rfl, rfl⟩ := hQ
      show own_Go p e below n0 (own_Fin room_1 s (fun v h => v = some (.int 1))) (T.setTop (mkF m 387 #[.val (.long q0), .second, .val (.long q1), .second, .val (.long q2), .second, .val (.long q3), .second, .val (.long q4), .second, .val (.int i5), .val (.int (1 : Int32)), .val (.int (4 : Int32)), .val (.long q0), .second, .val (.long h1v), .second, .val (.long h2v), .second, .val (.long h3v), .second, .val (.long h4v), .second, .val (.long mark), .second, .val (.ref hp), .val (.ref wa), .val (.ref go), .val (.int (1 : Int32)), .unset, .unset] [(.int (1 : Int32))]))
      refine own_if_eq C X at_387 (pcT := 407) (pc' := 390) (by decide) (by decide) rfl (fun hc387 => absurd hc387 (by decide)) (fun hc387 => ?_)
      refine own_aload C X at_390 rfl rfl (pc' := 392) rfl ?_
      refine own_aload C X at_392 rfl rfl (pc' := 394) rfl ?_
      refine own_iload C X at_394 rfl (pc' := 396) rfl ?_
      refine own_iconst C X at_396 (v := 4) (by decide) (pc' := 397) rfl ?_
      refine own_callS C X at_397 (own_m_scN l Z a0 hw wa go (4 : Int32) (4 : Int32) _ n0 (own_big C X) (by decide)) (hw _ (List.mem_of_getElem? (i := 14) rfl)) (hw _ (List.mem_of_getElem? (i := 15) rfl)) (hw _ (List.mem_of_getElem? (i := 12) rfl)) (hw _ (List.mem_of_getElem? (i := 16) rfl)) (by decide) own_pd_7147 rfl rfl (Nat.le_of_ble_eq_true rfl) (Nat.le_of_ble_eq_true rfl) (Nat.le_of_ble_eq_true rfl) (Nat.le_of_ble_eq_true rfl) (av := [(.ref wa), (.ref go), (.int (4 : Int32)), (.int (4 : Int32))]) (S := []) rfl (pc' := 400) rfl ?_
      intro T h v X hQ
      obtain ⟨rfl, rfl⟩ := hQ
      show own_Go p e below n0 (own_Fin room_1 s (fun v h => v = some (.int 1))) (T.setTop (mkF m 400 #[.val (.long q0), .second, .val (.long q1), .second, .val (.long q2), .second, .val (.long q3), .second, .val (.long q4), .second, .val (.int i5), .val (.int (1 : Int32)), .val (.int (4 : Int32)), .val (.long q0), .second, .val (.long h1v), .second, .val (.long h2v), .second, .val (.long h3v), .second, .val (.long h4v), .second, .val (.long mark), .second, .val (.ref hp), .val (.ref wa), .val (.ref go), .val (.int (1 : Int32)), .unset, .unset] [(.int (1 : Int32))]))
      refine own_if_eq C X at_400 (pcT := 407) (pc' := 403) (by decide) (by decide) rfl (fun hc400 => absurd hc400 (by decide)) (fun hc400 => ?_)
      refine own_iconst C X at_403 (v := 1) (by decide) (pc' := 404) rfl ?_
      refine own_goto C X at_404 (pc' := 408) (by decide) (by decide) ?_
      refine own_istore C X at_408 (L' := #[.val (.long q0), .second, .val (.long q1), .second, .val (.long q2), .second, .val (.long q3), .second, .val (.long q4), .second, .val (.int i5), .val (.int (1 : Int32)), .val (.int (4 : Int32)), .val (.long q0), .second, .val (.long h1v), .second, .val (.long h2v), .second, .val (.long h3v), .second, .val (.long h4v), .second, .val (.long mark), .second, .val (.ref hp), .val (.ref wa), .val (.ref go), .val (.int (1 : Int32)), .val (.int (1 : Int32)), .unset]) rfl (pc' := 410) rfl ?_
      refine own_aload C X at_410 rfl rfl (pc' := 412) rfl ?_
      refine own_iconst C X at_412 (v := 0) (by decide) (pc' := 413) rfl ?_
      refine own_iload C X at_413 rfl (pc' := 415) rfl ?_
      refine own_iload C X at_415 rfl (pc' := 417) rfl ?_
      refine own_lload C X at_417 rfl (pc' := 419) rfl ?_
      refine own_callS C X at_419 (own_m_kpB l Z a0 hw hp (0 : Int32) (1 : Int32) (4 : Int32) mark _ n0 (own_big C X) (by decide) [mark, r0, r1, r2, r3, mark, mark] A_hp 0 (by decide) rfl) (hw _ (List.mem_of_getElem? (i := 20) rfl)) (hw _ (List.mem_of_getElem? (i := 21) rfl)) (hw _ (List.mem_of_getElem? (i := 12) rfl)) (hw _ (List.mem_of_getElem? (i := 22) rfl)) (by decide) own_pd_6969 rfl rfl (Nat.le_of_ble_eq_true rfl) (Nat.le_of_ble_eq_true rfl) (Nat.le_of_ble_eq_true rfl) (Nat.le_of_ble_eq_true rfl) (av := [(.ref hp), (.int (0 : Int32)), (.int (1 : Int32)), (.int (4 : Int32)), (.long mark)]) (S := []) rfl (pc' := 422) rfl ?_
      intro T h v X hQ
      obtain ⟨rfl, rfl⟩ := hQ
      show own_Go p e below n0 (own_Fin room_1 s (fun v h => v = some (.int 1))) (T.setTop (mkF m 422 #[.val (.long q0), .second, .val (.long q1), .second, .val (.long q2), .second, .val (.long q3), .second, .val (.long q4), .second, .val (.int i5), .val (.int (1 : Int32)), .val (.int (4 : Int32)), .val (.long q0), .second, .val (.long h1v), .second, .val (.long h2v), .second, .val (.long h3v), .second, .val (.long h4v), .second, .val (.long mark), .second, .val (.ref hp), .val (.ref wa), .val (.ref go), .val (.int (1 : Int32)), .val (.int (1 : Int32)), .unset] [(.int (1 : Int32))]))
      refine own_if_eq C X at_422 (pcT := 520) (pc' := 425) (by decide) (by decide) rfl (fun hc422 => absurd hc422 (by decide)) (fun hc422 => ?_)
      refine own_aload C X at_425 rfl rfl (pc' := 427) rfl ?_
      refine own_iconst C X at_427 (v := 1) (by decide) (pc' := 428) rfl ?_
      refine own_iload C X at_428 rfl (pc' := 430) rfl ?_
      refine own_iload C X at_430 rfl (pc' := 432) rfl ?_
      refine own_lload C X at_432 rfl (pc' := 434) rfl ?_
      refine own_callS C X at_434 (own_m_kpI l Z a0 hw hp (1 : Int32) (1 : Int32) (4 : Int32) mark _ n0 (own_big C X) (by decide) (by decide)) (hw _ (List.mem_of_getElem? (i := 20) rfl)) (hw _ (List.mem_of_getElem? (i := 21) rfl)) (hw _ (List.mem_of_getElem? (i := 12) rfl)) (hw _ (List.mem_of_getElem? (i := 22) rfl)) (by decide) own_pd_6969 rfl rfl (Nat.le_of_ble_eq_true rfl) (Nat.le_of_ble_eq_true rfl) (Nat.le_of_ble_eq_true rfl) (Nat.le_of_ble_eq_true rfl) (av := [(.ref hp), (.int (1 : Int32)), (.int (1 : Int32)), (.int (4 : Int32)), (.long mark)]) (S := []) rfl (pc' := 437) rfl ?_
      intro T h v X hQ
      obtain ⟨rfl, rfl⟩ := hQ
      show own_Go p e below n0 (own_Fin room_1 s (fun v h => v = some (.int 1))) (T.setTop (mkF m 437 #[.val (.long q0), .second, .val (.long q1), .second, .val (.long q2), .second, .val (.long q3), .second, .val (.long q4), .second, .val (.int i5), .val (.int (1 : Int32)), .val (.int (4 : Int32)), .val (.long q0), .second, .val (.long h1v), .second, .val (.long h2v), .second, .val (.long h3v), .second, .val (.long h4v), .second, .val (.long mark), .second, .val (.ref hp), .val (.ref wa), .val (.ref go), .val (.int (1 : Int32)), .val (.int (1 : Int32)), .unset] [(.int (1 : Int32))]))
      refine own_if_eq C X at_437 (pcT := 520) (pc' := 440) (by decide) (by decide) rfl (fun hc437 => absurd hc437 (by decide)) (fun hc437 => ?_)
      refine own_aload C X at_440 rfl rfl (pc' := 442) rfl ?_
      refine own_iconst C X at_442 (v := 2) (by decide) (pc' := 443) rfl ?_
      refine own_iload C X at_443 rfl (pc' := 445) rfl ?_
      refine own_iload C X at_445 rfl (pc' := 447) rfl ?_
      refine own_lload C X at_447 rfl (pc' := 449) rfl ?_
      refine own_callS C X at_449 (own_m_kpI l Z a0 hw hp (2 : Int32) (1 : Int32) (4 : Int32) mark _ n0 (own_big C X) (by decide) (by decide)) (hw _ (List.mem_of_getElem? (i := 20) rfl)) (hw _ (List.mem_of_getElem? (i := 21) rfl)) (hw _ (List.mem_of_getElem? (i := 12) rfl)) (hw _ (List.mem_of_getElem? (i := 22) rfl)) (by decide) own_pd_6969 rfl rfl (Nat.le_of_ble_eq_true rfl) (Nat.le_of_ble_eq_true rfl) (Nat.le_of_ble_eq_true rfl) (Nat.le_of_ble_eq_true rfl) (av := [(.ref hp), (.int (2 : Int32)), (.int (1 : Int32)), (.int (4 : Int32)), (.long mark)]) (S := []) rfl (pc' := 452) rfl ?_
      intro T h v X hQ
      obtain ⟨rfl, rfl⟩ := hQ
      show own_Go p e below n0 (own_Fin room_1 s (fun v h => v = some (.int 1))) (T.setTop (mkF m 452 #[.val (.long q0), .second, .val (.long q1), .second, .val (.long q2), .second, .val (.long q3), .second, .val (.long q4), .second, .val (.int i5), .val (.int (1 : Int32)), .val (.int (4 : Int32)), .val (.long q0), .second, .val (.long h1v), .second, .val (.long h2v), .second, .val (.long h3v), .second, .val (.long h4v), .second, .val (.long mark), .second, .val (.ref hp), .val (.ref wa), .val (.ref go), .val (.int (1 : Int32)), .val (.int (1 : Int32)), .unset] [(.int (1 : Int32))]))
      refine own_if_eq C X at_452 (pcT := 520) (pc' := 455) (by decide) (by decide) rfl (fun hc452 => absurd hc452 (by decide)) (fun hc452 => ?_)
      refine own_aload C X at_455 rfl rfl (pc' := 457) rfl ?_
      refine own_iconst C X at_457 (v := 3) (by decide) (pc' := 458) rfl ?_
      refine own_iload C X at_458 rfl (pc' := 460) rfl ?_
      refine own_iload C X at_460 rfl (pc' := 462) rfl ?_
      refine own_lload C X at_462 rfl (pc' := 464) rfl ?_
      refine own_callS C X at_464 (own_m_kpI l Z a0 hw hp (3 : Int32) (1 : Int32) (4 : Int32) mark _ n0 (own_big C X) (by decide) (by decide)) (hw _ (List.mem_of_getElem? (i := 20) rfl)) (hw _ (List.mem_of_getElem? (i := 21) rfl)) (hw _ (List.mem_of_getElem? (i := 12) rfl)) (hw _ (List.mem_of_getElem? (i := 22) rfl)) (by decide) own_pd_6969 rfl rfl (Nat.le_of_ble_eq_true rfl) (Nat.le_of_ble_eq_true rfl) (Nat.le_of_ble_eq_true rfl) (Nat.le_of_ble_eq_true rfl) (av := [(.ref hp), (.int (3 : Int32)), (.int (1 : Int32)), (.int (4 : Int32)), (.long mark)]) (S := []) rfl (pc' := 467) rfl ?_
      intro T h v X hQ
      obtain ⟨rfl, rfl⟩ := hQ
      show own_Go p e below n0 (own_Fin room_1 s (fun v h => v = some (.int 1))) (T.setTop (mkF m 467 #[.val (.long q0), .second, .val (.long q1), .second, .val (.long q2), .second, .val (.long q3), .second, .val (.long q4), .second, .val (.int i5), .val (.int (1 : Int32)), .val (.int (4 : Int32)), .val (.long q0), .second, .val (.long h1v), .second, .val (.long h2v), .second, .val (.long h3v), .second, .val (.long h4v), .second, .val (.long mark), .second, .val (.ref hp), .val (.ref wa), .val (.ref go), .val (.int (1 : Int32)), .val (.int (1 : Int32)), .unset] [(.int (1 : Int32))]))
      refine own_if_eq C X at_467 (pcT := 520) (pc' := 470) (by decide) (by decide) rfl (fun hc467 => absurd hc467 (by decide)) (fun hc467 => ?_)
      refine own_aload C X at_470 rfl rfl (pc' := 472) rfl ?_
      refine own_iconst C X at_472 (v := 4) (by decide) (pc' := 473) rfl ?_
      refine own_iload C X at_473 rfl (pc' := 475) rfl ?_
      refine own_iload C X at_475 rfl (pc' := 477) rfl ?_
      refine own_lload C X at_477 rfl (pc' := 479) rfl ?_
      refine own_callS C X at_479 (own_m_kpI l Z a0 hw hp (4 : Int32) (1 : Int32) (4 : Int32) mark _ n0 (own_big C X) (by decide) (by decide)) (hw _ (List.mem_of_getElem? (i := 20) rfl)) (hw _ (List.mem_of_getElem? (i := 21) rfl)) (hw _ (List.mem_of_getElem? (i := 12) rfl)) (hw _ (List.mem_of_getElem? (i := 22) rfl)) (by decide) own_pd_6969 rfl rfl (Nat.le_of_ble_eq_true rfl) (Nat.le_of_ble_eq_true rfl) (Nat.le_of_ble_eq_true rfl) (Nat.le_of_ble_eq_true rfl) (av := [(.ref hp), (.int (4 : Int32)), (.int (1 : Int32)), (.int (4 : Int32)), (.long mark)]) (S := []) rfl (pc' := 482) rfl ?_
      intro T h v X hQ
      obtain ⟨rfl, rfl⟩ := hQ
      show own_Go p e below n0 (own_Fin room_1 s (fun v h => v = some (.int 1))) (T.setTop (mkF m 482 #[.val (.long q0), .second, .val (.long q1), .second, .val (.long q2), .second, .val (.long q3), .second, .val (.long q4), .second, .val (.int i5), .val (.int (1 : Int32)), .val (.int (4 : Int32)), .val (.long q0), .second, .val (.long h1v), .second, .val (.long h2v), .second, .val (.long h3v), .second, .val (.long h4v), .second, .val (.long mark), .second, .val (.ref hp), .val (.ref wa), .val (.ref go), .val (.int (1 : Int32)), .val (.int (1 : Int32)), .unset] [(.int (1 : Int32))]))
      refine own_if_eq C X at_482 (pcT := 520) (pc' := 485) (by decide) (by decide) rfl (fun hc482 => absurd hc482 (by decide)) (fun hc482 => ?_)
      refine own_aload C X at_485 rfl rfl (pc' := 487) rfl ?_
      refine own_iconst C X at_487 (v := 5) (by decide) (pc' := 488) rfl ?_
      refine own_iload C X at_488 rfl (pc' := 490) rfl ?_
      refine own_iload C X at_490 rfl (pc' := 492) rfl ?_
      refine own_lload C X at_492 rfl (pc' := 494) rfl ?_
      refine own_callS C X at_494 (own_m_kpA l Z a0 hw hp (5 : Int32) (1 : Int32) (4 : Int32) mark _ n0 (own_big C X) (by decide) (by decide) [mark, r0, r1, r2, r3, mark, mark] A_hp 5 (by decide) rfl) (hw _ (List.mem_of_getElem? (i := 20) rfl)) (hw _ (List.mem_of_getElem? (i := 21) rfl)) (hw _ (List.mem_of_getElem? (i := 12) rfl)) (hw _ (List.mem_of_getElem? (i := 22) rfl)) (by decide) own_pd_6969 rfl rfl (Nat.le_of_ble_eq_true rfl) (Nat.le_of_ble_eq_true rfl) (Nat.le_of_ble_eq_true rfl) (Nat.le_of_ble_eq_true rfl) (av := [(.ref hp), (.int (5 : Int32)), (.int (1 : Int32)), (.int (4 : Int32)), (.long mark)]) (S := []) rfl (pc' := 497) rfl ?_
      intro T h v X hQ
      obtain ⟨rfl, rfl⟩ := hQ
      show own_Go p e below n0 (own_Fin room_1 s (fun v h => v = some (.int 1))) (T.setTop (mkF m 497 #[.val (.long q0), .second, .val (.long q1), .second, .val (.long q2), .second, .val (.long q3), .second, .val (.long q4), .second, .val (.int i5), .val (.int (1 : Int32)), .val (.int (4 : Int32)), .val (.long q0), .second, .val (.long h1v), .second, .val (.long h2v), .second, .val (.long h3v), .second, .val (.long h4v), .second, .val (.long mark), .second, .val (.ref hp), .val (.ref wa), .val (.ref go), .val (.int (1 : Int32)), .val (.int (1 : Int32)), .unset] [(.int (1 : Int32))]))
      refine own_if_eq C X at_497 (pcT := 520) (pc' := 500) (by decide) (by decide) rfl (fun hc497 => absurd hc497 (by decide)) (fun hc497 => ?_)
      refine own_aload C X at_500 rfl rfl (pc' := 502) rfl ?_
      refine own_bipush C X at_502 (v := 6) (by decide) (pc' := 504) rfl ?_
      refine own_iload C X at_504 rfl (pc' := 506) rfl ?_
      refine own_iload C X at_506 rfl (pc' := 508) rfl ?_
      refine own_lload C X at_508 rfl (pc' := 510) rfl ?_
      refine own_callS C X at_510 (own_m_kpA l Z a0 hw hp (6 : Int32) (1 : Int32) (4 : Int32) mark _ n0 (own_big C X) (by decide) (by decide) [mark, r0, r1, r2, r3, mark, mark] A_hp 6 (by decide) rfl) (hw _ (List.mem_of_getElem? (i := 20) rfl)) (hw _ (List.mem_of_getElem? (i := 21) rfl)) (hw _ (List.mem_of_getElem? (i := 12) rfl)) (hw _ (List.mem_of_getElem? (i := 22) rfl)) (by decide) own_pd_6969 rfl rfl (Nat.le_of_ble_eq_true rfl) (Nat.le_of_ble_eq_true rfl) (Nat.le_of_ble_eq_true rfl) (Nat.le_of_ble_eq_true rfl) (av := [(.ref hp), (.int (6 : Int32)), (.int (1 : Int32)), (.int (4 : Int32)), (.long mark)]) (S := []) rfl (pc' := 513) rfl ?_
      intro T h v X hQ
      obtain ⟨rfl, rfl⟩ := hQ
      show own_Go p e below n0 (own_Fin room_1 s (fun v h => v = some (.int 1))) (T.setTop (mkF m 513 #[.val (.long q0), .second, .val (.long q1), .second, .val (.long q2), .second, .val (.long q3), .second, .val (.long q4), .second, .val (.int i5), .val (.int (1 : Int32)), .val (.int (4 : Int32)), .val (.long q0), .second, .val (.long h1v), .second, .val (.long h2v), .second, .val (.long h3v), .second, .val (.long h4v), .second, .val (.long mark), .second, .val (.ref hp), .val (.ref wa), .val (.ref go), .val (.int (1 : Int32)), .val (.int (1 : Int32)), .unset] [(.int (1 : Int32))]))
      refine own_if_eq C X at_513 (pcT := 520) (pc' := 516) (by decide) (by decide) rfl (fun hc513 => absurd hc513 (by decide)) (fun hc513 => ?_)
      refine own_iconst C X at_516 (v := 1) (by decide) (pc' := 517) rfl ?_
      refine own_goto C X at_517 (pc' := 521) (by decide) (by decide) ?_
      refine own_istore C X at_521 (L' := #[.val (.long q0), .second, .val (.long q1), .second, .val (.long q2), .second, .val (.long q3), .second, .val (.long q4), .second, .val (.int i5), .val (.int (1 : Int32)), .val (.int (4 : Int32)), .val (.long q0), .second, .val (.long h1v), .second, .val (.long h2v), .second, .val (.long h3v), .second, .val (.long h4v), .second, .val (.long mark), .second, .val (.ref hp), .val (.ref wa), .val (.ref go), .val (.int (1 : Int32)), .val (.int (1 : Int32)), .val (.int (1 : Int32))]) rfl (pc' := 523) rfl ?_
      refine own_iload C X at_523 rfl (pc' := 525) rfl ?_
      refine own_if_eq C X at_525 (pcT := 542) (pc' := 528) (by decide) (by decide) rfl (fun hc525 => absurd hc525 (by decide)) (fun hc525 => ?_)
      refine own_iload C X at_528 rfl (pc' := 530) rfl ?_
      refine own_if_eq C X at_530 (pcT := 542) (pc' := 533) (by decide) (by decide) rfl (fun hc530 => absurd hc530 (by decide)) (fun hc530 => ?_)
      refine own_iload C X at_533 rfl (pc' := 535) rfl ?_
      refine own_if_eq C X at_535 (pcT := 542) (pc' := 538) (by decide) (by decide) rfl (fun hc535 => absurd hc535 (by decide)) (fun hc535 => ?_)
      refine own_iconst C X at_538 (v := 1) (by decide) (pc' := 539) rfl ?_
      refine own_goto C X at_539 (pc' := 543) (by decide) (by decide) ?_
      exact own_ireturn_z C X at_543 (Nat.le_of_ble_eq_true rfl) (Nat.le_of_ble_eq_true rfl) (rfl)
  · rcases own_of _ off e_off with rfl | rfl
    · refine own_aload C X at_116 rfl rfl (pc' := 118) rfl ?_
      refine own_iload C X at_118 rfl (pc' := 120) rfl ?_
      refine own_lload C X at_120 rfl (pc' := 122) rfl ?_
      refine own_lastore C X at_122 A_hp (by decide) (i := 0) (Nat.le_of_ble_eq_true rfl) ge_hp (pc' := 123) rfl ?_
      intro T h X K_ A_hp_
      have A_hp : own_JA Z h hp [q0, mark, mark, mark, mark, mark, mark] := A_hp_
      refine own_iload C X at_123 rfl (pc' := 125) rfl ?_
      refine own_iconst C X at_125 (v := 1) (by decide) (pc' := 126) rfl ?_
      refine own_icmp_le C X at_126 (pcT := 138) (pc' := 129) (by decide) (by decide) rfl (fun hc126 => absurd hc126 (by decide)) (fun hc126 => ?_)
      refine own_aload C X at_129 rfl rfl (pc' := 131) rfl ?_
      refine own_iload C X at_131 rfl (pc' := 133) rfl ?_
      refine own_iconst C X at_133 (v := 1) (by decide) (pc' := 134) rfl ?_
      refine own_iadd C X at_134 (z := 1) (by decide) (pc' := 135) rfl ?_
      refine own_lload C X at_135 rfl (pc' := 137) rfl ?_
      refine own_lastore C X at_137 A_hp (by decide) (i := 1) (Nat.le_of_ble_eq_true rfl) ge_hp (pc' := 138) rfl ?_
      intro T h X K_ A_hp_
      have A_hp : own_JA Z h hp [q0, h1v, mark, mark, mark, mark, mark] := A_hp_
      refine own_iload C X at_138 rfl (pc' := 140) rfl ?_
      refine own_iconst C X at_140 (v := 2) (by decide) (pc' := 141) rfl ?_
      refine own_icmp_le C X at_141 (pcT := 153) (pc' := 144) (by decide) (by decide) rfl (fun hc141 => absurd hc141 (by decide)) (fun hc141 => ?_)
      refine own_aload C X at_144 rfl rfl (pc' := 146) rfl ?_
      refine own_iload C X at_146 rfl (pc' := 148) rfl ?_
      refine own_iconst C X at_148 (v := 2) (by decide) (pc' := 149) rfl ?_
      refine own_iadd C X at_149 (z := 2) (by decide) (pc' := 150) rfl ?_
      refine own_lload C X at_150 rfl (pc' := 152) rfl ?_
      refine own_lastore C X at_152 A_hp (by decide) (i := 2) (Nat.le_of_ble_eq_true rfl) ge_hp (pc' := 153) rfl ?_
      intro T h X K_ A_hp_
      have A_hp : own_JA Z h hp [q0, h1v, h2v, mark, mark, mark, mark] := A_hp_
      refine own_iload C X at_153 rfl (pc' := 155) rfl ?_
      refine own_iconst C X at_155 (v := 3) (by decide) (pc' := 156) rfl ?_
      refine own_icmp_le C X at_156 (pcT := 168) (pc' := 159) (by decide) (by decide) rfl (fun hc156 => absurd hc156 (by decide)) (fun hc156 => ?_)
      refine own_aload C X at_159 rfl rfl (pc' := 161) rfl ?_
      refine own_iload C X at_161 rfl (pc' := 163) rfl ?_
      refine own_iconst C X at_163 (v := 3) (by decide) (pc' := 164) rfl ?_
      refine own_iadd C X at_164 (z := 3) (by decide) (pc' := 165) rfl ?_
      refine own_lload C X at_165 rfl (pc' := 167) rfl ?_
      refine own_lastore C X at_167 A_hp (by decide) (i := 3) (Nat.le_of_ble_eq_true rfl) ge_hp (pc' := 168) rfl ?_
      intro T h X K_ A_hp_
      have A_hp : own_JA Z h hp [q0, h1v, h2v, h3v, mark, mark, mark] := A_hp_
      refine own_iload C X at_168 rfl (pc' := 170) rfl ?_
      refine own_iconst C X at_170 (v := 4) (by decide) (pc' := 171) rfl ?_
      refine own_icmp_le C X at_171 (pcT := 183) (pc' := 174) (by decide) (by decide) rfl (fun hc171 => absurd hc171 (by decide)) (fun hc171 => ?_)
      refine own_aload C X at_174 rfl rfl (pc' := 176) rfl ?_
      refine own_iload C X at_176 rfl (pc' := 178) rfl ?_
      refine own_iconst C X at_178 (v := 4) (by decide) (pc' := 179) rfl ?_
      refine own_iadd C X at_179 (z := 4) (by decide) (pc' := 180) rfl ?_
      refine own_lload C X at_180 rfl (pc' := 182) rfl ?_
      refine own_lastore C X at_182 A_hp (by decide) (i := 4) (Nat.le_of_ble_eq_true rfl) ge_hp (pc' := 183) rfl ?_
      intro T h X K_ A_hp_
      have A_hp : own_JA Z h hp [q0, h1v, h2v, h3v, h4v, mark, mark] := A_hp_
      refine own_iconst C X at_183 (v := 5) (by decide) (pc' := 184) rfl ?_
      refine own_newJ C X at_184 (hw _ (List.mem_of_getElem? (i := 5) rfl)) (by decide) (k := 5) (cap := 5) (Nat.le_of_ble_eq_true rfl) (by decide) (Nat.le_of_ble_eq_true rfl) (Nat.le_of_ble_eq_true rfl) (pc' := 186) rfl ?_
      intro T h wa e_wa X K_ ge_wa A_wa_
      have ne_hp_wa : hp ≠ wa := by rw [e_wa]; exact Nat.ne_of_lt A_hp.lt
      have A_wa : own_JA Z h wa [(0 : Int64), (0 : Int64), (0 : Int64), (0 : Int64), (0 : Int64)] := A_wa_
      have A_hp := A_hp.keep K_ nin0
      refine own_astore C X at_186 rfl (L' := #[.val (.long q0), .second, .val (.long q1), .second, .val (.long q2), .second, .val (.long q3), .second, .val (.long q4), .second, .val (.int i5), .val (.int (0 : Int32)), .val (.int (5 : Int32)), .val (.long q0), .second, .val (.long h1v), .second, .val (.long h2v), .second, .val (.long h3v), .second, .val (.long h4v), .second, .val (.long mark), .second, .val (.ref hp), .val (.ref wa), .unset, .unset, .unset, .unset]) rfl (pc' := 188) rfl ?_
      refine own_aload C X at_188 rfl rfl (pc' := 190) rfl ?_
      refine own_iconst C X at_190 (v := 0) (by decide) (pc' := 191) rfl ?_
      refine own_lload C X at_191 rfl (pc' := 193) rfl ?_
      refine own_lastore C X at_193 A_wa (by decide) (i := 0) (Nat.le_of_ble_eq_true rfl) ge_wa (pc' := 194) rfl ?_
      intro T h X K_ A_wa_
      have A_wa : own_JA Z h wa [q4, (0 : Int64), (0 : Int64), (0 : Int64), (0 : Int64)] := A_wa_
      have A_hp := A_hp.keep K_ (ninS ne_hp_wa nin0)
      refine own_aload C X at_194 rfl rfl (pc' := 196) rfl ?_
      refine own_iconst C X at_196 (v := 1) (by decide) (pc' := 197) rfl ?_
      refine own_lload C X at_197 rfl (pc' := 199) rfl ?_
      refine own_lastore C X at_199 A_wa (by decide) (i := 1) (Nat.le_of_ble_eq_true rfl) ge_wa (pc' := 200) rfl ?_
      intro T h X K_ A_wa_
      have A_wa : own_JA Z h wa [q4, h1v, (0 : Int64), (0 : Int64), (0 : Int64)] := A_wa_
      have A_hp := A_hp.keep K_ (ninS ne_hp_wa nin0)
      refine own_aload C X at_200 rfl rfl (pc' := 202) rfl ?_
      refine own_iconst C X at_202 (v := 2) (by decide) (pc' := 203) rfl ?_
      refine own_lload C X at_203 rfl (pc' := 205) rfl ?_
      refine own_lastore C X at_205 A_wa (by decide) (i := 2) (Nat.le_of_ble_eq_true rfl) ge_wa (pc' := 206) rfl ?_
      intro T h X K_ A_wa_
      have A_wa : own_JA Z h wa [q4, h1v, h2v, (0 : Int64), (0 : Int64)] := A_wa_
      have A_hp := A_hp.keep K_ (ninS ne_hp_wa nin0)
      refine own_aload C X at_206 rfl rfl (pc' := 208) rfl ?_
      refine own_iconst C X at_208 (v := 3) (by decide) (pc' := 209) rfl ?_
      refine own_lload C X at_209 rfl (pc' := 211) rfl ?_
      refine own_lastore C X at_211 A_wa (by decide) (i := 3) (Nat.le_of_ble_eq_true rfl) ge_wa (pc' := 212) rfl ?_
      intro T h X K_ A_wa_
      have A_wa : own_JA Z h wa [q4, h1v, h2v, h3v, (0 : Int64)] := A_wa_
      have A_hp := A_hp.keep K_ (ninS ne_hp_wa nin0)
      refine own_aload C X at_212 rfl rfl (pc' := 214) rfl ?_
      refine own_iconst C X at_214 (v := 4) (by decide) (pc' := 215) rfl ?_
      refine own_lload C X at_215 rfl (pc' := 217) rfl ?_
      refine own_lastore C X at_217 A_wa (by decide) (i := 4) (Nat.le_of_ble_eq_true rfl) ge_wa (pc' := 218) rfl ?_
      intro T h X K_ A_wa_
      have A_wa : own_JA Z h wa [q4, h1v, h2v, h3v, h4v] := A_wa_
      have A_hp := A_hp.keep K_ (ninS ne_hp_wa nin0)
      refine own_aload C X at_218 rfl rfl (pc' := 220) rfl ?_
      refine own_iload C X at_220 rfl (pc' := 222) rfl ?_
      refine own_iload C X at_222 rfl (pc' := 224) rfl ?_
      refine own_lload C X at_224 rfl (pc' := 226) rfl ?_
      refine own_callS C X at_226 (own_m_rl50 l Z a0 hw hp q4 _ n0 (own_big C X) q0 h1v h2v h3v h4v mark A_hp ge_hp l_h3v l_h4v) (hw _ (List.mem_of_getElem? (i := 6) rfl)) (hw _ (List.mem_of_getElem? (i := 7) rfl)) (hw _ (List.mem_of_getElem? (i := 8) rfl)) (hw _ (List.mem_of_getElem? (i := 9) rfl)) (by decide) own_pd_5832 rfl rfl (Nat.le_of_ble_eq_true rfl) (Nat.le_of_ble_eq_true rfl) (Nat.le_of_ble_eq_true rfl) (Nat.le_of_ble_eq_true rfl) (av := [(.ref hp), (.int (0 : Int32)), (.int (5 : Int32)), (.long q4)]) (S := []) rfl (pc' := 229) rfl ?_
      intro T h v X hQ
      obtain ⟨rfl, r0, r1, r2, r3, r4, K_, A_hp, od, pm⟩ := hQ
      have A_wa := A_wa.keep K_ (ninS (Ne.symm ne_hp_wa) nin0)
      show own_Go p e below n0 (own_Fin room_1 s (fun v h => v = some (.int 1))) (T.setTop (mkF m 229 #[.val (.long q0), .second, .val (.long q1), .second, .val (.long q2), .second, .val (.long q3), .second, .val (.long q4), .second, .val (.int i5), .val (.int (0 : Int32)), .val (.int (5 : Int32)), .val (.long q0), .second, .val (.long h1v), .second, .val (.long h2v), .second, .val (.long h3v), .second, .val (.long h4v), .second, .val (.long mark), .second, .val (.ref hp), .val (.ref wa), .unset, .unset, .unset, .unset] []))
      obtain ⟨od1, od2, od3, od4, -⟩ := od
      refine own_iconst C X at_229 (v := 5) (by decide) (pc' := 230) rfl ?_
      refine own_newJ C X at_230 (hw _ (List.mem_of_getElem? (i := 5) rfl)) (by decide) (k := 5) (cap := 5) (Nat.le_of_ble_eq_true rfl) (by decide) (Nat.le_of_ble_eq_true rfl) (Nat.le_of_ble_eq_true rfl) (pc' := 232) rfl ?_
      intro T h go e_go X K_ ge_go A_go_
      have ne_hp_go : hp ≠ go := by rw [e_go]; exact Nat.ne_of_lt A_hp.lt
      have ne_wa_go : wa ≠ go := by rw [e_go]; exact Nat.ne_of_lt A_wa.lt
      have A_go : own_JA Z h go [(0 : Int64), (0 : Int64), (0 : Int64), (0 : Int64), (0 : Int64)] := A_go_
      have A_hp := A_hp.keep K_ nin0
      have A_wa := A_wa.keep K_ nin0
      refine own_astore C X at_232 rfl (L' := #[.val (.long q0), .second, .val (.long q1), .second, .val (.long q2), .second, .val (.long q3), .second, .val (.long q4), .second, .val (.int i5), .val (.int (0 : Int32)), .val (.int (5 : Int32)), .val (.long q0), .second, .val (.long h1v), .second, .val (.long h2v), .second, .val (.long h3v), .second, .val (.long h4v), .second, .val (.long mark), .second, .val (.ref hp), .val (.ref wa), .val (.ref go), .unset, .unset, .unset]) rfl (pc' := 234) rfl ?_
      refine own_aload C X at_234 rfl rfl (pc' := 236) rfl ?_
      refine own_iconst C X at_236 (v := 0) (by decide) (pc' := 237) rfl ?_
      refine own_aload C X at_237 rfl rfl (pc' := 239) rfl ?_
      refine own_iload C X at_239 rfl (pc' := 241) rfl ?_
      refine own_laload C X at_241 A_hp (by decide) (i := 0) rfl (pc' := 242) rfl ?_
      refine own_lastore C X at_242 A_go (by decide) (i := 0) (Nat.le_of_ble_eq_true rfl) ge_go (pc' := 243) rfl ?_
      intro T h X K_ A_go_
      have A_go : own_JA Z h go [r0, (0 : Int64), (0 : Int64), (0 : Int64), (0 : Int64)] := A_go_
      have A_hp := A_hp.keep K_ (ninS ne_hp_go nin0)
      have A_wa := A_wa.keep K_ (ninS ne_wa_go nin0)
      refine own_aload C X at_243 rfl rfl (pc' := 245) rfl ?_
      refine own_iconst C X at_245 (v := 1) (by decide) (pc' := 246) rfl ?_
      refine own_aload C X at_246 rfl rfl (pc' := 248) rfl ?_
      refine own_iload C X at_248 rfl (pc' := 250) rfl ?_
      refine own_iconst C X at_250 (v := 1) (by decide) (pc' := 251) rfl ?_
      refine own_iadd C X at_251 (z := 1) (by decide) (pc' := 252) rfl ?_
      refine own_laload C X at_252 A_hp (by decide) (i := 1) rfl (pc' := 253) rfl ?_
      refine own_lastore C X at_253 A_go (by decide) (i := 1) (Nat.le_of_ble_eq_true rfl) ge_go (pc' := 254) rfl ?_
      intro T h X K_ A_go_
      have A_go : own_JA Z h go [r0, r1, (0 : Int64), (0 : Int64), (0 : Int64)] := A_go_
      have A_hp := A_hp.keep K_ (ninS ne_hp_go nin0)
      have A_wa := A_wa.keep K_ (ninS ne_wa_go nin0)
      refine own_aload C X at_254 rfl rfl (pc' := 256) rfl ?_
      refine own_iconst C X at_256 (v := 2) (by decide) (pc' := 257) rfl ?_
      refine own_aload C X at_257 rfl rfl (pc' := 259) rfl ?_
      refine own_iload C X at_259 rfl (pc' := 261) rfl ?_
      refine own_iconst C X at_261 (v := 2) (by decide) (pc' := 262) rfl ?_
      refine own_iadd C X at_262 (z := 2) (by decide) (pc' := 263) rfl ?_
      refine own_laload C X at_263 A_hp (by decide) (i := 2) rfl (pc' := 264) rfl ?_
      refine own_lastore C X at_264 A_go (by decide) (i := 2) (Nat.le_of_ble_eq_true rfl) ge_go (pc' := 265) rfl ?_
      intro T h X K_ A_go_
      have A_go : own_JA Z h go [r0, r1, r2, (0 : Int64), (0 : Int64)] := A_go_
      have A_hp := A_hp.keep K_ (ninS ne_hp_go nin0)
      have A_wa := A_wa.keep K_ (ninS ne_wa_go nin0)
      refine own_aload C X at_265 rfl rfl (pc' := 267) rfl ?_
      refine own_iconst C X at_267 (v := 3) (by decide) (pc' := 268) rfl ?_
      refine own_aload C X at_268 rfl rfl (pc' := 270) rfl ?_
      refine own_iload C X at_270 rfl (pc' := 272) rfl ?_
      refine own_iconst C X at_272 (v := 3) (by decide) (pc' := 273) rfl ?_
      refine own_iadd C X at_273 (z := 3) (by decide) (pc' := 274) rfl ?_
      refine own_laload C X at_274 A_hp (by decide) (i := 3) rfl (pc' := 275) rfl ?_
      refine own_lastore C X at_275 A_go (by decide) (i := 3) (Nat.le_of_ble_eq_true rfl) ge_go (pc' := 276) rfl ?_
      intro T h X K_ A_go_
      have A_go : own_JA Z h go [r0, r1, r2, r3, (0 : Int64)] := A_go_
      have A_hp := A_hp.keep K_ (ninS ne_hp_go nin0)
      have A_wa := A_wa.keep K_ (ninS ne_wa_go nin0)
      refine own_aload C X at_276 rfl rfl (pc' := 278) rfl ?_
      refine own_iconst C X at_278 (v := 4) (by decide) (pc' := 279) rfl ?_
      refine own_aload C X at_279 rfl rfl (pc' := 281) rfl ?_
      refine own_iload C X at_281 rfl (pc' := 283) rfl ?_
      refine own_iconst C X at_283 (v := 4) (by decide) (pc' := 284) rfl ?_
      refine own_iadd C X at_284 (z := 4) (by decide) (pc' := 285) rfl ?_
      refine own_laload C X at_285 A_hp (by decide) (i := 4) rfl (pc' := 286) rfl ?_
      refine own_lastore C X at_286 A_go (by decide) (i := 4) (Nat.le_of_ble_eq_true rfl) ge_go (pc' := 287) rfl ?_
      intro T h X K_ A_go_
      have A_go : own_JA Z h go [r0, r1, r2, r3, r4] := A_go_
      have A_hp := A_hp.keep K_ (ninS ne_hp_go nin0)
      have A_wa := A_wa.keep K_ (ninS ne_wa_go nin0)
      refine own_aload C X at_287 rfl rfl (pc' := 289) rfl ?_
      refine own_iload C X at_289 rfl (pc' := 291) rfl ?_
      refine own_iconst C X at_291 (v := 1) (by decide) (pc' := 292) rfl ?_
      refine own_callS C X at_292 (own_m_or1 l Z a0 hw go (5 : Int32) _ n0 (own_big C X) (by decide) r0 r1 r2 r3 r4 A_go od1) (hw _ (List.mem_of_getElem? (i := 10) rfl)) (hw _ (List.mem_of_getElem? (i := 11) rfl)) (hw _ (List.mem_of_getElem? (i := 12) rfl)) (hw _ (List.mem_of_getElem? (i := 13) rfl)) (by decide) own_pd_4869 rfl rfl (Nat.le_of_ble_eq_true rfl) (Nat.le_of_ble_eq_true rfl) (Nat.le_of_ble_eq_true rfl) (Nat.le_of_ble_eq_true rfl) (av := [(.ref go), (.int (5 : Int32)), (.int (1 : Int32))]) (S := []) rfl (pc' := 295) rfl ?_
      intro T h v X hQ
      obtain ⟨rfl, rfl⟩ := hQ
      show own_Go p e below n0 (own_Fin room_1 s (fun v h => v = some (.int 1))) (T.setTop (mkF m 295 #[.val (.long q0), .second, .val (.long q1), .second, .val (.long q2), .second, .val (.long q3), .second, .val (.long q4), .second, .val (.int i5), .val (.int (0 : Int32)), .val (.int (5 : Int32)), .val (.long q0), .second, .val (.long h1v), .second, .val (.long h2v), .second, .val (.long h3v), .second, .val (.long h4v), .second, .val (.long mark), .second, .val (.ref hp), .val (.ref wa), .val (.ref go), .unset, .unset, .unset] [(.int (1 : Int32))]))
      refine own_if_eq C X at_295 (pcT := 335) (pc' := 298) (by decide) (by decide) rfl (fun hc295 => absurd hc295 (by decide)) (fun hc295 => ?_)
      refine own_aload C X at_298 rfl rfl (pc' := 300) rfl ?_
      refine own_iload C X at_300 rfl (pc' := 302) rfl ?_
      refine own_iconst C X at_302 (v := 2) (by decide) (pc' := 303) rfl ?_
      refine own_callS C X at_303 (own_m_or2 l Z a0 hw go (5 : Int32) _ n0 (own_big C X) (by decide) r0 r1 r2 r3 r4 A_go od2) (hw _ (List.mem_of_getElem? (i := 10) rfl)) (hw _ (List.mem_of_getElem? (i := 11) rfl)) (hw _ (List.mem_of_getElem? (i := 12) rfl)) (hw _ (List.mem_of_getElem? (i := 13) rfl)) (by decide) own_pd_4869 rfl rfl (Nat.le_of_ble_eq_true rfl) (Nat.le_of_ble_eq_true rfl) (Nat.le_of_ble_eq_true rfl) (Nat.le_of_ble_eq_true rfl) (av := [(.ref go), (.int (5 : Int32)), (.int (2 : Int32))]) (S := []) rfl (pc' := 306) rfl ?_
      intro T h v X hQ
      obtain ⟨rfl, rfl⟩ := hQ
      show own_Go p e below n0 (own_Fin room_1 s (fun v h => v = some (.int 1))) (T.setTop (mkF m 306 #[.val (.long q0), .second, .val (.long q1), .second, .val (.long q2), .second, .val (.long q3), .second, .val (.long q4), .second, .val (.int i5), .val (.int (0 : Int32)), .val (.int (5 : Int32)), .val (.long q0), .second, .val (.long h1v), .second, .val (.long h2v), .second, .val (.long h3v), .second, .val (.long h4v), .second, .val (.long mark), .second, .val (.ref hp), .val (.ref wa), .val (.ref go), .unset, .unset, .unset] [(.int (1 : Int32))]))
      refine own_if_eq C X at_306 (pcT := 335) (pc' := 309) (by decide) (by decide) rfl (fun hc306 => absurd hc306 (by decide)) (fun hc306 => ?_)
      refine own_aload C X at_309 rfl rfl (pc' := 311) rfl ?_
      refine own_iload C X at_311 rfl (pc' := 313) rfl ?_
      refine own_iconst C X at_313 (v := 3) (by decide) (pc' := 314) rfl ?_
      refine own_callS C X at_314 (own_m_or3 l Z a0 hw go (5 : Int32) _ n0 (own_big C X) (by decide) r0 r1 r2 r3 r4 A_go od3) (hw _ (List.mem_of_getElem? (i := 10) rfl)) (hw _ (List.mem_of_getElem? (i := 11) rfl)) (hw _ (List.mem_of_getElem? (i := 12) rfl)) (hw _ (List.mem_of_getElem? (i := 13) rfl)) (by decide) own_pd_4869 rfl rfl (Nat.le_of_ble_eq_true rfl) (Nat.le_of_ble_eq_true rfl) (Nat.le_of_ble_eq_true rfl) (Nat.le_of_ble_eq_true rfl) (av := [(.ref go), (.int (5 : Int32)), (.int (3 : Int32))]) (S := []) rfl (pc' := 317) rfl ?_
      intro T h v X hQ
      obtain ⟨rfl, rfl⟩ := hQ
      show own_Go p e below n0 (own_Fin room_1 s (fun v h => v = some (.int 1))) (T.setTop (mkF m 317 #[.val (.long q0), .second, .val (.long q1), .second, .val (.long q2), .second, .val (.long q3), .second, .val (.long q4), .second, .val (.int i5), .val (.int (0 : Int32)), .val (.int (5 : Int32)), .val (.long q0), .second, .val (.long h1v), .second, .val (.long h2v), .second, .val (.long h3v), .second, .val (.long h4v), .second, .val (.long mark), .second, .val (.ref hp), .val (.ref wa), .val (.ref go), .unset, .unset, .unset] [(.int (1 : Int32))]))
      refine own_if_eq C X at_317 (pcT := 335) (pc' := 320) (by decide) (by decide) rfl (fun hc317 => absurd hc317 (by decide)) (fun hc317 => ?_)
      refine own_aload C X at_320 rfl rfl (pc' := 322) rfl ?_
      refine own_iload C X at_322 rfl (pc' := 324) rfl ?_
      refine own_iconst C X at_324 (v := 4) (by decide) (pc' := 325) rfl ?_
      refine own_callS C X at_325 (own_m_or4 l Z a0 hw go (5 : Int32) _ n0 (own_big C X) (by decide) r0 r1 r2 r3 r4 A_go od4) (hw _ (List.mem_of_getElem? (i := 10) rfl)) (hw _ (List.mem_of_getElem? (i := 11) rfl)) (hw _ (List.mem_of_getElem? (i := 12) rfl)) (hw _ (List.mem_of_getElem? (i := 13) rfl)) (by decide) own_pd_4869 rfl rfl (Nat.le_of_ble_eq_true rfl) (Nat.le_of_ble_eq_true rfl) (Nat.le_of_ble_eq_true rfl) (Nat.le_of_ble_eq_true rfl) (av := [(.ref go), (.int (5 : Int32)), (.int (4 : Int32))]) (S := []) rfl (pc' := 328) rfl ?_
      intro T h v X hQ
      obtain ⟨rfl, rfl⟩ := hQ
      show own_Go p e below n0 (own_Fin room_1 s (fun v h => v = some (.int 1))) (T.setTop (mkF m 328 #[.val (.long q0), .second, .val (.long q1), .second, .val (.long q2), .second, .val (.long q3), .second, .val (.long q4), .second, .val (.int i5), .val (.int (0 : Int32)), .val (.int (5 : Int32)), .val (.long q0), .second, .val (.long h1v), .second, .val (.long h2v), .second, .val (.long h3v), .second, .val (.long h4v), .second, .val (.long mark), .second, .val (.ref hp), .val (.ref wa), .val (.ref go), .unset, .unset, .unset] [(.int (1 : Int32))]))
      refine own_if_eq C X at_328 (pcT := 335) (pc' := 331) (by decide) (by decide) rfl (fun hc328 => absurd hc328 (by decide)) (fun hc328 => ?_)
      refine own_iconst C X at_331 (v := 1) (by decide) (pc' := 332) rfl ?_
      refine own_goto C X at_332 (pc' := 336) (by decide) (by decide) ?_
      refine own_istore C X at_336 (L' := #[.val (.long q0), .second, .val (.long q1), .second, .val (.long q2), .second, .val (.long q3), .second, .val (.long q4), .second, .val (.int i5), .val (.int (0 : Int32)), .val (.int (5 : Int32)), .val (.long q0), .second, .val (.long h1v), .second, .val (.long h2v), .second, .val (.long h3v), .second, .val (.long h4v), .second, .val (.long mark), .second, .val (.ref hp), .val (.ref wa), .val (.ref go), .val (.int (1 : Int32)), .unset, .unset]) rfl (pc' := 338) rfl ?_
      refine own_aload C X at_338 rfl rfl (pc' := 340) rfl ?_
      refine own_aload C X at_340 rfl rfl (pc' := 342) rfl ?_
      refine own_iload C X at_342 rfl (pc' := 344) rfl ?_
      refine own_iconst C X at_344 (v := 0) (by decide) (pc' := 345) rfl ?_
      refine own_callS C X at_345 (own_m_sc5 l Z a0 hw wa go (0 : Int32) _ n0 (own_big C X) q4 h1v h2v h3v h4v r0 r1 r2 r3 r4 q4 A_wa A_go (by decide) 0 (by decide) rfl pm) (hw _ (List.mem_of_getElem? (i := 14) rfl)) (hw _ (List.mem_of_getElem? (i := 15) rfl)) (hw _ (List.mem_of_getElem? (i := 12) rfl)) (hw _ (List.mem_of_getElem? (i := 16) rfl)) (by decide) own_pd_7147 rfl rfl (Nat.le_of_ble_eq_true rfl) (Nat.le_of_ble_eq_true rfl) (Nat.le_of_ble_eq_true rfl) (Nat.le_of_ble_eq_true rfl) (av := [(.ref wa), (.ref go), (.int (5 : Int32)), (.int (0 : Int32))]) (S := []) rfl (pc' := 348) rfl ?_
      intro T h v X hQ
      obtain ⟨rfl, rfl⟩ := hQ
      show own_Go p e below n0 (own_Fin room_1 s (fun v h => v = some (.int 1))) (T.setTop (mkF m 348 #[.val (.long q0), .second, .val (.long q1), .second, .val (.long q2), .second, .val (.long q3), .second, .val (.long q4), .second, .val (.int i5), .val (.int (0 : Int32)), .val (.int (5 : Int32)), .val (.long q0), .second, .val (.long h1v), .second, .val (.long h2v), .second, .val (.long h3v), .second, .val (.long h4v), .second, .val (.long mark), .second, .val (.ref hp), .val (.ref wa), .val (.ref go), .val (.int (1 : Int32)), .unset, .unset] [(.int (1 : Int32))]))
      refine own_if_eq C X at_348 (pcT := 407) (pc' := 351) (by decide) (by decide) rfl (fun hc348 => absurd hc348 (by decide)) (fun hc348 => ?_)
      refine own_aload C X at_351 rfl rfl (pc' := 353) rfl ?_
      refine own_aload C X at_353 rfl rfl (pc' := 355) rfl ?_
      refine own_iload C X at_355 rfl (pc' := 357) rfl ?_
      refine own_iconst C X at_357 (v := 1) (by decide) (pc' := 358) rfl ?_
      refine own_callS C X at_358 (own_m_sc5 l Z a0 hw wa go (1 : Int32) _ n0 (own_big C X) q4 h1v h2v h3v h4v r0 r1 r2 r3 r4 h1v A_wa A_go (by decide) 1 (by decide) rfl pm) (hw _ (List.mem_of_getElem? (i := 14) rfl)) (hw _ (List.mem_of_getElem? (i := 15) rfl)) (hw _ (List.mem_of_getElem? (i := 12) rfl)) (hw _ (List.mem_of_getElem? (i := 16) rfl)) (by decide) own_pd_7147 rfl rfl (Nat.le_of_ble_eq_true rfl) (Nat.le_of_ble_eq_true rfl) (Nat.le_of_ble_eq_true rfl) (Nat.le_of_ble_eq_true rfl) (av := [(.ref wa), (.ref go), (.int (5 : Int32)), (.int (1 : Int32))]) (S := []) rfl (pc' := 361) rfl ?_
      intro T h v X hQ
      obtain ⟨rfl, rfl⟩ := hQ
      show own_Go p e below n0 (own_Fin room_1 s (fun v h => v = some (.int 1))) (T.setTop (mkF m 361 #[.val (.long q0), .second, .val (.long q1), .second, .val (.long q2), .second, .val (.long q3), .second, .val (.long q4), .second, .val (.int i5), .val (.int (0 : Int32)), .val (.int (5 : Int32)), .val (.long q0), .second, .val (.long h1v), .second, .val (.long h2v), .second, .val (.long h3v), .second, .val (.long h4v), .second, .val (.long mark), .second, .val (.ref hp), .val (.ref wa), .val (.ref go), .val (.int (1 : Int32)), .unset, .unset] [(.int (1 : Int32))]))
      refine own_if_eq C X at_361 (pcT := 407) (pc' := 364) (by decide) (by decide) rfl (fun hc361 => absurd hc361 (by decide)) (fun hc361 => ?_)
      refine own_aload C X at_364 rfl rfl (pc' := 366) rfl ?_
      refine own_aload C X at_366 rfl rfl (pc' := 368) rfl ?_
      refine own_iload C X at_368 rfl (pc' := 370) rfl ?_
      refine own_iconst C X at_370 (v := 2) (by decide) (pc' := 371) rfl ?_
      refine own_callS C X at_371 (own_m_sc5 l Z a0 hw wa go (2 : Int32) _ n0 (own_big C X) q4 h1v h2v h3v h4v r0 r1 r2 r3 r4 h2v A_wa A_go (by decide) 2 (by decide) rfl pm) (hw _ (List.mem_of_getElem? (i := 14) rfl)) (hw _ (List.mem_of_getElem? (i := 15) rfl)) (hw _ (List.mem_of_getElem? (i := 12) rfl)) (hw _ (List.mem_of_getElem? (i := 16) rfl)) (by decide) own_pd_7147 rfl rfl (Nat.le_of_ble_eq_true rfl) (Nat.le_of_ble_eq_true rfl) (Nat.le_of_ble_eq_true rfl) (Nat.le_of_ble_eq_true rfl) (av := [(.ref wa), (.ref go), (.int (5 : Int32)), (.int (2 : Int32))]) (S := []) rfl (pc' := 374) rfl ?_
      intro T h v X hQ
      obtain ⟨rfl, rfl⟩ := hQ
      show own_Go p e below n0 (own_Fin room_1 s (fun v h => v = some (.int 1))) (T.setTop (mkF m 374 #[.val (.long q0), .second, .val (.long q1), .second, .val (.long q2), .second, .val (.long q3), .second, .val (.long q4), .second, .val (.int i5), .val (.int (0 : Int32)), .val (.int (5 : Int32)), .val (.long q0), .second, .val (.long h1v), .second, .val (.long h2v), .second, .val (.long h3v), .second, .val (.long h4v), .second, .val (.long mark), .second, .val (.ref hp), .val (.ref wa), .val (.ref go), .val (.int (1 : Int32)), .unset, .unset] [(.int (1 : Int32))]))
      refine own_if_eq C X at_374 (pcT := 407) (pc' := 377) (by decide) (by decide) rfl (fun hc374 => absurd hc374 (by decide)) (fun hc374 => ?_)
      refine own_aload C X at_377 rfl rfl (pc' := 379) rfl ?_
      refine own_aload C X at_379 rfl rfl (pc' := 381) rfl ?_
      refine own_iload C X at_381 rfl (pc' := 383) rfl ?_
      refine own_iconst C X at_383 (v := 3) (by decide) (pc' := 384) rfl ?_
      refine own_callS C X at_384 (own_m_sc5 l Z a0 hw wa go (3 : Int32) _ n0 (own_big C X) q4 h1v h2v h3v h4v r0 r1 r2 r3 r4 h3v A_wa A_go (by decide) 3 (by decide) rfl pm) (hw _ (List.mem_of_getElem? (i := 14) rfl)) (hw _ (List.mem_of_getElem? (i := 15) rfl)) (hw _ (List.mem_of_getElem? (i := 12) rfl)) (hw _ (List.mem_of_getElem? (i := 16) rfl)) (by decide) own_pd_7147 rfl rfl (Nat.le_of_ble_eq_true rfl) (Nat.le_of_ble_eq_true rfl) (Nat.le_of_ble_eq_true rfl) (Nat.le_of_ble_eq_true rfl) (av := [(.ref wa), (.ref go), (.int (5 : Int32)), (.int (3 : Int32))]) (S := []) rfl (pc' := 387) rfl ?_
      intro T h v X hQ
      obtain ⟨rfl, rfl⟩ := hQ
      show own_Go p e below n0 (own_Fin room_1 s (fun v h => v = some (.int 1))) (T.setTop (mkF m 387 #[.val (.long q0), .second, .val (.long q1), .second, .val (.long q2), .second, .val (.long q3), .second, .val (.long q4), .second, .val (.int i5), .val (.int (0 : Int32)), .val (.int (5 : Int32)), .val (.long q0), .second, .val (.long h1v), .second, .val (.long h2v), .second, .val (.long h3v), .second, .val (.long h4v), .second, .val (.long mark), .second, .val (.ref hp), .val (.ref wa), .val (.ref go), .val (.int (1 : Int32)), .unset, .unset] [(.int (1 : Int32))]))
      refine own_if_eq C X at_387 (pcT := 407) (pc' := 390) (by decide) (by decide) rfl (fun hc387 => absurd hc387 (by decide)) (fun hc387 => ?_)
      refine own_aload C X at_390 rfl rfl (pc' := 392) rfl ?_
      refine own_aload C X at_392 rfl rfl (pc' := 394) rfl ?_
      refine own_iload C X at_394 rfl (pc' := 396) rfl ?_
      refine own_iconst C X at_396 (v := 4) (by decide) (pc' := 397) rfl ?_
      refine own_callS C X at_397 (own_m_sc5 l Z a0 hw wa go (4 : Int32) _ n0 (own_big C X) q4 h1v h2v h3v h4v r0 r1 r2 r3 r4 h4v A_wa A_go (by decide) 4 (by decide) rfl pm) (hw _ (List.mem_of_getElem? (i := 14) rfl)) (hw _ (List.mem_of_getElem? (i := 15) rfl)) (hw _ (List.mem_of_getElem? (i := 12) rfl)) (hw _ (List.mem_of_getElem? (i := 16) rfl)) (by decide) own_pd_7147 rfl rfl (Nat.le_of_ble_eq_true rfl) (Nat.le_of_ble_eq_true rfl) (Nat.le_of_ble_eq_true rfl) (Nat.le_of_ble_eq_true rfl) (av := [(.ref wa), (.ref go), (.int (5 : Int32)), (.int (4 : Int32))]) (S := []) rfl (pc' := 400) rfl ?_
      intro T h v X hQ
      obtain ⟨rfl, rfl⟩ := hQ
      show own_Go p e below n0 (own_Fin room_1 s (fun v h => v = some (.int 1))) (T.setTop (mkF m 400 #[.val (.long q0), .second, .val (.long q1), .second, .val (.long q2), .second, .val (.long q3), .second, .val (.long q4), .second, .val (.int i5), .val (.int (0 : Int32)), .val (.int (5 : Int32)), .val (.long q0), .second, .val (.long h1v), .second, .val (.long h2v), .second, .val (.long h3v), .second, .val (.long h4v), .second, .val (.long mark), .second, .val (.ref hp), .val (.ref wa), .val (.ref go), .val (.int (1 : Int32)), .unset, .unset] [(.int (1 : Int32))]))
      refine own_if_eq C X at_400 (pcT := 407) (pc' := 403) (by decide) (by decide) rfl (fun hc400 => absurd hc400 (by decide)) (fun hc400 => ?_)
      refine own_iconst C X at_403 (v := 1) (by decide) (pc' := 404) rfl ?_
      refine own_goto C X at_404 (pc' := 408) (by decide) (by decide) ?_
      refine own_istore C X at_408 (L' := #[.val (.long q0), .second, .val (.long q1), .second, .val (.long q2), .second, .val (.long q3), .second, .val (.long q4), .second, .val (.int i5), .val (.int (0 : Int32)), .val (.int (5 : Int32)), .val (.long q0), .second, .val (.long h1v), .second, .val (.long h2v), .second, .val (.long h3v), .second, .val (.long h4v), .second, .val (.long mark), .second, .val (.ref hp), .val (.ref wa), .val (.ref go), .val (.int (1 : Int32)), .val (.int (1 : Int32)), .unset]) rfl (pc' := 410) rfl ?_
      refine own_aload C X at_410 rfl rfl (pc' := 412) rfl ?_
      refine own_iconst C X at_412 (v := 0) (by decide) (pc' := 413) rfl ?_
      refine own_iload C X at_413 rfl (pc' := 415) rfl ?_
      refine own_iload C X at_415 rfl (pc' := 417) rfl ?_
      refine own_lload C X at_417 rfl (pc' := 419) rfl ?_
      refine own_callS C X at_419 (own_m_kpI l Z a0 hw hp (0 : Int32) (0 : Int32) (5 : Int32) mark _ n0 (own_big C X) (by decide) (by decide)) (hw _ (List.mem_of_getElem? (i := 20) rfl)) (hw _ (List.mem_of_getElem? (i := 21) rfl)) (hw _ (List.mem_of_getElem? (i := 12) rfl)) (hw _ (List.mem_of_getElem? (i := 22) rfl)) (by decide) own_pd_6969 rfl rfl (Nat.le_of_ble_eq_true rfl) (Nat.le_of_ble_eq_true rfl) (Nat.le_of_ble_eq_true rfl) (Nat.le_of_ble_eq_true rfl) (av := [(.ref hp), (.int (0 : Int32)), (.int (0 : Int32)), (.int (5 : Int32)), (.long mark)]) (S := []) rfl (pc' := 422) rfl ?_
      intro T h v X hQ
      obtain ⟨rfl, rfl⟩ := hQ
      show own_Go p e below n0 (own_Fin room_1 s (fun v h => v = some (.int 1))) (T.setTop (mkF m 422 #[.val (.long q0), .second, .val (.long q1), .second, .val (.long q2), .second, .val (.long q3), .second, .val (.long q4), .second, .val (.int i5), .val (.int (0 : Int32)), .val (.int (5 : Int32)), .val (.long q0), .second, .val (.long h1v), .second, .val (.long h2v), .second, .val (.long h3v), .second, .val (.long h4v), .second, .val (.long mark), .second, .val (.ref hp), .val (.ref wa), .val (.ref go), .val (.int (1 : Int32)), .val (.int (1 : Int32)), .unset] [(.int (1 : Int32))]))
      refine own_if_eq C X at_422 (pcT := 520) (pc' := 425) (by decide) (by decide) rfl (fun hc422 => absurd hc422 (by decide)) (fun hc422 => ?_)
      refine own_aload C X at_425 rfl rfl (pc' := 427) rfl ?_
      refine own_iconst C X at_427 (v := 1) (by decide) (pc' := 428) rfl ?_
      refine own_iload C X at_428 rfl (pc' := 430) rfl ?_
      refine own_iload C X at_430 rfl (pc' := 432) rfl ?_
      refine own_lload C X at_432 rfl (pc' := 434) rfl ?_
      refine own_callS C X at_434 (own_m_kpI l Z a0 hw hp (1 : Int32) (0 : Int32) (5 : Int32) mark _ n0 (own_big C X) (by decide) (by decide)) (hw _ (List.mem_of_getElem? (i := 20) rfl)) (hw _ (List.mem_of_getElem? (i := 21) rfl)) (hw _ (List.mem_of_getElem? (i := 12) rfl)) (hw _ (List.mem_of_getElem? (i := 22) rfl)) (by decide) own_pd_6969 rfl rfl (Nat.le_of_ble_eq_true rfl) (Nat.le_of_ble_eq_true rfl) (Nat.le_of_ble_eq_true rfl) (Nat.le_of_ble_eq_true rfl) (av := [(.ref hp), (.int (1 : Int32)), (.int (0 : Int32)), (.int (5 : Int32)), (.long mark)]) (S := []) rfl (pc' := 437) rfl ?_
      intro T h v X hQ
      obtain ⟨rfl, rfl⟩ := hQ
      show own_Go p e below n0 (own_Fin room_1 s (fun v h => v = some (.int 1))) (T.setTop (mkF m 437 #[.val (.long q0), .second, .val (.long q1), .second, .val (.long q2), .second, .val (.long q3), .second, .val (.long q4), .second, .val (.int i5), .val (.int (0 : Int32)), .val (.int (5 : Int32)), .val (.long q0), .second, .val (.long h1v), .second, .val (.long h2v), .second, .val (.long h3v), .second, .val (.long h4v), .second, .val (.long mark), .second, .val (.ref hp), .val (.ref wa), .val (.ref go), .val (.int (1 : Int32)), .val (.int (1 : Int32)), .unset] [(.int (1 : Int32))]))
      refine own_if_eq C X at_437 (pcT := 520) (pc' := 440) (by decide) (by decide) rfl (fun hc437 => absurd hc437 (by decide)) (fun hc437 => ?_)
      refine own_aload C X at_440 rfl rfl (pc' := 442) rfl ?_
      refine own_iconst C X at_442 (v := 2) (by decide) (pc' := 443) rfl ?_
      refine own_iload C X at_443 rfl (pc' := 445) rfl ?_
      refine own_iload C X at_445 rfl (pc' := 447) rfl ?_
      refine own_lload C X at_447 rfl (pc' := 449) rfl ?_
      refine own_callS C X at_449 (own_m_kpI l Z a0 hw hp (2 : Int32) (0 : Int32) (5 : Int32) mark _ n0 (own_big C X) (by decide) (by decide)) (hw _ (List.mem_of_getElem? (i := 20) rfl)) (hw _ (List.mem_of_getElem? (i := 21) rfl)) (hw _ (List.mem_of_getElem? (i := 12) rfl)) (hw _ (List.mem_of_getElem? (i := 22) rfl)) (by decide) own_pd_6969 rfl rfl (Nat.le_of_ble_eq_true rfl) (Nat.le_of_ble_eq_true rfl) (Nat.le_of_ble_eq_true rfl) (Nat.le_of_ble_eq_true rfl) (av := [(.ref hp), (.int (2 : Int32)), (.int (0 : Int32)), (.int (5 : Int32)), (.long mark)]) (S := []) rfl (pc' := 452) rfl ?_
      intro T h v X hQ
      obtain ⟨rfl, rfl⟩ := hQ
      show own_Go p e below n0 (own_Fin room_1 s (fun v h => v = some (.int 1))) (T.setTop (mkF m 452 #[.val (.long q0), .second, .val (.long q1), .second, .val (.long q2), .second, .val (.long q3), .second, .val (.long q4), .second, .val (.int i5), .val (.int (0 : Int32)), .val (.int (5 : Int32)), .val (.long q0), .second, .val (.long h1v), .second, .val (.long h2v), .second, .val (.long h3v), .second, .val (.long h4v), .second, .val (.long mark), .second, .val (.ref hp), .val (.ref wa), .val (.ref go), .val (.int (1 : Int32)), .val (.int (1 : Int32)), .unset] [(.int (1 : Int32))]))
      refine own_if_eq C X at_452 (pcT := 520) (pc' := 455) (by decide) (by decide) rfl (fun hc452 => absurd hc452 (by decide)) (fun hc452 => ?_)
      refine own_aload C X at_455 rfl rfl (pc' := 457) rfl ?_
      refine own_iconst C X at_457 (v := 3) (by decide) (pc' := 458) rfl ?_
      refine own_iload C X at_458 rfl (pc' := 460) rfl ?_
      refine own_iload C X at_460 rfl (pc' := 462) rfl ?_
      refine own_lload C X at_462 rfl (pc' := 464) rfl ?_
      refine own_callS C X at_464 (own_m_kpI l Z a0 hw hp (3 : Int32) (0 : Int32) (5 : Int32) mark _ n0 (own_big C X) (by decide) (by decide)) (hw _ (List.mem_of_getElem? (i := 20) rfl)) (hw _ (List.mem_of_getElem? (i := 21) rfl)) (hw _ (List.mem_of_getElem? (i := 12) rfl)) (hw _ (List.mem_of_getElem? (i := 22) rfl)) (by decide) own_pd_6969 rfl rfl (Nat.le_of_ble_eq_true rfl) (Nat.le_of_ble_eq_true rfl) (Nat.le_of_ble_eq_true rfl) (Nat.le_of_ble_eq_true rfl) (av := [(.ref hp), (.int (3 : Int32)), (.int (0 : Int32)), (.int (5 : Int32)), (.long mark)]) (S := []) rfl (pc' := 467) rfl ?_
      intro T h v X hQ
      obtain ⟨rfl, rfl⟩ := hQ
      show own_Go p e below n0 (own_Fin room_1 s (fun v h => v = some (.int 1))) (T.setTop (mkF m 467 #[.val (.long q0), .second, .val (.long q1), .second, .val (.long q2), .second, .val (.long q3), .second, .val (.long q4), .second, .val (.int i5), .val (.int (0 : Int32)), .val (.int (5 : Int32)), .val (.long q0), .second, .val (.long h1v), .second, .val (.long h2v), .second, .val (.long h3v), .second, .val (.long h4v), .second, .val (.long mark), .second, .val (.ref hp), .val (.ref wa), .val (.ref go), .val (.int (1 : Int32)), .val (.int (1 : Int32)), .unset] [(.int (1 : Int32))]))
      refine own_if_eq C X at_467 (pcT := 520) (pc' := 470) (by decide) (by decide) rfl (fun hc467 => absurd hc467 (by decide)) (fun hc467 => ?_)
      refine own_aload C X at_470 rfl rfl (pc' := 472) rfl ?_
      refine own_iconst C X at_472 (v := 4) (by decide) (pc' := 473) rfl ?_
      refine own_iload C X at_473 rfl (pc' := 475) rfl ?_
      refine own_iload C X at_475 rfl (pc' := 477) rfl ?_
      refine own_lload C X at_477 rfl (pc' := 479) rfl ?_
      refine own_callS C X at_479 (own_m_kpI l Z a0 hw hp (4 : Int32) (0 : Int32) (5 : Int32) mark _ n0 (own_big C X) (by decide) (by decide)) (hw _ (List.mem_of_getElem? (i := 20) rfl)) (hw _ (List.mem_of_getElem? (i := 21) rfl)) (hw _ (List.mem_of_getElem? (i := 12) rfl)) (hw _ (List.mem_of_getElem? (i := 22) rfl)) (by decide) own_pd_6969 rfl rfl (Nat.le_of_ble_eq_true rfl) (Nat.le_of_ble_eq_true rfl) (Nat.le_of_ble_eq_true rfl) (Nat.le_of_ble_eq_true rfl) (av := [(.ref hp), (.int (4 : Int32)), (.int (0 : Int32)), (.int (5 : Int32)), (.long mark)]) (S := []) rfl (pc' := 482) rfl ?_
      intro T h v X hQ
      obtain ⟨rfl, rfl⟩ := hQ
      show own_Go p e below n0 (own_Fin room_1 s (fun v h => v = some (.int 1))) (T.setTop (mkF m 482 #[.val (.long q0), .second, .val (.long q1), .second, .val (.long q2), .second, .val (.long q3), .second, .val (.long q4), .second, .val (.int i5), .val (.int (0 : Int32)), .val (.int (5 : Int32)), .val (.long q0), .second, .val (.long h1v), .second, .val (.long h2v), .second, .val (.long h3v), .second, .val (.long h4v), .second, .val (.long mark), .second, .val (.ref hp), .val (.ref wa), .val (.ref go), .val (.int (1 : Int32)), .val (.int (1 : Int32)), .unset] [(.int (1 : Int32))]))
      refine own_if_eq C X at_482 (pcT := 520) (pc' := 485) (by decide) (by decide) rfl (fun hc482 => absurd hc482 (by decide)) (fun hc482 => ?_)
      refine own_aload C X at_485 rfl rfl (pc' := 487) rfl ?_
      refine own_iconst C X at_487 (v := 5) (by decide) (pc' := 488) rfl ?_
      refine own_iload C X at_488 rfl (pc' := 490) rfl ?_
      refine own_iload C X at_490 rfl (pc' := 492) rfl ?_
      refine own_lload C X at_492 rfl (pc' := 494) rfl ?_
      refine own_callS C X at_494 (own_m_kpA l Z a0 hw hp (5 : Int32) (0 : Int32) (5 : Int32) mark _ n0 (own_big C X) (by decide) (by decide) [r0, r1, r2, r3, r4, mark, mark] A_hp 5 (by decide) rfl) (hw _ (List.mem_of_getElem? (i := 20) rfl)) (hw _ (List.mem_of_getElem? (i := 21) rfl)) (hw _ (List.mem_of_getElem? (i := 12) rfl)) (hw _ (List.mem_of_getElem? (i := 22) rfl)) (by decide) own_pd_6969 rfl rfl (Nat.le_of_ble_eq_true rfl) (Nat.le_of_ble_eq_true rfl) (Nat.le_of_ble_eq_true rfl) (Nat.le_of_ble_eq_true rfl) (av := [(.ref hp), (.int (5 : Int32)), (.int (0 : Int32)), (.int (5 : Int32)), (.long mark)]) (S := []) rfl (pc' := 497) rfl ?_
      intro T h v X hQ
      obtain ⟨rfl, rfl⟩ := hQ
      show own_Go p e below n0 (own_Fin room_1 s (fun v h => v = some (.int 1))) (T.setTop (mkF m 497 #[.val (.long q0), .second, .val (.long q1), .second, .val (.long q2), .second, .val (.long q3), .second, .val (.long q4), .second, .val (.int i5), .val (.int (0 : Int32)), .val (.int (5 : Int32)), .val (.long q0), .second, .val (.long h1v), .second, .val (.long h2v), .second, .val (.long h3v), .second, .val (.long h4v), .second, .val (.long mark), .second, .val (.ref hp), .val (.ref wa), .val (.ref go), .val (.int (1 : Int32)), .val (.int (1 : Int32)), .unset] [(.int (1 : Int32))]))
      refine own_if_eq C X at_497 (pcT := 520) (pc' := 500) (by decide) (by decide) rfl (fun hc497 => absurd hc497 (by decide)) (fun hc497 => ?_)
      refine own_aload C X at_500 rfl rfl (pc' := 502) rfl ?_
      refine own_bipush C X at_502 (v := 6) (by decide) (pc' := 504) rfl ?_
      refine own_iload C X at_504 rfl (pc' := 506) rfl ?_
      refine own_iload C X at_506 rfl (pc' := 508) rfl ?_
      refine own_lload C X at_508 rfl (pc' := 510) rfl ?_
      refine own_callS C X at_510 (own_m_kpA l Z a0 hw hp (6 : Int32) (0 : Int32) (5 : Int32) mark _ n0 (own_big C X) (by decide) (by decide) [r0, r1, r2, r3, r4, mark, mark] A_hp 6 (by decide) rfl) (hw _ (List.mem_of_getElem? (i := 20) rfl)) (hw _ (List.mem_of_getElem? (i := 21) rfl)) (hw _ (List.mem_of_getElem? (i := 12) rfl)) (hw _ (List.mem_of_getElem? (i := 22) rfl)) (by decide) own_pd_6969 rfl rfl (Nat.le_of_ble_eq_true rfl) (Nat.le_of_ble_eq_true rfl) (Nat.le_of_ble_eq_true rfl) (Nat.le_of_ble_eq_true rfl) (av := [(.ref hp), (.int (6 : Int32)), (.int (0 : Int32)), (.int (5 : Int32)), (.long mark)]) (S := []) rfl (pc' := 513) rfl ?_
      intro T h v X hQ
      obtain ⟨rfl, rfl⟩ := hQ
      show own_Go p e below n0 (own_Fin room_1 s (fun v h => v = some (.int 1))) (T.setTop (mkF m 513 #[.val (.long q0), .second, .val (.long q1), .second, .val (.long q2), .second, .val (.long q3), .second, .val (.long q4), .second, .val (.int i5), .val (.int (0 : Int32)), .val (.int (5 : Int32)), .val (.long q0), .second, .val (.long h1v), .second, .val (.long h2v), .second, .val (.long h3v), .second, .val (.long h4v), .second, .val (.long mark), .second, .val (.ref hp), .val (.ref wa), .val (.ref go), .val (.int (1 : Int32)), .val (.int (1 : Int32)), .unset] [(.int (1 : Int32))]))
      refine own_if_eq C X at_513 (pcT := 520) (pc' := 516) (by decide) (by decide) rfl (fun hc513 => absurd hc513 (by decide)) (fun hc513 => ?_)
      refine own_iconst C X at_516 (v := 1) (by decide) (pc' := 517) rfl ?_
      refine own_goto C X at_517 (pc' := 521) (by decide) (by decide) ?_
      refine own_istore C X at_521 (L' := #[.val (.long q0), .second, .val (.long q1), .second, .val (.long q2), .second, .val (.long q3), .second, .val (.long q4), .second, .val (.int i5), .val (.int (0 : Int32)), .val (.int (5 : Int32)), .val (.long q0), .second, .val (.long h1v), .second, .val (.long h2v), .second, .val (.long h3v), .second, .val (.long h4v), .second, .val (.long mark), .second, .val (.ref hp), .val (.ref wa), .val (.ref go), .val (.int (1 : Int32)), .val (.int (1 : Int32)), .val (.int (1 : Int32))]) rfl (pc' := 523) rfl ?_
      refine own_iload C X at_523 rfl (pc' := 525) rfl ?_
      refine own_if_eq C X at_525 (pcT := 542) (pc' := 528) (by decide) (by decide) rfl (fun hc525 => absurd hc525 (by decide)) (fun hc525 => ?_)
      refine own_iload C X at_528 rfl (pc' := 530) rfl ?_
      refine own_if_eq C X at_530 (pcT := 542) (pc' := 533) (by decide) (by decide) rfl (fun hc530 => absurd hc530 (by decide)) (fun hc530 => ?_)
      refine own_iload C X at_533 rfl (pc' := 535) rfl ?_
      refine own_if_eq C X at_535 (pcT := 542) (pc' := 538) (by decide) (by decide) rfl (fun hc535 => absurd hc535 (by decide)) (fun hc535 => ?_)
      refine own_iconst C X at_538 (v := 1) (by decide) (pc' := 539) rfl ?_
      refine own_goto C X at_539 (pc' := 543) (by decide) (by decide) ?_
      exact own_ireturn_z C X at_543 (Nat.le_of_ble_eq_true rfl) (Nat.le_of_ble_eq_true rfl) (rfl)
    · refine own_aload C X at_116 rfl rfl (pc' := 118) rfl ?_
      refine own_iload C X at_118 rfl (pc' := 120) rfl ?_
      refine own_lload C X at_120 rfl (pc' := 122) rfl ?_
      refine own_lastore C X at_122 A_hp (by decide) (i := 1) (Nat.le_of_ble_eq_true rfl) ge_hp (pc' := 123) rfl ?_
      intro T h X K_ A_hp_
      have A_hp : own_JA Z h hp [mark, q0, mark, mark, mark, mark, mark] := A_hp_
      refine own_iload C X at_123 rfl (pc' := 125) rfl ?_
      refine own_iconst C X at_125 (v := 1) (by decide) (pc' := 126) rfl ?_
      refine own_icmp_le C X at_126 (pcT := 138) (pc' := 129) (by decide) (by decide) rfl (fun hc126 => absurd hc126 (by decide)) (fun hc126 => ?_)
      refine own_aload C X at_129 rfl rfl (pc' := 131) rfl ?_
      refine own_iload C X at_131 rfl (pc' := 133) rfl ?_
      refine own_iconst C X at_133 (v := 1) (by decide) (pc' := 134) rfl ?_
      refine own_iadd C X at_134 (z := 2) (by decide) (pc' := 135) rfl ?_
      refine own_lload C X at_135 rfl (pc' := 137) rfl ?_
      refine own_lastore C X at_137 A_hp (by decide) (i := 2) (Nat.le_of_ble_eq_true rfl) ge_hp (pc' := 138) rfl ?_
      intro T h X K_ A_hp_
      have A_hp : own_JA Z h hp [mark, q0, h1v, mark, mark, mark, mark] := A_hp_
      refine own_iload C X at_138 rfl (pc' := 140) rfl ?_
      refine own_iconst C X at_140 (v := 2) (by decide) (pc' := 141) rfl ?_
      refine own_icmp_le C X at_141 (pcT := 153) (pc' := 144) (by decide) (by decide) rfl (fun hc141 => absurd hc141 (by decide)) (fun hc141 => ?_)
      refine own_aload C X at_144 rfl rfl (pc' := 146) rfl ?_
      refine own_iload C X at_146 rfl (pc' := 148) rfl ?_
      refine own_iconst C X at_148 (v := 2) (by decide) (pc' := 149) rfl ?_
      refine own_iadd C X at_149 (z := 3) (by decide) (pc' := 150) rfl ?_
      refine own_lload C X at_150 rfl (pc' := 152) rfl ?_
      refine own_lastore C X at_152 A_hp (by decide) (i := 3) (Nat.le_of_ble_eq_true rfl) ge_hp (pc' := 153) rfl ?_
      intro T h X K_ A_hp_
      have A_hp : own_JA Z h hp [mark, q0, h1v, h2v, mark, mark, mark] := A_hp_
      refine own_iload C X at_153 rfl (pc' := 155) rfl ?_
      refine own_iconst C X at_155 (v := 3) (by decide) (pc' := 156) rfl ?_
      refine own_icmp_le C X at_156 (pcT := 168) (pc' := 159) (by decide) (by decide) rfl (fun hc156 => absurd hc156 (by decide)) (fun hc156 => ?_)
      refine own_aload C X at_159 rfl rfl (pc' := 161) rfl ?_
      refine own_iload C X at_161 rfl (pc' := 163) rfl ?_
      refine own_iconst C X at_163 (v := 3) (by decide) (pc' := 164) rfl ?_
      refine own_iadd C X at_164 (z := 4) (by decide) (pc' := 165) rfl ?_
      refine own_lload C X at_165 rfl (pc' := 167) rfl ?_
      refine own_lastore C X at_167 A_hp (by decide) (i := 4) (Nat.le_of_ble_eq_true rfl) ge_hp (pc' := 168) rfl ?_
      intro T h X K_ A_hp_
      have A_hp : own_JA Z h hp [mark, q0, h1v, h2v, h3v, mark, mark] := A_hp_
      refine own_iload C X at_168 rfl (pc' := 170) rfl ?_
      refine own_iconst C X at_170 (v := 4) (by decide) (pc' := 171) rfl ?_
      refine own_icmp_le C X at_171 (pcT := 183) (pc' := 174) (by decide) (by decide) rfl (fun hc171 => absurd hc171 (by decide)) (fun hc171 => ?_)
      refine own_aload C X at_174 rfl rfl (pc' := 176) rfl ?_
      refine own_iload C X at_176 rfl (pc' := 178) rfl ?_
      refine own_iconst C X at_178 (v := 4) (by decide) (pc' := 179) rfl ?_
      refine own_iadd C X at_179 (z := 5) (by decide) (pc' := 180) rfl ?_
      refine own_lload C X at_180 rfl (pc' := 182) rfl ?_
      refine own_lastore C X at_182 A_hp (by decide) (i := 5) (Nat.le_of_ble_eq_true rfl) ge_hp (pc' := 183) rfl ?_
      intro T h X K_ A_hp_
      have A_hp : own_JA Z h hp [mark, q0, h1v, h2v, h3v, h4v, mark] := A_hp_
      refine own_iconst C X at_183 (v := 5) (by decide) (pc' := 184) rfl ?_
      refine own_newJ C X at_184 (hw _ (List.mem_of_getElem? (i := 5) rfl)) (by decide) (k := 5) (cap := 5) (Nat.le_of_ble_eq_true rfl) (by decide) (Nat.le_of_ble_eq_true rfl) (Nat.le_of_ble_eq_true rfl) (pc' := 186) rfl ?_
      intro T h wa e_wa X K_ ge_wa A_wa_
      have ne_hp_wa : hp ≠ wa := by rw [e_wa]; exact Nat.ne_of_lt A_hp.lt
      have A_wa : own_JA Z h wa [(0 : Int64), (0 : Int64), (0 : Int64), (0 : Int64), (0 : Int64)] := A_wa_
      have A_hp := A_hp.keep K_ nin0
      refine own_astore C X at_186 rfl (L' := #[.val (.long q0), .second, .val (.long q1), .second, .val (.long q2), .second, .val (.long q3), .second, .val (.long q4), .second, .val (.int i5), .val (.int (1 : Int32)), .val (.int (5 : Int32)), .val (.long q0), .second, .val (.long h1v), .second, .val (.long h2v), .second, .val (.long h3v), .second, .val (.long h4v), .second, .val (.long mark), .second, .val (.ref hp), .val (.ref wa), .unset, .unset, .unset, .unset]) rfl (pc' := 188) rfl ?_
      refine own_aload C X at_188 rfl rfl (pc' := 190) rfl ?_
      refine own_iconst C X at_190 (v := 0) (by decide) (pc' := 191) rfl ?_
      refine own_lload C X at_191 rfl (pc' := 193) rfl ?_
      refine own_lastore C X at_193 A_wa (by decide) (i := 0) (Nat.le_of_ble_eq_true rfl) ge_wa (pc' := 194) rfl ?_
      intro T h X K_ A_wa_
      have A_wa : own_JA Z h wa [q4, (0 : Int64), (0 : Int64), (0 : Int64), (0 : Int64)] := A_wa_
      have A_hp := A_hp.keep K_ (ninS ne_hp_wa nin0)
      refine own_aload C X at_194 rfl rfl (pc' := 196) rfl ?_
      refine own_iconst C X at_196 (v := 1) (by decide) (pc' := 197) rfl ?_
      refine own_lload C X at_197 rfl (pc' := 199) rfl ?_
      refine own_lastore C X at_199 A_wa (by decide) (i := 1) (Nat.le_of_ble_eq_true rfl) ge_wa (pc' := 200) rfl ?_
      intro T h X K_ A_wa_
      have A_wa : own_JA Z h wa [q4, h1v, (0 : Int64), (0 : Int64), (0 : Int64)] := A_wa_
      have A_hp := A_hp.keep K_ (ninS ne_hp_wa nin0)
      refine own_aload C X at_200 rfl rfl (pc' := 202) rfl ?_
      refine own_iconst C X at_202 (v := 2) (by decide) (pc' := 203) rfl ?_
      refine own_lload C X at_203 rfl (pc' := 205) rfl ?_
      refine own_lastore C X at_205 A_wa (by decide) (i := 2) (Nat.le_of_ble_eq_true rfl) ge_wa (pc' := 206) rfl ?_
      intro T h X K_ A_wa_
      have A_wa : own_JA Z h wa [q4, h1v, h2v, (0 : Int64), (0 : Int64)] := A_wa_
      have A_hp := A_hp.keep K_ (ninS ne_hp_wa nin0)
      refine own_aload C X at_206 rfl rfl (pc' := 208) rfl ?_
      refine own_iconst C X at_208 (v := 3) (by decide) (pc' := 209) rfl ?_
      refine own_lload C X at_209 rfl (pc' := 211) rfl ?_
      refine own_lastore C X at_211 A_wa (by decide) (i := 3) (Nat.le_of_ble_eq_true rfl) ge_wa (pc' := 212) rfl ?_
      intro T h X K_ A_wa_
      have A_wa : own_JA Z h wa [q4, h1v, h2v, h3v, (0 : Int64)] := A_wa_
      have A_hp := A_hp.keep K_ (ninS ne_hp_wa nin0)
      refine own_aload C X at_212 rfl rfl (pc' := 214) rfl ?_
      refine own_iconst C X at_214 (v := 4) (by decide) (pc' := 215) rfl ?_
      refine own_lload C X at_215 rfl (pc' := 217) rfl ?_
      refine own_lastore C X at_217 A_wa (by decide) (i := 4) (Nat.le_of_ble_eq_true rfl) ge_wa (pc' := 218) rfl ?_
      intro T h X K_ A_wa_
      have A_wa : own_JA Z h wa [q4, h1v, h2v, h3v, h4v] := A_wa_
      have A_hp := A_hp.keep K_ (ninS ne_hp_wa nin0)
      refine own_aload C X at_218 rfl rfl (pc' := 220) rfl ?_
      refine own_iload C X at_220 rfl (pc' := 222) rfl ?_
      refine own_iload C X at_222 rfl (pc' := 224) rfl ?_
      refine own_lload C X at_224 rfl (pc' := 226) rfl ?_
      refine own_callS C X at_226 (own_m_rl51 l Z a0 hw hp q4 _ n0 (own_big C X) q0 h1v h2v h3v h4v mark A_hp ge_hp l_h3v l_h4v) (hw _ (List.mem_of_getElem? (i := 6) rfl)) (hw _ (List.mem_of_getElem? (i := 7) rfl)) (hw _ (List.mem_of_getElem? (i := 8) rfl)) (hw _ (List.mem_of_getElem? (i := 9) rfl)) (by decide) own_pd_5832 rfl rfl (Nat.le_of_ble_eq_true rfl) (Nat.le_of_ble_eq_true rfl) (Nat.le_of_ble_eq_true rfl) (Nat.le_of_ble_eq_true rfl) (av := [(.ref hp), (.int (1 : Int32)), (.int (5 : Int32)), (.long q4)]) (S := []) rfl (pc' := 229) rfl ?_
      intro T h v X hQ
      obtain ⟨rfl, r0, r1, r2, r3, r4, K_, A_hp, od, pm⟩ := hQ
      have A_wa := A_wa.keep K_ (ninS (Ne.symm ne_hp_wa) nin0)
      show own_Go p e below n0 (own_Fin room_1 s (fun v h => v = some (.int 1))) (T.setTop (mkF m 229 #[.val (.long q0), .second, .val (.long q1), .second, .val (.long q2), .second, .val (.long q3), .second, .val (.long q4), .second, .val (.int i5), .val (.int (1 : Int32)), .val (.int (5 : Int32)), .val (.long q0), .second, .val (.long h1v), .second, .val (.long h2v), .second, .val (.long h3v), .second, .val (.long h4v), .second, .val (.long mark), .second, .val (.ref hp), .val (.ref wa), .unset, .unset, .unset, .unset] []))
      obtain ⟨od1, od2, od3, od4, -⟩ := od
      refine own_iconst C X at_229 (v := 5) (by decide) (pc' := 230) rfl ?_
      refine own_newJ C X at_230 (hw _ (List.mem_of_getElem? (i := 5) rfl)) (by decide) (k := 5) (cap := 5) (Nat.le_of_ble_eq_true rfl) (by decide) (Nat.le_of_ble_eq_true rfl) (Nat.le_of_ble_eq_true rfl) (pc' := 232) rfl ?_
      intro T h go e_go X K_ ge_go A_go_
      have ne_hp_go : hp ≠ go := by rw [e_go]; exact Nat.ne_of_lt A_hp.lt
      have ne_wa_go : wa ≠ go := by rw [e_go]; exact Nat.ne_of_lt A_wa.lt
      have A_go : own_JA Z h go [(0 : Int64), (0 : Int64), (0 : Int64), (0 : Int64), (0 : Int64)] := A_go_
      have A_hp := A_hp.keep K_ nin0
      have A_wa := A_wa.keep K_ nin0
      refine own_astore C X at_232 rfl (L' := #[.val (.long q0), .second, .val (.long q1), .second, .val (.long q2), .second, .val (.long q3), .second, .val (.long q4), .second, .val (.int i5), .val (.int (1 : Int32)), .val (.int (5 : Int32)), .val (.long q0), .second, .val (.long h1v), .second, .val (.long h2v), .second, .val (.long h3v), .second, .val (.long h4v), .second, .val (.long mark), .second, .val (.ref hp), .val (.ref wa), .val (.ref go), .unset, .unset, .unset]) rfl (pc' := 234) rfl ?_
      refine own_aload C X at_234 rfl rfl (pc' := 236) rfl ?_
      refine own_iconst C X at_236 (v := 0) (by decide) (pc' := 237) rfl ?_
      refine own_aload C X at_237 rfl rfl (pc' := 239) rfl ?_
      refine own_iload C X at_239 rfl (pc' := 241) rfl ?_
      refine own_laload C X at_241 A_hp (by decide) (i := 1) rfl (pc' := 242) rfl ?_
      refine own_lastore C X at_242 A_go (by decide) (i := 0) (Nat.le_of_ble_eq_true rfl) ge_go (pc' := 243) rfl ?_
      intro T h X K_ A_go_
      have A_go : own_JA Z h go [r0, (0 : Int64), (0 : Int64), (0 : Int64), (0 : Int64)] := A_go_
      have A_hp := A_hp.keep K_ (ninS ne_hp_go nin0)
      have A_wa := A_wa.keep K_ (ninS ne_wa_go nin0)
      refine own_aload C X at_243 rfl rfl (pc' := 245) rfl ?_
      refine own_iconst C X at_245 (v := 1) (by decide) (pc' := 246) rfl ?_
      refine own_aload C X at_246 rfl rfl (pc' := 248) rfl ?_
      refine own_iload C X at_248 rfl (pc' := 250) rfl ?_
      refine own_iconst C X at_250 (v := 1) (by decide) (pc' := 251) rfl ?_
      refine own_iadd C X at_251 (z := 2) (by decide) (pc' := 252) rfl ?_
      refine own_laload C X at_252 A_hp (by decide) (i := 2) rfl (pc' := 253) rfl ?_
      refine own_lastore C X at_253 A_go (by decide) (i := 1) (Nat.le_of_ble_eq_true rfl) ge_go (pc' := 254) rfl ?_
      intro T h X K_ A_go_
      have A_go : own_JA Z h go [r0, r1, (0 : Int64), (0 : Int64), (0 : Int64)] := A_go_
      have A_hp := A_hp.keep K_ (ninS ne_hp_go nin0)
      have A_wa := A_wa.keep K_ (ninS ne_wa_go nin0)
      refine own_aload C X at_254 rfl rfl (pc' := 256) rfl ?_
      refine own_iconst C X at_256 (v := 2) (by decide) (pc' := 257) rfl ?_
      refine own_aload C X at_257 rfl rfl (pc' := 259) rfl ?_
      refine own_iload C X at_259 rfl (pc' := 261) rfl ?_
      refine own_iconst C X at_261 (v := 2) (by decide) (pc' := 262) rfl ?_
      refine own_iadd C X at_262 (z := 3) (by decide) (pc' := 263) rfl ?_
      refine own_laload C X at_263 A_hp (by decide) (i := 3) rfl (pc' := 264) rfl ?_
      refine own_lastore C X at_264 A_go (by decide) (i := 2) (Nat.le_of_ble_eq_true rfl) ge_go (pc' := 265) rfl ?_
      intro T h X K_ A_go_
      have A_go : own_JA Z h go [r0, r1, r2, (0 : Int64), (0 : Int64)] := A_go_
      have A_hp := A_hp.keep K_ (ninS ne_hp_go nin0)
      have A_wa := A_wa.keep K_ (ninS ne_wa_go nin0)
      refine own_aload C X at_265 rfl rfl (pc' := 267) rfl ?_
      refine own_iconst C X at_267 (v := 3) (by decide) (pc' := 268) rfl ?_
      refine own_aload C X at_268 rfl rfl (pc' := 270) rfl ?_
      refine own_iload C X at_270 rfl (pc' := 272) rfl ?_
      refine own_iconst C X at_272 (v := 3) (by decide) (pc' := 273) rfl ?_
      refine own_iadd C X at_273 (z := 4) (by decide) (pc' := 274) rfl ?_
      refine own_laload C X at_274 A_hp (by decide) (i := 4) rfl (pc' := 275) rfl ?_
      refine own_lastore C X at_275 A_go (by decide) (i := 3) (Nat.le_of_ble_eq_true rfl) ge_go (pc' := 276) rfl ?_
      intro T h X K_ A_go_
      have A_go : own_JA Z h go [r0, r1, r2, r3, (0 : Int64)] := A_go_
      have A_hp := A_hp.keep K_ (ninS ne_hp_go nin0)
      have A_wa := A_wa.keep K_ (ninS ne_wa_go nin0)
      refine own_aload C X at_276 rfl rfl (pc' := 278) rfl ?_
      refine own_iconst C X at_278 (v := 4) (by decide) (pc' := 279) rfl ?_
      refine own_aload C X at_279 rfl rfl (pc' := 281) rfl ?_
      refine own_iload C X at_281 rfl (pc' := 283) rfl ?_
      refine own_iconst C X at_283 (v := 4) (by decide) (pc' := 284) rfl ?_
      refine own_iadd C X at_284 (z := 5) (by decide) (pc' := 285) rfl ?_
      refine own_laload C X at_285 A_hp (by decide) (i := 5) rfl (pc' := 286) rfl ?_
      refine own_lastore C X at_286 A_go (by decide) (i := 4) (Nat.le_of_ble_eq_true rfl) ge_go (pc' := 287) rfl ?_
      intro T h X K_ A_go_
      have A_go : own_JA Z h go [r0, r1, r2, r3, r4] := A_go_
      have A_hp := A_hp.keep K_ (ninS ne_hp_go nin0)
      have A_wa := A_wa.keep K_ (ninS ne_wa_go nin0)
      refine own_aload C X at_287 rfl rfl (pc' := 289) rfl ?_
      refine own_iload C X at_289 rfl (pc' := 291) rfl ?_
      refine own_iconst C X at_291 (v := 1) (by decide) (pc' := 292) rfl ?_
      refine own_callS C X at_292 (own_m_or1 l Z a0 hw go (5 : Int32) _ n0 (own_big C X) (by decide) r0 r1 r2 r3 r4 A_go od1) (hw _ (List.mem_of_getElem? (i := 10) rfl)) (hw _ (List.mem_of_getElem? (i := 11) rfl)) (hw _ (List.mem_of_getElem? (i := 12) rfl)) (hw _ (List.mem_of_getElem? (i := 13) rfl)) (by decide) own_pd_4869 rfl rfl (Nat.le_of_ble_eq_true rfl) (Nat.le_of_ble_eq_true rfl) (Nat.le_of_ble_eq_true rfl) (Nat.le_of_ble_eq_true rfl) (av := [(.ref go), (.int (5 : Int32)), (.int (1 : Int32))]) (S := []) rfl (pc' := 295) rfl ?_
      intro T h v X hQ
      obtain ⟨rfl, rfl⟩ := hQ
      show own_Go p e below n0 (own_Fin room_1 s (fun v h => v = some (.int 1))) (T.setTop (mkF m 295 #[.val (.long q0), .second, .val (.long q1), .second, .val (.long q2), .second, .val (.long q3), .second, .val (.long q4), .second, .val (.int i5), .val (.int (1 : Int32)), .val (.int (5 : Int32)), .val (.long q0), .second, .val (.long h1v), .second, .val (.long h2v), .second, .val (.long h3v), .second, .val (.long h4v), .second, .val (.long mark), .second, .val (.ref hp), .val (.ref wa), .val (.ref go), .unset, .unset, .unset] [(.int (1 : Int32))]))
      refine own_if_eq C X at_295 (pcT := 335) (pc' := 298) (by decide) (by decide) rfl (fun hc295 => absurd hc295 (by decide)) (fun hc295 => ?_)
      refine own_aload C X at_298 rfl rfl (pc' := 300) rfl ?_
      refine own_iload C X at_300 rfl (pc' := 302) rfl ?_
      refine own_iconst C X at_302 (v := 2) (by decide) (pc' := 303) rfl ?_
      refine own_callS C X at_303 (own_m_or2 l Z a0 hw go (5 : Int32) _ n0 (own_big C X) (by decide) r0 r1 r2 r3 r4 A_go od2) (hw _ (List.mem_of_getElem? (i := 10) rfl)) (hw _ (List.mem_of_getElem? (i := 11) rfl)) (hw _ (List.mem_of_getElem? (i := 12) rfl)) (hw _ (List.mem_of_getElem? (i := 13) rfl)) (by decide) own_pd_4869 rfl rfl (Nat.le_of_ble_eq_true rfl) (Nat.le_of_ble_eq_true rfl) (Nat.le_of_ble_eq_true rfl) (Nat.le_of_ble_eq_true rfl) (av := [(.ref go), (.int (5 : Int32)), (.int (2 : Int32))]) (S := []) rfl (pc' := 306) rfl ?_
      intro T h v X hQ
      obtain ⟨rfl, rfl⟩ := hQ
      show own_Go p e below n0 (own_Fin room_1 s (fun v h => v = some (.int 1))) (T.setTop (mkF m 306 #[.val (.long q0), .second, .val (.long q1), .second, .val (.long q2), .second, .val (.long q3), .second, .val (.long q4), .second, .val (.int i5), .val (.int (1 : Int32)), .val (.int (5 : Int32)), .val (.long q0), .second, .val (.long h1v), .second, .val (.long h2v), .second, .val (.long h3v), .second, .val (.long h4v), .second, .val (.long mark), .second, .val (.ref hp), .val (.ref wa), .val (.ref go), .unset, .unset, .unset] [(.int (1 : Int32))]))
      refine own_if_eq C X at_306 (pcT := 335) (pc' := 309) (by decide) (by decide) rfl (fun hc306 => absurd hc306 (by decide)) (fun hc306 => ?_)
      refine own_aload C X at_309 rfl rfl (pc' := 311) rfl ?_
      refine own_iload C X at_311 rfl (pc' := 313) rfl ?_
      refine own_iconst C X at_313 (v := 3) (by decide) (pc' := 314) rfl ?_
      refine own_callS C X at_314 (own_m_or3 l Z a0 hw go (5 : Int32) _ n0 (own_big C X) (by decide) r0 r1 r2 r3 r4 A_go od3) (hw _ (List.mem_of_getElem? (i := 10) rfl)) (hw _ (List.mem_of_getElem? (i := 11) rfl)) (hw _ (List.mem_of_getElem? (i := 12) rfl)) (hw _ (List.mem_of_getElem? (i := 13) rfl)) (by decide) own_pd_4869 rfl rfl (Nat.le_of_ble_eq_true rfl) (Nat.le_of_ble_eq_true rfl) (Nat.le_of_ble_eq_true rfl) (Nat.le_of_ble_eq_true rfl) (av := [(.ref go), (.int (5 : Int32)), (.int (3 : Int32))]) (S := []) rfl (pc' := 317) rfl ?_
      intro T h v X hQ
      obtain ⟨rfl, rfl⟩ := hQ
      show own_Go p e below n0 (own_Fin room_1 s (fun v h => v = some (.int 1))) (T.setTop (mkF m 317 #[.val (.long q0), .second, .val (.long q1), .second, .val (.long q2), .second, .val (.long q3), .second, .val (.long q4), .second, .val (.int i5), .val (.int (1 : Int32)), .val (.int (5 : Int32)), .val (.long q0), .second, .val (.long h1v), .second, .val (.long h2v), .second, .val (.long h3v), .second, .val (.long h4v), .second, .val (.long mark), .second, .val (.ref hp), .val (.ref wa), .val (.ref go), .unset, .unset, .unset] [(.int (1 : Int32))]))
      refine own_if_eq C X at_317 (pcT := 335) (pc' := 320) (by decide) (by decide) rfl (fun hc317 => absurd hc317 (by decide)) (fun hc317 => ?_)
      refine own_aload C X at_320 rfl rfl (pc' := 322) rfl ?_
      refine own_iload C X at_322 rfl (pc' := 324) rfl ?_
      refine own_iconst C X at_324 (v := 4) (by decide) (pc' := 325) rfl ?_
      refine own_callS C X at_325 (own_m_or4 l Z a0 hw go (5 : Int32) _ n0 (own_big C X) (by decide) r0 r1 r2 r3 r4 A_go od4) (hw _ (List.mem_of_getElem? (i := 10) rfl)) (hw _ (List.mem_of_getElem? (i := 11) rfl)) (hw _ (List.mem_of_getElem? (i := 12) rfl)) (hw _ (List.mem_of_getElem? (i := 13) rfl)) (by decide) own_pd_4869 rfl rfl (Nat.le_of_ble_eq_true rfl) (Nat.le_of_ble_eq_true rfl) (Nat.le_of_ble_eq_true rfl) (Nat.le_of_ble_eq_true rfl) (av := [(.ref go), (.int (5 : Int32)), (.int (4 : Int32))]) (S := []) rfl (pc' := 328) rfl ?_
      intro T h v X hQ
      obtain ⟨rfl, rfl⟩ := hQ
      show own_Go p e below n0 (own_Fin room_1 s (fun v h => v = some (.int 1))) (T.setTop (mkF m 328 #[.val (.long q0), .second, .val (.long q1), .second, .val (.long q2), .second, .val (.long q3), .second, .val (.long q4), .second, .val (.int i5), .val (.int (1 : Int32)), .val (.int (5 : Int32)), .val (.long q0), .second, .val (.long h1v), .second, .val (.long h2v), .second, .val (.long h3v), .second, .val (.long h4v), .second, .val (.long mark), .second, .val (.ref hp), .val (.ref wa), .val (.ref go), .unset, .unset, .unset] [(.int (1 : Int32))]))
      refine own_if_eq C X at_328 (pcT := 335) (pc' := 331) (by decide) (by decide) rfl (fun hc328 => absurd hc328 (by decide)) (fun hc328 => ?_)
      refine own_iconst C X at_331 (v := 1) (by decide) (pc' := 332) rfl ?_
      refine own_goto C X at_332 (pc' := 336) (by decide) (by decide) ?_
      refine own_istore C X at_336 (L' := #[.val (.long q0), .second, .val (.long q1), .second, .val (.long q2), .second, .val (.long q3), .second, .val (.long q4), .second, .val (.int i5), .val (.int (1 : Int32)), .val (.int (5 : Int32)), .val (.long q0), .second, .val (.long h1v), .second, .val (.long h2v), .second, .val (.long h3v), .second, .val (.long h4v), .second, .val (.long mark), .second, .val (.ref hp), .val (.ref wa), .val (.ref go), .val (.int (1 : Int32)), .unset, .unset]) rfl (pc' := 338) rfl ?_
      refine own_aload C X at_338 rfl rfl (pc' := 340) rfl ?_
      refine own_aload C X at_340 rfl rfl (pc' := 342) rfl ?_
      refine own_iload C X at_342 rfl (pc' := 344) rfl ?_
      refine own_iconst C X at_344 (v := 0) (by decide) (pc' := 345) rfl ?_
      refine own_callS C X at_345 (own_m_sc5 l Z a0 hw wa go (0 : Int32) _ n0 (own_big C X) q4 h1v h2v h3v h4v r0 r1 r2 r3 r4 q4 A_wa A_go (by decide) 0 (by decide) rfl pm) (hw _ (List.mem_of_getElem? (i := 14) rfl)) (hw _ (List.mem_of_getElem? (i := 15) rfl)) (hw _ (List.mem_of_getElem? (i := 12) rfl)) (hw _ (List.mem_of_getElem? (i := 16) rfl)) (by decide) own_pd_7147 rfl rfl (Nat.le_of_ble_eq_true rfl) (Nat.le_of_ble_eq_true rfl) (Nat.le_of_ble_eq_true rfl) (Nat.le_of_ble_eq_true rfl) (av := [(.ref wa), (.ref go), (.int (5 : Int32)), (.int (0 : Int32))]) (S := []) rfl (pc' := 348) rfl ?_
      intro T h v X hQ
      obtain ⟨rfl, rfl⟩ := hQ
      show own_Go p e below n0 (own_Fin room_1 s (fun v h => v = some (.int 1))) (T.setTop (mkF m 348 #[.val (.long q0), .second, .val (.long q1), .second, .val (.long q2), .second, .val (.long q3), .second, .val (.long q4), .second, .val (.int i5), .val (.int (1 : Int32)), .val (.int (5 : Int32)), .val (.long q0), .second, .val (.long h1v), .second, .val (.long h2v), .second, .val (.long h3v), .second, .val (.long h4v), .second, .val (.long mark), .second, .val (.ref hp), .val (.ref wa), .val (.ref go), .val (.int (1 : Int32)), .unset, .unset] [(.int (1 : Int32))]))
      refine own_if_eq C X at_348 (pcT := 407) (pc' := 351) (by decide) (by decide) rfl (fun hc348 => absurd hc348 (by decide)) (fun hc348 => ?_)
      refine own_aload C X at_351 rfl rfl (pc' := 353) rfl ?_
      refine own_aload C X at_353 rfl rfl (pc' := 355) rfl ?_
      refine own_iload C X at_355 rfl (pc' := 357) rfl ?_
      refine own_iconst C X at_357 (v := 1) (by decide) (pc' := 358) rfl ?_
      refine own_callS C X at_358 (own_m_sc5 l Z a0 hw wa go (1 : Int32) _ n0 (own_big C X) q4 h1v h2v h3v h4v r0 r1 r2 r3 r4 h1v A_wa A_go (by decide) 1 (by decide) rfl pm) (hw _ (List.mem_of_getElem? (i := 14) rfl)) (hw _ (List.mem_of_getElem? (i := 15) rfl)) (hw _ (List.mem_of_getElem? (i := 12) rfl)) (hw _ (List.mem_of_getElem? (i := 16) rfl)) (by decide) own_pd_7147 rfl rfl (Nat.le_of_ble_eq_true rfl) (Nat.le_of_ble_eq_true rfl) (Nat.le_of_ble_eq_true rfl) (Nat.le_of_ble_eq_true rfl) (av := [(.ref wa), (.ref go), (.int (5 : Int32)), (.int (1 : Int32))]) (S := []) rfl (pc' := 361) rfl ?_
      intro T h v X hQ
      obtain ⟨rfl, rfl⟩ := hQ
      show own_Go p e below n0 (own_Fin room_1 s (fun v h => v = some (.int 1))) (T.setTop (mkF m 361 #[.val (.long q0), .second, .val (.long q1), .second, .val (.long q2), .second, .val (.long q3), .second, .val (.long q4), .second, .val (.int i5), .val (.int (1 : Int32)), .val (.int (5 : Int32)), .val (.long q0), .second, .val (.long h1v), .second, .val (.long h2v), .second, .val (.long h3v), .second, .val (.long h4v), .second, .val (.long mark), .second, .val (.ref hp), .val (.ref wa), .val (.ref go), .val (.int (1 : Int32)), .unset, .unset] [(.int (1 : Int32))]))
      refine own_if_eq C X at_361 (pcT := 407) (pc' := 364) (by decide) (by decide) rfl (fun hc361 => absurd hc361 (by decide)) (fun hc361 => ?_)
      refine own_aload C X at_364 rfl rfl (pc' := 366) rfl ?_
      refine own_aload C X at_366 rfl rfl (pc' := 368) rfl ?_
      refine own_iload C X at_368 rfl (pc' := 370) rfl ?_
      refine own_iconst C X at_370 (v := 2) (by decide) (pc' := 371) rfl ?_
      refine own_callS C X at_371 (own_m_sc5 l Z a0 hw wa go (2 : Int32) _ n0 (own_big C X) q4 h1v h2v h3v h4v r0 r1 r2 r3 r4 h2v A_wa A_go (by decide) 2 (by decide) rfl pm) (hw _ (List.mem_of_getElem? (i := 14) rfl)) (hw _ (List.mem_of_getElem? (i := 15) rfl)) (hw _ (List.mem_of_getElem? (i := 12) rfl)) (hw _ (List.mem_of_getElem? (i := 16) rfl)) (by decide) own_pd_7147 rfl rfl (Nat.le_of_ble_eq_true rfl) (Nat.le_of_ble_eq_true rfl) (Nat.le_of_ble_eq_true rfl) (Nat.le_of_ble_eq_true rfl) (av := [(.ref wa), (.ref go), (.int (5 : Int32)), (.int (2 : Int32))]) (S := []) rfl (pc' := 374) rfl ?_
      intro T h v X hQ
      obtain ⟨rfl, rfl⟩ := hQ
      show own_Go p e below n0 (own_Fin room_1 s (fun v h => v = some (.int 1))) (T.setTop (mkF m 374 #[.val (.long q0), .second, .val (.long q1), .second, .val (.long q2), .second, .val (.long q3), .second, .val (.long q4), .second, .val (.int i5), .val (.int (1 : Int32)), .val (.int (5 : Int32)), .val (.long q0), .second, .val (.long h1v), .second, .val (.long h2v), .second, .val (.long h3v), .second, .val (.long h4v), .second, .val (.long mark), .second, .val (.ref hp), .val (.ref wa), .val (.ref go), .val (.int (1 : Int32)), .unset, .unset] [(.int (1 : Int32))]))
      refine own_if_eq C X at_374 (pcT := 407) (pc' := 377) (by decide) (by decide) rfl (fun hc374 => absurd hc374 (by decide)) (fun hc374 => ?_)
      refine own_aload C X at_377 rfl rfl (pc' := 379) rfl ?_
      refine own_aload C X at_379 rfl rfl (pc' := 381) rfl ?_
      refine own_iload C X at_381 rfl (pc' := 383) rfl ?_
      refine own_iconst C X at_383 (v := 3) (by decide) (pc' := 384) rfl ?_
      refine own_callS C X at_384 (own_m_sc5 l Z a0 hw wa go (3 : Int32) _ n0 (own_big C X) q4 h1v h2v h3v h4v r0 r1 r2 r3 r4 h3v A_wa A_go (by decide) 3 (by decide) rfl pm) (hw _ (List.mem_of_getElem? (i := 14) rfl)) (hw _ (List.mem_of_getElem? (i := 15) rfl)) (hw _ (List.mem_of_getElem? (i := 12) rfl)) (hw _ (List.mem_of_getElem? (i := 16) rfl)) (by decide) own_pd_7147 rfl rfl (Nat.le_of_ble_eq_true rfl) (Nat.le_of_ble_eq_true rfl) (Nat.le_of_ble_eq_true rfl) (Nat.le_of_ble_eq_true rfl) (av := [(.ref wa), (.ref go), (.int (5 : Int32)), (.int (3 : Int32))]) (S := []) rfl (pc' := 387) rfl ?_
      intro T h v X hQ
      obtain ⟨rfl, rfl⟩ := hQ
      show own_Go p e below n0 (own_Fin room_1 s (fun v h => v = some (.int 1))) (T.setTop (mkF m 387 #[.val (.long q0), .second, .val (.long q1), .second, .val (.long q2), .second, .val (.long q3), .second, .val (.long q4), .second, .val (.int i5), .val (.int (1 : Int32)), .val (.int (5 : Int32)), .val (.long q0), .second, .val (.long h1v), .second, .val (.long h2v), .second, .val (.long h3v), .second, .val (.long h4v), .second, .val (.long mark), .second, .val (.ref hp), .val (.ref wa), .val (.ref go), .val (.int (1 : Int32)), .unset, .unset] [(.int (1 : Int32))]))
      refine own_if_eq C X at_387 (pcT := 407) (pc' := 390) (by decide) (by decide) rfl (fun hc387 => absurd hc387 (by decide)) (fun hc387 => ?_)
      refine own_aload C X at_390 rfl rfl (pc' := 392) rfl ?_
      refine own_aload C X at_392 rfl rfl (pc' := 394) rfl ?_
      refine own_iload C X at_394 rfl (pc' := 396) rfl ?_
      refine own_iconst C X at_396 (v := 4) (by decide) (pc' := 397) rfl ?_
      refine own_callS C X at_397 (own_m_sc5 l Z a0 hw wa go (4 : Int32) _ n0 (own_big C X) q4 h1v h2v h3v h4v r0 r1 r2 r3 r4 h4v A_wa A_go (by decide) 4 (by decide) rfl pm) (hw _ (List.mem_of_getElem? (i := 14) rfl)) (hw _ (List.mem_of_getElem? (i := 15) rfl)) (hw _ (List.mem_of_getElem? (i := 12) rfl)) (hw _ (List.mem_of_getElem? (i := 16) rfl)) (by decide) own_pd_7147 rfl rfl (Nat.le_of_ble_eq_true rfl) (Nat.le_of_ble_eq_true rfl) (Nat.le_of_ble_eq_true rfl) (Nat.le_of_ble_eq_true rfl) (av := [(.ref wa), (.ref go), (.int (5 : Int32)), (.int (4 : Int32))]) (S := []) rfl (pc' := 400) rfl ?_
      intro T h v X hQ
      obtain ⟨rfl, rfl⟩ := hQ
      show own_Go p e below n0 (own_Fin room_1 s (fun v h => v = some (.int 1))) (T.setTop (mkF m 400 #[.val (.long q0), .second, .val (.long q1), .second, .val (.long q2), .second, .val (.long q3), .second, .val (.long q4), .second, .val (.int i5), .val (.int (1 : Int32)), .val (.int (5 : Int32)), .val (.long q0), .second, .val (.long h1v), .second, .val (.long h2v), .second, .val (.long h3v), .second, .val (.long h4v), .second, .val (.long mark), .second, .val (.ref hp), .val (.ref wa), .val (.ref go), .val (.int (1 : Int32)), .unset, .unset] [(.int (1 : Int32))]))
      refine own_if_eq C X at_400 (pcT := 407) (pc' := 403) (by decide) (by decide) rfl (fun hc400 => absurd hc400 (by decide)) (fun hc400 => ?_)
      refine own_iconst C X at_403 (v := 1) (by decide) (pc' := 404) rfl ?_
      refine own_goto C X at_404 (pc' := 408) (by decide) (by decide) ?_
      refine own_istore C X at_408 (L' := #[.val (.long q0), .second, .val (.long q1), .second, .val (.long q2), .second, .val (.long q3), .second, .val (.long q4), .second, .val (.int i5), .val (.int (1 : Int32)), .val (.int (5 : Int32)), .val (.long q0), .second, .val (.long h1v), .second, .val (.long h2v), .second, .val (.long h3v), .second, .val (.long h4v), .second, .val (.long mark), .second, .val (.ref hp), .val (.ref wa), .val (.ref go), .val (.int (1 : Int32)), .val (.int (1 : Int32)), .unset]) rfl (pc' := 410) rfl ?_
      refine own_aload C X at_410 rfl rfl (pc' := 412) rfl ?_
      refine own_iconst C X at_412 (v := 0) (by decide) (pc' := 413) rfl ?_
      refine own_iload C X at_413 rfl (pc' := 415) rfl ?_
      refine own_iload C X at_415 rfl (pc' := 417) rfl ?_
      refine own_lload C X at_417 rfl (pc' := 419) rfl ?_
      refine own_callS C X at_419 (own_m_kpB l Z a0 hw hp (0 : Int32) (1 : Int32) (5 : Int32) mark _ n0 (own_big C X) (by decide) [mark, r0, r1, r2, r3, r4, mark] A_hp 0 (by decide) rfl) (hw _ (List.mem_of_getElem? (i := 20) rfl)) (hw _ (List.mem_of_getElem? (i := 21) rfl)) (hw _ (List.mem_of_getElem? (i := 12) rfl)) (hw _ (List.mem_of_getElem? (i := 22) rfl)) (by decide) own_pd_6969 rfl rfl (Nat.le_of_ble_eq_true rfl) (Nat.le_of_ble_eq_true rfl) (Nat.le_of_ble_eq_true rfl) (Nat.le_of_ble_eq_true rfl) (av := [(.ref hp), (.int (0 : Int32)), (.int (1 : Int32)), (.int (5 : Int32)), (.long mark)]) (S := []) rfl (pc' := 422) rfl ?_
      intro T h v X hQ
      obtain ⟨rfl, rfl⟩ := hQ
      show own_Go p e below n0 (own_Fin room_1 s (fun v h => v = some (.int 1))) (T.setTop (mkF m 422 #[.val (.long q0), .second, .val (.long q1), .second, .val (.long q2), .second, .val (.long q3), .second, .val (.long q4), .second, .val (.int i5), .val (.int (1 : Int32)), .val (.int (5 : Int32)), .val (.long q0), .second, .val (.long h1v), .second, .val (.long h2v), .second, .val (.long h3v), .second, .val (.long h4v), .second, .val (.long mark), .second, .val (.ref hp), .val (.ref wa), .val (.ref go), .val (.int (1 : Int32)), .val (.int (1 : Int32)), .unset] [(.int (1 : Int32))]))
      refine own_if_eq C X at_422 (pcT := 520) (pc' := 425) (by decide) (by decide) rfl (fun hc422 => absurd hc422 (by decide)) (fun hc422 => ?_)
      refine own_aload C X at_425 rfl rfl (pc' := 427) rfl ?_
      refine own_iconst C X at_427 (v := 1) (by decide) (pc' := 428) rfl ?_
      refine own_iload C X at_428 rfl (pc' := 430) rfl ?_
      refine own_iload C X at_430 rfl (pc' := 432) rfl ?_
      refine own_lload C X at_432 rfl (pc' := 434) rfl ?_
      refine own_callS C X at_434 (own_m_kpI l Z a0 hw hp (1 : Int32) (1 : Int32) (5 : Int32) mark _ n0 (own_big C X) (by decide) (by decide)) (hw _ (List.mem_of_getElem? (i := 20) rfl)) (hw _ (List.mem_of_getElem? (i := 21) rfl)) (hw _ (List.mem_of_getElem? (i := 12) rfl)) (hw _ (List.mem_of_getElem? (i := 22) rfl)) (by decide) own_pd_6969 rfl rfl (Nat.le_of_ble_eq_true rfl) (Nat.le_of_ble_eq_true rfl) (Nat.le_of_ble_eq_true rfl) (Nat.le_of_ble_eq_true rfl) (av := [(.ref hp), (.int (1 : Int32)), (.int (1 : Int32)), (.int (5 : Int32)), (.long mark)]) (S := []) rfl (pc' := 437) rfl ?_
      intro T h v X hQ
      obtain ⟨rfl, rfl⟩ := hQ
      show own_Go p e below n0 (own_Fin room_1 s (fun v h => v = some (.int 1))) (T.setTop (mkF m 437 #[.val (.long q0), .second, .val (.long q1), .second, .val (.long q2), .second, .val (.long q3), .second, .val (.long q4), .second, .val (.int i5), .val (.int (1 : Int32)), .val (.int (5 : Int32)), .val (.long q0), .second, .val (.long h1v), .second, .val (.long h2v), .second, .val (.long h3v), .second, .val (.long h4v), .second, .val (.long mark), .second, .val (.ref hp), .val (.ref wa), .val (.ref go), .val (.int (1 : Int32)), .val (.int (1 : Int32)), .unset] [(.int (1 : Int32))]))
      refine own_if_eq C X at_437 (pcT := 520) (pc' := 440) (by decide) (by decide) rfl (fun hc437 => absurd hc437 (by decide)) (fun hc437 => ?_)
      refine own_aload C X at_440 rfl rfl (pc' := 442) rfl ?_
      refine own_iconst C X at_442 (v := 2) (by decide) (pc' := 443) rfl ?_
      refine own_iload C X at_443 rfl (pc' := 445) rfl ?_
      refine own_iload C X at_445 rfl (pc' := 447) rfl ?_
      refine own_lload C X at_447 rfl (pc' := 449) rfl ?_
      refine own_callS C X at_449 (own_m_kpI l Z a0 hw hp (2 : Int32) (1 : Int32) (5 : Int32) mark _ n0 (own_big C X) (by decide) (by decide)) (hw _ (List.mem_of_getElem? (i := 20) rfl)) (hw _ (List.mem_of_getElem? (i := 21) rfl)) (hw _ (List.mem_of_getElem? (i := 12) rfl)) (hw _ (List.mem_of_getElem? (i := 22) rfl)) (by decide) own_pd_6969 rfl rfl (Nat.le_of_ble_eq_true rfl) (Nat.le_of_ble_eq_true rfl) (Nat.le_of_ble_eq_true rfl) (Nat.le_of_ble_eq_true rfl) (av := [(.ref hp), (.int (2 : Int32)), (.int (1 : Int32)), (.int (5 : Int32)), (.long mark)]) (S := []) rfl (pc' := 452) rfl ?_
      intro T h v X hQ
      obtain ⟨rfl, rfl⟩ := hQ
      show own_Go p e below n0 (own_Fin room_1 s (fun v h => v = some (.int 1))) (T.setTop (mkF m 452 #[.val (.long q0), .second, .val (.long q1), .second, .val (.long q2), .second, .val (.long q3), .second, .val (.long q4), .second, .val (.int i5), .val (.int (1 : Int32)), .val (.int (5 : Int32)), .val (.long q0), .second, .val (.long h1v), .second, .val (.long h2v), .second, .val (.long h3v), .second, .val (.long h4v), .second, .val (.long mark), .second, .val (.ref hp), .val (.ref wa), .val (.ref go), .val (.int (1 : Int32)), .val (.int (1 : Int32)), .unset] [(.int (1 : Int32))]))
      refine own_if_eq C X at_452 (pcT := 520) (pc' := 455) (by decide) (by decide) rfl (fun hc452 => absurd hc452 (by decide)) (fun hc452 => ?_)
      refine own_aload C X at_455 rfl rfl (pc' := 457) rfl ?_
      refine own_iconst C X at_457 (v := 3) (by decide) (pc' := 458) rfl ?_
      refine own_iload C X at_458 rfl (pc' := 460) rfl ?_
      refine own_iload C X at_460 rfl (pc' := 462) rfl ?_
      refine own_lload C X at_462 rfl (pc' := 464) rfl ?_
      refine own_callS C X at_464 (own_m_kpI l Z a0 hw hp (3 : Int32) (1 : Int32) (5 : Int32) mark _ n0 (own_big C X) (by decide) (by decide)) (hw _ (List.mem_of_getElem? (i := 20) rfl)) (hw _ (List.mem_of_getElem? (i := 21) rfl)) (hw _ (List.mem_of_getElem? (i := 12) rfl)) (hw _ (List.mem_of_getElem? (i := 22) rfl)) (by decide) own_pd_6969 rfl rfl (Nat.le_of_ble_eq_true rfl) (Nat.le_of_ble_eq_true rfl) (Nat.le_of_ble_eq_true rfl) (Nat.le_of_ble_eq_true rfl) (av := [(.ref hp), (.int (3 : Int32)), (.int (1 : Int32)), (.int (5 : Int32)), (.long mark)]) (S := []) rfl (pc' := 467) rfl ?_
      intro T h v X hQ
      obtain ⟨rfl, rfl⟩ := hQ
      show own_Go p e below n0 (own_Fin room_1 s (fun v h => v = some (.int 1))) (T.setTop (mkF m 467 #[.val (.long q0), .second, .val (.long q1), .second, .val (.long q2), .second, .val (.long q3), .second, .val (.long q4), .second, .val (.int i5), .val (.int (1 : Int32)), .val (.int (5 : Int32)), .val (.long q0), .second, .val (.long h1v), .second, .val (.long h2v), .second, .val (.long h3v), .second, .val (.long h4v), .second, .val (.long mark), .second, .val (.ref hp), .val (.ref wa), .val (.ref go), .val (.int (1 : Int32)), .val (.int (1 : Int32)), .unset] [(.int (1 : Int32))]))
      refine own_if_eq C X at_467 (pcT := 520) (pc' := 470) (by decide) (by decide) rfl (fun hc467 => absurd hc467 (by decide)) (fun hc467 => ?_)
      refine own_aload C X at_470 rfl rfl (pc' := 472) rfl ?_
      refine own_iconst C X at_472 (v := 4) (by decide) (pc' := 473) rfl ?_
      refine own_iload C X at_473 rfl (pc' := 475) rfl ?_
      refine own_iload C X at_475 rfl (pc' := 477) rfl ?_
      refine own_lload C X at_477 rfl (pc' := 479) rfl ?_
      refine own_callS C X at_479 (own_m_kpI l Z a0 hw hp (4 : Int32) (1 : Int32) (5 : Int32) mark _ n0 (own_big C X) (by decide) (by decide)) (hw _ (List.mem_of_getElem? (i := 20) rfl)) (hw _ (List.mem_of_getElem? (i := 21) rfl)) (hw _ (List.mem_of_getElem? (i := 12) rfl)) (hw _ (List.mem_of_getElem? (i := 22) rfl)) (by decide) own_pd_6969 rfl rfl (Nat.le_of_ble_eq_true rfl) (Nat.le_of_ble_eq_true rfl) (Nat.le_of_ble_eq_true rfl) (Nat.le_of_ble_eq_true rfl) (av := [(.ref hp), (.int (4 : Int32)), (.int (1 : Int32)), (.int (5 : Int32)), (.long mark)]) (S := []) rfl (pc' := 482) rfl ?_
      intro T h v X hQ
      obtain ⟨rfl, rfl⟩ := hQ
      show own_Go p e below n0 (own_Fin room_1 s (fun v h => v = some (.int 1))) (T.setTop (mkF m 482 #[.val (.long q0), .second, .val (.long q1), .second, .val (.long q2), .second, .val (.long q3), .second, .val (.long q4), .second, .val (.int i5), .val (.int (1 : Int32)), .val (.int (5 : Int32)), .val (.long q0), .second, .val (.long h1v), .second, .val (.long h2v), .second, .val (.long h3v), .second, .val (.long h4v), .second, .val (.long mark), .second, .val (.ref hp), .val (.ref wa), .val (.ref go), .val (.int (1 : Int32)), .val (.int (1 : Int32)), .unset] [(.int (1 : Int32))]))
      refine own_if_eq C X at_482 (pcT := 520) (pc' := 485) (by decide) (by decide) rfl (fun hc482 => absurd hc482 (by decide)) (fun hc482 => ?_)
      refine own_aload C X at_485 rfl rfl (pc' := 487) rfl ?_
      refine own_iconst C X at_487 (v := 5) (by decide) (pc' := 488) rfl ?_
      refine own_iload C X at_488 rfl (pc' := 490) rfl ?_
      refine own_iload C X at_490 rfl (pc' := 492) rfl ?_
      refine own_lload C X at_492 rfl (pc' := 494) rfl ?_
      refine own_callS C X at_494 (own_m_kpI l Z a0 hw hp (5 : Int32) (1 : Int32) (5 : Int32) mark _ n0 (own_big C X) (by decide) (by decide)) (hw _ (List.mem_of_getElem? (i := 20) rfl)) (hw _ (List.mem_of_getElem? (i := 21) rfl)) (hw _ (List.mem_of_getElem? (i := 12) rfl)) (hw _ (List.mem_of_getElem? (i := 22) rfl)) (by decide) own_pd_6969 rfl rfl (Nat.le_of_ble_eq_true rfl) (Nat.le_of_ble_eq_true rfl) (Nat.le_of_ble_eq_true rfl) (Nat.le_of_ble_eq_true rfl) (av := [(.ref hp), (.int (5 : Int32)), (.int (1 : Int32)), (.int (5 : Int32)), (.long mark)]) (S := []) rfl (pc' := 497) rfl ?_
      intro T h v X hQ
      obtain ⟨rfl, rfl⟩ := hQ
      show own_Go p e below n0 (own_Fin room_1 s (fun v h => v = some (.int 1))) (T.setTop (mkF m 497 #[.val (.long q0), .second, .val (.long q1), .second, .val (.long q2), .second, .val (.long q3), .second, .val (.long q4), .second, .val (.int i5), .val (.int (1 : Int32)), .val (.int (5 : Int32)), .val (.long q0), .second, .val (.long h1v), .second, .val (.long h2v), .second, .val (.long h3v), .second, .val (.long h4v), .second, .val (.long mark), .second, .val (.ref hp), .val (.ref wa), .val (.ref go), .val (.int (1 : Int32)), .val (.int (1 : Int32)), .unset] [(.int (1 : Int32))]))
      refine own_if_eq C X at_497 (pcT := 520) (pc' := 500) (by decide) (by decide) rfl (fun hc497 => absurd hc497 (by decide)) (fun hc497 => ?_)
      refine own_aload C X at_500 rfl rfl (pc' := 502) rfl ?_
      refine own_bipush C X at_502 (v := 6) (by decide) (pc' := 504) rfl ?_
      refine own_iload C X at_504 rfl (pc' := 506) rfl ?_
      refine own_iload C X at_506 rfl (pc' := 508) rfl ?_
      refine own_lload C X at_508 rfl (pc' := 510) rfl ?_
      refine own_callS C X at_510 (own_m_kpA l Z a0 hw hp (6 : Int32) (1 : Int32) (5 : Int32) mark _ n0 (own_big C X) (by decide) (by decide) [mark, r0, r1, r2, r3, r4, mark] A_hp 6 (by decide) rfl) (hw _ (List.mem_of_getElem? (i := 20) rfl)) (hw _ (List.mem_of_getElem? (i := 21) rfl)) (hw _ (List.mem_of_getElem? (i := 12) rfl)) (hw _ (List.mem_of_getElem? (i := 22) rfl)) (by decide) own_pd_6969 rfl rfl (Nat.le_of_ble_eq_true rfl) (Nat.le_of_ble_eq_true rfl) (Nat.le_of_ble_eq_true rfl) (Nat.le_of_ble_eq_true rfl) (av := [(.ref hp), (.int (6 : Int32)), (.int (1 : Int32)), (.int (5 : Int32)), (.long mark)]) (S := []) rfl (pc' := 513) rfl ?_
      intro T h v X hQ
      obtain ⟨rfl, rfl⟩ := hQ
      show own_Go p e below n0 (own_Fin room_1 s (fun v h => v = some (.int 1))) (T.setTop (mkF m 513 #[.val (.long q0), .second, .val (.long q1), .second, .val (.long q2), .second, .val (.long q3), .second, .val (.long q4), .second, .val (.int i5), .val (.int (1 : Int32)), .val (.int (5 : Int32)), .val (.long q0), .second, .val (.long h1v), .second, .val (.long h2v), .second, .val (.long h3v), .second, .val (.long h4v), .second, .val (.long mark), .second, .val (.ref hp), .val (.ref wa), .val (.ref go), .val (.int (1 : Int32)), .val (.int (1 : Int32)), .unset] [(.int (1 : Int32))]))
      refine own_if_eq C X at_513 (pcT := 520) (pc' := 516) (by decide) (by decide) rfl (fun hc513 => absurd hc513 (by decide)) (fun hc513 => ?_)
      refine own_iconst C X at_516 (v := 1) (by decide) (pc' := 517) rfl ?_
      refine own_goto C X at_517 (pc' := 521) (by decide) (by decide) ?_
      refine own_istore C X at_521 (L' := #[.val (.long q0), .second, .val (.long q1), .second, .val (.long q2), .second, .val (.long q3), .second, .val (.long q4), .second, .val (.int i5), .val (.int (1 : Int32)), .val (.int (5 : Int32)), .val (.long q0), .second, .val (.long h1v), .second, .val (.long h2v), .second, .val (.long h3v), .second, .val (.long h4v), .second, .val (.long mark), .second, .val (.ref hp), .val (.ref wa), .val (.ref go), .val (.int (1 : Int32)), .val (.int (1 : Int32)), .val (.int (1 : Int32))]) rfl (pc' := 523) rfl ?_
      refine own_iload C X at_523 rfl (pc' := 525) rfl ?_
      refine own_if_eq C X at_525 (pcT := 542) (pc' := 528) (by decide) (by decide) rfl (fun hc525 => absurd hc525 (by decide)) (fun hc525 => ?_)
      refine own_iload C X at_528 rfl (pc' := 530) rfl ?_
      refine own_if_eq C X at_530 (pcT := 542) (pc' := 533) (by decide) (by decide) rfl (fun hc530 => absurd hc530 (by decide)) (fun hc530 => ?_)
      refine own_iload C X at_533 rfl (pc' := 535) rfl ?_
      refine own_if_eq C X at_535 (pcT := 542) (pc' := 538) (by decide) (by decide) rfl (fun hc535 => absurd hc535 (by decide)) (fun hc535 => ?_)
      refine own_iconst C X at_538 (v := 1) (by decide) (pc' := 539) rfl ?_
      refine own_goto C X at_539 (pc' := 543) (by decide) (by decide) ?_
      exact own_ireturn_z C X at_543 (Nat.le_of_ble_eq_true rfl) (Nat.le_of_ble_eq_true rfl) (rfl)
set_option maxRecDepth 65536 in
set_option maxHeartbeats 40000000 in
theorem own_comes {Post : Tables → Env → Array Value → State → Outcome → State → Prop} (hpost : ∀ tb e args s v u, (limb_1_1.after args s (.returned v) u = true ∧ limb_1_2.after args s (.returned v) u = true ∧ True) → FrameEnd s (.returned v) u (Jvm.fieldLocs frame_1_writes args s ++ Jvm.arrayLocs frame_1_arrays args s ++ Jvm.staticLocs frame_1_statics s) 16 128 → Post tb e args s (.returned v) u) :
    ArmFor flags0 classFile x code maxLocals ret World_1 tables_1 room_1 Calls_1 rest_1 Pre_1 Post := by
  intro l hfl _ _ p e ha hc hk s m args below hf hA hF happ hP
  obtain ⟨hcalls, hrest, hpre⟩ := hP
  obtain ⟨-, -, -, hnamed, -, -, -, hat⟩ := (Spec.applies_iff hf).mp happ
  obtain ⟨hg, hn⟩ := and_e (Cond.before_iff.mp (show (Jvm.Cond.and given_1 narrow_1).before args s = true from hpre))
  obtain ⟨gc, g0⟩ := and_e hg
  obtain ⟨k0, g1⟩ := and_e g0
  obtain ⟨k1, g2⟩ := and_e g1
  obtain ⟨k2, g3⟩ := and_e g2
  obtain ⟨k3, g4⟩ := and_e g3
  obtain ⟨k4, g5⟩ := and_e g4
  obtain ⟨w0, w1, w2, w3, w4, w5, rfl⟩ : ∃ w0 w1 w2 w3 w4 w5 : Value, args = #[w0, w1, w2, w3, w4, w5] := by
    have hs : args.size = 6 := by simpa [Cond.value, given_1] using gc
    obtain ⟨L⟩ := args
    match L, hs with
    | [w0, w1, w2, w3, w4, w5], _ => exact ⟨w0, w1, w2, w3, w4, w5, rfl⟩
  have hw := fun d (hd : d ∈ tables_1) => atoms_spec (ws := Jvm.Cond.code x code maxLocals ret :: tables_1) hat d (List.mem_cons_of_mem _ hd)
  obtain ⟨i0, ei0⟩ := isL_v k0
  obtain rfl : w0 = (.long i0) := Option.some.inj ei0
  obtain ⟨i1, ei1⟩ := isL_v k1
  obtain rfl : w1 = (.long i1) := Option.some.inj ei1
  obtain ⟨i2, ei2⟩ := isL_v k2
  obtain rfl : w2 = (.long i2) := Option.some.inj ei2
  obtain ⟨i3, ei3⟩ := isL_v k3
  obtain rfl : w3 = (.long i3) := Option.some.inj ei3
  obtain ⟨i4, ei4⟩ := isL_v k4
  obtain rfl : w4 = (.long i4) := Option.some.inj ei4
  obtain ⟨i5, ei5⟩ := is_v g5
  obtain rfl : w5 = (.int i5) := Option.some.inj ei5
  obtain ⟨n, o, h1, h2, h3, _, L, rfl, ⟨rfl, N⟩, hq⟩ := own_m_law l s _ hw tables_1 i0 i1 i2 i3 i4 i5 s.heap s.heap.size (Nat.le_refl _)  p e ha hc hk s m _ below hf ((Spec.applies_iff_loose hf).mp happ).1 ⟨rfl, State.Warmed39.refl s, rfl⟩ trivial
  refine ⟨n, _, h1, h2, h3, hpost _ _ _ _ _ _ ⟨Cond.after_iff.mpr rfl, Cond.after_iff.mpr (eq_i res_at (Term.int_eval (1)) rfl), trivial⟩ ⟨hq.1, hq.2.1, (hq.2.2.sift fun y hy => Or.inr (N y hy)).mono (by decide) (by decide)⟩⟩
theorem main_1_1 : Claimed_1_1 := own_comes fun _ _ _ _ _ _ h hF => ⟨h.1, hF⟩
theorem main_1_2 : Claimed_1_2 := own_comes fun _ _ _ _ _ _ h hF => ⟨h.2.1, hF⟩
end Jvm.Pilot.@@N@@
namespace Jvm.Pilot.@@N@@
open Jvm Jvm.ClassFile Sem Op Lib Jvm.Free Jvm.Stand Jvm.Pilot.@@N@@.Jvm.D
/-! MADE BY PROGRAM (witnessworld.py) out of the Statement's table words and the real class files: 12 classes; the members and pool entries that the words name. The judged class is class 1, her method 1. -/
namespace start1
open Jvm.ClassFile
def u (s : String) : CpInfo := .utf8 (stringToUtf16 s)
/-- a pool by its gaps: so many unusable entries, then the entry; so many at the end -/
def gap : Nat → List CpInfo → List CpInfo
  | 0, r => r
  | n + 1, r => .unusable :: gap n r
def poolList (es : List (Nat × CpInfo)) (last : Nat) : List CpInfo := es.foldr (fun e r => gap e.1 (e.2 :: r)) (gap last [])
def pool (es : List (Nat × CpInfo)) (last : Nat) : Array CpInfo := ⟨poolList es last⟩
def fileOf (pool : Array CpInfo) (this : Nat) (attrs : Array Attribute := #[]) (ms : Array MethodInfo := #[]) (fl : Nat := 33) (sup : Nat := 0) (ifs : Array Nat := #[]) (fds : Array FieldInfo := #[]) : ClassFile where
  minorVersion := 0
  majorVersion := 65
  constantPool := pool
  accessFlags := fl
  thisClass := this
  superClass := sup
  interfaces := ifs
  fields := fds
  methods := ms
  attributes := attrs
def plain (name : String) (sup : Option ClassId) : Class where
  name := name
  kind := .ordinary
  loader := none
  accessFlags := 33
  super := sup
  interfaces := #[]
  cf := none
  fields := #[]
  methods := #[]
  instanceTypes := #[]
  staticTypes := #[]
  resolved := #[]
  callSites := []
  init := .initialized
  statics := none
  mirror := none

def pool0 : Array CpInfo := pool [(5, u "<init>"), (0, u "()V"), (1, .class_ 10), (1, u "java/lang/Object")] 113

def k0m0 : Method := { name := "<init>", desc := "()V", sig := { parameters := [], returnType := none }, accessFlags := 1, code := none }
/-- java/lang/Object -/
def k0 : Class := { plain "java/lang/Object" none with
  accessFlags := 33
  interfaces := #[]
  cf := some (fileOf pool0 8 #[] #[{ accessFlags := 1, nameIndex := 5, descriptorIndex := 6, attributes := #[] }] 33 0 #[] #[])
  fields := #[]
  methods := #[k0m0]
  instanceTypes := #[]
  staticTypes := #[]
  resolved := Array.replicate 124 none
  statics := none }

def pool1 : Array CpInfo := pool [(2, .class_ 4), (1, u "java/lang/Object"), (0, u "<init>"), (0, u "()V"), (0, .methodref 8 9), (0, .class_ 10), (0, .nameAndType 11 12), (0, u "java/lang/Math"), (0, u "min"), (0, u "(JJ)J"), (0, .long 18446744073709551615), (1, .methodref 16 17), (0, .class_ 18), (0, .nameAndType 19 20), (0, u "com/example/stablemate/stablemate/SliceHeaps"), (0, u "replaceLargest"), (0, u "([JIIJ)V"), (0, .methodref 22 23), (0, .class_ 24), (0, .nameAndType 25 26), (0, u "com/example/stablemate/stablemate/SliceHeapsReplaceLargestPinLaw"), (0, u "ordered"), (0, u "([JII)Z"), (0, .methodref 22 28), (0, .nameAndType 29 30), (0, u "sameCount"), (0, u "([J[JII)Z"), (0, .methodref 22 32), (0, .nameAndType 33 34), (0, u "kept"), (0, u "([JIIIJ)Z"), (0, .methodref 22 36), (0, .nameAndType 37 38), (0, u "count"), (0, u "([JIJ)I"), (2, u "law"), (0, u "(JJJJJI)Z")] 5

def k1m0 : Method := { name := "<init>", desc := "()V", sig := { parameters := [], returnType := none }, accessFlags := 2, code := none }
def k1c1 : Code := { maxStack := 6, maxLocals := 31, code := code, exceptionTable := #[], attributes := #[] }
def k1m1 : Method := { name := "law", desc := "(JJJJJI)Z", sig := { parameters := [.long, .long, .long, .long, .long, .int], returnType := some .boolean }, accessFlags := 9, code := some k1c1 }
def k1c2 : Code := { maxStack := 4, maxLocals := 3, code := method_3_code, exceptionTable := #[], attributes := #[] }
def k1m2 : Method := { name := "ordered", desc := "([JII)Z", sig := { parameters := [(.array .long), .int, .int], returnType := some .boolean }, accessFlags := 10, code := some k1c2 }
def k1c3 : Code := { maxStack := 4, maxLocals := 5, code := method_4_code, exceptionTable := #[], attributes := #[] }
def k1m3 : Method := { name := "count", desc := "([JIJ)I", sig := { parameters := [(.array .long), .int, .long], returnType := some .int }, accessFlags := 10, code := some k1c3 }
def k1c4 : Code := { maxStack := 5, maxLocals := 4, code := method_5_code, exceptionTable := #[], attributes := #[] }
def k1m4 : Method := { name := "sameCount", desc := "([J[JII)Z", sig := { parameters := [(.array .long), (.array .long), .int, .int], returnType := some .boolean }, accessFlags := 10, code := some k1c4 }
def k1c5 : Code := { maxStack := 4, maxLocals := 6, code := method_6_code, exceptionTable := #[], attributes := #[] }
def k1m5 : Method := { name := "kept", desc := "([JIIIJ)Z", sig := { parameters := [(.array .long), .int, .int, .int, .long], returnType := some .boolean }, accessFlags := 10, code := some k1c5 }
/-- com/example/stablemate/stablemate/SliceHeapsReplaceLargestPinLaw -/
def k1 : Class := { plain "com/example/stablemate/stablemate/SliceHeapsReplaceLargestPinLaw" (some 0) with
  accessFlags := 49
  interfaces := #[]
  cf := some (fileOf pool1 22 #[] #[{ accessFlags := 2, nameIndex := 5, descriptorIndex := 6, attributes := #[] }, { accessFlags := 9, nameIndex := 41, descriptorIndex := 42, attributes := #[] }, { accessFlags := 10, nameIndex := 25, descriptorIndex := 26, attributes := #[] }, { accessFlags := 10, nameIndex := 37, descriptorIndex := 38, attributes := #[] }, { accessFlags := 10, nameIndex := 29, descriptorIndex := 30, attributes := #[] }, { accessFlags := 10, nameIndex := 33, descriptorIndex := 34, attributes := #[] }] 49 2 #[] #[])
  fields := #[]
  methods := #[k1m0, k1m1, k1m2, k1m3, k1m4, k1m5]
  instanceTypes := #[]
  staticTypes := #[]
  resolved := Array.replicate 48 none
  statics := none }

def pool2 : Array CpInfo := pool [(1, .class_ 2), (0, u "java/lang/Math"), (1, .class_ 6), (1, u "java/lang/Object"), (0, u "<init>"), (0, u "()V"), (89, .class_ 100), (1, u "java/lang/Math$RandomNumberGeneratorHolder"), (20, u "(JJ)J"), (50, u "negativeZeroFloatBits"), (0, u "J"), (2, u "negativeZeroDoubleBits"), (24, u "min"), (43, u "$assertionsDisabled"), (0, u "Z"), (91, u "twoToTheDoubleScaleDown"), (0, u "D"), (4, u "twoToTheDoubleScaleUp"), (9, u "E"), (3, u "PI"), (2, u "TAU"), (2, u "DEGREES_TO_RADIANS"), (0, u "RADIANS_TO_DEGREES")] 94

def k2m0 : Method := { name := "<init>", desc := "()V", sig := { parameters := [], returnType := none }, accessFlags := 2, code := none }
def k2c1 : Code := { maxStack := 4, maxLocals := 4, code := jdk_29_method_70_code, exceptionTable := #[], attributes := #[] }
def k2m1 : Method := { name := "min", desc := "(JJ)J", sig := { parameters := [.long, .long], returnType := some .long }, accessFlags := 9, code := some k2c1 }
/-- java/lang/Math -/
def k2 : Class := { plain "java/lang/Math" (some 0) with
  accessFlags := 49
  interfaces := #[]
  cf := some (fileOf pool2 1 #[.nestMembers #[98]] #[{ accessFlags := 2, nameIndex := 7, descriptorIndex := 8, attributes := #[] }, { accessFlags := 9, nameIndex := 201, descriptorIndex := 121, attributes := #[] }] 49 4 #[] #[{ accessFlags := 25, nameIndex := 354, descriptorIndex := 339, attributes := #[] }, { accessFlags := 25, nameIndex := 358, descriptorIndex := 339, attributes := #[] }, { accessFlags := 25, nameIndex := 361, descriptorIndex := 339, attributes := #[] }, { accessFlags := 26, nameIndex := 364, descriptorIndex := 339, attributes := #[] }, { accessFlags := 26, nameIndex := 365, descriptorIndex := 339, attributes := #[] }, { accessFlags := 26, nameIndex := 172, descriptorIndex := 173, attributes := #[] }, { accessFlags := 26, nameIndex := 176, descriptorIndex := 173, attributes := #[] }, { accessFlags := 8, nameIndex := 344, descriptorIndex := 339, attributes := #[] }, { accessFlags := 8, nameIndex := 338, descriptorIndex := 339, attributes := #[] }, { accessFlags := 4120, nameIndex := 245, descriptorIndex := 246, attributes := #[] }])
  fields := #[{ name := "E", type := .double, accessFlags := 25, slot := 0, constantValue := 0 }, { name := "PI", type := .double, accessFlags := 25, slot := 1, constantValue := 0 }, { name := "TAU", type := .double, accessFlags := 25, slot := 2, constantValue := 0 }, { name := "DEGREES_TO_RADIANS", type := .double, accessFlags := 26, slot := 3, constantValue := 0 }, { name := "RADIANS_TO_DEGREES", type := .double, accessFlags := 26, slot := 4, constantValue := 0 }, { name := "negativeZeroFloatBits", type := .long, accessFlags := 26, slot := 5, constantValue := 0 }, { name := "negativeZeroDoubleBits", type := .long, accessFlags := 26, slot := 6, constantValue := 0 }, { name := "twoToTheDoubleScaleUp", type := .double, accessFlags := 8, slot := 7, constantValue := 0 }, { name := "twoToTheDoubleScaleDown", type := .double, accessFlags := 8, slot := 8, constantValue := 0 }, { name := "$assertionsDisabled", type := .boolean, accessFlags := 4120, slot := 9, constantValue := 0 }]
  methods := #[k2m0, k2m1]
  instanceTypes := #[]
  staticTypes := #[.double, .double, .double, .double, .double, .long, .long, .double, .double, .boolean]
  resolved := Array.replicate 460 none
  statics := none }

def pool3 : Array CpInfo := pool [(2, .class_ 4), (1, u "java/lang/Object"), (0, u "<init>"), (0, u "()V"), (26, .class_ 34), (0, u "com/example/stablemate/stablemate/SliceHeaps"), (8, u "([JIIJ)V"), (0, u "replaceLargest")] 2

def k3m0 : Method := { name := "<init>", desc := "()V", sig := { parameters := [], returnType := none }, accessFlags := 2, code := none }
def k3c1 : Code := { maxStack := 5, maxLocals := 7, code := prog_40_method_4_code, exceptionTable := #[], attributes := #[] }
def k3m1 : Method := { name := "replaceLargest", desc := "([JIIJ)V", sig := { parameters := [(.array .long), .int, .int, .long], returnType := none }, accessFlags := 8, code := some k3c1 }
/-- com/example/stablemate/stablemate/SliceHeaps -/
def k3 : Class := { plain "com/example/stablemate/stablemate/SliceHeaps" (some 0) with
  accessFlags := 48
  interfaces := #[]
  cf := some (fileOf pool3 33 #[] #[{ accessFlags := 2, nameIndex := 5, descriptorIndex := 6, attributes := #[] }, { accessFlags := 8, nameIndex := 44, descriptorIndex := 43, attributes := #[] }] 48 2 #[] #[])
  fields := #[]
  methods := #[k3m0, k3m1]
  instanceTypes := #[]
  staticTypes := #[]
  resolved := Array.replicate 47 none
  statics := none }

def pool4 : Array CpInfo := pool [(1, u "java/lang/Cloneable"), (0, .class_ 1), (0, u "java/lang/Object"), (0, .class_ 3)] 3

/-- java/lang/Cloneable -/
def k4 : Class := { plain "java/lang/Cloneable" (some 0) with
  accessFlags := 1537
  interfaces := #[]
  cf := some (fileOf pool4 2 #[] #[] 1537 4 #[] #[])
  fields := #[]
  methods := #[]
  instanceTypes := #[]
  staticTypes := #[]
  resolved := Array.replicate 8 none
  statics := none }

def pool5 : Array CpInfo := pool [(1, u "java/io/Serializable"), (0, .class_ 1), (0, u "java/lang/Object"), (0, .class_ 3)] 3

/-- java/io/Serializable -/
def k5 : Class := { plain "java/io/Serializable" (some 0) with
  accessFlags := 1537
  interfaces := #[]
  cf := some (fileOf pool5 2 #[] #[] 1537 4 #[] #[])
  fields := #[]
  methods := #[]
  instanceTypes := #[]
  staticTypes := #[]
  resolved := Array.replicate 8 none
  statics := none }

/-- the primitive byte -/
def k6 : Class := { plain "byte" none with kind := .primitive 'B', accessFlags := 0x411 }
/-- [B -/
def k7 : Class := { plain "[B" (some 0) with kind := .array 6 .byte, interfaces := #[4, 5], accessFlags := 1041 }

/-- the primitive int -/
def k8 : Class := { plain "int" none with kind := .primitive 'I', accessFlags := 0x411 }
/-- [I -/
def k9 : Class := { plain "[I" (some 0) with kind := .array 8 .int, interfaces := #[4, 5], accessFlags := 1041 }

/-- the primitive long -/
def k10 : Class := { plain "long" none with kind := .primitive 'J', accessFlags := 0x411 }
/-- [J -/
def k11 : Class := { plain "[J" (some 0) with kind := .array 10 .long, interfaces := #[4, 5], accessFlags := 1041 }

def heap : Heap := #[]
def classes : Array Class := #[k0, k1, k2, k3, k4, k5, k6, k7, k8, k9, k10, k11]
def interned : List (Array UInt16 × Addr) := []
def slotsUsed : Nat := 0
def theMethod : MethodId := ⟨1, 1⟩
def args0 : Array Value := #[.long 5, .long 6, .long 7, .long 8, .long 9, .int 5]
def aboutOver (below : List Frame) : State where
  vm := { classes := classes, interned := interned.toArray }
  heap := heap
  slotsUsed := slotsUsed
  threads := #[{ frames := .invoking theMethod args0 :: below }]
def below0 : List Frame := [.native { method := ⟨0, 0⟩, args := #[] }]
def about1 : State := aboutOver below0
def p0 : Program := .bare "" "" ""
def e0 : Env := launch0.env 0 0 0
theorem w_frames : about1.frames = Frame.invoking theMethod args0 :: below0 := rfl
set_option maxRecDepth 65536 in
theorem w_args : argsFit about1.vm theMethod args0 = true := by decide +kernel
set_option maxRecDepth 65536 in
theorem w_heap : heapFits about1 = true := by decide +kernel
set_option maxRecDepth 65536 in
theorem w_runnable : about1.curStatus? = some .runnable := by decide +kernel
set_option maxRecDepth 65536 in
theorem w_alone : about1.alone = true := by decide +kernel
set_option maxRecDepth 65536 in
theorem w_named : about1.methodNamed? x = some theMethod := by decide +kernel
set_option maxRecDepth 65536 in
theorem w_hears : about1.hears theMethod below0 = true := by decide +kernel
set_option maxRecDepth 65536 in
theorem w_ripe : about1.ripe theMethod args0 below0 = true := by decide +kernel
theorem w_running : about1.status = .running := rfl
set_option maxRecDepth 65536 in
theorem w_room : about1.hasRoom e0.platform room_1 = true :=
  launch0.hasRoom_least _ room_1 (by decide +kernel) (by decide +kernel) (by decide +kernel) (by decide +kernel) (by decide +kernel) (by decide +kernel)
theorem allAtoms_all (ts : List Jvm.Cond) (a : Array Jvm.Value) (st : Jvm.State) : (allAtoms ts).before a st = ts.all (fun c => c.before a st) := by
  induction ts with
  | nil => rfl
  | cons c t ih =>
    show (Jvm.Cond.and c (allAtoms t)).before a st = _
    rw [Jvm.Cond.before_and, ih, List.all_cons]
def words1 : List Jvm.Cond := Jvm.Cond.code x code maxLocals ret :: tables_1
/-- a 'code' word, met by the world's own term for the bytes: nothing is compared byte by byte -/
theorem code_word {y : MethodName} {bytes : ByteArray} {mx : Nat} {rt : Option FieldType} {a : Array Value} {s : State} {m : MethodId} {meth : Method} {c : Code} (h1 : s.methodNamed? y = some m) (h2 : s.vm.method? m = some meth) (h3 : meth.code = some c) (h4 : c.code = bytes)
    (h5 : (c.maxLocals == mx && c.exceptionTable.isEmpty && decide (c.maxStack ≤ mostOperands) && decide (meth.sig.returnType = rt) && !meth.locks && decide (parseMethodDescriptor y.desc = some meth.sig)) = true) : (Jvm.Cond.code y bytes mx rt).before a s = true := by
  simp only [Bool.and_eq_true, beq_iff_eq, Bool.not_eq_true', decide_eq_true_eq] at h5
  obtain ⟨⟨⟨⟨⟨g1, g2⟩, g3⟩, g4⟩, g5⟩, g6⟩ := h5
  simp [Cond.before, Cond.holds, Cond.value, h1, h2, h3, h4, g1, g2, g3, g4, g5, g6]
def isCode : Jvm.Cond → Bool
  | .code _ _ _ _ => true
  | _ => false
theorem all_split {L : List Jvm.Cond} {P : Jvm.Cond → Bool} (h1 : L.all (fun c => isCode c || P c) = true) (h2 : ∀ c ∈ L.filter isCode, P c = true) : L.all P = true := by
  refine List.all_eq_true.mpr fun c hc => ?_
  have h := List.all_eq_true.mp h1 c hc
  rcases Bool.eq_false_or_eq_true (isCode c) with hi | hi
  · exact h2 c (List.mem_filter.mpr ⟨hc, hi⟩)
  · simpa [hi] using h
set_option maxRecDepth 65536 in
theorem w_c0 : (Jvm.Cond.code x code maxLocals ret).before args0 about1 = true := code_word (m := ⟨1, 1⟩) (meth := k1m1) (c := k1c1) (by decide +kernel) rfl rfl rfl (by decide +kernel)
set_option maxRecDepth 65536 in
theorem w_c1 : (Jvm.Cond.code ({ cls := "java/lang/Math", name := "min", desc := "(JJ)J" } : Jvm.MethodName) jdk_29_method_70_code (4 : Nat) (Option.some Jvm.ClassFile.FieldType.long)).before args0 about1 = true := code_word (m := ⟨2, 1⟩) (meth := k2m1) (c := k2c1) (by decide +kernel) rfl rfl rfl (by decide +kernel)
set_option maxRecDepth 65536 in
theorem w_c2 : (Jvm.Cond.code ({ cls := "com/example/stablemate/stablemate/SliceHeaps", name := "replaceLargest", desc := "([JIIJ)V" } : Jvm.MethodName) prog_40_method_4_code (7 : Nat) (Option.none : Option Jvm.ClassFile.FieldType)).before args0 about1 = true := code_word (m := ⟨3, 1⟩) (meth := k3m1) (c := k3c1) (by decide +kernel) rfl rfl rfl (by decide +kernel)
set_option maxRecDepth 65536 in
theorem w_c3 : (Jvm.Cond.code ({ cls := "com/example/stablemate/stablemate/SliceHeapsReplaceLargestPinLaw", name := "ordered", desc := "([JII)Z" } : Jvm.MethodName) method_3_code (3 : Nat) (Option.some Jvm.ClassFile.FieldType.boolean)).before args0 about1 = true := code_word (m := ⟨1, 2⟩) (meth := k1m2) (c := k1c2) (by decide +kernel) rfl rfl rfl (by decide +kernel)
set_option maxRecDepth 65536 in
theorem w_c4 : (Jvm.Cond.code ({ cls := "com/example/stablemate/stablemate/SliceHeapsReplaceLargestPinLaw", name := "sameCount", desc := "([J[JII)Z" } : Jvm.MethodName) method_5_code (4 : Nat) (Option.some Jvm.ClassFile.FieldType.boolean)).before args0 about1 = true := code_word (m := ⟨1, 4⟩) (meth := k1m4) (c := k1c4) (by decide +kernel) rfl rfl rfl (by decide +kernel)
set_option maxRecDepth 65536 in
theorem w_c5 : (Jvm.Cond.code ({ cls := "com/example/stablemate/stablemate/SliceHeapsReplaceLargestPinLaw", name := "count", desc := "([JIJ)I" } : Jvm.MethodName) method_4_code (5 : Nat) (Option.some Jvm.ClassFile.FieldType.int)).before args0 about1 = true := code_word (m := ⟨1, 3⟩) (meth := k1m3) (c := k1c3) (by decide +kernel) rfl rfl rfl (by decide +kernel)
set_option maxRecDepth 65536 in
theorem w_c6 : (Jvm.Cond.code ({ cls := "com/example/stablemate/stablemate/SliceHeapsReplaceLargestPinLaw", name := "kept", desc := "([JIIIJ)Z" } : Jvm.MethodName) method_6_code (6 : Nat) (Option.some Jvm.ClassFile.FieldType.boolean)).before args0 about1 = true := code_word (m := ⟨1, 5⟩) (meth := k1m5) (c := k1c5) (by decide +kernel) rfl rfl rfl (by decide +kernel)
def codes1 : List Jvm.Cond := [Jvm.Cond.code x code maxLocals ret, Jvm.Cond.code ({ cls := "java/lang/Math", name := "min", desc := "(JJ)J" } : Jvm.MethodName) jdk_29_method_70_code (4 : Nat) (Option.some Jvm.ClassFile.FieldType.long), Jvm.Cond.code ({ cls := "com/example/stablemate/stablemate/SliceHeaps", name := "replaceLargest", desc := "([JIIJ)V" } : Jvm.MethodName) prog_40_method_4_code (7 : Nat) (Option.none : Option Jvm.ClassFile.FieldType), Jvm.Cond.code ({ cls := "com/example/stablemate/stablemate/SliceHeapsReplaceLargestPinLaw", name := "ordered", desc := "([JII)Z" } : Jvm.MethodName) method_3_code (3 : Nat) (Option.some Jvm.ClassFile.FieldType.boolean), Jvm.Cond.code ({ cls := "com/example/stablemate/stablemate/SliceHeapsReplaceLargestPinLaw", name := "sameCount", desc := "([J[JII)Z" } : Jvm.MethodName) method_5_code (4 : Nat) (Option.some Jvm.ClassFile.FieldType.boolean), Jvm.Cond.code ({ cls := "com/example/stablemate/stablemate/SliceHeapsReplaceLargestPinLaw", name := "count", desc := "([JIJ)I" } : Jvm.MethodName) method_4_code (5 : Nat) (Option.some Jvm.ClassFile.FieldType.int), Jvm.Cond.code ({ cls := "com/example/stablemate/stablemate/SliceHeapsReplaceLargestPinLaw", name := "kept", desc := "([JIIIJ)Z" } : Jvm.MethodName) method_6_code (6 : Nat) (Option.some Jvm.ClassFile.FieldType.boolean)]
set_option maxRecDepth 65536 in
theorem codes_eq : words1.filter isCode = codes1 := rfl
theorem w_codes : ∀ c ∈ words1.filter isCode, c.before args0 about1 = true := by
  rw [codes_eq]
  intro c hc
  simp only [codes1, List.mem_cons, List.not_mem_nil, or_false] at hc
  rcases hc with rfl | rfl | rfl | rfl | rfl | rfl | rfl
  · exact w_c0
  · exact w_c1
  · exact w_c2
  · exact w_c3
  · exact w_c4
  · exact w_c5
  · exact w_c6
set_option maxRecDepth 65536 in
theorem w_t1 : words1.all (fun c => isCode c || c.before args0 about1) = true := by decide +kernel
theorem w_tables : (allAtoms (Jvm.Cond.code x code maxLocals ret :: tables_1)).before args0 about1 = true := by
  rw [allAtoms_all]
  show words1.all (fun c => c.before args0 about1) = true
  refine all_split ?_ w_codes
  rw [w_t1]
set_option maxRecDepth 65536 in
theorem w_case : (Jvm.Cond.and given_1 narrow_1).before args0 about1 = true := by decide +kernel
theorem w_applies : (headSpec (Jvm.Cond.code x code maxLocals ret :: tables_1) room_1).applies x e0.platform about1 = true :=
  (Spec.applies_iff w_frames).mpr ⟨w_running, w_runnable, w_alone, w_named, w_hears, w_ripe, w_room, w_tables⟩
theorem atStart : AtStart classFile x code maxLocals ret World_1 tables_1 room_1 Calls_1 rest_1 Pre_1 launch0 p0 e0 about1 theMethod args0 below0 :=
  ⟨lists_1, trivial, launch0.admits_env _ _ _, launch0.least_env, fairChoices_fair.cas, fairChoices_fair.clock, w_frames, w_args, w_heap, w_applies, trivial, trivial, w_case⟩
end start1
theorem witness_1 : WitnessClaimed_1 := ⟨start1.p0, start1.e0, start1.about1, start1.theMethod, start1.args0, start1.below0, start1.atStart⟩
end Jvm.Pilot.@@N@@

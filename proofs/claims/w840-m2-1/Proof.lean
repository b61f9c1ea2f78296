import JvmDerived
import JvmDerived.Pilot.@@N@@Statement
import JvmDerived.Pilot.@@N@@Code
set_option linter.unusedVariables false
set_option linter.unusedSimpArgs false
namespace Jvm.Pilot.@@N@@
open Jvm Jvm.ClassFile Sem Op Lib Jvm.Free Jvm.Stand Jvm.LawKit Jvm.RoadKit Bundle Jvm.Pilot.@@N@@.Jvm.D
section OwnKit
def own_Cx (p : Program) (s : State) (m : MethodId) (meth : Method) (c : Code) (Z : State) (n0 : Nat) (own nm : String) (bytes : ByteArray) (ml : Nat) (ret : Option FieldType) : Prop :=
  p.tables.exec = Jvm.exec ∧ c.code = bytes ∧ c.maxLocals = ml ∧ s.vm.findClass own = some m.cls ∧ meth.name = nm ∧ meth.sig.returnType = ret ∧ meth.locks = false ∧ Z.Warmed39 s.vm ∧ n0 ≤ s.heap.size
def own_St (p : Program) (l : Launch) (e : Env) (R : Room) (s : State) (m : MethodId) (args : Array Value) (below : List Frame) (meth : Method) (c : Code) (n0 : Nat) (T : State) (h : Heap) (cells slots : Nat) : Prop :=
  ∃ locs, Stand p l e R s m args below meth c T locs cells slots ∧ Fr n0 locs ∧ T.heap = h
def own_Go (p : Program) (e : Env) (below : List Frame) (n0 : Nat) (F : Option Value → State → List Loc → Prop) (S : State) : Prop :=
  ∃ t v L, Steps p.tables e below S t ∧ t.status = .running ∧ Ended t below (.returned v) ∧ Fr n0 L ∧ F v t L
def own_Fin (R : Room) (s : State) (Q : Option Value → Heap → Prop) : Option Value → State → List Loc → Prop := fun v t L => Q v t.heap ∧ FrameEnd s (.returned v) t L R.cells R.slots
abbrev own_Met (l : Launch) (Z : State) (n0 : Nat) (y : MethodName) (bytes : ByteArray) (ml : Nat) (ret : Option FieldType) (ws : List Jvm.Cond) (rm : Room) (as' : Array Value) (h0 : Heap) (Q : Option Value → Heap → Prop) : Prop :=
  MetFree l y (head1 (Jvm.Cond.code y bytes ml ret :: ws) rm) (fun a U => a = as' ∧ Z.Warmed39 U.vm ∧ U.heap = h0) (fun _ _ _ _ _ => True) (fun _ U o U' => ∃ v L, o = .returned v ∧ (Q v U'.heap ∧ Fr n0 L) ∧ FrameEnd U o U' L rm.cells rm.slots)
variable {p : Program} {l : Launch} {e : Env} {R : Room} {s : State} {m : MethodId} {args : Array Value} {below : List Frame} {meth : Method} {c : Code} {T : State} {cells slots : Nat} {Z : State} {a0 : Array Value} {h h' : Heap} {n0 : Nat} {own nm : String} {bytes : ByteArray} {ml : Nat} {ret : Option FieldType} {Q : Option Value → Heap → Prop} {F : Option Value → State → List Loc → Prop} {pc pc' pcT : Nat} {L L' : Array Slot} {S : List Value}
theorem own_st {A B : State} (k : ∀ t, Steps p.tables e below B t → Steps p.tables e below A t) (g : own_Go p e below n0 F B) : own_Go p e below n0 F A := by
  obtain ⟨t, v, L, h1, r⟩ := g; exact ⟨t, v, L, k t h1, r⟩
theorem own_big (C : own_Cx p s m meth c Z n0 own nm bytes ml ret) (X : own_St p l e R s m args below meth c n0 T h cells slots) : n0 ≤ h.size := by
  obtain ⟨locs, X, -, rfl⟩ := X; exact Nat.le_trans C.2.2.2.2.2.2.2.2 X.same.2.1
/-- a body's contract out of its run -/
theorem own_body {y : MethodName} {ws : List Jvm.Cond} {rm : Room} {as' : Array Value} {h0 : Heap} {Ls : Array Slot} (hpl : plainFor y = true) (hn : n0 ≤ h0.size) (hef : ∀ m, entryFrame m as' ml = mkF m 0 Ls [])
    (run : ∀ p e s m below meth c T, own_Cx p s m meth c Z n0 y.cls y.name bytes ml ret → own_St p l e rm s m as' below meth c n0 T h0 0 0 → own_Go p e below n0 (own_Fin rm s Q) (T.setTop (mkF m 0 Ls []))) :
    own_Met l Z n0 y bytes ml ret ws rm as' h0 Q := by
  refine MetFree.of_bodySF hpl hisR ?_
  intro p e s m args below meth c s₁ Bd hml0 hP hK
  obtain ⟨rfl, hZ, hh⟩ := hP
  have X0 : Stand p l e rm s m args below meth c s₁ [] 0 0 := Stand.of_body Bd
  have e0 : s₁.heap = h0 := by rw [← hh, Bd.state]; rfl
  obtain ⟨t, v, L, g1, g2, g3, g5, g4, g6⟩ := run p e s m below meth c s₁ ⟨Bd.exec, Bd.bytes, hml0, findClass_of_methodNamed Bd.named, (name_of_methodNamed Bd.named Bd.method).1, Bd.returns, Bd.notSynchronized, hZ, by rw [hh]; exact hn⟩ ⟨[], X0, Fr.nil n0, e0⟩
  exact ⟨t, .returned v, castTop (hef m) g1, g2, g3, v, L, rfl, ⟨g4, g5⟩, g6⟩

theorem own_iload (C : own_Cx p s m meth c Z n0 own nm bytes ml ret) (X : own_St p l e R s m args below meth c n0 T h cells slots) {k : Nat} {v : Int32} (hd : decode bytes pc = .ok (.iload k, 2)) (hl : L[k]? = some (.val (.int v))) (hp : pc + 2 = pc') (g : own_Go p e below n0 F (T.setTop (mkF m pc' L (.int v :: S)))) : own_Go p e below n0 F (T.setTop (mkF m pc L (S))) := by
  obtain ⟨locs, X, -, -⟩ := X; subst hp
  exact own_st (fun t k => XS.iload X.here C.1 rfl (hb C.2.1 hd) hl k) g
theorem own_iloadN (C : own_Cx p s m meth c Z n0 own nm bytes ml ret) (X : own_St p l e R s m args below meth c n0 T h cells slots) {k : Fin 4} {v : Int32} (hd : decode bytes pc = .ok (.iload_n k, 1)) (hl : L[k.val]? = some (.val (.int v))) (hp : pc + 1 = pc') (g : own_Go p e below n0 F (T.setTop (mkF m pc' L (.int v :: S)))) : own_Go p e below n0 F (T.setTop (mkF m pc L (S))) := by
  obtain ⟨locs, X, -, -⟩ := X; subst hp
  exact own_st (fun t k => XS.iloadN X.here C.1 rfl (hb C.2.1 hd) hl k) g
theorem own_istore (C : own_Cx p s m meth c Z n0 own nm bytes ml ret) (X : own_St p l e R s m args below meth c n0 T h cells slots) {k : Nat} {v : Int32} (hd : decode bytes pc = .ok (.istore k, 2)) (hl : storeLocals L k (.int v) = some L') (hp : pc + 2 = pc') (g : own_Go p e below n0 F (T.setTop (mkF m pc' L' (S)))) : own_Go p e below n0 F (T.setTop (mkF m pc L (.int v :: S))) := by
  obtain ⟨locs, X, -, -⟩ := X; subst hp
  exact own_st (fun t k => XS.istore X.here C.1 rfl (hb C.2.1 hd) rfl hl k) g
theorem own_istoreN (C : own_Cx p s m meth c Z n0 own nm bytes ml ret) (X : own_St p l e R s m args below meth c n0 T h cells slots) {k : Fin 4} {v : Int32} (hd : decode bytes pc = .ok (.istore_n k, 1)) (hl : storeLocals L k.val (.int v) = some L') (hp : pc + 1 = pc') (g : own_Go p e below n0 F (T.setTop (mkF m pc' L' (S)))) : own_Go p e below n0 F (T.setTop (mkF m pc L (.int v :: S))) := by
  obtain ⟨locs, X, -, -⟩ := X; subst hp
  exact own_st (fun t k => XS.istoreN X.here C.1 rfl (hb C.2.1 hd) rfl hl k) g
theorem own_lload (C : own_Cx p s m meth c Z n0 own nm bytes ml ret) (X : own_St p l e R s m args below meth c n0 T h cells slots) {k : Nat} {v : Int64} (hd : decode bytes pc = .ok (.lload k, 2)) (hl : L[k]? = some (.val (.long v))) (hp : pc + 2 = pc') (g : own_Go p e below n0 F (T.setTop (mkF m pc' L (.long v :: S)))) : own_Go p e below n0 F (T.setTop (mkF m pc L (S))) := by
  obtain ⟨locs, X, -, -⟩ := X; subst hp
  exact own_st (fun t k => XS.lload X.here C.1 rfl (hb C.2.1 hd) hl k) g
theorem own_lloadN (C : own_Cx p s m meth c Z n0 own nm bytes ml ret) (X : own_St p l e R s m args below meth c n0 T h cells slots) {k : Fin 4} {v : Int64} (hd : decode bytes pc = .ok (.lload_n k, 1)) (hl : L[k.val]? = some (.val (.long v))) (hp : pc + 1 = pc') (g : own_Go p e below n0 F (T.setTop (mkF m pc' L (.long v :: S)))) : own_Go p e below n0 F (T.setTop (mkF m pc L (S))) := by
  obtain ⟨locs, X, -, -⟩ := X; subst hp
  exact own_st (fun t k => XS.lloadN X.here C.1 rfl (hb C.2.1 hd) hl k) g
theorem own_lstore (C : own_Cx p s m meth c Z n0 own nm bytes ml ret) (X : own_St p l e R s m args below meth c n0 T h cells slots) {k : Nat} {v : Int64} (hd : decode bytes pc = .ok (.lstore k, 2)) (hl : storeLocals L k (.long v) = some L') (hp : pc + 2 = pc') (g : own_Go p e below n0 F (T.setTop (mkF m pc' L' (S)))) : own_Go p e below n0 F (T.setTop (mkF m pc L (.long v :: S))) := by
  obtain ⟨locs, X, -, -⟩ := X; subst hp
  exact own_st (fun t k => XS.lstore X.here C.1 rfl (hb C.2.1 hd) rfl hl k) g
theorem own_lstoreN (C : own_Cx p s m meth c Z n0 own nm bytes ml ret) (X : own_St p l e R s m args below meth c n0 T h cells slots) {k : Fin 4} {v : Int64} (hd : decode bytes pc = .ok (.lstore_n k, 1)) (hl : storeLocals L k.val (.long v) = some L') (hp : pc + 1 = pc') (g : own_Go p e below n0 F (T.setTop (mkF m pc' L' (S)))) : own_Go p e below n0 F (T.setTop (mkF m pc L (.long v :: S))) := by
  obtain ⟨locs, X, -, -⟩ := X; subst hp
  exact own_st (fun t k => XS.lstoreN X.here C.1 rfl (hb C.2.1 hd) rfl hl k) g
theorem own_aload (C : own_Cx p s m meth c Z n0 own nm bytes ml ret) (X : own_St p l e R s m args below meth c n0 T h cells slots) {k : Nat} {v : Value} (hd : decode bytes pc = .ok (.aload k, 2)) (hl : L[k]? = some (.val v)) (hv : v.isRef = true) (hp : pc + 2 = pc') (g : own_Go p e below n0 F (T.setTop (mkF m pc' L (v :: S)))) : own_Go p e below n0 F (T.setTop (mkF m pc L (S))) := by
  obtain ⟨locs, X, -, -⟩ := X; subst hp
  exact own_st (fun t k => XS.aload X.here C.1 rfl (hb C.2.1 hd) hl hv k) g
theorem own_aloadN (C : own_Cx p s m meth c Z n0 own nm bytes ml ret) (X : own_St p l e R s m args below meth c n0 T h cells slots) {k : Fin 4} {v : Value} (hd : decode bytes pc = .ok (.aload_n k, 1)) (hl : L[k.val]? = some (.val v)) (hv : v.isRef = true) (hp : pc + 1 = pc') (g : own_Go p e below n0 F (T.setTop (mkF m pc' L (v :: S)))) : own_Go p e below n0 F (T.setTop (mkF m pc L (S))) := by
  obtain ⟨locs, X, -, -⟩ := X; subst hp
  exact own_st (fun t k => XS.aloadN X.here C.1 rfl (hb C.2.1 hd) hl hv k) g
theorem own_astore (C : own_Cx p s m meth c Z n0 own nm bytes ml ret) (X : own_St p l e R s m args below meth c n0 T h cells slots) {k : Nat} {v : Value} (hd : decode bytes pc = .ok (.astore k, 2)) (hv : v.isRef = true) (hl : storeLocals L k v = some L') (hp : pc + 2 = pc') (g : own_Go p e below n0 F (T.setTop (mkF m pc' L' (S)))) : own_Go p e below n0 F (T.setTop (mkF m pc L (v :: S))) := by
  obtain ⟨locs, X, -, -⟩ := X; subst hp
  exact own_st (fun t k => XS.astore X.here C.1 rfl (hb C.2.1 hd) rfl hv hl k) g
theorem own_astoreN (C : own_Cx p s m meth c Z n0 own nm bytes ml ret) (X : own_St p l e R s m args below meth c n0 T h cells slots) {k : Fin 4} {v : Value} (hd : decode bytes pc = .ok (.astore_n k, 1)) (hv : v.isRef = true) (hl : storeLocals L k.val v = some L') (hp : pc + 1 = pc') (g : own_Go p e below n0 F (T.setTop (mkF m pc' L' (S)))) : own_Go p e below n0 F (T.setTop (mkF m pc L (v :: S))) := by
  obtain ⟨locs, X, -, -⟩ := X; subst hp
  exact own_st (fun t k => XS.astoreN X.here C.1 rfl (hb C.2.1 hd) rfl hv hl k) g
theorem own_iconst (C : own_Cx p s m meth c Z n0 own nm bytes ml ret) (X : own_St p l e R s m args below meth c n0 T h cells slots) {i : Int} {v : Int32} (hd : decode bytes pc = .ok (.iconst i, 1)) (hv : Int32.ofInt i = v) (hp : pc + 1 = pc') (g : own_Go p e below n0 F (T.setTop (mkF m pc' L (.int v :: S)))) : own_Go p e below n0 F (T.setTop (mkF m pc L (S))) := by
  obtain ⟨locs, X, -, -⟩ := X; subst hp hv
  exact own_st (fun t k => XS.iconst X.here C.1 rfl (hb C.2.1 hd) k) g
theorem own_bipush (C : own_Cx p s m meth c Z n0 own nm bytes ml ret) (X : own_St p l e R s m args below meth c n0 T h cells slots) {i : Int} {v : Int32} (hd : decode bytes pc = .ok (.bipush i, 2)) (hv : (Int8.ofInt i).toInt32 = v) (hp : pc + 2 = pc') (g : own_Go p e below n0 F (T.setTop (mkF m pc' L (.int v :: S)))) : own_Go p e below n0 F (T.setTop (mkF m pc L (S))) := by
  obtain ⟨locs, X, -, -⟩ := X; subst hp hv
  exact own_st (fun t k => XS.bipush X.here C.1 rfl (hb C.2.1 hd) k) g
theorem own_sipush (C : own_Cx p s m meth c Z n0 own nm bytes ml ret) (X : own_St p l e R s m args below meth c n0 T h cells slots) {i : Int} {v : Int32} (hd : decode bytes pc = .ok (.sipush i, 3)) (hv : (Int16.ofInt i).toInt32 = v) (hp : pc + 3 = pc') (g : own_Go p e below n0 F (T.setTop (mkF m pc' L (.int v :: S)))) : own_Go p e below n0 F (T.setTop (mkF m pc L (S))) := by
  obtain ⟨locs, X, -, -⟩ := X; subst hp hv
  exact own_st (fun t k => XS.sipush X.here C.1 rfl (hb C.2.1 hd) k) g
theorem own_lconst (C : own_Cx p s m meth c Z n0 own nm bytes ml ret) (X : own_St p l e R s m args below meth c n0 T h cells slots) {i : Fin 2} {v : Int64} (hd : decode bytes pc = .ok (.lconst i, 1)) (hv : Int64.ofNat i = v) (hp : pc + 1 = pc') (g : own_Go p e below n0 F (T.setTop (mkF m pc' L (.long v :: S)))) : own_Go p e below n0 F (T.setTop (mkF m pc L (S))) := by
  obtain ⟨locs, X, -, -⟩ := X; subst hp hv
  exact own_st (fun t k => XS.lconst X.here C.1 rfl (hb C.2.1 hd) k) g
theorem own_aconst_null (C : own_Cx p s m meth c Z n0 own nm bytes ml ret) (X : own_St p l e R s m args below meth c n0 T h cells slots)  (hd : decode bytes pc = .ok (.aconst_null, 1))  (hp : pc + 1 = pc') (g : own_Go p e below n0 F (T.setTop (mkF m pc' L (.null :: S)))) : own_Go p e below n0 F (T.setTop (mkF m pc L (S))) := by
  obtain ⟨locs, X, -, -⟩ := X; subst hp
  exact own_st (fun t k => XS.aconstNull X.here C.1 rfl (hb C.2.1 hd) k) g
theorem own_iadd (C : own_Cx p s m meth c Z n0 own nm bytes ml ret) (X : own_St p l e R s m args below meth c n0 T h cells slots) {x y z : Int32} (hd : decode bytes pc = .ok (.iadd, 1)) (hz : x + y = z) (hp : pc + 1 = pc') (g : own_Go p e below n0 F (T.setTop (mkF m pc' L (.int z :: S)))) : own_Go p e below n0 F (T.setTop (mkF m pc L (.int y :: .int x :: S))) := by
  obtain ⟨locs, X, -, -⟩ := X; subst hp hz
  exact own_st (fun t k => XS.iadd X.here C.1 rfl (hb C.2.1 hd) rfl k) g
theorem own_ladd (C : own_Cx p s m meth c Z n0 own nm bytes ml ret) (X : own_St p l e R s m args below meth c n0 T h cells slots) {x y z : Int64} (hd : decode bytes pc = .ok (.ladd, 1)) (hz : x + y = z) (hp : pc + 1 = pc') (g : own_Go p e below n0 F (T.setTop (mkF m pc' L (.long z :: S)))) : own_Go p e below n0 F (T.setTop (mkF m pc L (.long y :: .long x :: S))) := by
  obtain ⟨locs, X, -, -⟩ := X; subst hp hz
  exact own_st (fun t k => XS.ladd X.here C.1 rfl (hb C.2.1 hd) rfl k) g
theorem own_isub (C : own_Cx p s m meth c Z n0 own nm bytes ml ret) (X : own_St p l e R s m args below meth c n0 T h cells slots) {x y z : Int32} (hd : decode bytes pc = .ok (.isub, 1)) (hz : x - y = z) (hp : pc + 1 = pc') (g : own_Go p e below n0 F (T.setTop (mkF m pc' L (.int z :: S)))) : own_Go p e below n0 F (T.setTop (mkF m pc L (.int y :: .int x :: S))) := by
  obtain ⟨locs, X, -, -⟩ := X; subst hp hz
  exact own_st (fun t k => XS.isub X.here C.1 rfl (hb C.2.1 hd) rfl k) g
theorem own_lsub (C : own_Cx p s m meth c Z n0 own nm bytes ml ret) (X : own_St p l e R s m args below meth c n0 T h cells slots) {x y z : Int64} (hd : decode bytes pc = .ok (.lsub, 1)) (hz : x - y = z) (hp : pc + 1 = pc') (g : own_Go p e below n0 F (T.setTop (mkF m pc' L (.long z :: S)))) : own_Go p e below n0 F (T.setTop (mkF m pc L (.long y :: .long x :: S))) := by
  obtain ⟨locs, X, -, -⟩ := X; subst hp hz
  exact own_st (fun t k => XS.lsub X.here C.1 rfl (hb C.2.1 hd) rfl k) g
theorem own_imul (C : own_Cx p s m meth c Z n0 own nm bytes ml ret) (X : own_St p l e R s m args below meth c n0 T h cells slots) {x y z : Int32} (hd : decode bytes pc = .ok (.imul, 1)) (hz : x * y = z) (hp : pc + 1 = pc') (g : own_Go p e below n0 F (T.setTop (mkF m pc' L (.int z :: S)))) : own_Go p e below n0 F (T.setTop (mkF m pc L (.int y :: .int x :: S))) := by
  obtain ⟨locs, X, -, -⟩ := X; subst hp hz
  exact own_st (fun t k => XS.imul X.here C.1 rfl (hb C.2.1 hd) rfl k) g
theorem own_lmul (C : own_Cx p s m meth c Z n0 own nm bytes ml ret) (X : own_St p l e R s m args below meth c n0 T h cells slots) {x y z : Int64} (hd : decode bytes pc = .ok (.lmul, 1)) (hz : x * y = z) (hp : pc + 1 = pc') (g : own_Go p e below n0 F (T.setTop (mkF m pc' L (.long z :: S)))) : own_Go p e below n0 F (T.setTop (mkF m pc L (.long y :: .long x :: S))) := by
  obtain ⟨locs, X, -, -⟩ := X; subst hp hz
  exact own_st (fun t k => XS.lmul X.here C.1 rfl (hb C.2.1 hd) rfl k) g
theorem own_iand (C : own_Cx p s m meth c Z n0 own nm bytes ml ret) (X : own_St p l e R s m args below meth c n0 T h cells slots) {x y z : Int32} (hd : decode bytes pc = .ok (.iand, 1)) (hz : x &&& y = z) (hp : pc + 1 = pc') (g : own_Go p e below n0 F (T.setTop (mkF m pc' L (.int z :: S)))) : own_Go p e below n0 F (T.setTop (mkF m pc L (.int y :: .int x :: S))) := by
  obtain ⟨locs, X, -, -⟩ := X; subst hp hz
  exact own_st (fun t k => XS.iand X.here C.1 rfl (hb C.2.1 hd) rfl k) g
theorem own_land (C : own_Cx p s m meth c Z n0 own nm bytes ml ret) (X : own_St p l e R s m args below meth c n0 T h cells slots) {x y z : Int64} (hd : decode bytes pc = .ok (.land, 1)) (hz : x &&& y = z) (hp : pc + 1 = pc') (g : own_Go p e below n0 F (T.setTop (mkF m pc' L (.long z :: S)))) : own_Go p e below n0 F (T.setTop (mkF m pc L (.long y :: .long x :: S))) := by
  obtain ⟨locs, X, -, -⟩ := X; subst hp hz
  exact own_st (fun t k => XS.land X.here C.1 rfl (hb C.2.1 hd) rfl k) g
theorem own_ior (C : own_Cx p s m meth c Z n0 own nm bytes ml ret) (X : own_St p l e R s m args below meth c n0 T h cells slots) {x y z : Int32} (hd : decode bytes pc = .ok (.ior, 1)) (hz : x ||| y = z) (hp : pc + 1 = pc') (g : own_Go p e below n0 F (T.setTop (mkF m pc' L (.int z :: S)))) : own_Go p e below n0 F (T.setTop (mkF m pc L (.int y :: .int x :: S))) := by
  obtain ⟨locs, X, -, -⟩ := X; subst hp hz
  exact own_st (fun t k => XS.ior X.here C.1 rfl (hb C.2.1 hd) rfl k) g
theorem own_lor (C : own_Cx p s m meth c Z n0 own nm bytes ml ret) (X : own_St p l e R s m args below meth c n0 T h cells slots) {x y z : Int64} (hd : decode bytes pc = .ok (.lor, 1)) (hz : x ||| y = z) (hp : pc + 1 = pc') (g : own_Go p e below n0 F (T.setTop (mkF m pc' L (.long z :: S)))) : own_Go p e below n0 F (T.setTop (mkF m pc L (.long y :: .long x :: S))) := by
  obtain ⟨locs, X, -, -⟩ := X; subst hp hz
  exact own_st (fun t k => XS.lor X.here C.1 rfl (hb C.2.1 hd) rfl k) g
theorem own_ixor (C : own_Cx p s m meth c Z n0 own nm bytes ml ret) (X : own_St p l e R s m args below meth c n0 T h cells slots) {x y z : Int32} (hd : decode bytes pc = .ok (.ixor, 1)) (hz : x ^^^ y = z) (hp : pc + 1 = pc') (g : own_Go p e below n0 F (T.setTop (mkF m pc' L (.int z :: S)))) : own_Go p e below n0 F (T.setTop (mkF m pc L (.int y :: .int x :: S))) := by
  obtain ⟨locs, X, -, -⟩ := X; subst hp hz
  exact own_st (fun t k => XS.ixor X.here C.1 rfl (hb C.2.1 hd) rfl k) g
theorem own_lxor (C : own_Cx p s m meth c Z n0 own nm bytes ml ret) (X : own_St p l e R s m args below meth c n0 T h cells slots) {x y z : Int64} (hd : decode bytes pc = .ok (.lxor, 1)) (hz : x ^^^ y = z) (hp : pc + 1 = pc') (g : own_Go p e below n0 F (T.setTop (mkF m pc' L (.long z :: S)))) : own_Go p e below n0 F (T.setTop (mkF m pc L (.long y :: .long x :: S))) := by
  obtain ⟨locs, X, -, -⟩ := X; subst hp hz
  exact own_st (fun t k => XS.lxor X.here C.1 rfl (hb C.2.1 hd) rfl k) g
theorem own_ishl (C : own_Cx p s m meth c Z n0 own nm bytes ml ret) (X : own_St p l e R s m args below meth c n0 T h cells slots) {x y z : Int32} (hd : decode bytes pc = .ok (.ishl, 1)) (hz : x <<< (y &&& 31) = z) (hp : pc + 1 = pc') (g : own_Go p e below n0 F (T.setTop (mkF m pc' L (.int z :: S)))) : own_Go p e below n0 F (T.setTop (mkF m pc L (.int y :: .int x :: S))) := by
  obtain ⟨locs, X, -, -⟩ := X; subst hp hz
  exact own_st (fun t k => XS.ishl X.here C.1 rfl (hb C.2.1 hd) rfl k) g
theorem own_ishr (C : own_Cx p s m meth c Z n0 own nm bytes ml ret) (X : own_St p l e R s m args below meth c n0 T h cells slots) {x y z : Int32} (hd : decode bytes pc = .ok (.ishr, 1)) (hz : x >>> (y &&& 31) = z) (hp : pc + 1 = pc') (g : own_Go p e below n0 F (T.setTop (mkF m pc' L (.int z :: S)))) : own_Go p e below n0 F (T.setTop (mkF m pc L (.int y :: .int x :: S))) := by
  obtain ⟨locs, X, -, -⟩ := X; subst hp hz
  exact own_st (fun t k => XS.ishr X.here C.1 rfl (hb C.2.1 hd) rfl k) g
theorem own_iushr (C : own_Cx p s m meth c Z n0 own nm bytes ml ret) (X : own_St p l e R s m args below meth c n0 T h cells slots) {x y z : Int32} (hd : decode bytes pc = .ok (.iushr, 1)) (hz : (x.toUInt32 >>> (y &&& 31).toUInt32).toInt32 = z) (hp : pc + 1 = pc') (g : own_Go p e below n0 F (T.setTop (mkF m pc' L (.int z :: S)))) : own_Go p e below n0 F (T.setTop (mkF m pc L (.int y :: .int x :: S))) := by
  obtain ⟨locs, X, -, -⟩ := X; subst hp hz
  exact own_st (fun t k => XS.iushr X.here C.1 rfl (hb C.2.1 hd) rfl k) g
theorem own_lshl (C : own_Cx p s m meth c Z n0 own nm bytes ml ret) (X : own_St p l e R s m args below meth c n0 T h cells slots) {x z : Int64} {y : Int32} (hd : decode bytes pc = .ok (.lshl, 1)) (hz : x <<< (y &&& 0x3f).toInt64 = z) (hp : pc + 1 = pc') (g : own_Go p e below n0 F (T.setTop (mkF m pc' L (.long z :: S)))) : own_Go p e below n0 F (T.setTop (mkF m pc L (.int y :: .long x :: S))) := by
  obtain ⟨locs, X, -, -⟩ := X; subst hp hz
  exact own_st (fun t k => XS.lshl X.here C.1 rfl (hb C.2.1 hd) rfl k) g
theorem own_lshr (C : own_Cx p s m meth c Z n0 own nm bytes ml ret) (X : own_St p l e R s m args below meth c n0 T h cells slots) {x z : Int64} {y : Int32} (hd : decode bytes pc = .ok (.lshr, 1)) (hz : x >>> (y &&& 0x3f).toInt64 = z) (hp : pc + 1 = pc') (g : own_Go p e below n0 F (T.setTop (mkF m pc' L (.long z :: S)))) : own_Go p e below n0 F (T.setTop (mkF m pc L (.int y :: .long x :: S))) := by
  obtain ⟨locs, X, -, -⟩ := X; subst hp hz
  exact own_st (fun t k => XS.lshr X.here C.1 rfl (hb C.2.1 hd) rfl k) g
theorem own_lushr (C : own_Cx p s m meth c Z n0 own nm bytes ml ret) (X : own_St p l e R s m args below meth c n0 T h cells slots) {x z : Int64} {y : Int32} (hd : decode bytes pc = .ok (.lushr, 1)) (hz : (x.toUInt64 >>> (y &&& 0x3f).toInt64.toUInt64).toInt64 = z) (hp : pc + 1 = pc') (g : own_Go p e below n0 F (T.setTop (mkF m pc' L (.long z :: S)))) : own_Go p e below n0 F (T.setTop (mkF m pc L (.int y :: .long x :: S))) := by
  obtain ⟨locs, X, -, -⟩ := X; subst hp hz
  exact own_st (fun t k => XS.lushr X.here C.1 rfl (hb C.2.1 hd) rfl k) g
theorem own_idiv (C : own_Cx p s m meth c Z n0 own nm bytes ml ret) (X : own_St p l e R s m args below meth c n0 T h cells slots) {x y z : Int32} (hd : decode bytes pc = .ok (.idiv, 1)) (hy : y ≠ 0) (hz : x / y = z) (hp : pc + 1 = pc') (g : own_Go p e below n0 F (T.setTop (mkF m pc' L (.int z :: S)))) : own_Go p e below n0 F (T.setTop (mkF m pc L (.int y :: .int x :: S))) := by
  obtain ⟨locs, X, -, -⟩ := X; subst hp hz
  exact own_st (fun t k => XS.idiv X.here C.1 rfl (hb C.2.1 hd) rfl hy k) g
theorem own_irem (C : own_Cx p s m meth c Z n0 own nm bytes ml ret) (X : own_St p l e R s m args below meth c n0 T h cells slots) {x y z : Int32} (hd : decode bytes pc = .ok (.irem, 1)) (hy : y ≠ 0) (hz : x % y = z) (hp : pc + 1 = pc') (g : own_Go p e below n0 F (T.setTop (mkF m pc' L (.int z :: S)))) : own_Go p e below n0 F (T.setTop (mkF m pc L (.int y :: .int x :: S))) := by
  obtain ⟨locs, X, -, -⟩ := X; subst hp hz
  exact own_st (fun t k => iremM X C.1 rfl (hb C.2.1 hd) rfl hy k) g
theorem own_ldiv (C : own_Cx p s m meth c Z n0 own nm bytes ml ret) (X : own_St p l e R s m args below meth c n0 T h cells slots) {x y z : Int64} (hd : decode bytes pc = .ok (.ldiv, 1)) (hy : y ≠ 0) (hz : x / y = z) (hp : pc + 1 = pc') (g : own_Go p e below n0 F (T.setTop (mkF m pc' L (.long z :: S)))) : own_Go p e below n0 F (T.setTop (mkF m pc L (.long y :: .long x :: S))) := by
  obtain ⟨locs, X, -, -⟩ := X; subst hp hz
  exact own_st (fun t k => XS.ldiv X.here C.1 rfl (hb C.2.1 hd) rfl hy k) g
theorem own_lrem (C : own_Cx p s m meth c Z n0 own nm bytes ml ret) (X : own_St p l e R s m args below meth c n0 T h cells slots) {x y z : Int64} (hd : decode bytes pc = .ok (.lrem, 1)) (hy : y ≠ 0) (hz : x % y = z) (hp : pc + 1 = pc') (g : own_Go p e below n0 F (T.setTop (mkF m pc' L (.long z :: S)))) : own_Go p e below n0 F (T.setTop (mkF m pc L (.long y :: .long x :: S))) := by
  obtain ⟨locs, X, -, -⟩ := X; subst hp hz
  exact own_st (fun t k => XS.lrem X.here C.1 rfl (hb C.2.1 hd) rfl hy (by rw [lrem_mod]; exact k)) g
theorem own_ineg (C : own_Cx p s m meth c Z n0 own nm bytes ml ret) (X : own_St p l e R s m args below meth c n0 T h cells slots) {x : Int32} {z : Int32} (hd : decode bytes pc = .ok (.ineg, 1)) (hz : -x = z) (hp : pc + 1 = pc') (g : own_Go p e below n0 F (T.setTop (mkF m pc' L (.int z :: S)))) : own_Go p e below n0 F (T.setTop (mkF m pc L (.int x :: S))) := by
  obtain ⟨locs, X, -, -⟩ := X; subst hp hz
  exact own_st (fun t k => XS.ineg X.here C.1 rfl (hb C.2.1 hd) rfl k) g
theorem own_lneg (C : own_Cx p s m meth c Z n0 own nm bytes ml ret) (X : own_St p l e R s m args below meth c n0 T h cells slots) {x : Int64} {z : Int64} (hd : decode bytes pc = .ok (.lneg, 1)) (hz : -x = z) (hp : pc + 1 = pc') (g : own_Go p e below n0 F (T.setTop (mkF m pc' L (.long z :: S)))) : own_Go p e below n0 F (T.setTop (mkF m pc L (.long x :: S))) := by
  obtain ⟨locs, X, -, -⟩ := X; subst hp hz
  exact own_st (fun t k => XS.lneg X.here C.1 rfl (hb C.2.1 hd) rfl k) g
theorem own_i2l (C : own_Cx p s m meth c Z n0 own nm bytes ml ret) (X : own_St p l e R s m args below meth c n0 T h cells slots) {x : Int32} {z : Int64} (hd : decode bytes pc = .ok (.i2l, 1)) (hz : x.toInt64 = z) (hp : pc + 1 = pc') (g : own_Go p e below n0 F (T.setTop (mkF m pc' L (.long z :: S)))) : own_Go p e below n0 F (T.setTop (mkF m pc L (.int x :: S))) := by
  obtain ⟨locs, X, -, -⟩ := X; subst hp hz
  exact own_st (fun t k => XS.i2l X.here C.1 rfl (hb C.2.1 hd) rfl k) g
theorem own_l2i (C : own_Cx p s m meth c Z n0 own nm bytes ml ret) (X : own_St p l e R s m args below meth c n0 T h cells slots) {x : Int64} {z : Int32} (hd : decode bytes pc = .ok (.l2i, 1)) (hz : x.toInt32 = z) (hp : pc + 1 = pc') (g : own_Go p e below n0 F (T.setTop (mkF m pc' L (.int z :: S)))) : own_Go p e below n0 F (T.setTop (mkF m pc L (.long x :: S))) := by
  obtain ⟨locs, X, -, -⟩ := X; subst hp hz
  exact own_st (fun t k => XS.l2i X.here C.1 rfl (hb C.2.1 hd) rfl k) g
theorem own_i2b (C : own_Cx p s m meth c Z n0 own nm bytes ml ret) (X : own_St p l e R s m args below meth c n0 T h cells slots) {x : Int32} {z : Int32} (hd : decode bytes pc = .ok (.i2b, 1)) (hz : x.toInt8.toInt32 = z) (hp : pc + 1 = pc') (g : own_Go p e below n0 F (T.setTop (mkF m pc' L (.int z :: S)))) : own_Go p e below n0 F (T.setTop (mkF m pc L (.int x :: S))) := by
  obtain ⟨locs, X, -, -⟩ := X; subst hp hz
  exact own_st (fun t k => XS.i2b X.here C.1 rfl (hb C.2.1 hd) rfl k) g
theorem own_i2c (C : own_Cx p s m meth c Z n0 own nm bytes ml ret) (X : own_St p l e R s m args below meth c n0 T h cells slots) {x : Int32} {z : Int32} (hd : decode bytes pc = .ok (.i2c, 1)) (hz : x.toUInt32.toUInt16.toUInt32.toInt32 = z) (hp : pc + 1 = pc') (g : own_Go p e below n0 F (T.setTop (mkF m pc' L (.int z :: S)))) : own_Go p e below n0 F (T.setTop (mkF m pc L (.int x :: S))) := by
  obtain ⟨locs, X, -, -⟩ := X; subst hp hz
  exact own_st (fun t k => XS.i2c X.here C.1 rfl (hb C.2.1 hd) rfl k) g
theorem own_i2s (C : own_Cx p s m meth c Z n0 own nm bytes ml ret) (X : own_St p l e R s m args below meth c n0 T h cells slots) {x : Int32} {z : Int32} (hd : decode bytes pc = .ok (.i2s, 1)) (hz : x.toInt16.toInt32 = z) (hp : pc + 1 = pc') (g : own_Go p e below n0 F (T.setTop (mkF m pc' L (.int z :: S)))) : own_Go p e below n0 F (T.setTop (mkF m pc L (.int x :: S))) := by
  obtain ⟨locs, X, -, -⟩ := X; subst hp hz
  exact own_st (fun t k => XS.i2s X.here C.1 rfl (hb C.2.1 hd) rfl k) g
theorem own_iinc (C : own_Cx p s m meth c Z n0 own nm bytes ml ret) (X : own_St p l e R s m args below meth c n0 T h cells slots) {k : Nat} {i : Int} {x d z : Int32} (hd : decode bytes pc = .ok (.iinc k i, 3)) (hl : L[k]? = some (.val (.int x))) (hv : Int32.ofInt i = d) (hz : x + d = z) (hl' : storeLocals L k (.int z) = some L') (hp : pc + 3 = pc') (g : own_Go p e below n0 F (T.setTop (mkF m pc' L' (S)))) : own_Go p e below n0 F (T.setTop (mkF m pc L (S))) := by
  obtain ⟨locs, X, -, -⟩ := X; subst hp hv hz
  exact own_st (fun t k => XS.iinc X.here C.1 rfl (hb C.2.1 hd) hl hl' k) g
theorem own_dup (C : own_Cx p s m meth c Z n0 own nm bytes ml ret) (X : own_St p l e R s m args below meth c n0 T h cells slots) {v : Value} (hd : decode bytes pc = .ok (.dup, 1)) (hc : v.category = 1) (hp : pc + 1 = pc') (g : own_Go p e below n0 F (T.setTop (mkF m pc' L (v :: v :: S)))) : own_Go p e below n0 F (T.setTop (mkF m pc L (v :: S))) := by
  obtain ⟨locs, X, -, -⟩ := X; subst hp
  exact own_st (fun t k => XS.dup X.here C.1 rfl (hb C.2.1 hd) rfl hc k) g
theorem own_pop (C : own_Cx p s m meth c Z n0 own nm bytes ml ret) (X : own_St p l e R s m args below meth c n0 T h cells slots) {v : Value} (hd : decode bytes pc = .ok (.pop, 1)) (hc : v.category = 1) (hp : pc + 1 = pc') (g : own_Go p e below n0 F (T.setTop (mkF m pc' L (S)))) : own_Go p e below n0 F (T.setTop (mkF m pc L (v :: S))) := by
  obtain ⟨locs, X, -, -⟩ := X; subst hp
  exact own_st (fun t k => XS.pop X.here C.1 rfl (hb C.2.1 hd) rfl hc k) g
theorem own_dup_x1 (C : own_Cx p s m meth c Z n0 own nm bytes ml ret) (X : own_St p l e R s m args below meth c n0 T h cells slots) {v w : Value} (hd : decode bytes pc = .ok (.dup_x1, 1)) (hc : v.category = 1) (hc' : w.category = 1) (hp : pc + 1 = pc') (g : own_Go p e below n0 F (T.setTop (mkF m pc' L (v :: w :: v :: S)))) : own_Go p e below n0 F (T.setTop (mkF m pc L (v :: w :: S))) := by
  obtain ⟨locs, X, -, -⟩ := X; subst hp
  exact own_st (fun t k => XS.dupX1 X.here C.1 rfl (hb C.2.1 hd) rfl hc hc' k) g
theorem own_dup2 (C : own_Cx p s m meth c Z n0 own nm bytes ml ret) (X : own_St p l e R s m args below meth c n0 T h cells slots) {v w : Value} (hd : decode bytes pc = .ok (.dup2, 1)) (hc : v.category = 1) (hc' : w.category = 1) (hp : pc + 1 = pc') (g : own_Go p e below n0 F (T.setTop (mkF m pc' L (v :: w :: v :: w :: S)))) : own_Go p e below n0 F (T.setTop (mkF m pc L (v :: w :: S))) := by
  obtain ⟨locs, X, -, -⟩ := X; subst hp
  exact own_st (fun t k => XT.dup2 X.here C.1 rfl (hb C.2.1 hd) rfl hc hc' k) g
theorem own_dup2L (C : own_Cx p s m meth c Z n0 own nm bytes ml ret) (X : own_St p l e R s m args below meth c n0 T h cells slots) {v : Int64} (hd : decode bytes pc = .ok (.dup2, 1))  (hp : pc + 1 = pc') (g : own_Go p e below n0 F (T.setTop (mkF m pc' L (.long v :: .long v :: S)))) : own_Go p e below n0 F (T.setTop (mkF m pc L (.long v :: S))) := by
  obtain ⟨locs, X, -, -⟩ := X; subst hp
  exact own_st (fun t k => XT.dup2L X.here C.1 rfl (hb C.2.1 hd) rfl k) g
theorem own_pop2L (C : own_Cx p s m meth c Z n0 own nm bytes ml ret) (X : own_St p l e R s m args below meth c n0 T h cells slots) {v : Int64} (hd : decode bytes pc = .ok (.pop2, 1))  (hp : pc + 1 = pc') (g : own_Go p e below n0 F (T.setTop (mkF m pc' L (S)))) : own_Go p e below n0 F (T.setTop (mkF m pc L (.long v :: S))) := by
  obtain ⟨locs, X, -, -⟩ := X; subst hp
  exact own_st (fun t k => (by jvm_step X.here [X.here.top, C.1, hb C.2.1 hd, Value.category]; exact k)) g
theorem own_lcmp (C : own_Cx p s m meth c Z n0 own nm bytes ml ret) (X : own_St p l e R s m args below meth c n0 T h cells slots) {x y : Int64} {z : Int32} (hd : decode bytes pc = .ok (.lcmp, 1)) (hz : lcmpW x y = z) (hp : pc + 1 = pc') (g : own_Go p e below n0 F (T.setTop (mkF m pc' L (.int z :: S)))) : own_Go p e below n0 F (T.setTop (mkF m pc L (.long y :: .long x :: S))) := by
  obtain ⟨locs, X, -, -⟩ := X; subst hp hz
  exact own_st (fun t k => XS.lcmp X.here C.1 rfl (hb C.2.1 hd) rfl k) g
theorem own_ldcI (C : own_Cx p s m meth c Z n0 own nm bytes ml ret) (X : own_St p l e R s m args below meth c n0 T h cells slots) {i : Nat} {v : Int32} (hd : decode bytes pc = .ok (.ldc i, 2)) (w : (Jvm.Cond.constant own i v).before a0 Z = true) (hp : pc + 2 = pc') (g : own_Go p e below n0 F (T.setTop (mkF m pc' L (.int v :: S)))) : own_Go p e below n0 F (T.setTop (mkF m pc L (S))) := by
  obtain ⟨locs, X, -, -⟩ := X; subst hp
  exact own_st (fun t k => X.ldcInt C.1 C.2.2.2.1 (mvT C.2.2.2.2.2.2.2.1 w) (g := mkF m pc L S) rfl (hb C.2.1 hd) t k) g
theorem own_ldc2L (C : own_Cx p s m meth c Z n0 own nm bytes ml ret) (X : own_St p l e R s m args below meth c n0 T h cells slots) {i : Nat} {v : Int64} (hd : decode bytes pc = .ok (.ldc2_w i, 3)) (w : (Jvm.Cond.constantLong own i v).before a0 Z = true) (hp : pc + 3 = pc') (g : own_Go p e below n0 F (T.setTop (mkF m pc' L (.long v :: S)))) : own_Go p e below n0 F (T.setTop (mkF m pc L (S))) := by
  obtain ⟨locs, X, -, -⟩ := X; subst hp
  exact own_st (fun t k => X.ldc2Long C.1 C.2.2.2.1 (mvT C.2.2.2.2.2.2.2.1 w) (g := mkF m pc L S) rfl (hb C.2.1 hd) t k) g
theorem own_goto (C : own_Cx p s m meth c Z n0 own nm bytes ml ret) (X : own_St p l e R s m args below meth c n0 T h cells slots) {o : Int} (hd : decode bytes pc = .ok (.goto o, 3)) (ho : 0 ≤ (pc : Int) + o) (hp : ((pc : Int) + o).toNat = pc') (g : own_Go p e below n0 F (T.setTop (mkF m pc' L (S)))) : own_Go p e below n0 F (T.setTop (mkF m pc L (S))) := by
  obtain ⟨locs, X, -, -⟩ := X
  exact own_st (fun t k => XS.goto X.here C.1 rfl rfl (hb C.2.1 hd) ho hp k) g
theorem own_icmp_lt (C : own_Cx p s m meth c Z n0 own nm bytes ml ret) (X : own_St p l e R s m args below meth c n0 T h cells slots) {x y : Int32} {o : Int} (hd : decode bytes pc = .ok (.if_icmp .lt o, 3)) (ho : 0 ≤ (pc : Int) + o) (hq : ((pc : Int) + o).toNat = pcT) (hp : pc + 3 = pc') (gT : x < y → own_Go p e below n0 F (T.setTop (mkF m pcT L (S)))) (gF : ¬ x < y → own_Go p e below n0 F (T.setTop (mkF m pc' L (S)))) : own_Go p e below n0 F (T.setTop (mkF m pc L (.int y :: .int x :: S))) := by
  obtain ⟨locs, X, -, -⟩ := X; subst hp
  by_cases q : x < y
  · exact own_st (fun t k => XS.icmpYes X.here C.1 rfl rfl (hb C.2.1 hd) rfl (tlt q).1 ho hq k) (gT q)
  · exact own_st (fun t k => XS.icmpNo X.here C.1 rfl (hb C.2.1 hd) rfl (flt q).1 k) (gF q)
theorem own_if_lt (C : own_Cx p s m meth c Z n0 own nm bytes ml ret) (X : own_St p l e R s m args below meth c n0 T h cells slots) {x : Int32} {o : Int} (hd : decode bytes pc = .ok (.ifCond .lt o, 3)) (ho : 0 ≤ (pc : Int) + o) (hq : ((pc : Int) + o).toNat = pcT) (hp : pc + 3 = pc') (gT : x < 0 → own_Go p e below n0 F (T.setTop (mkF m pcT L (S)))) (gF : ¬ x < 0 → own_Go p e below n0 F (T.setTop (mkF m pc' L (S)))) : own_Go p e below n0 F (T.setTop (mkF m pc L (.int x :: S))) := by
  obtain ⟨locs, X, -, -⟩ := X; subst hp
  by_cases q : x < 0
  · exact own_st (fun t k => XS.ifYes X.here C.1 rfl rfl (hb C.2.1 hd) rfl ((if0 _ _).trans (tlt q).1) ho hq k) (gT q)
  · exact own_st (fun t k => XS.ifNo X.here C.1 rfl (hb C.2.1 hd) rfl ((if0 _ _).trans (flt q).1) k) (gF q)
theorem own_lcmp_lt (C : own_Cx p s m meth c Z n0 own nm bytes ml ret) (X : own_St p l e R s m args below meth c n0 T h cells slots) {x y : Int64} {o : Int} (hd1 : decode bytes pc = .ok (.lcmp, 1)) (hd : decode bytes (pc + 1) = .ok (.ifCond .lt o, 3)) (ho : 0 ≤ ((pc + 1 : Nat) : Int) + o) (hq : (((pc + 1 : Nat) : Int) + o).toNat = pcT) (hp : pc + 4 = pc') (gT : x < y → own_Go p e below n0 F (T.setTop (mkF m pcT L (S)))) (gF : ¬ x < y → own_Go p e below n0 F (T.setTop (mkF m pc' L (S)))) : own_Go p e below n0 F (T.setTop (mkF m pc L (.long y :: .long x :: S))) := by
  subst hp
  exact own_lcmp C X hd1 rfl rfl (own_if_lt C X hd ho hq rfl (fun q => gT ((lw_lt x y).mp q)) (fun q => gF (fun r => q ((lw_lt x y).mpr r))))
theorem own_icmp_ge (C : own_Cx p s m meth c Z n0 own nm bytes ml ret) (X : own_St p l e R s m args below meth c n0 T h cells slots) {x y : Int32} {o : Int} (hd : decode bytes pc = .ok (.if_icmp .ge o, 3)) (ho : 0 ≤ (pc : Int) + o) (hq : ((pc : Int) + o).toNat = pcT) (hp : pc + 3 = pc') (gT : ¬ x < y → own_Go p e below n0 F (T.setTop (mkF m pcT L (S)))) (gF : x < y → own_Go p e below n0 F (T.setTop (mkF m pc' L (S)))) : own_Go p e below n0 F (T.setTop (mkF m pc L (.int y :: .int x :: S))) := by
  obtain ⟨locs, X, -, -⟩ := X; subst hp
  by_cases q : x < y
  · exact own_st (fun t k => XS.icmpNo X.here C.1 rfl (hb C.2.1 hd) rfl (tlt q).2.1 k) (gF q)
  · exact own_st (fun t k => XS.icmpYes X.here C.1 rfl rfl (hb C.2.1 hd) rfl (flt q).2.1 ho hq k) (gT q)
theorem own_if_ge (C : own_Cx p s m meth c Z n0 own nm bytes ml ret) (X : own_St p l e R s m args below meth c n0 T h cells slots) {x : Int32} {o : Int} (hd : decode bytes pc = .ok (.ifCond .ge o, 3)) (ho : 0 ≤ (pc : Int) + o) (hq : ((pc : Int) + o).toNat = pcT) (hp : pc + 3 = pc') (gT : ¬ x < 0 → own_Go p e below n0 F (T.setTop (mkF m pcT L (S)))) (gF : x < 0 → own_Go p e below n0 F (T.setTop (mkF m pc' L (S)))) : own_Go p e below n0 F (T.setTop (mkF m pc L (.int x :: S))) := by
  obtain ⟨locs, X, -, -⟩ := X; subst hp
  by_cases q : x < 0
  · exact own_st (fun t k => XS.ifNo X.here C.1 rfl (hb C.2.1 hd) rfl ((if0 _ _).trans (tlt q).2.1) k) (gF q)
  · exact own_st (fun t k => XS.ifYes X.here C.1 rfl rfl (hb C.2.1 hd) rfl ((if0 _ _).trans (flt q).2.1) ho hq k) (gT q)
theorem own_lcmp_ge (C : own_Cx p s m meth c Z n0 own nm bytes ml ret) (X : own_St p l e R s m args below meth c n0 T h cells slots) {x y : Int64} {o : Int} (hd1 : decode bytes pc = .ok (.lcmp, 1)) (hd : decode bytes (pc + 1) = .ok (.ifCond .ge o, 3)) (ho : 0 ≤ ((pc + 1 : Nat) : Int) + o) (hq : (((pc + 1 : Nat) : Int) + o).toNat = pcT) (hp : pc + 4 = pc') (gT : ¬ x < y → own_Go p e below n0 F (T.setTop (mkF m pcT L (S)))) (gF : x < y → own_Go p e below n0 F (T.setTop (mkF m pc' L (S)))) : own_Go p e below n0 F (T.setTop (mkF m pc L (.long y :: .long x :: S))) := by
  subst hp
  exact own_lcmp C X hd1 rfl rfl (own_if_ge C X hd ho hq rfl (fun q => gT (fun r => q ((lw_lt x y).mpr r))) (fun q => gF ((lw_lt x y).mp q)))
theorem own_icmp_gt (C : own_Cx p s m meth c Z n0 own nm bytes ml ret) (X : own_St p l e R s m args below meth c n0 T h cells slots) {x y : Int32} {o : Int} (hd : decode bytes pc = .ok (.if_icmp .gt o, 3)) (ho : 0 ≤ (pc : Int) + o) (hq : ((pc : Int) + o).toNat = pcT) (hp : pc + 3 = pc') (gT : y < x → own_Go p e below n0 F (T.setTop (mkF m pcT L (S)))) (gF : ¬ y < x → own_Go p e below n0 F (T.setTop (mkF m pc' L (S)))) : own_Go p e below n0 F (T.setTop (mkF m pc L (.int y :: .int x :: S))) := by
  obtain ⟨locs, X, -, -⟩ := X; subst hp
  by_cases q : y < x
  · exact own_st (fun t k => XS.icmpYes X.here C.1 rfl rfl (hb C.2.1 hd) rfl (tlt q).2.2.1 ho hq k) (gT q)
  · exact own_st (fun t k => XS.icmpNo X.here C.1 rfl (hb C.2.1 hd) rfl (flt q).2.2.1 k) (gF q)
theorem own_if_gt (C : own_Cx p s m meth c Z n0 own nm bytes ml ret) (X : own_St p l e R s m args below meth c n0 T h cells slots) {x : Int32} {o : Int} (hd : decode bytes pc = .ok (.ifCond .gt o, 3)) (ho : 0 ≤ (pc : Int) + o) (hq : ((pc : Int) + o).toNat = pcT) (hp : pc + 3 = pc') (gT : 0 < x → own_Go p e below n0 F (T.setTop (mkF m pcT L (S)))) (gF : ¬ 0 < x → own_Go p e below n0 F (T.setTop (mkF m pc' L (S)))) : own_Go p e below n0 F (T.setTop (mkF m pc L (.int x :: S))) := by
  obtain ⟨locs, X, -, -⟩ := X; subst hp
  by_cases q : 0 < x
  · exact own_st (fun t k => XS.ifYes X.here C.1 rfl rfl (hb C.2.1 hd) rfl ((if0 _ _).trans (tlt q).2.2.1) ho hq k) (gT q)
  · exact own_st (fun t k => XS.ifNo X.here C.1 rfl (hb C.2.1 hd) rfl ((if0 _ _).trans (flt q).2.2.1) k) (gF q)
theorem own_lcmp_gt (C : own_Cx p s m meth c Z n0 own nm bytes ml ret) (X : own_St p l e R s m args below meth c n0 T h cells slots) {x y : Int64} {o : Int} (hd1 : decode bytes pc = .ok (.lcmp, 1)) (hd : decode bytes (pc + 1) = .ok (.ifCond .gt o, 3)) (ho : 0 ≤ ((pc + 1 : Nat) : Int) + o) (hq : (((pc + 1 : Nat) : Int) + o).toNat = pcT) (hp : pc + 4 = pc') (gT : y < x → own_Go p e below n0 F (T.setTop (mkF m pcT L (S)))) (gF : ¬ y < x → own_Go p e below n0 F (T.setTop (mkF m pc' L (S)))) : own_Go p e below n0 F (T.setTop (mkF m pc L (.long y :: .long x :: S))) := by
  subst hp
  exact own_lcmp C X hd1 rfl rfl (own_if_gt C X hd ho hq rfl (fun q => gT ((lw_gt x y).mp q)) (fun q => gF (fun r => q ((lw_gt x y).mpr r))))
theorem own_icmp_le (C : own_Cx p s m meth c Z n0 own nm bytes ml ret) (X : own_St p l e R s m args below meth c n0 T h cells slots) {x y : Int32} {o : Int} (hd : decode bytes pc = .ok (.if_icmp .le o, 3)) (ho : 0 ≤ (pc : Int) + o) (hq : ((pc : Int) + o).toNat = pcT) (hp : pc + 3 = pc') (gT : ¬ y < x → own_Go p e below n0 F (T.setTop (mkF m pcT L (S)))) (gF : y < x → own_Go p e below n0 F (T.setTop (mkF m pc' L (S)))) : own_Go p e below n0 F (T.setTop (mkF m pc L (.int y :: .int x :: S))) := by
  obtain ⟨locs, X, -, -⟩ := X; subst hp
  by_cases q : y < x
  · exact own_st (fun t k => XS.icmpNo X.here C.1 rfl (hb C.2.1 hd) rfl (tlt q).2.2.2 k) (gF q)
  · exact own_st (fun t k => XS.icmpYes X.here C.1 rfl rfl (hb C.2.1 hd) rfl (flt q).2.2.2 ho hq k) (gT q)
theorem own_if_le (C : own_Cx p s m meth c Z n0 own nm bytes ml ret) (X : own_St p l e R s m args below meth c n0 T h cells slots) {x : Int32} {o : Int} (hd : decode bytes pc = .ok (.ifCond .le o, 3)) (ho : 0 ≤ (pc : Int) + o) (hq : ((pc : Int) + o).toNat = pcT) (hp : pc + 3 = pc') (gT : ¬ 0 < x → own_Go p e below n0 F (T.setTop (mkF m pcT L (S)))) (gF : 0 < x → own_Go p e below n0 F (T.setTop (mkF m pc' L (S)))) : own_Go p e below n0 F (T.setTop (mkF m pc L (.int x :: S))) := by
  obtain ⟨locs, X, -, -⟩ := X; subst hp
  by_cases q : 0 < x
  · exact own_st (fun t k => XS.ifNo X.here C.1 rfl (hb C.2.1 hd) rfl ((if0 _ _).trans (tlt q).2.2.2) k) (gF q)
  · exact own_st (fun t k => XS.ifYes X.here C.1 rfl rfl (hb C.2.1 hd) rfl ((if0 _ _).trans (flt q).2.2.2) ho hq k) (gT q)
theorem own_lcmp_le (C : own_Cx p s m meth c Z n0 own nm bytes ml ret) (X : own_St p l e R s m args below meth c n0 T h cells slots) {x y : Int64} {o : Int} (hd1 : decode bytes pc = .ok (.lcmp, 1)) (hd : decode bytes (pc + 1) = .ok (.ifCond .le o, 3)) (ho : 0 ≤ ((pc + 1 : Nat) : Int) + o) (hq : (((pc + 1 : Nat) : Int) + o).toNat = pcT) (hp : pc + 4 = pc') (gT : ¬ y < x → own_Go p e below n0 F (T.setTop (mkF m pcT L (S)))) (gF : y < x → own_Go p e below n0 F (T.setTop (mkF m pc' L (S)))) : own_Go p e below n0 F (T.setTop (mkF m pc L (.long y :: .long x :: S))) := by
  subst hp
  exact own_lcmp C X hd1 rfl rfl (own_if_le C X hd ho hq rfl (fun q => gT (fun r => q ((lw_gt x y).mpr r))) (fun q => gF ((lw_gt x y).mp q)))
theorem own_icmp_eq (C : own_Cx p s m meth c Z n0 own nm bytes ml ret) (X : own_St p l e R s m args below meth c n0 T h cells slots) {x y : Int32} {o : Int} (hd : decode bytes pc = .ok (.if_icmp .eq o, 3)) (ho : 0 ≤ (pc : Int) + o) (hq : ((pc : Int) + o).toNat = pcT) (hp : pc + 3 = pc') (gT : x = y → own_Go p e below n0 F (T.setTop (mkF m pcT L (S)))) (gF : ¬ x = y → own_Go p e below n0 F (T.setTop (mkF m pc' L (S)))) : own_Go p e below n0 F (T.setTop (mkF m pc L (.int y :: .int x :: S))) := by
  obtain ⟨locs, X, -, -⟩ := X; subst hp
  by_cases q : x = y
  · exact own_st (fun t k => XS.icmpYes X.here C.1 rfl rfl (hb C.2.1 hd) rfl (teq q).1 ho hq k) (gT q)
  · exact own_st (fun t k => XS.icmpNo X.here C.1 rfl (hb C.2.1 hd) rfl (feq q).1 k) (gF q)
theorem own_if_eq (C : own_Cx p s m meth c Z n0 own nm bytes ml ret) (X : own_St p l e R s m args below meth c n0 T h cells slots) {x : Int32} {o : Int} (hd : decode bytes pc = .ok (.ifCond .eq o, 3)) (ho : 0 ≤ (pc : Int) + o) (hq : ((pc : Int) + o).toNat = pcT) (hp : pc + 3 = pc') (gT : x = 0 → own_Go p e below n0 F (T.setTop (mkF m pcT L (S)))) (gF : ¬ x = 0 → own_Go p e below n0 F (T.setTop (mkF m pc' L (S)))) : own_Go p e below n0 F (T.setTop (mkF m pc L (.int x :: S))) := by
  obtain ⟨locs, X, -, -⟩ := X; subst hp
  by_cases q : x = 0
  · exact own_st (fun t k => XS.ifYes X.here C.1 rfl rfl (hb C.2.1 hd) rfl ((if0 _ _).trans (teq q).1) ho hq k) (gT q)
  · exact own_st (fun t k => XS.ifNo X.here C.1 rfl (hb C.2.1 hd) rfl ((if0 _ _).trans (feq q).1) k) (gF q)
theorem own_lcmp_eq (C : own_Cx p s m meth c Z n0 own nm bytes ml ret) (X : own_St p l e R s m args below meth c n0 T h cells slots) {x y : Int64} {o : Int} (hd1 : decode bytes pc = .ok (.lcmp, 1)) (hd : decode bytes (pc + 1) = .ok (.ifCond .eq o, 3)) (ho : 0 ≤ ((pc + 1 : Nat) : Int) + o) (hq : (((pc + 1 : Nat) : Int) + o).toNat = pcT) (hp : pc + 4 = pc') (gT : x = y → own_Go p e below n0 F (T.setTop (mkF m pcT L (S)))) (gF : ¬ x = y → own_Go p e below n0 F (T.setTop (mkF m pc' L (S)))) : own_Go p e below n0 F (T.setTop (mkF m pc L (.long y :: .long x :: S))) := by
  subst hp
  exact own_lcmp C X hd1 rfl rfl (own_if_eq C X hd ho hq rfl (fun q => gT ((lw_eq x y).mp q)) (fun q => gF (fun r => q ((lw_eq x y).mpr r))))
theorem own_icmp_ne (C : own_Cx p s m meth c Z n0 own nm bytes ml ret) (X : own_St p l e R s m args below meth c n0 T h cells slots) {x y : Int32} {o : Int} (hd : decode bytes pc = .ok (.if_icmp .ne o, 3)) (ho : 0 ≤ (pc : Int) + o) (hq : ((pc : Int) + o).toNat = pcT) (hp : pc + 3 = pc') (gT : ¬ x = y → own_Go p e below n0 F (T.setTop (mkF m pcT L (S)))) (gF : x = y → own_Go p e below n0 F (T.setTop (mkF m pc' L (S)))) : own_Go p e below n0 F (T.setTop (mkF m pc L (.int y :: .int x :: S))) := by
  obtain ⟨locs, X, -, -⟩ := X; subst hp
  by_cases q : x = y
  · exact own_st (fun t k => XS.icmpNo X.here C.1 rfl (hb C.2.1 hd) rfl (teq q).2 k) (gF q)
  · exact own_st (fun t k => XS.icmpYes X.here C.1 rfl rfl (hb C.2.1 hd) rfl (feq q).2 ho hq k) (gT q)
theorem own_if_ne (C : own_Cx p s m meth c Z n0 own nm bytes ml ret) (X : own_St p l e R s m args below meth c n0 T h cells slots) {x : Int32} {o : Int} (hd : decode bytes pc = .ok (.ifCond .ne o, 3)) (ho : 0 ≤ (pc : Int) + o) (hq : ((pc : Int) + o).toNat = pcT) (hp : pc + 3 = pc') (gT : ¬ x = 0 → own_Go p e below n0 F (T.setTop (mkF m pcT L (S)))) (gF : x = 0 → own_Go p e below n0 F (T.setTop (mkF m pc' L (S)))) : own_Go p e below n0 F (T.setTop (mkF m pc L (.int x :: S))) := by
  obtain ⟨locs, X, -, -⟩ := X; subst hp
  by_cases q : x = 0
  · exact own_st (fun t k => XS.ifNo X.here C.1 rfl (hb C.2.1 hd) rfl ((if0 _ _).trans (teq q).2) k) (gF q)
  · exact own_st (fun t k => XS.ifYes X.here C.1 rfl rfl (hb C.2.1 hd) rfl ((if0 _ _).trans (feq q).2) ho hq k) (gT q)
theorem own_lcmp_ne (C : own_Cx p s m meth c Z n0 own nm bytes ml ret) (X : own_St p l e R s m args below meth c n0 T h cells slots) {x y : Int64} {o : Int} (hd1 : decode bytes pc = .ok (.lcmp, 1)) (hd : decode bytes (pc + 1) = .ok (.ifCond .ne o, 3)) (ho : 0 ≤ ((pc + 1 : Nat) : Int) + o) (hq : (((pc + 1 : Nat) : Int) + o).toNat = pcT) (hp : pc + 4 = pc') (gT : ¬ x = y → own_Go p e below n0 F (T.setTop (mkF m pcT L (S)))) (gF : x = y → own_Go p e below n0 F (T.setTop (mkF m pc' L (S)))) : own_Go p e below n0 F (T.setTop (mkF m pc L (.long y :: .long x :: S))) := by
  subst hp
  exact own_lcmp C X hd1 rfl rfl (own_if_ne C X hd ho hq rfl (fun q => gT (fun r => q ((lw_eq x y).mpr r))) (fun q => gF ((lw_eq x y).mp q)))
theorem own_acmp_eq (C : own_Cx p s m meth c Z n0 own nm bytes ml ret) (X : own_St p l e R s m args below meth c n0 T h cells slots) {v w : Value} {o : Int} (hd : decode bytes pc = .ok (.if_acmp .eq o, 3)) (hv : v.isRef = true) (hw : w.isRef = true) (ho : 0 ≤ (pc : Int) + o) (hq : ((pc : Int) + o).toNat = pcT) (hp : pc + 3 = pc') (gT : v = w → own_Go p e below n0 F (T.setTop (mkF m pcT L (S)))) (gF : ¬ v = w → own_Go p e below n0 F (T.setTop (mkF m pc' L (S)))) : own_Go p e below n0 F (T.setTop (mkF m pc L (w :: v :: S))) := by
  obtain ⟨locs, X, -, -⟩ := X; subst hp
  by_cases q : v = w
  · exact own_st (fun t k => XT.acmpYes X.here C.1 rfl rfl (hb C.2.1 hd) rfl hv hw (XT.aa_eq_t q) ho hq k) (gT q)
  · exact own_st (fun t k => XT.acmpNo X.here C.1 rfl (hb C.2.1 hd) rfl hv hw (XT.aa_eq_f q) k) (gF q)
theorem own_acmp_ne (C : own_Cx p s m meth c Z n0 own nm bytes ml ret) (X : own_St p l e R s m args below meth c n0 T h cells slots) {v w : Value} {o : Int} (hd : decode bytes pc = .ok (.if_acmp .ne o, 3)) (hv : v.isRef = true) (hw : w.isRef = true) (ho : 0 ≤ (pc : Int) + o) (hq : ((pc : Int) + o).toNat = pcT) (hp : pc + 3 = pc') (gT : ¬ v = w → own_Go p e below n0 F (T.setTop (mkF m pcT L (S)))) (gF : v = w → own_Go p e below n0 F (T.setTop (mkF m pc' L (S)))) : own_Go p e below n0 F (T.setTop (mkF m pc L (w :: v :: S))) := by
  obtain ⟨locs, X, -, -⟩ := X; subst hp
  by_cases q : v = w
  · exact own_st (fun t k => XT.acmpNo X.here C.1 rfl (hb C.2.1 hd) rfl hv hw (XT.aa_ne_f q) k) (gF q)
  · exact own_st (fun t k => XT.acmpYes X.here C.1 rfl rfl (hb C.2.1 hd) rfl hv hw (XT.aa_ne_t q) ho hq k) (gT q)
theorem own_ireturn {z : Int32} (C : own_Cx p s m meth c Z n0 own nm bytes ml (some .int)) (X : own_St p l e R s m args below meth c n0 T h cells slots) (hd : decode bytes pc = .ok (.ireturn, 1))  (hc : cells ≤ R.cells) (hs : slots ≤ R.slots) (hq : Q (some (.int z)) h) : own_Go p e below n0 (own_Fin R s Q) (T.setTop (mkF m pc L (.int z :: S))) := by
  obtain ⟨locs, X, N, rfl⟩ := X
  have hlk : meth.locks = false := C.2.2.2.2.2.2.1
  obtain ⟨fs, hr, hrun, hended, hW, hsame⟩ := X.leave (v := some (.int z)) (fun h => by rw [C.2.2.2.2.2.1] at h; cases h) hlk
  exact ⟨_, _, locs, retOut X C.1 C.2.2.2.2.2.1 rfl (Or.inl ⟨rfl, by simp, _, rfl⟩) (hb C.2.1 hd) hr, hrun, hended, N, hq, ⟨_, rfl⟩, hW, hsame.mono hc hs⟩
theorem own_ireturn_z {z : Int32} (C : own_Cx p s m meth c Z n0 own nm bytes ml (some .boolean)) (X : own_St p l e R s m args below meth c n0 T h cells slots) (hd : decode bytes pc = .ok (.ireturn, 1))  (hc : cells ≤ R.cells) (hs : slots ≤ R.slots) (hq : Q (some (.int (nar .boolean z))) h) : own_Go p e below n0 (own_Fin R s Q) (T.setTop (mkF m pc L (.int z :: S))) := by
  obtain ⟨locs, X, N, rfl⟩ := X
  have hlk : meth.locks = false := C.2.2.2.2.2.2.1
  obtain ⟨fs, hr, hrun, hended, hW, hsame⟩ := X.leave (v := some (.int (nar .boolean z))) (fun h => by rw [C.2.2.2.2.2.1] at h; cases h) hlk
  exact ⟨_, _, locs, retN X C.1 (t := .boolean) C.2.2.2.2.2.1 (by simp) (hb C.2.1 hd) hr, hrun, hended, N, hq, ⟨_, rfl⟩, hW, hsame.mono hc hs⟩
theorem own_ireturn_b {z : Int32} (C : own_Cx p s m meth c Z n0 own nm bytes ml (some .byte)) (X : own_St p l e R s m args below meth c n0 T h cells slots) (hd : decode bytes pc = .ok (.ireturn, 1))  (hc : cells ≤ R.cells) (hs : slots ≤ R.slots) (hq : Q (some (.int (nar .byte z))) h) : own_Go p e below n0 (own_Fin R s Q) (T.setTop (mkF m pc L (.int z :: S))) := by
  obtain ⟨locs, X, N, rfl⟩ := X
  have hlk : meth.locks = false := C.2.2.2.2.2.2.1
  obtain ⟨fs, hr, hrun, hended, hW, hsame⟩ := X.leave (v := some (.int (nar .byte z))) (fun h => by rw [C.2.2.2.2.2.1] at h; cases h) hlk
  exact ⟨_, _, locs, retN X C.1 (t := .byte) C.2.2.2.2.2.1 (by simp) (hb C.2.1 hd) hr, hrun, hended, N, hq, ⟨_, rfl⟩, hW, hsame.mono hc hs⟩
theorem own_ireturn_c {z : Int32} (C : own_Cx p s m meth c Z n0 own nm bytes ml (some .char)) (X : own_St p l e R s m args below meth c n0 T h cells slots) (hd : decode bytes pc = .ok (.ireturn, 1))  (hc : cells ≤ R.cells) (hs : slots ≤ R.slots) (hq : Q (some (.int (nar .char z))) h) : own_Go p e below n0 (own_Fin R s Q) (T.setTop (mkF m pc L (.int z :: S))) := by
  obtain ⟨locs, X, N, rfl⟩ := X
  have hlk : meth.locks = false := C.2.2.2.2.2.2.1
  obtain ⟨fs, hr, hrun, hended, hW, hsame⟩ := X.leave (v := some (.int (nar .char z))) (fun h => by rw [C.2.2.2.2.2.1] at h; cases h) hlk
  exact ⟨_, _, locs, retN X C.1 (t := .char) C.2.2.2.2.2.1 (by simp) (hb C.2.1 hd) hr, hrun, hended, N, hq, ⟨_, rfl⟩, hW, hsame.mono hc hs⟩
theorem own_lreturn {z : Int64} (C : own_Cx p s m meth c Z n0 own nm bytes ml (some .long)) (X : own_St p l e R s m args below meth c n0 T h cells slots) (hd : decode bytes pc = .ok (.lreturn, 1))  (hc : cells ≤ R.cells) (hs : slots ≤ R.slots) (hq : Q (some (.long z)) h) : own_Go p e below n0 (own_Fin R s Q) (T.setTop (mkF m pc L (.long z :: S))) := by
  obtain ⟨locs, X, N, rfl⟩ := X
  have hlk : meth.locks = false := C.2.2.2.2.2.2.1
  obtain ⟨fs, hr, hrun, hended, hW, hsame⟩ := X.leave (v := some (.long z)) (fun h => by rw [C.2.2.2.2.2.1] at h; cases h) hlk
  exact ⟨_, _, locs, retOut X C.1 C.2.2.2.2.2.1 rfl (Or.inr (Or.inl ⟨rfl, rfl, _, rfl⟩)) (hb C.2.1 hd) hr, hrun, hended, N, hq, ⟨_, rfl⟩, hW, hsame.mono hc hs⟩
theorem own_areturn {v : Value} {ty : FieldType} (C : own_Cx p s m meth c Z n0 own nm bytes ml (some ty)) (X : own_St p l e R s m args below meth c n0 T h cells slots) (hd : decode bytes pc = .ok (.areturn, 1)) (ht : ty.isReference = true) (hv : v.isRef = true) (hn : narrow ty v = v) (hc : cells ≤ R.cells) (hs : slots ≤ R.slots) (hq : Q (some v) h) : own_Go p e below n0 (own_Fin R s Q) (T.setTop (mkF m pc L (v :: S))) := by
  obtain ⟨locs, X, N, rfl⟩ := X
  have hlk : meth.locks = false := C.2.2.2.2.2.2.1
  obtain ⟨fs, hr, hrun, hended, hW, hsame⟩ := X.leave (v := some v) (fun h => by rw [C.2.2.2.2.2.1] at h; cases h) hlk
  exact ⟨_, _, locs, retOut X C.1 C.2.2.2.2.2.1 hn (Or.inr (Or.inr (Or.inr (Or.inr ⟨rfl, ht, hv⟩)))) (hb C.2.1 hd) hr, hrun, hended, N, hq, ⟨_, rfl⟩, hW, hsame.mono hc hs⟩
theorem own_return  (C : own_Cx p s m meth c Z n0 own nm bytes ml (none)) (X : own_St p l e R s m args below meth c n0 T h cells slots) (hd : decode bytes pc = .ok (.return_, 1))  (hc : cells ≤ R.cells) (hs : slots ≤ R.slots) (hq : Q (none) h) : own_Go p e below n0 (own_Fin R s Q) (T.setTop (mkF m pc L ([]))) := by
  obtain ⟨locs, X, N, rfl⟩ := X
  have hlk : meth.locks = false := C.2.2.2.2.2.2.1
  obtain ⟨fs, hr, hrun, hended, hW, hsame⟩ := X.leave (v := none) (fun _ => rfl) hlk
  exact ⟨_, _, locs, X.returnOut C.1 C.2.2.2.2.2.1 (hb C.2.1 hd) hr, hrun, hended, N, hq, ⟨_, rfl⟩, hW, hsame.mono hc hs⟩
end OwnKit
end Jvm.Pilot.@@N@@
namespace Jvm.Pilot.@@N@@
open Jvm Jvm.ClassFile Sem Op Lib Jvm.Free Jvm.Stand Jvm.LawKit Jvm.RoadKit Bundle Jvm.Pilot.@@N@@.Jvm.D
section OwnKitTwo
variable {p : Program} {l : Launch} {e : Env} {R : Room} {s : State} {m : MethodId} {args : Array Value} {below : List Frame} {meth : Method} {c : Code} {T : State} {cells slots : Nat} {Z : State} {a0 : Array Value} {h h' : Heap} {n0 : Nat} {own nm : String} {bytes : ByteArray} {ml : Nat} {ret : Option FieldType} {F : Option Value → State → List Loc → Prop} {pc pc' pcT : Nat} {L L' : Array Slot} {S : List Value} {a b : Addr} {ty : FieldType} {ws : List Addr}
/-! arrays by their lists -/
def own_IA (Z : State) (h : Heap) (a : Addr) (ty : FieldType) (xs : List Int32) : Prop := ∃ c : Cell, Arr Z h a c ty ∧ c.slots.toList = xs.map Value.int ∧ xs.length < 2 ^ 31 ∧ ∀ x ∈ xs, fits ty (.int x) = true
def own_JA (Z : State) (h : Heap) (a : Addr) (xs : List Int64) : Prop := ∃ c : Cell, Arr Z h a c .long ∧ c.slots.toList = xs.map Value.long ∧ xs.length < 2 ^ 31
theorem own_IA.keep {xs : List Int32} (A : own_IA Z h a ty xs) (K : Keep h h' ws) (q : a ∉ ws) : own_IA Z h' a ty xs := by
  obtain ⟨c, A, r⟩ := A; exact ⟨c, ⟨K.2.1 a c A.1 q, A.2⟩, r⟩
theorem own_JA.keep {xs : List Int64} (A : own_JA Z h a xs) (K : Keep h h' ws) (q : a ∉ ws) : own_JA Z h' a xs := by
  obtain ⟨c, A, r⟩ := A; exact ⟨c, ⟨K.2.1 a c A.1 q, A.2⟩, r⟩
theorem own_IA.lt {xs : List Int32} (A : own_IA Z h a ty xs) : a < h.size := by obtain ⟨c, A, r⟩ := A; exact A.lt
theorem own_JA.lt {xs : List Int64} (A : own_JA Z h a xs) : a < h.size := by obtain ⟨c, A, r⟩ := A; exact A.lt
theorem own_ix {j : Int32} {i : Nat} (hj : j.toInt = (i : Int)) : ¬ j < 0 ∧ j.toNatClampNeg = i := by
  refine ⟨?_, ?_⟩
  · rw [Int32.lt_iff_toInt_lt, hj]; show ¬ (i : Int) < 0; omega
  · simp only [Int32.toNatClampNeg, hj, Int.toNat_natCast]
theorem own_sz {α : Type} {f : α → Value} {c : Cell} {xs : List α} (e : c.slots.toList = xs.map f) : c.slots.size = xs.length := by
  have := congrArg List.length e; simpa using this
theorem own_in {α : Type} {f : α → Value} {c : Cell} {xs : List α} (e : c.slots.toList = xs.map f) {j : Int32} {i : Nat} (hj : j.toInt = (i : Int)) (hi : i < xs.length) : ¬ (j < 0 ∨ c.slots.size ≤ j.toNatClampNeg) := by
  obtain ⟨q1, q2⟩ := own_ix hj
  rw [own_sz e, q2]
  exact fun q => q.elim q1 (fun q => Nat.lt_irrefl _ (Nat.lt_of_lt_of_le hi q))
theorem own_at {α : Type} {f : α → Value} {c : Cell} {xs : List α} (e : c.slots.toList = xs.map f) {j : Int32} {i : Nat} (hj : j.toInt = (i : Int)) {v : α} (hv : xs[i]? = some v) : c.slots[j.toNatClampNeg]? = some (f v) := by
  rw [(own_ix hj).2, ← Array.getElem?_toList, e, List.getElem?_map, hv]; rfl
theorem own_lt_of {α : Type} {xs : List α} {i : Nat} {v : α} (hv : xs[i]? = some v) : i < xs.length := (List.getElem?_eq_some_iff.mp hv).1
theorem own_set {α : Type} {f : α → Value} {c : Cell} {xs : List α} (e : c.slots.toList = xs.map f) {j : Int32} {i : Nat} (hj : j.toInt = (i : Int)) {v : α} : (c.setSlot j.toNatClampNeg (f v)).slots.toList = (xs.set i v).map f := by
  rw [(own_ix hj).2]; simp only [Cell.setSlot, Array.toList_setIfInBounds, e, List.map_set]
theorem own_iaload (C : own_Cx p s m meth c Z n0 own nm bytes ml ret) (X : own_St p l e R s m args below meth c n0 T h cells slots) {j v : Int32} {i : Nat} {xs : List Int32} (hd : decode bytes pc = .ok (.iaload, 1)) (A : own_IA Z h a .int xs) (hj : j.toInt = (i : Int)) (hv : xs[i]? = some v) (hp : pc + 1 = pc')
    (g : own_Go p e below n0 F (T.setTop (mkF m pc' L (.int v :: S)))) : own_Go p e below n0 F (T.setTop (mkF m pc L (.int j :: .ref a :: S))) := by
  obtain ⟨locs, X, -, rfl⟩ := X; subst hp; obtain ⟨cl, A, ec, -⟩ := A
  exact own_st (fun t k => X.iaload C.1 A.1 (State.isArrayOf_alike C.2.2.2.2.2.2.2.1.alike A.2.1) A.2.2 (own_in ec hj (own_lt_of hv)) (own_at ec hj hv) (g := mkF m pc L (.int j :: .ref a :: S)) rfl rfl (hb C.2.1 hd) t k) g
theorem own_baload (C : own_Cx p s m meth c Z n0 own nm bytes ml ret) (X : own_St p l e R s m args below meth c n0 T h cells slots) {j v : Int32} {i : Nat} {xs : List Int32} (hd : decode bytes pc = .ok (.baload, 1)) (A : own_IA Z h a .byte xs) (hj : j.toInt = (i : Int)) (hv : xs[i]? = some v) (hp : pc + 1 = pc')
    (g : own_Go p e below n0 F (T.setTop (mkF m pc' L (.int v :: S)))) : own_Go p e below n0 F (T.setTop (mkF m pc L (.int j :: .ref a :: S))) := by
  obtain ⟨locs, X, -, rfl⟩ := X; subst hp; obtain ⟨cl, A, ec, -⟩ := A
  exact own_st (fun t k => X.baloadBytes C.1 A.1 (State.isArrayOf_alike C.2.2.2.2.2.2.2.1.alike A.2.1) A.2.2 (own_in ec hj (own_lt_of hv)) (own_at ec hj hv) (g := mkF m pc L (.int j :: .ref a :: S)) rfl rfl (hb C.2.1 hd) t k) g
theorem own_laload (C : own_Cx p s m meth c Z n0 own nm bytes ml ret) (X : own_St p l e R s m args below meth c n0 T h cells slots) {j : Int32} {v : Int64} {i : Nat} {xs : List Int64} (hd : decode bytes pc = .ok (.laload, 1)) (A : own_JA Z h a xs) (hj : j.toInt = (i : Int)) (hv : xs[i]? = some v) (hp : pc + 1 = pc')
    (g : own_Go p e below n0 F (T.setTop (mkF m pc' L (.long v :: S)))) : own_Go p e below n0 F (T.setTop (mkF m pc L (.int j :: .ref a :: S))) := by
  obtain ⟨locs, X, -, rfl⟩ := X; subst hp; obtain ⟨cl, A, ec, -⟩ := A
  exact own_st (fun t k => X.laload C.1 A.1 (State.isArrayOf_alike C.2.2.2.2.2.2.2.1.alike A.2.1) A.2.2 (own_in ec hj (own_lt_of hv)) (own_at ec hj hv) (g := mkF m pc L (.int j :: .ref a :: S)) rfl rfl (hb C.2.1 hd) t k) g
theorem own_len {α : Type} {f : α → Value} {c : Cell} {xs : List α} (e : c.slots.toList = xs.map f) (hb : xs.length < 2 ^ 31) {n : Int32} (hn : n.toInt = (xs.length : Int)) : c.slots.size.toInt32 = n := by
  rw [own_sz e]; exact Int32.toInt_inj.mp (by rw [len_toInt hb, hn])
theorem own_alenI (C : own_Cx p s m meth c Z n0 own nm bytes ml ret) (X : own_St p l e R s m args below meth c n0 T h cells slots) {n : Int32} {xs : List Int32} (hd : decode bytes pc = .ok (.arraylength, 1)) (A : own_IA Z h a ty xs) (hn : n.toInt = (xs.length : Int)) (hp : pc + 1 = pc')
    (g : own_Go p e below n0 F (T.setTop (mkF m pc' L (.int n :: S)))) : own_Go p e below n0 F (T.setTop (mkF m pc L (.ref a :: S))) := by
  obtain ⟨locs, X, -, rfl⟩ := X; subst hp; obtain ⟨cl, A, ec, hb1, -⟩ := A
  have := own_len ec hb1 hn; subst this
  exact own_st (fun t k => X.arraylength C.1 A.1 (State.isArrayOf_alike C.2.2.2.2.2.2.2.1.alike A.2.1) (g := mkF m pc L (.ref a :: S)) rfl rfl (hb C.2.1 hd) t k) g
theorem own_alenJ (C : own_Cx p s m meth c Z n0 own nm bytes ml ret) (X : own_St p l e R s m args below meth c n0 T h cells slots) {n : Int32} {xs : List Int64} (hd : decode bytes pc = .ok (.arraylength, 1)) (A : own_JA Z h a xs) (hn : n.toInt = (xs.length : Int)) (hp : pc + 1 = pc')
    (g : own_Go p e below n0 F (T.setTop (mkF m pc' L (.int n :: S)))) : own_Go p e below n0 F (T.setTop (mkF m pc L (.ref a :: S))) := by
  obtain ⟨locs, X, -, rfl⟩ := X; subst hp; obtain ⟨cl, A, ec, hb1⟩ := A
  have := own_len ec hb1 hn; subst this
  exact own_st (fun t k => X.arraylength C.1 A.1 (State.isArrayOf_alike C.2.2.2.2.2.2.2.1.alike A.2.1) (g := mkF m pc L (.ref a :: S)) rfl rfl (hb C.2.1 hd) t k) g
theorem own_fitset {xs : List Int32} {i : Nat} {v : Int32} (hf : ∀ x ∈ xs, fits ty (.int x) = true) (hv : fits ty (.int v) = true) : ∀ x ∈ xs.set i v, fits ty (.int x) = true := fun x hx =>
  (List.mem_or_eq_of_mem_set hx).elim (hf x) (fun q => q ▸ hv)
theorem own_bastore (C : own_Cx p s m meth c Z n0 own nm bytes ml ret) (X : own_St p l e R s m args below meth c n0 T h cells slots) {j x v : Int32} {i : Nat} {xs : List Int32} (hd : decode bytes pc = .ok (.bastore, 1)) (A : own_IA Z h a .byte xs) (hj : j.toInt = (i : Int)) (hi : i < xs.length) (hx : x.toInt8.toInt32 = v) (ha : n0 ≤ a) (hp : pc + 1 = pc')
    (g : ∀ T' h', own_St p l e R s m args below meth c n0 T' h' cells slots → Keep h h' [a] → own_IA Z h' a .byte (xs.set i v) → own_Go p e below n0 F (T'.setTop (mkF m pc' L S))) : own_Go p e below n0 F (T.setTop (mkF m pc L (.int x :: .int j :: .ref a :: S))) := by
  obtain ⟨locs, X, N, e0⟩ := X; subst hp; subst hx; obtain ⟨cl, A, ec, hl, hf⟩ := A
  obtain ⟨T', h2, X', e', W, st⟩ := stB X C.1 C.2.2.2.2.2.2.2.1 e0 A (own_in ec hj hi) (g := mkF m pc L (.int x :: .int j :: .ref a :: S)) rfl rfl (hb C.2.1 hd)
  exact own_st st (g T' h2 ⟨_, X', Fr.snoc X' N ha, e'⟩ (Keep.of_wr W) ⟨_, A.same W, own_set ec hj, by simpa using hl, own_fitset hf (fits_nar_byte x)⟩)
theorem own_iastore (C : own_Cx p s m meth c Z n0 own nm bytes ml ret) (X : own_St p l e R s m args below meth c n0 T h cells slots) {j x : Int32} {i : Nat} {xs : List Int32} (hd : decode bytes pc = .ok (.iastore, 1)) (A : own_IA Z h a .int xs) (hj : j.toInt = (i : Int)) (hi : i < xs.length) (ha : n0 ≤ a) (hp : pc + 1 = pc')
    (g : ∀ T' h', own_St p l e R s m args below meth c n0 T' h' cells slots → Keep h h' [a] → own_IA Z h' a .int (xs.set i x) → own_Go p e below n0 F (T'.setTop (mkF m pc' L S))) : own_Go p e below n0 F (T.setTop (mkF m pc L (.int x :: .int j :: .ref a :: S))) := by
  obtain ⟨locs, X, N, e0⟩ := X; subst hp; obtain ⟨cl, A, ec, hl, hf⟩ := A
  obtain ⟨T', h2, X', e', W, st⟩ := stI X C.1 C.2.2.2.2.2.2.2.1 e0 A (own_in ec hj hi) (g := mkF m pc L (.int x :: .int j :: .ref a :: S)) rfl rfl (hb C.2.1 hd)
  exact own_st st (g T' h2 ⟨_, X', Fr.snoc X' N ha, e'⟩ (Keep.of_wr W) ⟨_, A.same W, own_set ec hj, by simpa using hl, own_fitset hf rfl⟩)
theorem own_lastore (C : own_Cx p s m meth c Z n0 own nm bytes ml ret) (X : own_St p l e R s m args below meth c n0 T h cells slots) {j : Int32} {x : Int64} {i : Nat} {xs : List Int64} (hd : decode bytes pc = .ok (.lastore, 1)) (A : own_JA Z h a xs) (hj : j.toInt = (i : Int)) (hi : i < xs.length) (ha : n0 ≤ a) (hp : pc + 1 = pc')
    (g : ∀ T' h', own_St p l e R s m args below meth c n0 T' h' cells slots → Keep h h' [a] → own_JA Z h' a (xs.set i x) → own_Go p e below n0 F (T'.setTop (mkF m pc' L S))) : own_Go p e below n0 F (T.setTop (mkF m pc L (.long x :: .int j :: .ref a :: S))) := by
  obtain ⟨locs, X, N, e0⟩ := X; subst hp; obtain ⟨cl, A, ec, hl⟩ := A
  obtain ⟨T', h2, X', e', W, st⟩ := stJ X C.1 C.2.2.2.2.2.2.2.1 e0 A (own_in ec hj hi) (g := mkF m pc L (.long x :: .int j :: .ref a :: S)) rfl rfl (hb C.2.1 hd)
  exact own_st st (g T' h2 ⟨_, X', Fr.snoc X' N ha, e'⟩ (Keep.of_wr W) ⟨_, A.same W, own_set ec hj, by simpa using hl⟩)
theorem own_keep_ext (E : Ext h h') : Keep h h' [] := (Keep.refl h []).ext E
theorem own_newI (C : own_Cx p s m meth c Z n0 own nm bytes ml ret) (X : own_St p l e R s m args below meth c n0 T h cells slots) {aty : ArrayType} {n : Int32} {k cap : Nat} (hd : decode bytes pc = .ok (.newarray aty, 2)) (hty : newarray.typeOf aty = ty) (w : (Jvm.Cond.arrayClass ty).before a0 Z = true) (hn : n.toInt = (k : Int)) (hcap : k ≤ cap) (hb8 : cap * 8 ≤ 536870912)
    (hc : cells + 1 ≤ R.cells) (hs : slots + cap ≤ R.slots) (hdef : defaultValue ty = .int 0) (hfit : fits ty (.int 0) = true) (hp : pc + 2 = pc')
    (g : ∀ T' h' a, a = h.size → own_St p l e R s m args below meth c n0 T' h' (cells + 1) (slots + cap) → Keep h h' [] → n0 ≤ a → own_IA Z h' a ty (List.replicate k 0) → own_Go p e below n0 F (T'.setTop (mkF m pc' L (.ref a :: S)))) : own_Go p e below n0 F (T.setTop (mkF m pc L (.int n :: S))) := by
  have hbig := own_big C X
  obtain ⟨locs, X, N, e0⟩ := X; subst hp; subst hty
  obtain ⟨q1, q2⟩ := own_ix hn
  obtain ⟨T', h2, cA, X', e', E, A, st⟩ := newP X C.1 C.2.2.2.2.2.2.2.1 w e0 (g := mkF m pc L (.int n :: S)) rfl (hb C.2.1 hd) rfl q1 (cap := cap) (by rw [q2]; exact hcap) hb8 hc hs
  refine own_st st (g T' h2 _ rfl ⟨_, X', N, e'⟩ (own_keep_ext E) hbig ⟨_, A, ?_, ?_, ?_⟩)
  · simp [newA, q2, hdef]
  · have := n.toInt_lt; simp only [List.length_replicate]; omega
  · intro x hx; obtain ⟨-, rfl⟩ := List.mem_replicate.mp hx; exact hfit
theorem own_newJ (C : own_Cx p s m meth c Z n0 own nm bytes ml ret) (X : own_St p l e R s m args below meth c n0 T h cells slots) {n : Int32} {k cap : Nat} (hd : decode bytes pc = .ok (.newarray .long, 2)) (w : (Jvm.Cond.arrayClass .long).before a0 Z = true) (hn : n.toInt = (k : Int)) (hcap : k ≤ cap) (hb8 : cap * 8 ≤ 536870912)
    (hc : cells + 1 ≤ R.cells) (hs : slots + cap ≤ R.slots) (hp : pc + 2 = pc')
    (g : ∀ T' h' a, a = h.size → own_St p l e R s m args below meth c n0 T' h' (cells + 1) (slots + cap) → Keep h h' [] → n0 ≤ a → own_JA Z h' a (List.replicate k 0) → own_Go p e below n0 F (T'.setTop (mkF m pc' L (.ref a :: S)))) : own_Go p e below n0 F (T.setTop (mkF m pc L (.int n :: S))) := by
  have hbig := own_big C X
  obtain ⟨locs, X, N, e0⟩ := X; subst hp
  obtain ⟨q1, q2⟩ := own_ix hn
  obtain ⟨T', h2, cA, X', e', E, A, st⟩ := newP (aty := .long) X C.1 C.2.2.2.2.2.2.2.1 w e0 (g := mkF m pc L (.int n :: S)) rfl (hb C.2.1 hd) rfl q1 (cap := cap) (by rw [q2]; exact hcap) hb8 hc hs
  refine own_st st (g T' h2 _ rfl ⟨_, X', N, e'⟩ (own_keep_ext E) hbig ⟨_, A, ?_, ?_⟩)
  · simp [newA, q2, defaultValue, newarray.typeOf]
  · have := n.toInt_lt; simp only [List.length_replicate]; omega
/-! objects by the list of their fields: name, descriptor, value -/
def own_Ob (Z : State) (a0 : Array Value) (h : Heap) (a : Addr) (K : String) (fs : List (String × String × Value)) : Prop :=
  Exa Z h a K ∧ (fs.map (·.1)).Nodup ∧ ∀ f ∈ fs, Fld Z h a K f.1 f.2.1 f.2.2 ∧ Laid Z a0 K K f.1 f.2.1 ∧ ∃ t, parseFieldDescriptor f.2.1 = some t
theorem own_Ob.keep {K : String} {fs : List (String × String × Value)} (O : own_Ob Z a0 h a K fs) (W : Keep h h' ws) (q : a ∉ ws) : own_Ob Z a0 h' a K fs :=
  ⟨O.1.keep W, O.2.1, fun f hf => ⟨(O.2.2 f hf).1.keep W q, (O.2.2 f hf).2⟩⟩
theorem own_Ob.lt {K : String} {fs : List (String × String × Value)} (O : own_Ob Z a0 h a K fs) : a < h.size := O.1.lt
theorem own_Ob.put {K n d : String} {fs : List (String × String × Value)} {v w : Value} {i : Nat} (O : own_Ob Z a0 h a K fs) (hi : fs[i]? = some (n, d, w)) (W : Wr h h' a (Jvm.RoadKit.slotOf Z K n d) v) : own_Ob Z a0 h' a K (fs.set i (n, d, v)) := by
  obtain ⟨hlt, hget⟩ := List.getElem?_eq_some_iff.mp hi
  have hmem : (n, d, w) ∈ fs := hget ▸ List.getElem_mem hlt
  have hnames : (fs.set i (n, d, v)).map (·.1) = fs.map (·.1) := by
    rw [List.map_set]
    apply List.ext_getElem? ; intro k
    by_cases hk : i = k
    · subst hk; rw [List.getElem?_set_self (by simpa using hlt), List.getElem?_map, hi]; rfl
    · rw [List.getElem?_set_ne hk]
  refine ⟨O.1.wr W, by rw [hnames]; exact O.2.1, fun f hf => ?_⟩
  obtain ⟨k, hk, hfk⟩ := List.getElem_of_mem hf
  have hk' : (fs.set i (n, d, v))[k]? = some f := List.getElem?_eq_some_iff.mpr ⟨hk, hfk⟩
  by_cases hik : i = k
  · subst hik
    rw [List.getElem?_set_self hlt] at hk'; cases hk'
    exact ⟨(O.2.2 _ hmem).1.same W, (O.2.2 _ hmem).2⟩
  · rw [List.getElem?_set_ne hik] at hk'
    obtain ⟨hlk, hgk⟩ := List.getElem?_eq_some_iff.mp hk'
    have hfm : f ∈ fs := hgk ▸ List.getElem_mem hlk
    obtain ⟨F, La, t, ht⟩ := O.2.2 f hfm
    obtain ⟨-, La', t', ht'⟩ := O.2.2 _ hmem
    refine ⟨F.other W (Or.inr (slot_ne La La' (fun hne => ?_) ht ht')), La, t, ht⟩
    have hnd := List.pairwise_iff_getElem.mp O.2.1
    rcases Nat.lt_or_gt_of_ne hik with q | q
    · exact hnd i k (by simpa using hlt) (by simpa using hlk) q (by simp [hget, hgk, hne])
    · exact hnd k i (by simpa using hlk) (by simpa using hlt) q (by simp [hget, hgk, hne])
theorem own_Ob.get {K n d : String} {fs : List (String × String × Value)} {v : Value} {i : Nat} (O : own_Ob Z a0 h a K fs) (hi : fs[i]? = some (n, d, v)) : Fld Z h a K n d v := by
  obtain ⟨hlt, hget⟩ := List.getElem?_eq_some_iff.mp hi
  exact (O.2.2 (n, d, v) (hget ▸ List.getElem_mem hlt)).1
theorem own_getfield (C : own_Cx p s m meth c Z n0 own nm bytes ml ret) (X : own_St p l e R s m args below meth c n0 T h cells slots) {K n d : String} {idx i : Nat} {fs : List (String × String × Value)} {v : Value} (hd : decode bytes pc = .ok (.getfield idx, 3)) (w : (Jvm.Cond.fieldLink own idx K n d).before a0 Z = true) (O : own_Ob Z a0 h a K fs) (hi : fs[i]? = some (n, d, v)) (hp : pc + 3 = pc')
    (g : ∀ T', own_St p l e R s m args below meth c n0 T' h cells slots → own_Go p e below n0 F (T'.setTop (mkF m pc' L (v :: S)))) : own_Go p e below n0 F (T.setTop (mkF m pc L (.ref a :: S))) := by
  obtain ⟨locs, X, N, e0⟩ := X; subst hp
  obtain ⟨T', X', e', st⟩ := getF X C.1 C.2.2.2.2.2.2.2.1 C.2.2.2.1 (host := "") (Or.inl w) Via.refl e0 (O.get hi) (g := mkF m pc L (.ref a :: S)) rfl rfl (hb C.2.1 hd)
  exact own_st st (g T' ⟨_, X', N, e'⟩)
theorem own_putfield (C : own_Cx p s m meth c Z n0 own nm bytes ml ret) (X : own_St p l e R s m args below meth c n0 T h cells slots) {K n d : String} {idx i kk : Nat} {fs : List (String × String × Value)} {v old : Value} (hd : decode bytes pc = .ok (.putfield idx, 3)) (w : (Jvm.Cond.fieldLink own idx K n d).before a0 Z = true)
    (lay : (Jvm.Cond.lays K K n d).before a0 Z = true ∨ ((Jvm.Cond.laysFinal K K n d).before a0 Z = true ∧ own = K ∧ nm = "<init>")) (wi : (Jvm.Cond.instantiable K kk).before a0 Z = true) (O : own_Ob Z a0 h a K fs) (hi : fs[i]? = some (n, d, old)) (hty : parseFieldDescriptor d = some ty) (hn : narrow ty v = v) (hf : fits ty v = true) (ha : n0 ≤ a) (hp : pc + 3 = pc')
    (g : ∀ T' h', own_St p l e R s m args below meth c n0 T' h' cells slots → Keep h h' [a] → own_Ob Z a0 h' a K (fs.set i (n, d, v)) → own_Go p e below n0 F (T'.setTop (mkF m pc' L S))) : own_Go p e below n0 F (T.setTop (mkF m pc L (v :: .ref a :: S))) := by
  obtain ⟨locs, X, N, e0⟩ := X; subst hp
  obtain ⟨T', h2, X', e', W, st⟩ := putF X C.1 C.2.2.2.2.2.2.2.1 C.2.2.2.1 (host := "") (Or.inl w) Via.refl e0 (O.get hi) O.1 (lay.imp id (fun q => ⟨q.1, q.2.1, C.2.2.2.2.1.trans q.2.2⟩)) wi hty hn hf (g := mkF m pc L (v :: .ref a :: S)) rfl rfl (hb C.2.1 hd)
  exact own_st st (g T' h2 ⟨_, X', Fr.snoc X' N ha, e'⟩ (Keep.of_wr W) (O.put hi W))
theorem own_new (C : own_Cx p s m meth c Z n0 own nm bytes ml ret) (X : own_St p l e R s m args below meth c n0 T h cells slots) {K : String} {idx k : Nat} (hd : decode bytes pc = .ok (.new idx, 3)) (w : (Jvm.Cond.classLink own idx K).before a0 Z = true) (wi : (Jvm.Cond.instantiable K k).before a0 Z = true) (wz : (Jvm.Cond.initialized K).before a0 Z = true)
    (hc : cells + 1 ≤ R.cells) (hs : slots + k ≤ R.slots) (fs : List (String × String × Value)) (hnd : (fs.map (·.1)).Nodup) (hfs : ∀ f ∈ fs, Laid Z a0 K K f.1 f.2.1 ∧ ∃ t, parseFieldDescriptor f.2.1 = some t ∧ defaultValue t = f.2.2) (hp : pc + 3 = pc')
    (g : ∀ T' h' a, a = h.size → own_St p l e R s m args below meth c n0 T' h' (cells + 1) (slots + k) → Keep h h' [] → n0 ≤ a → own_Ob Z a0 h' a K fs → own_Go p e below n0 F (T'.setTop (mkF m pc' L (.ref a :: S)))) : own_Go p e below n0 F (T.setTop (mkF m pc L S)) := by
  have hbig := own_big C X
  obtain ⟨locs, X, N, e0⟩ := X; subst hp
  obtain ⟨T', h2, X', e', E, A, D, -, st⟩ := newO X C.1 C.2.2.2.2.2.2.2.1 C.2.2.2.1 w wi wz e0 (g := mkF m pc L S) rfl (hb C.2.1 hd) hc hs
  refine own_st st (g T' h2 _ rfl ⟨_, X', N, e'⟩ (own_keep_ext E) hbig ⟨A, hnd, fun f hf => ?_⟩)
  obtain ⟨La, t, ht, hdv⟩ := hfs f hf
  exact ⟨hdv ▸ D La ht, La, t, ht⟩
theorem own_objinit (C : own_Cx p s m meth c Z n0 own nm bytes ml ret) (X : own_St p l e R s m args below meth c n0 T h cells slots) {idx : Nat} (hd : decode bytes pc = .ok (.invokespecial idx, 3)) (w1 : (Jvm.Cond.methodLink own idx Lib.objectInit).before a0 Z = true) (w2 : (Jvm.Cond.instanceMethod Lib.objectInit).before a0 Z = true) (w3 : (Jvm.Cond.code Lib.objectInit ⟨#[0xb1]⟩ 1 none).before a0 Z = true)
    (hL : L.size = ml) (hf : 1 ≤ R.frames) (hlo : (S.map fun v => v.category).sum + 12 ≤ R.locals) (hp : pc + 3 = pc')
    (g : ∀ T', own_St p l e R s m args below meth c n0 T' h cells slots → own_Go p e below n0 F (T'.setTop (mkF m pc' L S))) : own_Go p e below n0 F (T.setTop (mkF m pc L (.ref a :: S))) := by
  obtain ⟨locs, X, N, e0⟩ := X; subst hp
  obtain ⟨T', X', e', st⟩ := initO X C.1 C.2.2.2.2.2.2.2.1 C.2.2.2.1 w1 w2 w3 e0 (g := mkF m pc L (.ref a :: S)) rfl (by rw [C.2.2.1]; exact hL) rfl (hb C.2.1 hd) hf (W := (S.map fun v => v.category).sum) (by show 2 * 0 + _ ≤ _; omega) hlo
  exact own_st st (g T' ⟨_, X', N, e'⟩)
/-! calls -/
theorem own_callS (C : own_Cx p s m meth c Z n0 own nm bytes ml ret) (X : own_St p l e R s m args below meth c n0 T h cells slots) {y : MethodName} {by' : ByteArray} {ml' idx : Nat} {rt ret' : Option FieldType} {ps : List FieldType} {rm : Room} {av : List Value} {Qc : Option Value → Heap → Prop} (hd : decode bytes pc = .ok (.invokestatic idx, 3)) (M : own_Met l Z n0 y by' ml' ret' [] rm av.toArray h Qc)
    (w1 : (Jvm.Cond.methodLink own idx y).before a0 Z = true) (w2 : (Jvm.Cond.static y).before a0 Z = true) (w3 : (Jvm.Cond.initialized y.cls).before a0 Z = true) (w4 : (Jvm.Cond.code y by' ml' ret').before a0 Z = true) (hy : y.cls ≠ "java/lang/invoke/MethodHandle" ∧ y.cls ≠ "java/lang/invoke/VarHandle")
    (hde : parseMethodDescriptor y.desc = some ⟨ps, rt⟩) (hps : av.length = ps.length) (hL : L.size = ml) (hf : rm.frames + 1 ≤ R.frames) (hlo : (S.map fun v => v.category).sum + (ml' + 11) + rm.locals ≤ R.locals) (hc : cells + rm.cells ≤ R.cells) (hs : slots + rm.slots ≤ R.slots) {S0 : List Value} (hS : S0 = av.reverse ++ S) (hp : pc + 3 = pc')
    (g : ∀ T' h' v, own_St p l e R s m args below meth c n0 T' h' (cells + rm.cells) (slots + rm.slots) → Qc v h' → own_Go p e below n0 F (T'.setTop (mkF m pc' L (v.toList ++ S)))) : own_Go p e below n0 F (T.setTop (mkF m pc L S0)) := by
  obtain ⟨locs, X, N, e0⟩ := X; subst hp; subst hS
  have hZ := C.2.2.2.2.2.2.2.1
  obtain ⟨v, _, ⟨T2, L2, k2, n2⟩, -, X2, ⟨Lc, hQ, l2, y2, z2⟩, st⟩ := Jvm.LawKit.callS X C.1 (y := y) C.2.2.2.1 (mvT hZ w1) (mvT hZ w2) (mvT hZ w3) (mvT hZ w4) hy (backOf (W := (S.map fun v => v.category).sum) (Q := fun v h L => Qc v h ∧ Fr n0 L) M hZ w4 w3 hf hlo) (g := mkF m pc L (av.reverse ++ S)) rfl (by rw [C.2.2.1]; exact hL) (argsL := av) (rest := S) (lenOf hde hps) rfl (by show 2 * 0 + _ ≤ _; omega) (hb C.2.1 hd) (fun _ _ => ⟨rfl, e0, hc, hs⟩)
  dsimp only [Pt.U, Pt.locs, Pt.cells, Pt.slots] at X2 l2 y2 z2 st hQ
  subst l2 y2 z2
  exact own_st st (g T2 _ v ⟨_, X2, Fr.app N hQ.2, rfl⟩ hQ.1)
theorem own_callInit (C : own_Cx p s m meth c Z n0 own nm bytes ml ret) (X : own_St p l e R s m args below meth c n0 T h cells slots) {y : MethodName} {by' : ByteArray} {ml' idx : Nat} {rt : Option FieldType} {ps : List FieldType} {rm : Room} {av : List Value} {Qc : Option Value → Heap → Prop} (hd : decode bytes pc = .ok (.invokespecial idx, 3)) (M : own_Met l Z n0 y by' ml' none [] rm (.ref a :: av).toArray h Qc) (hy1 : y.name = "<init>")
    (w1 : (Jvm.Cond.methodLink own idx y).before a0 Z = true) (w2 : (Jvm.Cond.instanceMethod y).before a0 Z = true) (w3 : (Jvm.Cond.initialized y.cls).before a0 Z = true) (w4 : (Jvm.Cond.code y by' ml' none).before a0 Z = true) (hy : y.cls ≠ "java/lang/invoke/MethodHandle" ∧ y.cls ≠ "java/lang/invoke/VarHandle")
    (hde : parseMethodDescriptor y.desc = some ⟨ps, rt⟩) (hps : av.length = ps.length) (hL : L.size = ml) (hf : rm.frames + 1 ≤ R.frames) (hlo : (S.map fun v => v.category).sum + (ml' + 11) + rm.locals ≤ R.locals) (hc : cells + rm.cells ≤ R.cells) (hs : slots + rm.slots ≤ R.slots) {S0 : List Value} (hS : S0 = av.reverse ++ .ref a :: S) (hp : pc + 3 = pc')
    (g : ∀ T' h' v, own_St p l e R s m args below meth c n0 T' h' (cells + rm.cells) (slots + rm.slots) → Qc v h' → own_Go p e below n0 F (T'.setTop (mkF m pc' L (v.toList ++ S)))) : own_Go p e below n0 F (T.setTop (mkF m pc L S0)) := by
  obtain ⟨locs, X, N, e0⟩ := X; subst hp; subst hS
  have hZ := C.2.2.2.2.2.2.2.1
  obtain ⟨v, _, ⟨T2, L2, k2, n2⟩, -, X2, ⟨Lc, hQ, l2, y2, z2⟩, st⟩ := X.specialBack C.1 (y := y) hy1 C.2.2.2.1 (mvT hZ w1) (mvT hZ w2) (mvT hZ w4) hy (backOf (W := (S.map fun v => v.category).sum) (Q := fun v h L => Qc v h ∧ Fr n0 L) M hZ w4 w3 hf hlo) (g := mkF m pc L (av.reverse ++ .ref a :: S)) rfl (by rw [C.2.2.1]; exact hL) (Steps.refl _) (a := a) (argsL := av) (rest := S) (lenOf hde hps) rfl (by show 2 * 0 + _ ≤ _; omega) (hb C.2.1 hd) (fun _ _ => ⟨rfl, e0, hc, hs⟩)
  dsimp only [Pt.U, Pt.locs, Pt.cells, Pt.slots] at X2 l2 y2 z2 st hQ
  subst l2 y2 z2
  exact own_st (fun t k => st.trans k) (g T2 _ v ⟨_, X2, Fr.app N hQ.2, rfl⟩ hQ.1)
theorem own_callV (C : own_Cx p s m meth c Z n0 own nm bytes ml ret) (X : own_St p l e R s m args below meth c n0 T h cells slots) {y : MethodName} {by' : ByteArray} {ml' idx : Nat} {rt ret' : Option FieldType} {ps : List FieldType} {rm : Room} {av : List Value} {Qc : Option Value → Heap → Prop} (hd : decode bytes pc = .ok (.invokevirtual idx, 3)) (M : own_Met l Z n0 y by' ml' ret' [] rm (.ref a :: av).toArray h Qc)
    (E : Exa Z h a y.cls) (w1 : (Jvm.Cond.methodLink own idx y).before a0 Z = true) (wd : (Jvm.Cond.declares y).before a0 Z = true) (ws : (Jvm.Cond.selects y.cls y y).before a0 Z = true) (w2 : (Jvm.Cond.instanceMethod y).before a0 Z = true) (w3 : (Jvm.Cond.initialized y.cls).before a0 Z = true) (w4 : (Jvm.Cond.code y by' ml' ret').before a0 Z = true) (hy : y.cls ≠ "java/lang/invoke/MethodHandle" ∧ y.cls ≠ "java/lang/invoke/VarHandle")
    (hde : parseMethodDescriptor y.desc = some ⟨ps, rt⟩) (hps : av.length = ps.length) (hL : L.size = ml) (hf : rm.frames + 1 ≤ R.frames) (hlo : (S.map fun v => v.category).sum + (ml' + 11) + rm.locals ≤ R.locals) (hc : cells + rm.cells ≤ R.cells) (hs : slots + rm.slots ≤ R.slots) {S0 : List Value} (hS : S0 = av.reverse ++ .ref a :: S) (hp : pc + 3 = pc')
    (g : ∀ T' h' v, own_St p l e R s m args below meth c n0 T' h' (cells + rm.cells) (slots + rm.slots) → Qc v h' → own_Go p e below n0 F (T'.setTop (mkF m pc' L (v.toList ++ S)))) : own_Go p e below n0 F (T.setTop (mkF m pc L S0)) := by
  obtain ⟨locs, X, N, e0⟩ := X; subst hp; subst hS
  have hZ := C.2.2.2.2.2.2.2.1
  obtain ⟨cq, kq, qa, qb, qc⟩ := isOf hZ e0 E
  obtain ⟨v, _, ⟨T2, L2, k2, n2⟩, -, X2, ⟨Lc, hQ, l2, y2, z2⟩, st⟩ := X.virtualBack C.1 (y := y) (z := y) C.2.2.2.1 (mvT hZ w1) (mvT hZ wd) (notFace_of_selects (args := #[]) (mvT hZ ws)) (mvT hZ ws) (mvT hZ w2) hy (backOf (W := (S.map fun v => v.category).sum) (Q := fun v h L => Qc v h ∧ Fr n0 L) M hZ w4 w3 hf hlo) qa qc (g := mkF m pc L (av.reverse ++ .ref a :: S)) rfl (by rw [C.2.2.1]; exact hL) (Steps.refl _) (argsL := av) (rest := S) (lenOf hde hps) rfl (by show 2 * 0 + _ ≤ _; omega) (hb C.2.1 hd) (fun _ _ => ⟨rfl, e0, hc, hs⟩)
  dsimp only [Pt.U, Pt.locs, Pt.cells, Pt.slots] at X2 l2 y2 z2 st hQ
  subst l2 y2 z2
  exact own_st (fun t k => st.trans k) (g T2 _ v ⟨_, X2, Fr.app N hQ.2, rfl⟩ hQ.1)
/-- a private method selects itself (turned from the worked claim gauge-weight) -/
theorem own_selP {s : State} {args : Array Value} {n : Nat} {y : MethodName} (hy : y.cls ≠ "java/lang/invoke/MethodHandle" ∧ y.cls ≠ "java/lang/invoke/VarHandle") (hins : (Jvm.Cond.instantiable y.cls n).before args s = true) (hpriv : (Jvm.Cond.privateMethod y).before args s = true) (hinst : (Jvm.Cond.instanceMethod y).before args s = true) :
    (Jvm.Cond.selects y.cls y y).before args s = true := by
  obtain ⟨c, k, hc, hk, -, hniab, -, -⟩ := Cond.instantiable_spec hins
  have hni : k.isInterface = false := (Bool.or_eq_false_iff.mp hniab).1
  obtain ⟨mk, methM, hnamed, hmethM, -, -⟩ := Cond.instanceMethod_spec hinst
  have hfound : s.methodFound? y.cls y.name y.desc = some mk := State.methodFound?_of_named hnamed hy
  have hcls : mk.cls = c := Option.some.inj ((findClass_of_methodNamed hnamed).symm.trans hc)
  have hsel : selectMethod {} s.vm c mk = .method mk := selectMethod_private hmethM (Cond.privateMethod_at hpriv mk methM hnamed hmethM)
  simp only [Cond.before, Cond.holds, Cond.value, hc, hfound, hnamed, hsel, hcls, hk]
  simp; exact hni
theorem own_callP (C : own_Cx p s m meth c Z n0 own nm bytes ml ret) (X : own_St p l e R s m args below meth c n0 T h cells slots) {y : MethodName} {by' : ByteArray} {ml' idx : Nat} {rt ret' : Option FieldType} {ps : List FieldType} {rm : Room} {av : List Value} {Qc : Option Value → Heap → Prop} (hd : decode bytes pc = .ok (.invokevirtual idx, 3)) (M : own_Met l Z n0 y by' ml' ret' [] rm (.ref a :: av).toArray h Qc)
    (E : Exa Z h a y.cls) (w1 : (Jvm.Cond.methodLink own idx y).before a0 Z = true) {kk : Nat} (wi : (Jvm.Cond.instantiable y.cls kk).before a0 Z = true) (wp : (Jvm.Cond.privateMethod y).before a0 Z = true) (w2 : (Jvm.Cond.instanceMethod y).before a0 Z = true) (w3 : (Jvm.Cond.initialized y.cls).before a0 Z = true) (w4 : (Jvm.Cond.code y by' ml' ret').before a0 Z = true) (hy : y.cls ≠ "java/lang/invoke/MethodHandle" ∧ y.cls ≠ "java/lang/invoke/VarHandle")
    (hde : parseMethodDescriptor y.desc = some ⟨ps, rt⟩) (hps : av.length = ps.length) (hL : L.size = ml) (hf : rm.frames + 1 ≤ R.frames) (hlo : (S.map fun v => v.category).sum + (ml' + 11) + rm.locals ≤ R.locals) (hc : cells + rm.cells ≤ R.cells) (hs : slots + rm.slots ≤ R.slots) {S0 : List Value} (hS : S0 = av.reverse ++ .ref a :: S) (hp : pc + 3 = pc')
    (g : ∀ T' h' v, own_St p l e R s m args below meth c n0 T' h' (cells + rm.cells) (slots + rm.slots) → Qc v h' → own_Go p e below n0 F (T'.setTop (mkF m pc' L (v.toList ++ S)))) : own_Go p e below n0 F (T.setTop (mkF m pc L S0)) := by
  obtain ⟨locs, X, N, e0⟩ := X; subst hp; subst hS
  have hZ := C.2.2.2.2.2.2.2.1
  obtain ⟨cq, q1, q2⟩ := E.cell
  obtain ⟨v, _, ⟨T2, L2, k2, n2⟩, -, X2, ⟨Lc, hQ, l2, y2, z2⟩, st⟩ := X.privateBack C.1 (y := y) C.2.2.2.1 (mvT hZ w1) (mvT hZ w2) (mvT hZ (own_selP hy wi wp w2)) (Cond.privateMethod_at (mvP hZ wp (args := #[]))) (mvT hZ w4) hy (backOf (W := (S.map fun v => v.category).sum) (Q := fun v h L => Qc v h ∧ Fr n0 L) M hZ w4 w3 hf hlo) (g := mkF m pc L (av.reverse ++ .ref a :: S)) rfl (by rw [C.2.2.1]; exact hL) (Steps.refl _) (a := a) (by rw [e0]; exact q1) q2 (argsL := av) (rest := S) (lenOf hde hps) rfl (by show 2 * 0 + _ ≤ _; omega) (hb C.2.1 hd) (fun _ _ => ⟨rfl, e0, hc, hs⟩)
  dsimp only [Pt.U, Pt.locs, Pt.cells, Pt.slots] at X2 l2 y2 z2 st hQ
  subst l2 y2 z2
  exact own_st (fun t k => st.trans k) (g T2 _ v ⟨_, X2, Fr.app N hQ.2, rfl⟩ hQ.1)
end OwnKitTwo
end Jvm.Pilot.@@N@@
namespace Jvm.Pilot.@@N@@
open Jvm Jvm.ClassFile Sem Op Lib Jvm.Free Jvm.Stand Jvm.LawKit Jvm.RoadKit Bundle Jvm.Pilot.@@N@@.Jvm.D
section OwnKitThree
theorem own_i2b2 (x : Int32) : x.toInt8.toInt32.toInt8.toInt32 = x.toInt8.toInt32 := by simp
theorem own_i2bn {y t : Int32} (e : y.toInt8.toInt32 = t) : t.toInt8.toInt32 = t := by rw [← e]; simp
theorem own_ibd {Z : State} {h : Heap} {a : Addr} {ty : FieldType} {xs : List Int32} {i : Nat} {v : Int32} (A : own_IA Z h a ty xs) (e : xs[i]? = some v) : i < 2 ^ 31 := by
  obtain ⟨c, -, -, hl, -⟩ := A; exact Nat.lt_trans (own_lt_of e) hl
theorem own_ixadd {o d : Int32} {k n : Nat} (hk : o.toInt = (k : Int)) (hd : d.toInt = (n : Int)) (hb : k + n < 2 ^ 31) : (o + d).toInt = ((k + n : Nat) : Int) := by
  have := c_iadd o d; have := rng32 (o + d); omega
theorem own_orI (a b : Int32) (k : Nat) (hk : k ≤ 31) (P : Int) (hP : P = (2 ^ k : Nat)) (h1 : a.toInt % P = 0) (h2 : 0 ≤ b.toInt) (h3 : b.toInt < P) (h4 : 0 ≤ a.toInt) (h5 : a.toInt + b.toInt < 2147483648) : (a ||| b).toInt = a.toInt + b.toInt := by
  have := c_or a b k hk P hP h1 h2 h3; have := rng32 (a ||| b); omega
theorem own_addI (a b : Int32) (h1 : -2147483648 ≤ a.toInt + b.toInt) (h2 : a.toInt + b.toInt < 2147483648) : (a + b).toInt = a.toInt + b.toInt := by
  have := c_iadd a b; have := rng32 (a + b); omega
theorem own_subI (a b : Int32) (h1 : -2147483648 ≤ a.toInt - b.toInt) (h2 : a.toInt - b.toInt < 2147483648) : (a - b).toInt = a.toInt - b.toInt := by
  have := c_isub a b; have := rng32 (a - b); omega
theorem own_ba3 (y : Int32) : (y.toInt8.toInt32 &&& 7).toInt = y.toInt % 8 := by
  have e1 : (y.toInt8.toInt32 &&& 7).toInt = y.toInt8.toInt32.toInt % (2 ^ 3 : Nat) := c_mask _ 7 3 (by decide) (by decide)
  have e2 := c_i2b y
  omega
theorem own_ba4 (y : Int32) : (y.toInt8.toInt32 &&& 15).toInt = y.toInt % 16 := by
  have e1 : (y.toInt8.toInt32 &&& 15).toInt = y.toInt8.toInt32.toInt % (2 ^ 4 : Nat) := c_mask _ 15 4 (by decide) (by decide)
  have e2 := c_i2b y
  omega
theorem own_ba5 (y : Int32) : (y.toInt8.toInt32 &&& 31).toInt = y.toInt % 32 := by
  have e1 : (y.toInt8.toInt32 &&& 31).toInt = y.toInt8.toInt32.toInt % (2 ^ 5 : Nat) := c_mask _ 31 5 (by decide) (by decide)
  have e2 := c_i2b y
  omega
theorem own_ba6 (y : Int32) : (y.toInt8.toInt32 &&& 63).toInt = y.toInt % 64 := by
  have e1 : (y.toInt8.toInt32 &&& 63).toInt = y.toInt8.toInt32.toInt % (2 ^ 6 : Nat) := c_mask _ 63 6 (by decide) (by decide)
  have e2 := c_i2b y
  omega
theorem own_ba7 (y : Int32) : (y.toInt8.toInt32 &&& 127).toInt = y.toInt % 128 := by
  have e1 : (y.toInt8.toInt32 &&& 127).toInt = y.toInt8.toInt32.toInt % (2 ^ 7 : Nat) := c_mask _ 127 7 (by decide) (by decide)
  have e2 := c_i2b y
  omega
theorem own_ba8 (y : Int32) : (y.toInt8.toInt32 &&& 255).toInt = y.toInt % 256 := by
  have e1 : (y.toInt8.toInt32 &&& 255).toInt = y.toInt8.toInt32.toInt % (2 ^ 8 : Nat) := c_mask _ 255 8 (by decide) (by decide)
  have e2 := c_i2b y
  omega
theorem own_cont (q : Int32) : (((128 : Int32) ||| (q &&& 63)).toInt8.toInt32 &&& 63).toInt = q.toInt % 64 := by
  have e1 : (q &&& 63).toInt = q.toInt % (2 ^ 6 : Nat) := c_mask q 63 6 (by decide) (by decide)
  have z : (128 : Int32).toInt = 128 := rfl
  have e2 := own_orI 128 (q &&& 63) 7 (by decide) 128 (by decide) (by decide) (by omega) (by omega) (by decide) (by omega)
  rw [own_ba6, e2]; omega
theorem own_acc (x y : Int32) (h1 : 0 ≤ x.toInt) (h2 : x.toInt * 64 + 63 < 2147483648) (h3 : 0 ≤ y.toInt) (h4 : y.toInt < 64) : ((x <<< (6 &&& 31)) ||| y).toInt = x.toInt * 64 + y.toInt := by
  have e1 := c_ishl x 6 6 (by decide)
  have e2 := rng32 (x <<< (6 &&& 31))
  have e3 : (x <<< (6 &&& 31)).toInt = x.toInt * 64 := by omega
  rw [own_orI (x <<< (6 &&& 31)) y 6 (by decide) 64 (by decide) (by omega) h3 h4 (by omega) (by omega), e3]
end OwnKitThree
end Jvm.Pilot.@@N@@
namespace Jvm.Pilot.@@N@@
open Jvm Jvm.ClassFile Sem Op Lib Jvm.Free Jvm.Stand Jvm.LawKit Jvm.RoadKit Bundle Jvm.Pilot.@@N@@.Jvm.D
def own_min (x y : Int64) : Int64 := if y < x then y else x
theorem own_minle (x y z : Int64) (e : own_min x y = z) : ¬ x < z := by
  rw [own_min] at e; split at e <;> subst e <;> rw [Int64.lt_iff_toInt_lt] at * <;> omega
theorem own_ltt (x y z : Int64) (h1 : ¬ x < y) (h2 : x < z) : y < z := by
  rw [Int64.lt_iff_toInt_lt] at *; omega
theorem own_szv (x z : Int32) (e : (x &&& 2147483647) % 7 = z) : z = 0 ∨ z = 1 ∨ z = 2 ∨ z = 3 ∨ z = 4 ∨ z = 5 ∨ z = 6 := by
  have e1 : (x &&& 2147483647).toInt = x.toInt % (2 ^ 31 : Nat) := c_mask x 2147483647 31 (by decide) (by decide)
  have e2 := (c_irem (x &&& 2147483647) 7 7 rfl).1 (by omega)
  rw [e] at e2
  have : z.toInt = 0 ∨ z.toInt = 1 ∨ z.toInt = 2 ∨ z.toInt = 3 ∨ z.toInt = 4 ∨ z.toInt = 5 ∨ z.toInt = 6 := by omega
  rcases this with e | e | e | e | e | e | e
  · exact Or.inl (Int32.toInt_inj.mp e)
  · exact Or.inr (Or.inl (Int32.toInt_inj.mp e))
  · exact Or.inr (Or.inr (Or.inl (Int32.toInt_inj.mp e)))
  · exact Or.inr (Or.inr (Or.inr (Or.inl (Int32.toInt_inj.mp e))))
  · exact Or.inr (Or.inr (Or.inr (Or.inr (Or.inl (Int32.toInt_inj.mp e)))))
  · exact Or.inr (Or.inr (Or.inr (Or.inr (Or.inr (Or.inl (Int32.toInt_inj.mp e))))))
  · exact Or.inr (Or.inr (Or.inr (Or.inr (Or.inr (Or.inr (Int32.toInt_inj.mp e))))))
theorem own_of (x z : Int32) (e : x &&& 1 = z) : z = 0 ∨ z = 1 := by rw [← e]; exact and_one x
theorem own_ef_min (x : Int64) (y : Int64) (m : MethodId) : entryFrame m #[(.long x), (.long y)] 4 = mkF m 0 #[.val (.long x), .second, .val (.long y), .second] [] := by first | (simp [entryFrame, mkF, argsToLocals, Value.category]; done) | rfl
theorem own_d1_0 : decode jdk_29_method_70_code 0 = .ok (.lload_n 0, 1) := by decide +kernel
theorem own_d1_1 : decode jdk_29_method_70_code 1 = .ok (.lload_n 2, 1) := by decide +kernel
theorem own_d1_2 : decode jdk_29_method_70_code 2 = .ok (.lcmp, 1) := by decide +kernel
theorem own_d1_3 : decode jdk_29_method_70_code 3 = .ok (.ifCond .gt 7, 3) := by decide +kernel
theorem own_d1_10 : decode jdk_29_method_70_code 10 = .ok (.lload_n 2, 1) := by decide +kernel
theorem own_d1_11 : decode jdk_29_method_70_code 11 = .ok (.lreturn, 1) := by decide +kernel
theorem own_d1_6 : decode jdk_29_method_70_code 6 = .ok (.lload_n 0, 1) := by decide +kernel
theorem own_d1_7 : decode jdk_29_method_70_code 7 = .ok (.goto 4, 3) := by decide +kernel
set_option maxRecDepth 65536 in
set_option maxHeartbeats 40000000 in
theorem own_m_min (l : Launch) (Z : State) (a0 : Array Value) (hw : ∀ d ∈ tables_1, d.before a0 Z = true) (x : Int64) (y : Int64) (h0 : Heap) (n0 : Nat) (hn0 : n0 ≤ h0.size)  : own_Met l Z n0 (⟨"java/lang/Math", "min", "(JJ)J"⟩ : MethodName) jdk_29_method_70_code 4 (some .long) [] ({ frames := 0, cells := 0, slots := 0, locals := 0 } : Room) #[(.long x), (.long y)] h0 (fun v h => v = some (.long (own_min x y)) ∧ h0 = h) := by
  refine own_body (Jvm.Free.JP.mathPlain rfl (by decide +kernel)) hn0 (own_ef_min x y) ?_
  intro p e s m below meth c T C X
  refine own_lloadN C X own_d1_0 rfl (pc' := 1) rfl ?_
  refine own_lloadN C X own_d1_1 rfl (pc' := 2) rfl ?_
  refine own_lcmp_gt C X own_d1_2 own_d1_3 (pcT := 10) (pc' := 6) (by decide) (by decide) rfl (fun hc2 => ?_) (fun hc2 => ?_)
  · refine own_lloadN C X own_d1_10 rfl (pc' := 11) rfl ?_
    exact own_lreturn C X own_d1_11 (Nat.le_of_ble_eq_true rfl) (Nat.le_of_ble_eq_true rfl) (⟨by rw [own_min]; simp only [hc2, if_true, if_false], rfl⟩)
  · refine own_lloadN C X own_d1_6 rfl (pc' := 7) rfl ?_
    refine own_goto C X own_d1_7 (pc' := 11) (by decide) (by decide) ?_
    exact own_lreturn C X own_d1_11 (Nat.le_of_ble_eq_true rfl) (Nat.le_of_ble_eq_true rfl) (⟨by rw [own_min]; simp only [hc2, if_true, if_false], rfl⟩)
theorem own_pn_com_example_stablemate_stablemate_SliceHeapsAddPinLaw : plainName "com/example/stablemate/stablemate/SliceHeapsAddPinLaw" = true := by first | (simp [plainName, overriddenIn]; done) | decide +kernel
theorem own_ef_b00 (v0 : Int64) (v1 : Int64) (v2 : Int64) (v3 : Int64) (v4 : Int64) (v5 : Int64) (fill : Int64) (m : MethodId) : entryFrame m #[(.long v0), (.long v1), (.long v2), (.long v3), (.long v4), (.long v5), (.int (0 : Int32)), (.int (0 : Int32)), (.long fill)] 17 = mkF m 0 #[.val (.long v0), .second, .val (.long v1), .second, .val (.long v2), .second, .val (.long v3), .second, .val (.long v4), .second, .val (.long v5), .second, .val (.int (0 : Int32)), .val (.int (0 : Int32)), .val (.long fill), .second, .unset] [] := by first | (simp [entryFrame, mkF, argsToLocals, Value.category]; done) | rfl
theorem own_d2_0 : decode method_3_code 0 = .ok (.bipush 8, 2) := by decide +kernel
theorem own_d2_2 : decode method_3_code 2 = .ok (.newarray .long, 2) := by decide +kernel
theorem own_d2_4 : decode method_3_code 4 = .ok (.dup, 1) := by decide +kernel
theorem own_d2_5 : decode method_3_code 5 = .ok (.iconst 0, 1) := by decide +kernel
theorem own_d2_6 : decode method_3_code 6 = .ok (.lload 14, 2) := by decide +kernel
theorem own_d2_8 : decode method_3_code 8 = .ok (.lastore, 1) := by decide +kernel
theorem own_d2_9 : decode method_3_code 9 = .ok (.dup, 1) := by decide +kernel
theorem own_d2_10 : decode method_3_code 10 = .ok (.iconst 1, 1) := by decide +kernel
theorem own_d2_11 : decode method_3_code 11 = .ok (.lload 14, 2) := by decide +kernel
theorem own_d2_13 : decode method_3_code 13 = .ok (.lastore, 1) := by decide +kernel
theorem own_d2_14 : decode method_3_code 14 = .ok (.dup, 1) := by decide +kernel
theorem own_d2_15 : decode method_3_code 15 = .ok (.iconst 2, 1) := by decide +kernel
theorem own_d2_16 : decode method_3_code 16 = .ok (.lload 14, 2) := by decide +kernel
theorem own_d2_18 : decode method_3_code 18 = .ok (.lastore, 1) := by decide +kernel
theorem own_d2_19 : decode method_3_code 19 = .ok (.dup, 1) := by decide +kernel
theorem own_d2_20 : decode method_3_code 20 = .ok (.iconst 3, 1) := by decide +kernel
theorem own_d2_21 : decode method_3_code 21 = .ok (.lload 14, 2) := by decide +kernel
theorem own_d2_23 : decode method_3_code 23 = .ok (.lastore, 1) := by decide +kernel
theorem own_d2_24 : decode method_3_code 24 = .ok (.dup, 1) := by decide +kernel
theorem own_d2_25 : decode method_3_code 25 = .ok (.iconst 4, 1) := by decide +kernel
theorem own_d2_26 : decode method_3_code 26 = .ok (.lload 14, 2) := by decide +kernel
theorem own_d2_28 : decode method_3_code 28 = .ok (.lastore, 1) := by decide +kernel
theorem own_d2_29 : decode method_3_code 29 = .ok (.dup, 1) := by decide +kernel
theorem own_d2_30 : decode method_3_code 30 = .ok (.iconst 5, 1) := by decide +kernel
theorem own_d2_31 : decode method_3_code 31 = .ok (.lload 14, 2) := by decide +kernel
theorem own_d2_33 : decode method_3_code 33 = .ok (.lastore, 1) := by decide +kernel
theorem own_d2_34 : decode method_3_code 34 = .ok (.dup, 1) := by decide +kernel
theorem own_d2_35 : decode method_3_code 35 = .ok (.bipush 6, 2) := by decide +kernel
theorem own_d2_37 : decode method_3_code 37 = .ok (.lload 14, 2) := by decide +kernel
theorem own_d2_39 : decode method_3_code 39 = .ok (.lastore, 1) := by decide +kernel
theorem own_d2_40 : decode method_3_code 40 = .ok (.dup, 1) := by decide +kernel
theorem own_d2_41 : decode method_3_code 41 = .ok (.bipush 7, 2) := by decide +kernel
theorem own_d2_43 : decode method_3_code 43 = .ok (.lload 14, 2) := by decide +kernel
theorem own_d2_45 : decode method_3_code 45 = .ok (.lastore, 1) := by decide +kernel
theorem own_d2_46 : decode method_3_code 46 = .ok (.astore 16, 2) := by decide +kernel
theorem own_d2_48 : decode method_3_code 48 = .ok (.iload 12, 2) := by decide +kernel
theorem own_d2_50 : decode method_3_code 50 = .ok (.ifCond .le 9, 3) := by decide +kernel
theorem own_d2_59 : decode method_3_code 59 = .ok (.iload 12, 2) := by decide +kernel
theorem own_d2_61 : decode method_3_code 61 = .ok (.iconst 1, 1) := by decide +kernel
theorem own_d2_62 : decode method_3_code 62 = .ok (.if_icmp .le 11, 3) := by decide +kernel
theorem own_d2_73 : decode method_3_code 73 = .ok (.iload 12, 2) := by decide +kernel
theorem own_d2_75 : decode method_3_code 75 = .ok (.iconst 2, 1) := by decide +kernel
theorem own_d2_76 : decode method_3_code 76 = .ok (.if_icmp .le 12, 3) := by decide +kernel
theorem own_d2_88 : decode method_3_code 88 = .ok (.iload 12, 2) := by decide +kernel
theorem own_d2_90 : decode method_3_code 90 = .ok (.iconst 3, 1) := by decide +kernel
theorem own_d2_91 : decode method_3_code 91 = .ok (.if_icmp .le 12, 3) := by decide +kernel
theorem own_d2_103 : decode method_3_code 103 = .ok (.iload 12, 2) := by decide +kernel
theorem own_d2_105 : decode method_3_code 105 = .ok (.iconst 4, 1) := by decide +kernel
theorem own_d2_106 : decode method_3_code 106 = .ok (.if_icmp .le 12, 3) := by decide +kernel
theorem own_d2_118 : decode method_3_code 118 = .ok (.iload 12, 2) := by decide +kernel
theorem own_d2_120 : decode method_3_code 120 = .ok (.iconst 5, 1) := by decide +kernel
theorem own_d2_121 : decode method_3_code 121 = .ok (.if_icmp .le 12, 3) := by decide +kernel
theorem own_d2_133 : decode method_3_code 133 = .ok (.aload 16, 2) := by decide +kernel
theorem own_d2_135 : decode method_3_code 135 = .ok (.areturn, 1) := by decide +kernel
set_option maxRecDepth 65536 in
set_option maxHeartbeats 40000000 in
theorem own_m_b00 (l : Launch) (Z : State) (a0 : Array Value) (hw : ∀ d ∈ tables_1, d.before a0 Z = true) (v0 : Int64) (v1 : Int64) (v2 : Int64) (v3 : Int64) (v4 : Int64) (v5 : Int64) (fill : Int64) (h0 : Heap) (n0 : Nat) (hn0 : n0 ≤ h0.size)  : own_Met l Z n0 (⟨"com/example/stablemate/stablemate/SliceHeapsAddPinLaw", "build", "(JJJJJJIIJ)[J"⟩ : MethodName) method_3_code 17 (some (.array .long)) [] ({ frames := 0, cells := 1, slots := 8, locals := 0 } : Room) #[(.long v0), (.long v1), (.long v2), (.long v3), (.long v4), (.long v5), (.int (0 : Int32)), (.int (0 : Int32)), (.long fill)] h0 (fun v h => ∃ b, v = some (.ref b) ∧ h0.size ≤ b ∧ Keep h0 h [] ∧ own_JA Z h b [fill, fill, fill, fill, fill, fill, fill, fill]) := by
  refine own_body (plainFor_of_name own_pn_com_example_stablemate_stablemate_SliceHeapsAddPinLaw) hn0 (own_ef_b00 v0 v1 v2 v3 v4 v5 fill) ?_
  intro p e s m below meth c T C X
  have KK := Keep.refl h0 []
  refine own_bipush C X own_d2_0 (v := 8) (by decide) (pc' := 2) rfl ?_
  refine own_newJ C X own_d2_2 (hw _ (List.mem_of_getElem? (i := 10) rfl)) (by decide) (k := 8) (cap := 8) (Nat.le_of_ble_eq_true rfl) (by decide) (Nat.le_of_ble_eq_true rfl) (Nat.le_of_ble_eq_true rfl) (pc' := 4) rfl ?_
  intro T h nb e_nb X K_ ge_nb A_nb_
  have gz_nb : h0.size ≤ nb := by rw [e_nb]; exact KK.1
  have A_nb : own_JA Z h nb [(0 : Int64), (0 : Int64), (0 : Int64), (0 : Int64), (0 : Int64), (0 : Int64), (0 : Int64), (0 : Int64)] := A_nb_
  have KK := KK.trans K_ all0
  refine own_dup C X own_d2_4 rfl (pc' := 5) rfl ?_
  refine own_iconst C X own_d2_5 (v := 0) (by decide) (pc' := 6) rfl ?_
  refine own_lload C X own_d2_6 rfl (pc' := 8) rfl ?_
  refine own_lastore C X own_d2_8 A_nb (by decide) (i := 0) (Nat.le_of_ble_eq_true rfl) ge_nb (pc' := 9) rfl ?_
  intro T h X K_ A_nb_
  have A_nb : own_JA Z h nb [fill, (0 : Int64), (0 : Int64), (0 : Int64), (0 : Int64), (0 : Int64), (0 : Int64), (0 : Int64)] := A_nb_
  have KK := KK.trans K_ (allS (Or.inr gz_nb) all0)
  refine own_dup C X own_d2_9 rfl (pc' := 10) rfl ?_
  refine own_iconst C X own_d2_10 (v := 1) (by decide) (pc' := 11) rfl ?_
  refine own_lload C X own_d2_11 rfl (pc' := 13) rfl ?_
  refine own_lastore C X own_d2_13 A_nb (by decide) (i := 1) (Nat.le_of_ble_eq_true rfl) ge_nb (pc' := 14) rfl ?_
  intro T h X K_ A_nb_
  have A_nb : own_JA Z h nb [fill, fill, (0 : Int64), (0 : Int64), (0 : Int64), (0 : Int64), (0 : Int64), (0 : Int64)] := A_nb_
  have KK := KK.trans K_ (allS (Or.inr gz_nb) all0)
  refine own_dup C X own_d2_14 rfl (pc' := 15) rfl ?_
  refine own_iconst C X own_d2_15 (v := 2) (by decide) (pc' := 16) rfl ?_
  refine own_lload C X own_d2_16 rfl (pc' := 18) rfl ?_
  refine own_lastore C X own_d2_18 A_nb (by decide) (i := 2) (Nat.le_of_ble_eq_true rfl) ge_nb (pc' := 19) rfl ?_
  intro T h X K_ A_nb_
  have A_nb : own_JA Z h nb [fill, fill, fill, (0 : Int64), (0 : Int64), (0 : Int64), (0 : Int64), (0 : Int64)] := A_nb_
  have KK := KK.trans K_ (allS (Or.inr gz_nb) all0)
  refine own_dup C X own_d2_19 rfl (pc' := 20) rfl ?_
  refine own_iconst C X own_d2_20 (v := 3) (by decide) (pc' := 21) rfl ?_
  refine own_lload C X own_d2_21 rfl (pc' := 23) rfl ?_
  refine own_lastore C X own_d2_23 A_nb (by decide) (i := 3) (Nat.le_of_ble_eq_true rfl) ge_nb (pc' := 24) rfl ?_
  intro T h X K_ A_nb_
  have A_nb : own_JA Z h nb [fill, fill, fill, fill, (0 : Int64), (0 : Int64), (0 : Int64), (0 : Int64)] := A_nb_
  have KK := KK.trans K_ (allS (Or.inr gz_nb) all0)
  refine own_dup C X own_d2_24 rfl (pc' := 25) rfl ?_
  refine own_iconst C X own_d2_25 (v := 4) (by decide) (pc' := 26) rfl ?_
  refine own_lload C X own_d2_26 rfl (pc' := 28) rfl ?_
  refine own_lastore C X own_d2_28 A_nb (by decide) (i := 4) (Nat.le_of_ble_eq_true rfl) ge_nb (pc' := 29) rfl ?_
  intro T h X K_ A_nb_
  have A_nb : own_JA Z h nb [fill, fill, fill, fill, fill, (0 : Int64), (0 : Int64), (0 : Int64)] := A_nb_
  have KK := KK.trans K_ (allS (Or.inr gz_nb) all0)
  refine own_dup C X own_d2_29 rfl (pc' := 30) rfl ?_
  refine own_iconst C X own_d2_30 (v := 5) (by decide) (pc' := 31) rfl ?_
  refine own_lload C X own_d2_31 rfl (pc' := 33) rfl ?_
  refine own_lastore C X own_d2_33 A_nb (by decide) (i := 5) (Nat.le_of_ble_eq_true rfl) ge_nb (pc' := 34) rfl ?_
  intro T h X K_ A_nb_
  have A_nb : own_JA Z h nb [fill, fill, fill, fill, fill, fill, (0 : Int64), (0 : Int64)] := A_nb_
  have KK := KK.trans K_ (allS (Or.inr gz_nb) all0)
  refine own_dup C X own_d2_34 rfl (pc' := 35) rfl ?_
  refine own_bipush C X own_d2_35 (v := 6) (by decide) (pc' := 37) rfl ?_
  refine own_lload C X own_d2_37 rfl (pc' := 39) rfl ?_
  refine own_lastore C X own_d2_39 A_nb (by decide) (i := 6) (Nat.le_of_ble_eq_true rfl) ge_nb (pc' := 40) rfl ?_
  intro T h X K_ A_nb_
  have A_nb : own_JA Z h nb [fill, fill, fill, fill, fill, fill, fill, (0 : Int64)] := A_nb_
  have KK := KK.trans K_ (allS (Or.inr gz_nb) all0)
  refine own_dup C X own_d2_40 rfl (pc' := 41) rfl ?_
  refine own_bipush C X own_d2_41 (v := 7) (by decide) (pc' := 43) rfl ?_
  refine own_lload C X own_d2_43 rfl (pc' := 45) rfl ?_
  refine own_lastore C X own_d2_45 A_nb (by decide) (i := 7) (Nat.le_of_ble_eq_true rfl) ge_nb (pc' := 46) rfl ?_
  intro T h X K_ A_nb_
  have A_nb : own_JA Z h nb [fill, fill, fill, fill, fill, fill, fill, fill] := A_nb_
  have KK := KK.trans K_ (allS (Or.inr gz_nb) all0)
  refine own_astore C X own_d2_46 rfl (L' := #[.val (.long v0), .second, .val (.long v1), .second, .val (.long v2), .second, .val (.long v3), .second, .val (.long v4), .second, .val (.long v5), .second, .val (.int (0 : Int32)), .val (.int (0 : Int32)), .val (.long fill), .second, .val (.ref nb)]) rfl (pc' := 48) rfl ?_
  refine own_iload C X own_d2_48 rfl (pc' := 50) rfl ?_
  refine own_if_le C X own_d2_50 (pcT := 59) (pc' := 53) (by decide) (by decide) rfl (fun hc50 => ?_) (fun hc50 => absurd hc50 (by decide))
  refine own_iload C X own_d2_59 rfl (pc' := 61) rfl ?_
  refine own_iconst C X own_d2_61 (v := 1) (by decide) (pc' := 62) rfl ?_
  refine own_icmp_le C X own_d2_62 (pcT := 73) (pc' := 65) (by decide) (by decide) rfl (fun hc62 => ?_) (fun hc62 => absurd hc62 (by decide))
  refine own_iload C X own_d2_73 rfl (pc' := 75) rfl ?_
  refine own_iconst C X own_d2_75 (v := 2) (by decide) (pc' := 76) rfl ?_
  refine own_icmp_le C X own_d2_76 (pcT := 88) (pc' := 79) (by decide) (by decide) rfl (fun hc76 => ?_) (fun hc76 => absurd hc76 (by decide))
  refine own_iload C X own_d2_88 rfl (pc' := 90) rfl ?_
  refine own_iconst C X own_d2_90 (v := 3) (by decide) (pc' := 91) rfl ?_
  refine own_icmp_le C X own_d2_91 (pcT := 103) (pc' := 94) (by decide) (by decide) rfl (fun hc91 => ?_) (fun hc91 => absurd hc91 (by decide))
  refine own_iload C X own_d2_103 rfl (pc' := 105) rfl ?_
  refine own_iconst C X own_d2_105 (v := 4) (by decide) (pc' := 106) rfl ?_
  refine own_icmp_le C X own_d2_106 (pcT := 118) (pc' := 109) (by decide) (by decide) rfl (fun hc106 => ?_) (fun hc106 => absurd hc106 (by decide))
  refine own_iload C X own_d2_118 rfl (pc' := 120) rfl ?_
  refine own_iconst C X own_d2_120 (v := 5) (by decide) (pc' := 121) rfl ?_
  refine own_icmp_le C X own_d2_121 (pcT := 133) (pc' := 124) (by decide) (by decide) rfl (fun hc121 => ?_) (fun hc121 => absurd hc121 (by decide))
  refine own_aload C X own_d2_133 rfl rfl (pc' := 135) rfl ?_
  exact own_areturn C X own_d2_135 rfl rfl rfl (Nat.le_of_ble_eq_true rfl) (Nat.le_of_ble_eq_true rfl) (⟨nb, rfl, gz_nb, KK, A_nb⟩)
theorem own_ef_b01 (v0 : Int64) (v1 : Int64) (v2 : Int64) (v3 : Int64) (v4 : Int64) (v5 : Int64) (fill : Int64) (m : MethodId) : entryFrame m #[(.long v0), (.long v1), (.long v2), (.long v3), (.long v4), (.long v5), (.int (0 : Int32)), (.int (1 : Int32)), (.long fill)] 17 = mkF m 0 #[.val (.long v0), .second, .val (.long v1), .second, .val (.long v2), .second, .val (.long v3), .second, .val (.long v4), .second, .val (.long v5), .second, .val (.int (0 : Int32)), .val (.int (1 : Int32)), .val (.long fill), .second, .unset] [] := by first | (simp [entryFrame, mkF, argsToLocals, Value.category]; done) | rfl
set_option maxRecDepth 65536 in
set_option maxHeartbeats 40000000 in
theorem own_m_b01 (l : Launch) (Z : State) (a0 : Array Value) (hw : ∀ d ∈ tables_1, d.before a0 Z = true) (v0 : Int64) (v1 : Int64) (v2 : Int64) (v3 : Int64) (v4 : Int64) (v5 : Int64) (fill : Int64) (h0 : Heap) (n0 : Nat) (hn0 : n0 ≤ h0.size)  : own_Met l Z n0 (⟨"com/example/stablemate/stablemate/SliceHeapsAddPinLaw", "build", "(JJJJJJIIJ)[J"⟩ : MethodName) method_3_code 17 (some (.array .long)) [] ({ frames := 0, cells := 1, slots := 8, locals := 0 } : Room) #[(.long v0), (.long v1), (.long v2), (.long v3), (.long v4), (.long v5), (.int (0 : Int32)), (.int (1 : Int32)), (.long fill)] h0 (fun v h => ∃ b, v = some (.ref b) ∧ h0.size ≤ b ∧ Keep h0 h [] ∧ own_JA Z h b [fill, fill, fill, fill, fill, fill, fill, fill]) := by
  refine own_body (plainFor_of_name own_pn_com_example_stablemate_stablemate_SliceHeapsAddPinLaw) hn0 (own_ef_b01 v0 v1 v2 v3 v4 v5 fill) ?_
  intro p e s m below meth c T C X
  have KK := Keep.refl h0 []
  refine own_bipush C X own_d2_0 (v := 8) (by decide) (pc' := 2) rfl ?_
  refine own_newJ C X own_d2_2 (hw _ (List.mem_of_getElem? (i := 10) rfl)) (by decide) (k := 8) (cap := 8) (Nat.le_of_ble_eq_true rfl) (by decide) (Nat.le_of_ble_eq_true rfl) (Nat.le_of_ble_eq_true rfl) (pc' := 4) rfl ?_
  intro T h nb e_nb X K_ ge_nb A_nb_
  have gz_nb : h0.size ≤ nb := by rw [e_nb]; exact KK.1
  have A_nb : own_JA Z h nb [(0 : Int64), (0 : Int64), (0 : Int64), (0 : Int64), (0 : Int64), (0 : Int64), (0 : Int64), (0 : Int64)] := A_nb_
  have KK := KK.trans K_ all0
  refine own_dup C X own_d2_4 rfl (pc' := 5) rfl ?_
  refine own_iconst C X own_d2_5 (v := 0) (by decide) (pc' := 6) rfl ?_
  refine own_lload C X own_d2_6 rfl (pc' := 8) rfl ?_
  refine own_lastore C X own_d2_8 A_nb (by decide) (i := 0) (Nat.le_of_ble_eq_true rfl) ge_nb (pc' := 9) rfl ?_
  intro T h X K_ A_nb_
  have A_nb : own_JA Z h nb [fill, (0 : Int64), (0 : Int64), (0 : Int64), (0 : Int64), (0 : Int64), (0 : Int64), (0 : Int64)] := A_nb_
  have KK := KK.trans K_ (allS (Or.inr gz_nb) all0)
  refine own_dup C X own_d2_9 rfl (pc' := 10) rfl ?_
  refine own_iconst C X own_d2_10 (v := 1) (by decide) (pc' := 11) rfl ?_
  refine own_lload C X own_d2_11 rfl (pc' := 13) rfl ?_
  refine own_lastore C X own_d2_13 A_nb (by decide) (i := 1) (Nat.le_of_ble_eq_true rfl) ge_nb (pc' := 14) rfl ?_
  intro T h X K_ A_nb_
  have A_nb : own_JA Z h nb [fill, fill, (0 : Int64), (0 : Int64), (0 : Int64), (0 : Int64), (0 : Int64), (0 : Int64)] := A_nb_
  have KK := KK.trans K_ (allS (Or.inr gz_nb) all0)
  refine own_dup C X own_d2_14 rfl (pc' := 15) rfl ?_
  refine own_iconst C X own_d2_15 (v := 2) (by decide) (pc' := 16) rfl ?_
  refine own_lload C X own_d2_16 rfl (pc' := 18) rfl ?_
  refine own_lastore C X own_d2_18 A_nb (by decide) (i := 2) (Nat.le_of_ble_eq_true rfl) ge_nb (pc' := 19) rfl ?_
  intro T h X K_ A_nb_
  have A_nb : own_JA Z h nb [fill, fill, fill, (0 : Int64), (0 : Int64), (0 : Int64), (0 : Int64), (0 : Int64)] := A_nb_
  have KK := KK.trans K_ (allS (Or.inr gz_nb) all0)
  refine own_dup C X own_d2_19 rfl (pc' := 20) rfl ?_
  refine own_iconst C X own_d2_20 (v := 3) (by decide) (pc' := 21) rfl ?_
  refine own_lload C X own_d2_21 rfl (pc' := 23) rfl ?_
  refine own_lastore C X own_d2_23 A_nb (by decide) (i := 3) (Nat.le_of_ble_eq_true rfl) ge_nb (pc' := 24) rfl ?_
  intro T h X K_ A_nb_
  have A_nb : own_JA Z h nb [fill, fill, fill, fill, (0 : Int64), (0 : Int64), (0 : Int64), (0 : Int64)] := A_nb_
  have KK := KK.trans K_ (allS (Or.inr gz_nb) all0)
  refine own_dup C X own_d2_24 rfl (pc' := 25) rfl ?_
  refine own_iconst C X own_d2_25 (v := 4) (by decide) (pc' := 26) rfl ?_
  refine own_lload C X own_d2_26 rfl (pc' := 28) rfl ?_
  refine own_lastore C X own_d2_28 A_nb (by decide) (i := 4) (Nat.le_of_ble_eq_true rfl) ge_nb (pc' := 29) rfl ?_
  intro T h X K_ A_nb_
  have A_nb : own_JA Z h nb [fill, fill, fill, fill, fill, (0 : Int64), (0 : Int64), (0 : Int64)] := A_nb_
  have KK := KK.trans K_ (allS (Or.inr gz_nb) all0)
  refine own_dup C X own_d2_29 rfl (pc' := 30) rfl ?_
  refine own_iconst C X own_d2_30 (v := 5) (by decide) (pc' := 31) rfl ?_
  refine own_lload C X own_d2_31 rfl (pc' := 33) rfl ?_
  refine own_lastore C X own_d2_33 A_nb (by decide) (i := 5) (Nat.le_of_ble_eq_true rfl) ge_nb (pc' := 34) rfl ?_
  intro T h X K_ A_nb_
  have A_nb : own_JA Z h nb [fill, fill, fill, fill, fill, fill, (0 : Int64), (0 : Int64)] := A_nb_
  have KK := KK.trans K_ (allS (Or.inr gz_nb) all0)
  refine own_dup C X own_d2_34 rfl (pc' := 35) rfl ?_
  refine own_bipush C X own_d2_35 (v := 6) (by decide) (pc' := 37) rfl ?_
  refine own_lload C X own_d2_37 rfl (pc' := 39) rfl ?_
  refine own_lastore C X own_d2_39 A_nb (by decide) (i := 6) (Nat.le_of_ble_eq_true rfl) ge_nb (pc' := 40) rfl ?_
  intro T h X K_ A_nb_
  have A_nb : own_JA Z h nb [fill, fill, fill, fill, fill, fill, fill, (0 : Int64)] := A_nb_
  have KK := KK.trans K_ (allS (Or.inr gz_nb) all0)
  refine own_dup C X own_d2_40 rfl (pc' := 41) rfl ?_
  refine own_bipush C X own_d2_41 (v := 7) (by decide) (pc' := 43) rfl ?_
  refine own_lload C X own_d2_43 rfl (pc' := 45) rfl ?_
  refine own_lastore C X own_d2_45 A_nb (by decide) (i := 7) (Nat.le_of_ble_eq_true rfl) ge_nb (pc' := 46) rfl ?_
  intro T h X K_ A_nb_
  have A_nb : own_JA Z h nb [fill, fill, fill, fill, fill, fill, fill, fill] := A_nb_
  have KK := KK.trans K_ (allS (Or.inr gz_nb) all0)
  refine own_astore C X own_d2_46 rfl (L' := #[.val (.long v0), .second, .val (.long v1), .second, .val (.long v2), .second, .val (.long v3), .second, .val (.long v4), .second, .val (.long v5), .second, .val (.int (0 : Int32)), .val (.int (1 : Int32)), .val (.long fill), .second, .val (.ref nb)]) rfl (pc' := 48) rfl ?_
  refine own_iload C X own_d2_48 rfl (pc' := 50) rfl ?_
  refine own_if_le C X own_d2_50 (pcT := 59) (pc' := 53) (by decide) (by decide) rfl (fun hc50 => ?_) (fun hc50 => absurd hc50 (by decide))
  refine own_iload C X own_d2_59 rfl (pc' := 61) rfl ?_
  refine own_iconst C X own_d2_61 (v := 1) (by decide) (pc' := 62) rfl ?_
  refine own_icmp_le C X own_d2_62 (pcT := 73) (pc' := 65) (by decide) (by decide) rfl (fun hc62 => ?_) (fun hc62 => absurd hc62 (by decide))
  refine own_iload C X own_d2_73 rfl (pc' := 75) rfl ?_
  refine own_iconst C X own_d2_75 (v := 2) (by decide) (pc' := 76) rfl ?_
  refine own_icmp_le C X own_d2_76 (pcT := 88) (pc' := 79) (by decide) (by decide) rfl (fun hc76 => ?_) (fun hc76 => absurd hc76 (by decide))
  refine own_iload C X own_d2_88 rfl (pc' := 90) rfl ?_
  refine own_iconst C X own_d2_90 (v := 3) (by decide) (pc' := 91) rfl ?_
  refine own_icmp_le C X own_d2_91 (pcT := 103) (pc' := 94) (by decide) (by decide) rfl (fun hc91 => ?_) (fun hc91 => absurd hc91 (by decide))
  refine own_iload C X own_d2_103 rfl (pc' := 105) rfl ?_
  refine own_iconst C X own_d2_105 (v := 4) (by decide) (pc' := 106) rfl ?_
  refine own_icmp_le C X own_d2_106 (pcT := 118) (pc' := 109) (by decide) (by decide) rfl (fun hc106 => ?_) (fun hc106 => absurd hc106 (by decide))
  refine own_iload C X own_d2_118 rfl (pc' := 120) rfl ?_
  refine own_iconst C X own_d2_120 (v := 5) (by decide) (pc' := 121) rfl ?_
  refine own_icmp_le C X own_d2_121 (pcT := 133) (pc' := 124) (by decide) (by decide) rfl (fun hc121 => ?_) (fun hc121 => absurd hc121 (by decide))
  refine own_aload C X own_d2_133 rfl rfl (pc' := 135) rfl ?_
  exact own_areturn C X own_d2_135 rfl rfl rfl (Nat.le_of_ble_eq_true rfl) (Nat.le_of_ble_eq_true rfl) (⟨nb, rfl, gz_nb, KK, A_nb⟩)
theorem own_ef_b10 (v0 : Int64) (v1 : Int64) (v2 : Int64) (v3 : Int64) (v4 : Int64) (v5 : Int64) (fill : Int64) (m : MethodId) : entryFrame m #[(.long v0), (.long v1), (.long v2), (.long v3), (.long v4), (.long v5), (.int (1 : Int32)), (.int (0 : Int32)), (.long fill)] 17 = mkF m 0 #[.val (.long v0), .second, .val (.long v1), .second, .val (.long v2), .second, .val (.long v3), .second, .val (.long v4), .second, .val (.long v5), .second, .val (.int (1 : Int32)), .val (.int (0 : Int32)), .val (.long fill), .second, .unset] [] := by first | (simp [entryFrame, mkF, argsToLocals, Value.category]; done) | rfl
theorem own_d2_53 : decode method_3_code 53 = .ok (.aload 16, 2) := by decide +kernel
theorem own_d2_55 : decode method_3_code 55 = .ok (.iload 13, 2) := by decide +kernel
theorem own_d2_57 : decode method_3_code 57 = .ok (.lload_n 0, 1) := by decide +kernel
theorem own_d2_58 : decode method_3_code 58 = .ok (.lastore, 1) := by decide +kernel
set_option maxRecDepth 65536 in
set_option maxHeartbeats 40000000 in
theorem own_m_b10 (l : Launch) (Z : State) (a0 : Array Value) (hw : ∀ d ∈ tables_1, d.before a0 Z = true) (v0 : Int64) (v1 : Int64) (v2 : Int64) (v3 : Int64) (v4 : Int64) (v5 : Int64) (fill : Int64) (h0 : Heap) (n0 : Nat) (hn0 : n0 ≤ h0.size)  : own_Met l Z n0 (⟨"com/example/stablemate/stablemate/SliceHeapsAddPinLaw", "build", "(JJJJJJIIJ)[J"⟩ : MethodName) method_3_code 17 (some (.array .long)) [] ({ frames := 0, cells := 1, slots := 8, locals := 0 } : Room) #[(.long v0), (.long v1), (.long v2), (.long v3), (.long v4), (.long v5), (.int (1 : Int32)), (.int (0 : Int32)), (.long fill)] h0 (fun v h => ∃ b, v = some (.ref b) ∧ h0.size ≤ b ∧ Keep h0 h [] ∧ own_JA Z h b [v0, fill, fill, fill, fill, fill, fill, fill]) := by
  refine own_body (plainFor_of_name own_pn_com_example_stablemate_stablemate_SliceHeapsAddPinLaw) hn0 (own_ef_b10 v0 v1 v2 v3 v4 v5 fill) ?_
  intro p e s m below meth c T C X
  have KK := Keep.refl h0 []
  refine own_bipush C X own_d2_0 (v := 8) (by decide) (pc' := 2) rfl ?_
  refine own_newJ C X own_d2_2 (hw _ (List.mem_of_getElem? (i := 10) rfl)) (by decide) (k := 8) (cap := 8) (Nat.le_of_ble_eq_true rfl) (by decide) (Nat.le_of_ble_eq_true rfl) (Nat.le_of_ble_eq_true rfl) (pc' := 4) rfl ?_
  intro T h nb e_nb X K_ ge_nb A_nb_
  have gz_nb : h0.size ≤ nb := by rw [e_nb]; exact KK.1
  have A_nb : own_JA Z h nb [(0 : Int64), (0 : Int64), (0 : Int64), (0 : Int64), (0 : Int64), (0 : Int64), (0 : Int64), (0 : Int64)] := A_nb_
  have KK := KK.trans K_ all0
  refine own_dup C X own_d2_4 rfl (pc' := 5) rfl ?_
  refine own_iconst C X own_d2_5 (v := 0) (by decide) (pc' := 6) rfl ?_
  refine own_lload C X own_d2_6 rfl (pc' := 8) rfl ?_
  refine own_lastore C X own_d2_8 A_nb (by decide) (i := 0) (Nat.le_of_ble_eq_true rfl) ge_nb (pc' := 9) rfl ?_
  intro T h X K_ A_nb_
  have A_nb : own_JA Z h nb [fill, (0 : Int64), (0 : Int64), (0 : Int64), (0 : Int64), (0 : Int64), (0 : Int64), (0 : Int64)] := A_nb_
  have KK := KK.trans K_ (allS (Or.inr gz_nb) all0)
  refine own_dup C X own_d2_9 rfl (pc' := 10) rfl ?_
  refine own_iconst C X own_d2_10 (v := 1) (by decide) (pc' := 11) rfl ?_
  refine own_lload C X own_d2_11 rfl (pc' := 13) rfl ?_
  refine own_lastore C X own_d2_13 A_nb (by decide) (i := 1) (Nat.le_of_ble_eq_true rfl) ge_nb (pc' := 14) rfl ?_
  intro T h X K_ A_nb_
  have A_nb : own_JA Z h nb [fill, fill, (0 : Int64), (0 : Int64), (0 : Int64), (0 : Int64), (0 : Int64), (0 : Int64)] := A_nb_
  have KK := KK.trans K_ (allS (Or.inr gz_nb) all0)
  refine own_dup C X own_d2_14 rfl (pc' := 15) rfl ?_
  refine own_iconst C X own_d2_15 (v := 2) (by decide) (pc' := 16) rfl ?_
  refine own_lload C X own_d2_16 rfl (pc' := 18) rfl ?_
  refine own_lastore C X own_d2_18 A_nb (by decide) (i := 2) (Nat.le_of_ble_eq_true rfl) ge_nb (pc' := 19) rfl ?_
  intro T h X K_ A_nb_
  have A_nb : own_JA Z h nb [fill, fill, fill, (0 : Int64), (0 : Int64), (0 : Int64), (0 : Int64), (0 : Int64)] := A_nb_
  have KK := KK.trans K_ (allS (Or.inr gz_nb) all0)
  refine own_dup C X own_d2_19 rfl (pc' := 20) rfl ?_
  refine own_iconst C X own_d2_20 (v := 3) (by decide) (pc' := 21) rfl ?_
  refine own_lload C X own_d2_21 rfl (pc' := 23) rfl ?_
  refine own_lastore C X own_d2_23 A_nb (by decide) (i := 3) (Nat.le_of_ble_eq_true rfl) ge_nb (pc' := 24) rfl ?_
  intro T h X K_ A_nb_
  have A_nb : own_JA Z h nb [fill, fill, fill, fill, (0 : Int64), (0 : Int64), (0 : Int64), (0 : Int64)] := A_nb_
  have KK := KK.trans K_ (allS (Or.inr gz_nb) all0)
  refine own_dup C X own_d2_24 rfl (pc' := 25) rfl ?_
  refine own_iconst C X own_d2_25 (v := 4) (by decide) (pc' := 26) rfl ?_
  refine own_lload C X own_d2_26 rfl (pc' := 28) rfl ?_
  refine own_lastore C X own_d2_28 A_nb (by decide) (i := 4) (Nat.le_of_ble_eq_true rfl) ge_nb (pc' := 29) rfl ?_
  intro T h X K_ A_nb_
  have A_nb : own_JA Z h nb [fill, fill, fill, fill, fill, (0 : Int64), (0 : Int64), (0 : Int64)] := A_nb_
  have KK := KK.trans K_ (allS (Or.inr gz_nb) all0)
  refine own_dup C X own_d2_29 rfl (pc' := 30) rfl ?_
  refine own_iconst C X own_d2_30 (v := 5) (by decide) (pc' := 31) rfl ?_
  refine own_lload C X own_d2_31 rfl (pc' := 33) rfl ?_
  refine own_lastore C X own_d2_33 A_nb (by decide) (i := 5) (Nat.le_of_ble_eq_true rfl) ge_nb (pc' := 34) rfl ?_
  intro T h X K_ A_nb_
  have A_nb : own_JA Z h nb [fill, fill, fill, fill, fill, fill, (0 : Int64), (0 : Int64)] := A_nb_
  have KK := KK.trans K_ (allS (Or.inr gz_nb) all0)
  refine own_dup C X own_d2_34 rfl (pc' := 35) rfl ?_
  refine own_bipush C X own_d2_35 (v := 6) (by decide) (pc' := 37) rfl ?_
  refine own_lload C X own_d2_37 rfl (pc' := 39) rfl ?_
  refine own_lastore C X own_d2_39 A_nb (by decide) (i := 6) (Nat.le_of_ble_eq_true rfl) ge_nb (pc' := 40) rfl ?_
  intro T h X K_ A_nb_
  have A_nb : own_JA Z h nb [fill, fill, fill, fill, fill, fill, fill, (0 : Int64)] := A_nb_
  have KK := KK.trans K_ (allS (Or.inr gz_nb) all0)
  refine own_dup C X own_d2_40 rfl (pc' := 41) rfl ?_
  refine own_bipush C X own_d2_41 (v := 7) (by decide) (pc' := 43) rfl ?_
  refine own_lload C X own_d2_43 rfl (pc' := 45) rfl ?_
  refine own_lastore C X own_d2_45 A_nb (by decide) (i := 7) (Nat.le_of_ble_eq_true rfl) ge_nb (pc' := 46) rfl ?_
  intro T h X K_ A_nb_
  have A_nb : own_JA Z h nb [fill, fill, fill, fill, fill, fill, fill, fill] := A_nb_
  have KK := KK.trans K_ (allS (Or.inr gz_nb) all0)
  refine own_astore C X own_d2_46 rfl (L' := #[.val (.long v0), .second, .val (.long v1), .second, .val (.long v2), .second, .val (.long v3), .second, .val (.long v4), .second, .val (.long v5), .second, .val (.int (1 : Int32)), .val (.int (0 : Int32)), .val (.long fill), .second, .val (.ref nb)]) rfl (pc' := 48) rfl ?_
  refine own_iload C X own_d2_48 rfl (pc' := 50) rfl ?_
  refine own_if_le C X own_d2_50 (pcT := 59) (pc' := 53) (by decide) (by decide) rfl (fun hc50 => absurd hc50 (by decide)) (fun hc50 => ?_)
  refine own_aload C X own_d2_53 rfl rfl (pc' := 55) rfl ?_
  refine own_iload C X own_d2_55 rfl (pc' := 57) rfl ?_
  refine own_lloadN C X own_d2_57 rfl (pc' := 58) rfl ?_
  refine own_lastore C X own_d2_58 A_nb (by decide) (i := 0) (Nat.le_of_ble_eq_true rfl) ge_nb (pc' := 59) rfl ?_
  intro T h X K_ A_nb_
  have A_nb : own_JA Z h nb [v0, fill, fill, fill, fill, fill, fill, fill] := A_nb_
  have KK := KK.trans K_ (allS (Or.inr gz_nb) all0)
  refine own_iload C X own_d2_59 rfl (pc' := 61) rfl ?_
  refine own_iconst C X own_d2_61 (v := 1) (by decide) (pc' := 62) rfl ?_
  refine own_icmp_le C X own_d2_62 (pcT := 73) (pc' := 65) (by decide) (by decide) rfl (fun hc62 => ?_) (fun hc62 => absurd hc62 (by decide))
  refine own_iload C X own_d2_73 rfl (pc' := 75) rfl ?_
  refine own_iconst C X own_d2_75 (v := 2) (by decide) (pc' := 76) rfl ?_
  refine own_icmp_le C X own_d2_76 (pcT := 88) (pc' := 79) (by decide) (by decide) rfl (fun hc76 => ?_) (fun hc76 => absurd hc76 (by decide))
  refine own_iload C X own_d2_88 rfl (pc' := 90) rfl ?_
  refine own_iconst C X own_d2_90 (v := 3) (by decide) (pc' := 91) rfl ?_
  refine own_icmp_le C X own_d2_91 (pcT := 103) (pc' := 94) (by decide) (by decide) rfl (fun hc91 => ?_) (fun hc91 => absurd hc91 (by decide))
  refine own_iload C X own_d2_103 rfl (pc' := 105) rfl ?_
  refine own_iconst C X own_d2_105 (v := 4) (by decide) (pc' := 106) rfl ?_
  refine own_icmp_le C X own_d2_106 (pcT := 118) (pc' := 109) (by decide) (by decide) rfl (fun hc106 => ?_) (fun hc106 => absurd hc106 (by decide))
  refine own_iload C X own_d2_118 rfl (pc' := 120) rfl ?_
  refine own_iconst C X own_d2_120 (v := 5) (by decide) (pc' := 121) rfl ?_
  refine own_icmp_le C X own_d2_121 (pcT := 133) (pc' := 124) (by decide) (by decide) rfl (fun hc121 => ?_) (fun hc121 => absurd hc121 (by decide))
  refine own_aload C X own_d2_133 rfl rfl (pc' := 135) rfl ?_
  exact own_areturn C X own_d2_135 rfl rfl rfl (Nat.le_of_ble_eq_true rfl) (Nat.le_of_ble_eq_true rfl) (⟨nb, rfl, gz_nb, KK, A_nb⟩)
theorem own_ef_b11 (v0 : Int64) (v1 : Int64) (v2 : Int64) (v3 : Int64) (v4 : Int64) (v5 : Int64) (fill : Int64) (m : MethodId) : entryFrame m #[(.long v0), (.long v1), (.long v2), (.long v3), (.long v4), (.long v5), (.int (1 : Int32)), (.int (1 : Int32)), (.long fill)] 17 = mkF m 0 #[.val (.long v0), .second, .val (.long v1), .second, .val (.long v2), .second, .val (.long v3), .second, .val (.long v4), .second, .val (.long v5), .second, .val (.int (1 : Int32)), .val (.int (1 : Int32)), .val (.long fill), .second, .unset] [] := by first | (simp [entryFrame, mkF, argsToLocals, Value.category]; done) | rfl
set_option maxRecDepth 65536 in
set_option maxHeartbeats 40000000 in
theorem own_m_b11 (l : Launch) (Z : State) (a0 : Array Value) (hw : ∀ d ∈ tables_1, d.before a0 Z = true) (v0 : Int64) (v1 : Int64) (v2 : Int64) (v3 : Int64) (v4 : Int64) (v5 : Int64) (fill : Int64) (h0 : Heap) (n0 : Nat) (hn0 : n0 ≤ h0.size)  : own_Met l Z n0 (⟨"com/example/stablemate/stablemate/SliceHeapsAddPinLaw", "build", "(JJJJJJIIJ)[J"⟩ : MethodName) method_3_code 17 (some (.array .long)) [] ({ frames := 0, cells := 1, slots := 8, locals := 0 } : Room) #[(.long v0), (.long v1), (.long v2), (.long v3), (.long v4), (.long v5), (.int (1 : Int32)), (.int (1 : Int32)), (.long fill)] h0 (fun v h => ∃ b, v = some (.ref b) ∧ h0.size ≤ b ∧ Keep h0 h [] ∧ own_JA Z h b [fill, v0, fill, fill, fill, fill, fill, fill]) := by
  refine own_body (plainFor_of_name own_pn_com_example_stablemate_stablemate_SliceHeapsAddPinLaw) hn0 (own_ef_b11 v0 v1 v2 v3 v4 v5 fill) ?_
  intro p e s m below meth c T C X
  have KK := Keep.refl h0 []
  refine own_bipush C X own_d2_0 (v := 8) (by decide) (pc' := 2) rfl ?_
  refine own_newJ C X own_d2_2 (hw _ (List.mem_of_getElem? (i := 10) rfl)) (by decide) (k := 8) (cap := 8) (Nat.le_of_ble_eq_true rfl) (by decide) (Nat.le_of_ble_eq_true rfl) (Nat.le_of_ble_eq_true rfl) (pc' := 4) rfl ?_
  intro T h nb e_nb X K_ ge_nb A_nb_
  have gz_nb : h0.size ≤ nb := by rw [e_nb]; exact KK.1
  have A_nb : own_JA Z h nb [(0 : Int64), (0 : Int64), (0 : Int64), (0 : Int64), (0 : Int64), (0 : Int64), (0 : Int64), (0 : Int64)] := A_nb_
  have KK := KK.trans K_ all0
  refine own_dup C X own_d2_4 rfl (pc' := 5) rfl ?_
  refine own_iconst C X own_d2_5 (v := 0) (by decide) (pc' := 6) rfl ?_
  refine own_lload C X own_d2_6 rfl (pc' := 8) rfl ?_
  refine own_lastore C X own_d2_8 A_nb (by decide) (i := 0) (Nat.le_of_ble_eq_true rfl) ge_nb (pc' := 9) rfl ?_
  intro T h X K_ A_nb_
  have A_nb : own_JA Z h nb [fill, (0 : Int64), (0 : Int64), (0 : Int64), (0 : Int64), (0 : Int64), (0 : Int64), (0 : Int64)] := A_nb_
  have KK := KK.trans K_ (allS (Or.inr gz_nb) all0)
  refine own_dup C X own_d2_9 rfl (pc' := 10) rfl ?_
  refine own_iconst C X own_d2_10 (v := 1) (by decide) (pc' := 11) rfl ?_
  refine own_lload C X own_d2_11 rfl (pc' := 13) rfl ?_
  refine own_lastore C X own_d2_13 A_nb (by decide) (i := 1) (Nat.le_of_ble_eq_true rfl) ge_nb (pc' := 14) rfl ?_
  intro T h X K_ A_nb_
  have A_nb : own_JA Z h nb [fill, fill, (0 : Int64), (0 : Int64), (0 : Int64), (0 : Int64), (0 : Int64), (0 : Int64)] := A_nb_
  have KK := KK.trans K_ (allS (Or.inr gz_nb) all0)
  refine own_dup C X own_d2_14 rfl (pc' := 15) rfl ?_
  refine own_iconst C X own_d2_15 (v := 2) (by decide) (pc' := 16) rfl ?_
  refine own_lload C X own_d2_16 rfl (pc' := 18) rfl ?_
  refine own_lastore C X own_d2_18 A_nb (by decide) (i := 2) (Nat.le_of_ble_eq_true rfl) ge_nb (pc' := 19) rfl ?_
  intro T h X K_ A_nb_
  have A_nb : own_JA Z h nb [fill, fill, fill, (0 : Int64), (0 : Int64), (0 : Int64), (0 : Int64), (0 : Int64)] := A_nb_
  have KK := KK.trans K_ (allS (Or.inr gz_nb) all0)
  refine own_dup C X own_d2_19 rfl (pc' := 20) rfl ?_
  refine own_iconst C X own_d2_20 (v := 3) (by decide) (pc' := 21) rfl ?_
  refine own_lload C X own_d2_21 rfl (pc' := 23) rfl ?_
  refine own_lastore C X own_d2_23 A_nb (by decide) (i := 3) (Nat.le_of_ble_eq_true rfl) ge_nb (pc' := 24) rfl ?_
  intro T h X K_ A_nb_
  have A_nb : own_JA Z h nb [fill, fill, fill, fill, (0 : Int64), (0 : Int64), (0 : Int64), (0 : Int64)] := A_nb_
  have KK := KK.trans K_ (allS (Or.inr gz_nb) all0)
  refine own_dup C X own_d2_24 rfl (pc' := 25) rfl ?_
  refine own_iconst C X own_d2_25 (v := 4) (by decide) (pc' := 26) rfl ?_
  refine own_lload C X own_d2_26 rfl (pc' := 28) rfl ?_
  refine own_lastore C X own_d2_28 A_nb (by decide) (i := 4) (Nat.le_of_ble_eq_true rfl) ge_nb (pc' := 29) rfl ?_
  intro T h X K_ A_nb_
  have A_nb : own_JA Z h nb [fill, fill, fill, fill, fill, (0 : Int64), (0 : Int64), (0 : Int64)] := A_nb_
  have KK := KK.trans K_ (allS (Or.inr gz_nb) all0)
  refine own_dup C X own_d2_29 rfl (pc' := 30) rfl ?_
  refine own_iconst C X own_d2_30 (v := 5) (by decide) (pc' := 31) rfl ?_
  refine own_lload C X own_d2_31 rfl (pc' := 33) rfl ?_
  refine own_lastore C X own_d2_33 A_nb (by decide) (i := 5) (Nat.le_of_ble_eq_true rfl) ge_nb (pc' := 34) rfl ?_
  intro T h X K_ A_nb_
  have A_nb : own_JA Z h nb [fill, fill, fill, fill, fill, fill, (0 : Int64), (0 : Int64)] := A_nb_
  have KK := KK.trans K_ (allS (Or.inr gz_nb) all0)
  refine own_dup C X own_d2_34 rfl (pc' := 35) rfl ?_
  refine own_bipush C X own_d2_35 (v := 6) (by decide) (pc' := 37) rfl ?_
  refine own_lload C X own_d2_37 rfl (pc' := 39) rfl ?_
  refine own_lastore C X own_d2_39 A_nb (by decide) (i := 6) (Nat.le_of_ble_eq_true rfl) ge_nb (pc' := 40) rfl ?_
  intro T h X K_ A_nb_
  have A_nb : own_JA Z h nb [fill, fill, fill, fill, fill, fill, fill, (0 : Int64)] := A_nb_
  have KK := KK.trans K_ (allS (Or.inr gz_nb) all0)
  refine own_dup C X own_d2_40 rfl (pc' := 41) rfl ?_
  refine own_bipush C X own_d2_41 (v := 7) (by decide) (pc' := 43) rfl ?_
  refine own_lload C X own_d2_43 rfl (pc' := 45) rfl ?_
  refine own_lastore C X own_d2_45 A_nb (by decide) (i := 7) (Nat.le_of_ble_eq_true rfl) ge_nb (pc' := 46) rfl ?_
  intro T h X K_ A_nb_
  have A_nb : own_JA Z h nb [fill, fill, fill, fill, fill, fill, fill, fill] := A_nb_
  have KK := KK.trans K_ (allS (Or.inr gz_nb) all0)
  refine own_astore C X own_d2_46 rfl (L' := #[.val (.long v0), .second, .val (.long v1), .second, .val (.long v2), .second, .val (.long v3), .second, .val (.long v4), .second, .val (.long v5), .second, .val (.int (1 : Int32)), .val (.int (1 : Int32)), .val (.long fill), .second, .val (.ref nb)]) rfl (pc' := 48) rfl ?_
  refine own_iload C X own_d2_48 rfl (pc' := 50) rfl ?_
  refine own_if_le C X own_d2_50 (pcT := 59) (pc' := 53) (by decide) (by decide) rfl (fun hc50 => absurd hc50 (by decide)) (fun hc50 => ?_)
  refine own_aload C X own_d2_53 rfl rfl (pc' := 55) rfl ?_
  refine own_iload C X own_d2_55 rfl (pc' := 57) rfl ?_
  refine own_lloadN C X own_d2_57 rfl (pc' := 58) rfl ?_
  refine own_lastore C X own_d2_58 A_nb (by decide) (i := 1) (Nat.le_of_ble_eq_true rfl) ge_nb (pc' := 59) rfl ?_
  intro T h X K_ A_nb_
  have A_nb : own_JA Z h nb [fill, v0, fill, fill, fill, fill, fill, fill] := A_nb_
  have KK := KK.trans K_ (allS (Or.inr gz_nb) all0)
  refine own_iload C X own_d2_59 rfl (pc' := 61) rfl ?_
  refine own_iconst C X own_d2_61 (v := 1) (by decide) (pc' := 62) rfl ?_
  refine own_icmp_le C X own_d2_62 (pcT := 73) (pc' := 65) (by decide) (by decide) rfl (fun hc62 => ?_) (fun hc62 => absurd hc62 (by decide))
  refine own_iload C X own_d2_73 rfl (pc' := 75) rfl ?_
  refine own_iconst C X own_d2_75 (v := 2) (by decide) (pc' := 76) rfl ?_
  refine own_icmp_le C X own_d2_76 (pcT := 88) (pc' := 79) (by decide) (by decide) rfl (fun hc76 => ?_) (fun hc76 => absurd hc76 (by decide))
  refine own_iload C X own_d2_88 rfl (pc' := 90) rfl ?_
  refine own_iconst C X own_d2_90 (v := 3) (by decide) (pc' := 91) rfl ?_
  refine own_icmp_le C X own_d2_91 (pcT := 103) (pc' := 94) (by decide) (by decide) rfl (fun hc91 => ?_) (fun hc91 => absurd hc91 (by decide))
  refine own_iload C X own_d2_103 rfl (pc' := 105) rfl ?_
  refine own_iconst C X own_d2_105 (v := 4) (by decide) (pc' := 106) rfl ?_
  refine own_icmp_le C X own_d2_106 (pcT := 118) (pc' := 109) (by decide) (by decide) rfl (fun hc106 => ?_) (fun hc106 => absurd hc106 (by decide))
  refine own_iload C X own_d2_118 rfl (pc' := 120) rfl ?_
  refine own_iconst C X own_d2_120 (v := 5) (by decide) (pc' := 121) rfl ?_
  refine own_icmp_le C X own_d2_121 (pcT := 133) (pc' := 124) (by decide) (by decide) rfl (fun hc121 => ?_) (fun hc121 => absurd hc121 (by decide))
  refine own_aload C X own_d2_133 rfl rfl (pc' := 135) rfl ?_
  exact own_areturn C X own_d2_135 rfl rfl rfl (Nat.le_of_ble_eq_true rfl) (Nat.le_of_ble_eq_true rfl) (⟨nb, rfl, gz_nb, KK, A_nb⟩)
theorem own_ef_b20 (v0 : Int64) (v1 : Int64) (v2 : Int64) (v3 : Int64) (v4 : Int64) (v5 : Int64) (fill : Int64) (m : MethodId) : entryFrame m #[(.long v0), (.long v1), (.long v2), (.long v3), (.long v4), (.long v5), (.int (2 : Int32)), (.int (0 : Int32)), (.long fill)] 17 = mkF m 0 #[.val (.long v0), .second, .val (.long v1), .second, .val (.long v2), .second, .val (.long v3), .second, .val (.long v4), .second, .val (.long v5), .second, .val (.int (2 : Int32)), .val (.int (0 : Int32)), .val (.long fill), .second, .unset] [] := by first | (simp [entryFrame, mkF, argsToLocals, Value.category]; done) | rfl
theorem own_d2_65 : decode method_3_code 65 = .ok (.aload 16, 2) := by decide +kernel
theorem own_d2_67 : decode method_3_code 67 = .ok (.iload 13, 2) := by decide +kernel
theorem own_d2_69 : decode method_3_code 69 = .ok (.iconst 1, 1) := by decide +kernel
theorem own_d2_70 : decode method_3_code 70 = .ok (.iadd, 1) := by decide +kernel
theorem own_d2_71 : decode method_3_code 71 = .ok (.lload_n 2, 1) := by decide +kernel
theorem own_d2_72 : decode method_3_code 72 = .ok (.lastore, 1) := by decide +kernel
set_option maxRecDepth 65536 in
set_option maxHeartbeats 40000000 in
theorem own_m_b20 (l : Launch) (Z : State) (a0 : Array Value) (hw : ∀ d ∈ tables_1, d.before a0 Z = true) (v0 : Int64) (v1 : Int64) (v2 : Int64) (v3 : Int64) (v4 : Int64) (v5 : Int64) (fill : Int64) (h0 : Heap) (n0 : Nat) (hn0 : n0 ≤ h0.size)  : own_Met l Z n0 (⟨"com/example/stablemate/stablemate/SliceHeapsAddPinLaw", "build", "(JJJJJJIIJ)[J"⟩ : MethodName) method_3_code 17 (some (.array .long)) [] ({ frames := 0, cells := 1, slots := 8, locals := 0 } : Room) #[(.long v0), (.long v1), (.long v2), (.long v3), (.long v4), (.long v5), (.int (2 : Int32)), (.int (0 : Int32)), (.long fill)] h0 (fun v h => ∃ b, v = some (.ref b) ∧ h0.size ≤ b ∧ Keep h0 h [] ∧ own_JA Z h b [v0, v1, fill, fill, fill, fill, fill, fill]) := by
  refine own_body (plainFor_of_name own_pn_com_example_stablemate_stablemate_SliceHeapsAddPinLaw) hn0 (own_ef_b20 v0 v1 v2 v3 v4 v5 fill) ?_
  intro p e s m below meth c T C X
  have KK := Keep.refl h0 []
  refine own_bipush C X own_d2_0 (v := 8) (by decide) (pc' := 2) rfl ?_
  refine own_newJ C X own_d2_2 (hw _ (List.mem_of_getElem? (i := 10) rfl)) (by decide) (k := 8) (cap := 8) (Nat.le_of_ble_eq_true rfl) (by decide) (Nat.le_of_ble_eq_true rfl) (Nat.le_of_ble_eq_true rfl) (pc' := 4) rfl ?_
  intro T h nb e_nb X K_ ge_nb A_nb_
  have gz_nb : h0.size ≤ nb := by rw [e_nb]; exact KK.1
  have A_nb : own_JA Z h nb [(0 : Int64), (0 : Int64), (0 : Int64), (0 : Int64), (0 : Int64), (0 : Int64), (0 : Int64), (0 : Int64)] := A_nb_
  have KK := KK.trans K_ all0
  refine own_dup C X own_d2_4 rfl (pc' := 5) rfl ?_
  refine own_iconst C X own_d2_5 (v := 0) (by decide) (pc' := 6) rfl ?_
  refine own_lload C X own_d2_6 rfl (pc' := 8) rfl ?_
  refine own_lastore C X own_d2_8 A_nb (by decide) (i := 0) (Nat.le_of_ble_eq_true rfl) ge_nb (pc' := 9) rfl ?_
  intro T h X K_ A_nb_
  have A_nb : own_JA Z h nb [fill, (0 : Int64), (0 : Int64), (0 : Int64), (0 : Int64), (0 : Int64), (0 : Int64), (0 : Int64)] := A_nb_
  have KK := KK.trans K_ (allS (Or.inr gz_nb) all0)
  refine own_dup C X own_d2_9 rfl (pc' := 10) rfl ?_
  refine own_iconst C X own_d2_10 (v := 1) (by decide) (pc' := 11) rfl ?_
  refine own_lload C X own_d2_11 rfl (pc' := 13) rfl ?_
  refine own_lastore C X own_d2_13 A_nb (by decide) (i := 1) (Nat.le_of_ble_eq_true rfl) ge_nb (pc' := 14) rfl ?_
  intro T h X K_ A_nb_
  have A_nb : own_JA Z h nb [fill, fill, (0 : Int64), (0 : Int64), (0 : Int64), (0 : Int64), (0 : Int64), (0 : Int64)] := A_nb_
  have KK := KK.trans K_ (allS (Or.inr gz_nb) all0)
  refine own_dup C X own_d2_14 rfl (pc' := 15) rfl ?_
  refine own_iconst C X own_d2_15 (v := 2) (by decide) (pc' := 16) rfl ?_
  refine own_lload C X own_d2_16 rfl (pc' := 18) rfl ?_
  refine own_lastore C X own_d2_18 A_nb (by decide) (i := 2) (Nat.le_of_ble_eq_true rfl) ge_nb (pc' := 19) rfl ?_
  intro T h X K_ A_nb_
  have A_nb : own_JA Z h nb [fill, fill, fill, (0 : Int64), (0 : Int64), (0 : Int64), (0 : Int64), (0 : Int64)] := A_nb_
  have KK := KK.trans K_ (allS (Or.inr gz_nb) all0)
  refine own_dup C X own_d2_19 rfl (pc' := 20) rfl ?_
  refine own_iconst C X own_d2_20 (v := 3) (by decide) (pc' := 21) rfl ?_
  refine own_lload C X own_d2_21 rfl (pc' := 23) rfl ?_
  refine own_lastore C X own_d2_23 A_nb (by decide) (i := 3) (Nat.le_of_ble_eq_true rfl) ge_nb (pc' := 24) rfl ?_
  intro T h X K_ A_nb_
  have A_nb : own_JA Z h nb [fill, fill, fill, fill, (0 : Int64), (0 : Int64), (0 : Int64), (0 : Int64)] := A_nb_
  have KK := KK.trans K_ (allS (Or.inr gz_nb) all0)
  refine own_dup C X own_d2_24 rfl (pc' := 25) rfl ?_
  refine own_iconst C X own_d2_25 (v := 4) (by decide) (pc' := 26) rfl ?_
  refine own_lload C X own_d2_26 rfl (pc' := 28) rfl ?_
  refine own_lastore C X own_d2_28 A_nb (by decide) (i := 4) (Nat.le_of_ble_eq_true rfl) ge_nb (pc' := 29) rfl ?_
  intro T h X K_ A_nb_
  have A_nb : own_JA Z h nb [fill, fill, fill, fill, fill, (0 : Int64), (0 : Int64), (0 : Int64)] := A_nb_
  have KK := KK.trans K_ (allS (Or.inr gz_nb) all0)
  refine own_dup C X own_d2_29 rfl (pc' := 30) rfl ?_
  refine own_iconst C X own_d2_30 (v := 5) (by decide) (pc' := 31) rfl ?_
  refine own_lload C X own_d2_31 rfl (pc' := 33) rfl ?_
  refine own_lastore C X own_d2_33 A_nb (by decide) (i := 5) (Nat.le_of_ble_eq_true rfl) ge_nb (pc' := 34) rfl ?_
  intro T h X K_ A_nb_
  have A_nb : own_JA Z h nb [fill, fill, fill, fill, fill, fill, (0 : Int64), (0 : Int64)] := A_nb_
  have KK := KK.trans K_ (allS (Or.inr gz_nb) all0)
  refine own_dup C X own_d2_34 rfl (pc' := 35) rfl ?_
  refine own_bipush C X own_d2_35 (v := 6) (by decide) (pc' := 37) rfl ?_
  refine own_lload C X own_d2_37 rfl (pc' := 39) rfl ?_
  refine own_lastore C X own_d2_39 A_nb (by decide) (i := 6) (Nat.le_of_ble_eq_true rfl) ge_nb (pc' := 40) rfl ?_
  intro T h X K_ A_nb_
  have A_nb : own_JA Z h nb [fill, fill, fill, fill, fill, fill, fill, (0 : Int64)] := A_nb_
  have KK := KK.trans K_ (allS (Or.inr gz_nb) all0)
  refine own_dup C X own_d2_40 rfl (pc' := 41) rfl ?_
  refine own_bipush C X own_d2_41 (v := 7) (by decide) (pc' := 43) rfl ?_
  refine own_lload C X own_d2_43 rfl (pc' := 45) rfl ?_
  refine own_lastore C X own_d2_45 A_nb (by decide) (i := 7) (Nat.le_of_ble_eq_true rfl) ge_nb (pc' := 46) rfl ?_
  intro T h X K_ A_nb_
  have A_nb : own_JA Z h nb [fill, fill, fill, fill, fill, fill, fill, fill] := A_nb_
  have KK := KK.trans K_ (allS (Or.inr gz_nb) all0)
  refine own_astore C X own_d2_46 rfl (L' := #[.val (.long v0), .second, .val (.long v1), .second, .val (.long v2), .second, .val (.long v3), .second, .val (.long v4), .second, .val (.long v5), .second, .val (.int (2 : Int32)), .val (.int (0 : Int32)), .val (.long fill), .second, .val (.ref nb)]) rfl (pc' := 48) rfl ?_
  refine own_iload C X own_d2_48 rfl (pc' := 50) rfl ?_
  refine own_if_le C X own_d2_50 (pcT := 59) (pc' := 53) (by decide) (by decide) rfl (fun hc50 => absurd hc50 (by decide)) (fun hc50 => ?_)
  refine own_aload C X own_d2_53 rfl rfl (pc' := 55) rfl ?_
  refine own_iload C X own_d2_55 rfl (pc' := 57) rfl ?_
  refine own_lloadN C X own_d2_57 rfl (pc' := 58) rfl ?_
  refine own_lastore C X own_d2_58 A_nb (by decide) (i := 0) (Nat.le_of_ble_eq_true rfl) ge_nb (pc' := 59) rfl ?_
  intro T h X K_ A_nb_
  have A_nb : own_JA Z h nb [v0, fill, fill, fill, fill, fill, fill, fill] := A_nb_
  have KK := KK.trans K_ (allS (Or.inr gz_nb) all0)
  refine own_iload C X own_d2_59 rfl (pc' := 61) rfl ?_
  refine own_iconst C X own_d2_61 (v := 1) (by decide) (pc' := 62) rfl ?_
  refine own_icmp_le C X own_d2_62 (pcT := 73) (pc' := 65) (by decide) (by decide) rfl (fun hc62 => absurd hc62 (by decide)) (fun hc62 => ?_)
  refine own_aload C X own_d2_65 rfl rfl (pc' := 67) rfl ?_
  refine own_iload C X own_d2_67 rfl (pc' := 69) rfl ?_
  refine own_iconst C X own_d2_69 (v := 1) (by decide) (pc' := 70) rfl ?_
  refine own_iadd C X own_d2_70 (z := 1) (by decide) (pc' := 71) rfl ?_
  refine own_lloadN C X own_d2_71 rfl (pc' := 72) rfl ?_
  refine own_lastore C X own_d2_72 A_nb (by decide) (i := 1) (Nat.le_of_ble_eq_true rfl) ge_nb (pc' := 73) rfl ?_
  intro T h X K_ A_nb_
  have A_nb : own_JA Z h nb [v0, v1, fill, fill, fill, fill, fill, fill] := A_nb_
  have KK := KK.trans K_ (allS (Or.inr gz_nb) all0)
  refine own_iload C X own_d2_73 rfl (pc' := 75) rfl ?_
  refine own_iconst C X own_d2_75 (v := 2) (by decide) (pc' := 76) rfl ?_
  refine own_icmp_le C X own_d2_76 (pcT := 88) (pc' := 79) (by decide) (by decide) rfl (fun hc76 => ?_) (fun hc76 => absurd hc76 (by decide))
  refine own_iload C X own_d2_88 rfl (pc' := 90) rfl ?_
  refine own_iconst C X own_d2_90 (v := 3) (by decide) (pc' := 91) rfl ?_
  refine own_icmp_le C X own_d2_91 (pcT := 103) (pc' := 94) (by decide) (by decide) rfl (fun hc91 => ?_) (fun hc91 => absurd hc91 (by decide))
  refine own_iload C X own_d2_103 rfl (pc' := 105) rfl ?_
  refine own_iconst C X own_d2_105 (v := 4) (by decide) (pc' := 106) rfl ?_
  refine own_icmp_le C X own_d2_106 (pcT := 118) (pc' := 109) (by decide) (by decide) rfl (fun hc106 => ?_) (fun hc106 => absurd hc106 (by decide))
  refine own_iload C X own_d2_118 rfl (pc' := 120) rfl ?_
  refine own_iconst C X own_d2_120 (v := 5) (by decide) (pc' := 121) rfl ?_
  refine own_icmp_le C X own_d2_121 (pcT := 133) (pc' := 124) (by decide) (by decide) rfl (fun hc121 => ?_) (fun hc121 => absurd hc121 (by decide))
  refine own_aload C X own_d2_133 rfl rfl (pc' := 135) rfl ?_
  exact own_areturn C X own_d2_135 rfl rfl rfl (Nat.le_of_ble_eq_true rfl) (Nat.le_of_ble_eq_true rfl) (⟨nb, rfl, gz_nb, KK, A_nb⟩)
theorem own_ef_b21 (v0 : Int64) (v1 : Int64) (v2 : Int64) (v3 : Int64) (v4 : Int64) (v5 : Int64) (fill : Int64) (m : MethodId) : entryFrame m #[(.long v0), (.long v1), (.long v2), (.long v3), (.long v4), (.long v5), (.int (2 : Int32)), (.int (1 : Int32)), (.long fill)] 17 = mkF m 0 #[.val (.long v0), .second, .val (.long v1), .second, .val (.long v2), .second, .val (.long v3), .second, .val (.long v4), .second, .val (.long v5), .second, .val (.int (2 : Int32)), .val (.int (1 : Int32)), .val (.long fill), .second, .unset] [] := by first | (simp [entryFrame, mkF, argsToLocals, Value.category]; done) | rfl
set_option maxRecDepth 65536 in
set_option maxHeartbeats 40000000 in
theorem own_m_b21 (l : Launch) (Z : State) (a0 : Array Value) (hw : ∀ d ∈ tables_1, d.before a0 Z = true) (v0 : Int64) (v1 : Int64) (v2 : Int64) (v3 : Int64) (v4 : Int64) (v5 : Int64) (fill : Int64) (h0 : Heap) (n0 : Nat) (hn0 : n0 ≤ h0.size)  : own_Met l Z n0 (⟨"com/example/stablemate/stablemate/SliceHeapsAddPinLaw", "build", "(JJJJJJIIJ)[J"⟩ : MethodName) method_3_code 17 (some (.array .long)) [] ({ frames := 0, cells := 1, slots := 8, locals := 0 } : Room) #[(.long v0), (.long v1), (.long v2), (.long v3), (.long v4), (.long v5), (.int (2 : Int32)), (.int (1 : Int32)), (.long fill)] h0 (fun v h => ∃ b, v = some (.ref b) ∧ h0.size ≤ b ∧ Keep h0 h [] ∧ own_JA Z h b [fill, v0, v1, fill, fill, fill, fill, fill]) := by
  refine own_body (plainFor_of_name own_pn_com_example_stablemate_stablemate_SliceHeapsAddPinLaw) hn0 (own_ef_b21 v0 v1 v2 v3 v4 v5 fill) ?_
  intro p e s m below meth c T C X
  have KK := Keep.refl h0 []
  refine own_bipush C X own_d2_0 (v := 8) (by decide) (pc' := 2) rfl ?_
  refine own_newJ C X own_d2_2 (hw _ (List.mem_of_getElem? (i := 10) rfl)) (by decide) (k := 8) (cap := 8) (Nat.le_of_ble_eq_true rfl) (by decide) (Nat.le_of_ble_eq_true rfl) (Nat.le_of_ble_eq_true rfl) (pc' := 4) rfl ?_
  intro T h nb e_nb X K_ ge_nb A_nb_
  have gz_nb : h0.size ≤ nb := by rw [e_nb]; exact KK.1
  have A_nb : own_JA Z h nb [(0 : Int64), (0 : Int64), (0 : Int64), (0 : Int64), (0 : Int64), (0 : Int64), (0 : Int64), (0 : Int64)] := A_nb_
  have KK := KK.trans K_ all0
  refine own_dup C X own_d2_4 rfl (pc' := 5) rfl ?_
  refine own_iconst C X own_d2_5 (v := 0) (by decide) (pc' := 6) rfl ?_
  refine own_lload C X own_d2_6 rfl (pc' := 8) rfl ?_
  refine own_lastore C X own_d2_8 A_nb (by decide) (i := 0) (Nat.le_of_ble_eq_true rfl) ge_nb (pc' := 9) rfl ?_
  intro T h X K_ A_nb_
  have A_nb : own_JA Z h nb [fill, (0 : Int64), (0 : Int64), (0 : Int64), (0 : Int64), (0 : Int64), (0 : Int64), (0 : Int64)] := A_nb_
  have KK := KK.trans K_ (allS (Or.inr gz_nb) all0)
  refine own_dup C X own_d2_9 rfl (pc' := 10) rfl ?_
  refine own_iconst C X own_d2_10 (v := 1) (by decide) (pc' := 11) rfl ?_
  refine own_lload C X own_d2_11 rfl (pc' := 13) rfl ?_
  refine own_lastore C X own_d2_13 A_nb (by decide) (i := 1) (Nat.le_of_ble_eq_true rfl) ge_nb (pc' := 14) rfl ?_
  intro T h X K_ A_nb_
  have A_nb : own_JA Z h nb [fill, fill, (0 : Int64), (0 : Int64), (0 : Int64), (0 : Int64), (0 : Int64), (0 : Int64)] := A_nb_
  have KK := KK.trans K_ (allS (Or.inr gz_nb) all0)
  refine own_dup C X own_d2_14 rfl (pc' := 15) rfl ?_
  refine own_iconst C X own_d2_15 (v := 2) (by decide) (pc' := 16) rfl ?_
  refine own_lload C X own_d2_16 rfl (pc' := 18) rfl ?_
  refine own_lastore C X own_d2_18 A_nb (by decide) (i := 2) (Nat.le_of_ble_eq_true rfl) ge_nb (pc' := 19) rfl ?_
  intro T h X K_ A_nb_
  have A_nb : own_JA Z h nb [fill, fill, fill, (0 : Int64), (0 : Int64), (0 : Int64), (0 : Int64), (0 : Int64)] := A_nb_
  have KK := KK.trans K_ (allS (Or.inr gz_nb) all0)
  refine own_dup C X own_d2_19 rfl (pc' := 20) rfl ?_
  refine own_iconst C X own_d2_20 (v := 3) (by decide) (pc' := 21) rfl ?_
  refine own_lload C X own_d2_21 rfl (pc' := 23) rfl ?_
  refine own_lastore C X own_d2_23 A_nb (by decide) (i := 3) (Nat.le_of_ble_eq_true rfl) ge_nb (pc' := 24) rfl ?_
  intro T h X K_ A_nb_
  have A_nb : own_JA Z h nb [fill, fill, fill, fill, (0 : Int64), (0 : Int64), (0 : Int64), (0 : Int64)] := A_nb_
  have KK := KK.trans K_ (allS (Or.inr gz_nb) all0)
  refine own_dup C X own_d2_24 rfl (pc' := 25) rfl ?_
  refine own_iconst C X own_d2_25 (v := 4) (by decide) (pc' := 26) rfl ?_
  refine own_lload C X own_d2_26 rfl (pc' := 28) rfl ?_
  refine own_lastore C X own_d2_28 A_nb (by decide) (i := 4) (Nat.le_of_ble_eq_true rfl) ge_nb (pc' := 29) rfl ?_
  intro T h X K_ A_nb_
  have A_nb : own_JA Z h nb [fill, fill, fill, fill, fill, (0 : Int64), (0 : Int64), (0 : Int64)] := A_nb_
  have KK := KK.trans K_ (allS (Or.inr gz_nb) all0)
  refine own_dup C X own_d2_29 rfl (pc' := 30) rfl ?_
  refine own_iconst C X own_d2_30 (v := 5) (by decide) (pc' := 31) rfl ?_
  refine own_lload C X own_d2_31 rfl (pc' := 33) rfl ?_
  refine own_lastore C X own_d2_33 A_nb (by decide) (i := 5) (Nat.le_of_ble_eq_true rfl) ge_nb (pc' := 34) rfl ?_
  intro T h X K_ A_nb_
  have A_nb : own_JA Z h nb [fill, fill, fill, fill, fill, fill, (0 : Int64), (0 : Int64)] := A_nb_
  have KK := KK.trans K_ (allS (Or.inr gz_nb) all0)
  refine own_dup C X own_d2_34 rfl (pc' := 35) rfl ?_
  refine own_bipush C X own_d2_35 (v := 6) (by decide) (pc' := 37) rfl ?_
  refine own_lload C X own_d2_37 rfl (pc' := 39) rfl ?_
  refine own_lastore C X own_d2_39 A_nb (by decide) (i := 6) (Nat.le_of_ble_eq_true rfl) ge_nb (pc' := 40) rfl ?_
  intro T h X K_ A_nb_
  have A_nb : own_JA Z h nb [fill, fill, fill, fill, fill, fill, fill, (0 : Int64)] := A_nb_
  have KK := KK.trans K_ (allS (Or.inr gz_nb) all0)
  refine own_dup C X own_d2_40 rfl (pc' := 41) rfl ?_
  refine own_bipush C X own_d2_41 (v := 7) (by decide) (pc' := 43) rfl ?_
  refine own_lload C X own_d2_43 rfl (pc' := 45) rfl ?_
  refine own_lastore C X own_d2_45 A_nb (by decide) (i := 7) (Nat.le_of_ble_eq_true rfl) ge_nb (pc' := 46) rfl ?_
  intro T h X K_ A_nb_
  have A_nb : own_JA Z h nb [fill, fill, fill, fill, fill, fill, fill, fill] := A_nb_
  have KK := KK.trans K_ (allS (Or.inr gz_nb) all0)
  refine own_astore C X own_d2_46 rfl (L' := #[.val (.long v0), .second, .val (.long v1), .second, .val (.long v2), .second, .val (.long v3), .second, .val (.long v4), .second, .val (.long v5), .second, .val (.int (2 : Int32)), .val (.int (1 : Int32)), .val (.long fill), .second, .val (.ref nb)]) rfl (pc' := 48) rfl ?_
  refine own_iload C X own_d2_48 rfl (pc' := 50) rfl ?_
  refine own_if_le C X own_d2_50 (pcT := 59) (pc' := 53) (by decide) (by decide) rfl (fun hc50 => absurd hc50 (by decide)) (fun hc50 => ?_)
  refine own_aload C X own_d2_53 rfl rfl (pc' := 55) rfl ?_
  refine own_iload C X own_d2_55 rfl (pc' := 57) rfl ?_
  refine own_lloadN C X own_d2_57 rfl (pc' := 58) rfl ?_
  refine own_lastore C X own_d2_58 A_nb (by decide) (i := 1) (Nat.le_of_ble_eq_true rfl) ge_nb (pc' := 59) rfl ?_
  intro T h X K_ A_nb_
  have A_nb : own_JA Z h nb [fill, v0, fill, fill, fill, fill, fill, fill] := A_nb_
  have KK := KK.trans K_ (allS (Or.inr gz_nb) all0)
  refine own_iload C X own_d2_59 rfl (pc' := 61) rfl ?_
  refine own_iconst C X own_d2_61 (v := 1) (by decide) (pc' := 62) rfl ?_
  refine own_icmp_le C X own_d2_62 (pcT := 73) (pc' := 65) (by decide) (by decide) rfl (fun hc62 => absurd hc62 (by decide)) (fun hc62 => ?_)
  refine own_aload C X own_d2_65 rfl rfl (pc' := 67) rfl ?_
  refine own_iload C X own_d2_67 rfl (pc' := 69) rfl ?_
  refine own_iconst C X own_d2_69 (v := 1) (by decide) (pc' := 70) rfl ?_
  refine own_iadd C X own_d2_70 (z := 2) (by decide) (pc' := 71) rfl ?_
  refine own_lloadN C X own_d2_71 rfl (pc' := 72) rfl ?_
  refine own_lastore C X own_d2_72 A_nb (by decide) (i := 2) (Nat.le_of_ble_eq_true rfl) ge_nb (pc' := 73) rfl ?_
  intro T h X K_ A_nb_
  have A_nb : own_JA Z h nb [fill, v0, v1, fill, fill, fill, fill, fill] := A_nb_
  have KK := KK.trans K_ (allS (Or.inr gz_nb) all0)
  refine own_iload C X own_d2_73 rfl (pc' := 75) rfl ?_
  refine own_iconst C X own_d2_75 (v := 2) (by decide) (pc' := 76) rfl ?_
  refine own_icmp_le C X own_d2_76 (pcT := 88) (pc' := 79) (by decide) (by decide) rfl (fun hc76 => ?_) (fun hc76 => absurd hc76 (by decide))
  refine own_iload C X own_d2_88 rfl (pc' := 90) rfl ?_
  refine own_iconst C X own_d2_90 (v := 3) (by decide) (pc' := 91) rfl ?_
  refine own_icmp_le C X own_d2_91 (pcT := 103) (pc' := 94) (by decide) (by decide) rfl (fun hc91 => ?_) (fun hc91 => absurd hc91 (by decide))
  refine own_iload C X own_d2_103 rfl (pc' := 105) rfl ?_
  refine own_iconst C X own_d2_105 (v := 4) (by decide) (pc' := 106) rfl ?_
  refine own_icmp_le C X own_d2_106 (pcT := 118) (pc' := 109) (by decide) (by decide) rfl (fun hc106 => ?_) (fun hc106 => absurd hc106 (by decide))
  refine own_iload C X own_d2_118 rfl (pc' := 120) rfl ?_
  refine own_iconst C X own_d2_120 (v := 5) (by decide) (pc' := 121) rfl ?_
  refine own_icmp_le C X own_d2_121 (pcT := 133) (pc' := 124) (by decide) (by decide) rfl (fun hc121 => ?_) (fun hc121 => absurd hc121 (by decide))
  refine own_aload C X own_d2_133 rfl rfl (pc' := 135) rfl ?_
  exact own_areturn C X own_d2_135 rfl rfl rfl (Nat.le_of_ble_eq_true rfl) (Nat.le_of_ble_eq_true rfl) (⟨nb, rfl, gz_nb, KK, A_nb⟩)
theorem own_ef_b30 (v0 : Int64) (v1 : Int64) (v2 : Int64) (v3 : Int64) (v4 : Int64) (v5 : Int64) (fill : Int64) (m : MethodId) : entryFrame m #[(.long v0), (.long v1), (.long v2), (.long v3), (.long v4), (.long v5), (.int (3 : Int32)), (.int (0 : Int32)), (.long fill)] 17 = mkF m 0 #[.val (.long v0), .second, .val (.long v1), .second, .val (.long v2), .second, .val (.long v3), .second, .val (.long v4), .second, .val (.long v5), .second, .val (.int (3 : Int32)), .val (.int (0 : Int32)), .val (.long fill), .second, .unset] [] := by first | (simp [entryFrame, mkF, argsToLocals, Value.category]; done) | rfl
theorem own_d2_79 : decode method_3_code 79 = .ok (.aload 16, 2) := by decide +kernel
theorem own_d2_81 : decode method_3_code 81 = .ok (.iload 13, 2) := by decide +kernel
theorem own_d2_83 : decode method_3_code 83 = .ok (.iconst 2, 1) := by decide +kernel
theorem own_d2_84 : decode method_3_code 84 = .ok (.iadd, 1) := by decide +kernel
theorem own_d2_85 : decode method_3_code 85 = .ok (.lload 4, 2) := by decide +kernel
theorem own_d2_87 : decode method_3_code 87 = .ok (.lastore, 1) := by decide +kernel
set_option maxRecDepth 65536 in
set_option maxHeartbeats 40000000 in
theorem own_m_b30 (l : Launch) (Z : State) (a0 : Array Value) (hw : ∀ d ∈ tables_1, d.before a0 Z = true) (v0 : Int64) (v1 : Int64) (v2 : Int64) (v3 : Int64) (v4 : Int64) (v5 : Int64) (fill : Int64) (h0 : Heap) (n0 : Nat) (hn0 : n0 ≤ h0.size)  : own_Met l Z n0 (⟨"com/example/stablemate/stablemate/SliceHeapsAddPinLaw", "build", "(JJJJJJIIJ)[J"⟩ : MethodName) method_3_code 17 (some (.array .long)) [] ({ frames := 0, cells := 1, slots := 8, locals := 0 } : Room) #[(.long v0), (.long v1), (.long v2), (.long v3), (.long v4), (.long v5), (.int (3 : Int32)), (.int (0 : Int32)), (.long fill)] h0 (fun v h => ∃ b, v = some (.ref b) ∧ h0.size ≤ b ∧ Keep h0 h [] ∧ own_JA Z h b [v0, v1, v2, fill, fill, fill, fill, fill]) := by
  refine own_body (plainFor_of_name own_pn_com_example_stablemate_stablemate_SliceHeapsAddPinLaw) hn0 (own_ef_b30 v0 v1 v2 v3 v4 v5 fill) ?_
  intro p e s m below meth c T C X
  have KK := Keep.refl h0 []
  refine own_bipush C X own_d2_0 (v := 8) (by decide) (pc' := 2) rfl ?_
  refine own_newJ C X own_d2_2 (hw _ (List.mem_of_getElem? (i := 10) rfl)) (by decide) (k := 8) (cap := 8) (Nat.le_of_ble_eq_true rfl) (by decide) (Nat.le_of_ble_eq_true rfl) (Nat.le_of_ble_eq_true rfl) (pc' := 4) rfl ?_
  intro T h nb e_nb X K_ ge_nb A_nb_
  have gz_nb : h0.size ≤ nb := by rw [e_nb]; exact KK.1
  have A_nb : own_JA Z h nb [(0 : Int64), (0 : Int64), (0 : Int64), (0 : Int64), (0 : Int64), (0 : Int64), (0 : Int64), (0 : Int64)] := A_nb_
  have KK := KK.trans K_ all0
  refine own_dup C X own_d2_4 rfl (pc' := 5) rfl ?_
  refine own_iconst C X own_d2_5 (v := 0) (by decide) (pc' := 6) rfl ?_
  refine own_lload C X own_d2_6 rfl (pc' := 8) rfl ?_
  refine own_lastore C X own_d2_8 A_nb (by decide) (i := 0) (Nat.le_of_ble_eq_true rfl) ge_nb (pc' := 9) rfl ?_
  intro T h X K_ A_nb_
  have A_nb : own_JA Z h nb [fill, (0 : Int64), (0 : Int64), (0 : Int64), (0 : Int64), (0 : Int64), (0 : Int64), (0 : Int64)] := A_nb_
  have KK := KK.trans K_ (allS (Or.inr gz_nb) all0)
  refine own_dup C X own_d2_9 rfl (pc' := 10) rfl ?_
  refine own_iconst C X own_d2_10 (v := 1) (by decide) (pc' := 11) rfl ?_
  refine own_lload C X own_d2_11 rfl (pc' := 13) rfl ?_
  refine own_lastore C X own_d2_13 A_nb (by decide) (i := 1) (Nat.le_of_ble_eq_true rfl) ge_nb (pc' := 14) rfl ?_
  intro T h X K_ A_nb_
  have A_nb : own_JA Z h nb [fill, fill, (0 : Int64), (0 : Int64), (0 : Int64), (0 : Int64), (0 : Int64), (0 : Int64)] := A_nb_
  have KK := KK.trans K_ (allS (Or.inr gz_nb) all0)
  refine own_dup C X own_d2_14 rfl (pc' := 15) rfl ?_
  refine own_iconst C X own_d2_15 (v := 2) (by decide) (pc' := 16) rfl ?_
  refine own_lload C X own_d2_16 rfl (pc' := 18) rfl ?_
  refine own_lastore C X own_d2_18 A_nb (by decide) (i := 2) (Nat.le_of_ble_eq_true rfl) ge_nb (pc' := 19) rfl ?_
  intro T h X K_ A_nb_
  have A_nb : own_JA Z h nb [fill, fill, fill, (0 : Int64), (0 : Int64), (0 : Int64), (0 : Int64), (0 : Int64)] := A_nb_
  have KK := KK.trans K_ (allS (Or.inr gz_nb) all0)
  refine own_dup C X own_d2_19 rfl (pc' := 20) rfl ?_
  refine own_iconst C X own_d2_20 (v := 3) (by decide) (pc' := 21) rfl ?_
  refine own_lload C X own_d2_21 rfl (pc' := 23) rfl ?_
  refine own_lastore C X own_d2_23 A_nb (by decide) (i := 3) (Nat.le_of_ble_eq_true rfl) ge_nb (pc' := 24) rfl ?_
  intro T h X K_ A_nb_
  have A_nb : own_JA Z h nb [fill, fill, fill, fill, (0 : Int64), (0 : Int64), (0 : Int64), (0 : Int64)] := A_nb_
  have KK := KK.trans K_ (allS (Or.inr gz_nb) all0)
  refine own_dup C X own_d2_24 rfl (pc' := 25) rfl ?_
  refine own_iconst C X own_d2_25 (v := 4) (by decide) (pc' := 26) rfl ?_
  refine own_lload C X own_d2_26 rfl (pc' := 28) rfl ?_
  refine own_lastore C X own_d2_28 A_nb (by decide) (i := 4) (Nat.le_of_ble_eq_true rfl) ge_nb (pc' := 29) rfl ?_
  intro T h X K_ A_nb_
  have A_nb : own_JA Z h nb [fill, fill, fill, fill, fill, (0 : Int64), (0 : Int64), (0 : Int64)] := A_nb_
  have KK := KK.trans K_ (allS (Or.inr gz_nb) all0)
  refine own_dup C X own_d2_29 rfl (pc' := 30) rfl ?_
  refine own_iconst C X own_d2_30 (v := 5) (by decide) (pc' := 31) rfl ?_
  refine own_lload C X own_d2_31 rfl (pc' := 33) rfl ?_
  refine own_lastore C X own_d2_33 A_nb (by decide) (i := 5) (Nat.le_of_ble_eq_true rfl) ge_nb (pc' := 34) rfl ?_
  intro T h X K_ A_nb_
  have A_nb : own_JA Z h nb [fill, fill, fill, fill, fill, fill, (0 : Int64), (0 : Int64)] := A_nb_
  have KK := KK.trans K_ (allS (Or.inr gz_nb) all0)
  refine own_dup C X own_d2_34 rfl (pc' := 35) rfl ?_
  refine own_bipush C X own_d2_35 (v := 6) (by decide) (pc' := 37) rfl ?_
  refine own_lload C X own_d2_37 rfl (pc' := 39) rfl ?_
  refine own_lastore C X own_d2_39 A_nb (by decide) (i := 6) (Nat.le_of_ble_eq_true rfl) ge_nb (pc' := 40) rfl ?_
  intro T h X K_ A_nb_
  have A_nb : own_JA Z h nb [fill, fill, fill, fill, fill, fill, fill, (0 : Int64)] := A_nb_
  have KK := KK.trans K_ (allS (Or.inr gz_nb) all0)
  refine own_dup C X own_d2_40 rfl (pc' := 41) rfl ?_
  refine own_bipush C X own_d2_41 (v := 7) (by decide) (pc' := 43) rfl ?_
  refine own_lload C X own_d2_43 rfl (pc' := 45) rfl ?_
  refine own_lastore C X own_d2_45 A_nb (by decide) (i := 7) (Nat.le_of_ble_eq_true rfl) ge_nb (pc' := 46) rfl ?_
  intro T h X K_ A_nb_
  have A_nb : own_JA Z h nb [fill, fill, fill, fill, fill, fill, fill, fill] := A_nb_
  have KK := KK.trans K_ (allS (Or.inr gz_nb) all0)
  refine own_astore C X own_d2_46 rfl (L' := #[.val (.long v0), .second, .val (.long v1), .second, .val (.long v2), .second, .val (.long v3), .second, .val (.long v4), .second, .val (.long v5), .second, .val (.int (3 : Int32)), .val (.int (0 : Int32)), .val (.long fill), .second, .val (.ref nb)]) rfl (pc' := 48) rfl ?_
  refine own_iload C X own_d2_48 rfl (pc' := 50) rfl ?_
  refine own_if_le C X own_d2_50 (pcT := 59) (pc' := 53) (by decide) (by decide) rfl (fun hc50 => absurd hc50 (by decide)) (fun hc50 => ?_)
  refine own_aload C X own_d2_53 rfl rfl (pc' := 55) rfl ?_
  refine own_iload C X own_d2_55 rfl (pc' := 57) rfl ?_
  refine own_lloadN C X own_d2_57 rfl (pc' := 58) rfl ?_
  refine own_lastore C X own_d2_58 A_nb (by decide) (i := 0) (Nat.le_of_ble_eq_true rfl) ge_nb (pc' := 59) rfl ?_
  intro T h X K_ A_nb_
  have A_nb : own_JA Z h nb [v0, fill, fill, fill, fill, fill, fill, fill] := A_nb_
  have KK := KK.trans K_ (allS (Or.inr gz_nb) all0)
  refine own_iload C X own_d2_59 rfl (pc' := 61) rfl ?_
  refine own_iconst C X own_d2_61 (v := 1) (by decide) (pc' := 62) rfl ?_
  refine own_icmp_le C X own_d2_62 (pcT := 73) (pc' := 65) (by decide) (by decide) rfl (fun hc62 => absurd hc62 (by decide)) (fun hc62 => ?_)
  refine own_aload C X own_d2_65 rfl rfl (pc' := 67) rfl ?_
  refine own_iload C X own_d2_67 rfl (pc' := 69) rfl ?_
  refine own_iconst C X own_d2_69 (v := 1) (by decide) (pc' := 70) rfl ?_
  refine own_iadd C X own_d2_70 (z := 1) (by decide) (pc' := 71) rfl ?_
  refine own_lloadN C X own_d2_71 rfl (pc' := 72) rfl ?_
  refine own_lastore C X own_d2_72 A_nb (by decide) (i := 1) (Nat.le_of_ble_eq_true rfl) ge_nb (pc' := 73) rfl ?_
  intro T h X K_ A_nb_
  have A_nb : own_JA Z h nb [v0, v1, fill, fill, fill, fill, fill, fill] := A_nb_
  have KK := KK.trans K_ (allS (Or.inr gz_nb) all0)
  refine own_iload C X own_d2_73 rfl (pc' := 75) rfl ?_
  refine own_iconst C X own_d2_75 (v := 2) (by decide) (pc' := 76) rfl ?_
  refine own_icmp_le C X own_d2_76 (pcT := 88) (pc' := 79) (by decide) (by decide) rfl (fun hc76 => absurd hc76 (by decide)) (fun hc76 => ?_)
  refine own_aload C X own_d2_79 rfl rfl (pc' := 81) rfl ?_
  refine own_iload C X own_d2_81 rfl (pc' := 83) rfl ?_
  refine own_iconst C X own_d2_83 (v := 2) (by decide) (pc' := 84) rfl ?_
  refine own_iadd C X own_d2_84 (z := 2) (by decide) (pc' := 85) rfl ?_
  refine own_lload C X own_d2_85 rfl (pc' := 87) rfl ?_
  refine own_lastore C X own_d2_87 A_nb (by decide) (i := 2) (Nat.le_of_ble_eq_true rfl) ge_nb (pc' := 88) rfl ?_
  intro T h X K_ A_nb_
  have A_nb : own_JA Z h nb [v0, v1, v2, fill, fill, fill, fill, fill] := A_nb_
  have KK := KK.trans K_ (allS (Or.inr gz_nb) all0)
  refine own_iload C X own_d2_88 rfl (pc' := 90) rfl ?_
  refine own_iconst C X own_d2_90 (v := 3) (by decide) (pc' := 91) rfl ?_
  refine own_icmp_le C X own_d2_91 (pcT := 103) (pc' := 94) (by decide) (by decide) rfl (fun hc91 => ?_) (fun hc91 => absurd hc91 (by decide))
  refine own_iload C X own_d2_103 rfl (pc' := 105) rfl ?_
  refine own_iconst C X own_d2_105 (v := 4) (by decide) (pc' := 106) rfl ?_
  refine own_icmp_le C X own_d2_106 (pcT := 118) (pc' := 109) (by decide) (by decide) rfl (fun hc106 => ?_) (fun hc106 => absurd hc106 (by decide))
  refine own_iload C X own_d2_118 rfl (pc' := 120) rfl ?_
  refine own_iconst C X own_d2_120 (v := 5) (by decide) (pc' := 121) rfl ?_
  refine own_icmp_le C X own_d2_121 (pcT := 133) (pc' := 124) (by decide) (by decide) rfl (fun hc121 => ?_) (fun hc121 => absurd hc121 (by decide))
  refine own_aload C X own_d2_133 rfl rfl (pc' := 135) rfl ?_
  exact own_areturn C X own_d2_135 rfl rfl rfl (Nat.le_of_ble_eq_true rfl) (Nat.le_of_ble_eq_true rfl) (⟨nb, rfl, gz_nb, KK, A_nb⟩)
theorem own_ef_b31 (v0 : Int64) (v1 : Int64) (v2 : Int64) (v3 : Int64) (v4 : Int64) (v5 : Int64) (fill : Int64) (m : MethodId) : entryFrame m #[(.long v0), (.long v1), (.long v2), (.long v3), (.long v4), (.long v5), (.int (3 : Int32)), (.int (1 : Int32)), (.long fill)] 17 = mkF m 0 #[.val (.long v0), .second, .val (.long v1), .second, .val (.long v2), .second, .val (.long v3), .second, .val (.long v4), .second, .val (.long v5), .second, .val (.int (3 : Int32)), .val (.int (1 : Int32)), .val (.long fill), .second, .unset] [] := by first | (simp [entryFrame, mkF, argsToLocals, Value.category]; done) | rfl
set_option maxRecDepth 65536 in
set_option maxHeartbeats 40000000 in
theorem own_m_b31 (l : Launch) (Z : State) (a0 : Array Value) (hw : ∀ d ∈ tables_1, d.before a0 Z = true) (v0 : Int64) (v1 : Int64) (v2 : Int64) (v3 : Int64) (v4 : Int64) (v5 : Int64) (fill : Int64) (h0 : Heap) (n0 : Nat) (hn0 : n0 ≤ h0.size)  : own_Met l Z n0 (⟨"com/example/stablemate/stablemate/SliceHeapsAddPinLaw", "build", "(JJJJJJIIJ)[J"⟩ : MethodName) method_3_code 17 (some (.array .long)) [] ({ frames := 0, cells := 1, slots := 8, locals := 0 } : Room) #[(.long v0), (.long v1), (.long v2), (.long v3), (.long v4), (.long v5), (.int (3 : Int32)), (.int (1 : Int32)), (.long fill)] h0 (fun v h => ∃ b, v = some (.ref b) ∧ h0.size ≤ b ∧ Keep h0 h [] ∧ own_JA Z h b [fill, v0, v1, v2, fill, fill, fill, fill]) := by
  refine own_body (plainFor_of_name own_pn_com_example_stablemate_stablemate_SliceHeapsAddPinLaw) hn0 (own_ef_b31 v0 v1 v2 v3 v4 v5 fill) ?_
  intro p e s m below meth c T C X
  have KK := Keep.refl h0 []
  refine own_bipush C X own_d2_0 (v := 8) (by decide) (pc' := 2) rfl ?_
  refine own_newJ C X own_d2_2 (hw _ (List.mem_of_getElem? (i := 10) rfl)) (by decide) (k := 8) (cap := 8) (Nat.le_of_ble_eq_true rfl) (by decide) (Nat.le_of_ble_eq_true rfl) (Nat.le_of_ble_eq_true rfl) (pc' := 4) rfl ?_
  intro T h nb e_nb X K_ ge_nb A_nb_
  have gz_nb : h0.size ≤ nb := by rw [e_nb]; exact KK.1
  have A_nb : own_JA Z h nb [(0 : Int64), (0 : Int64), (0 : Int64), (0 : Int64), (0 : Int64), (0 : Int64), (0 : Int64), (0 : Int64)] := A_nb_
  have KK := KK.trans K_ all0
  refine own_dup C X own_d2_4 rfl (pc' := 5) rfl ?_
  refine own_iconst C X own_d2_5 (v := 0) (by decide) (pc' := 6) rfl ?_
  refine own_lload C X own_d2_6 rfl (pc' := 8) rfl ?_
  refine own_lastore C X own_d2_8 A_nb (by decide) (i := 0) (Nat.le_of_ble_eq_true rfl) ge_nb (pc' := 9) rfl ?_
  intro T h X K_ A_nb_
  have A_nb : own_JA Z h nb [fill, (0 : Int64), (0 : Int64), (0 : Int64), (0 : Int64), (0 : Int64), (0 : Int64), (0 : Int64)] := A_nb_
  have KK := KK.trans K_ (allS (Or.inr gz_nb) all0)
  refine own_dup C X own_d2_9 rfl (pc' := 10) rfl ?_
  refine own_iconst C X own_d2_10 (v := 1) (by decide) (pc' := 11) rfl ?_
  refine own_lload C X own_d2_11 rfl (pc' := 13) rfl ?_
  refine own_lastore C X own_d2_13 A_nb (by decide) (i := 1) (Nat.le_of_ble_eq_true rfl) ge_nb (pc' := 14) rfl ?_
  intro T h X K_ A_nb_
  have A_nb : own_JA Z h nb [fill, fill, (0 : Int64), (0 : Int64), (0 : Int64), (0 : Int64), (0 : Int64), (0 : Int64)] := A_nb_
  have KK := KK.trans K_ (allS (Or.inr gz_nb) all0)
  refine own_dup C X own_d2_14 rfl (pc' := 15) rfl ?_
  refine own_iconst C X own_d2_15 (v := 2) (by decide) (pc' := 16) rfl ?_
  refine own_lload C X own_d2_16 rfl (pc' := 18) rfl ?_
  refine own_lastore C X own_d2_18 A_nb (by decide) (i := 2) (Nat.le_of_ble_eq_true rfl) ge_nb (pc' := 19) rfl ?_
  intro T h X K_ A_nb_
  have A_nb : own_JA Z h nb [fill, fill, fill, (0 : Int64), (0 : Int64), (0 : Int64), (0 : Int64), (0 : Int64)] := A_nb_
  have KK := KK.trans K_ (allS (Or.inr gz_nb) all0)
  refine own_dup C X own_d2_19 rfl (pc' := 20) rfl ?_
  refine own_iconst C X own_d2_20 (v := 3) (by decide) (pc' := 21) rfl ?_
  refine own_lload C X own_d2_21 rfl (pc' := 23) rfl ?_
  refine own_lastore C X own_d2_23 A_nb (by decide) (i := 3) (Nat.le_of_ble_eq_true rfl) ge_nb (pc' := 24) rfl ?_
  intro T h X K_ A_nb_
  have A_nb : own_JA Z h nb [fill, fill, fill, fill, (0 : Int64), (0 : Int64), (0 : Int64), (0 : Int64)] := A_nb_
  have KK := KK.trans K_ (allS (Or.inr gz_nb) all0)
  refine own_dup C X own_d2_24 rfl (pc' := 25) rfl ?_
  refine own_iconst C X own_d2_25 (v := 4) (by decide) (pc' := 26) rfl ?_
  refine own_lload C X own_d2_26 rfl (pc' := 28) rfl ?_
  refine own_lastore C X own_d2_28 A_nb (by decide) (i := 4) (Nat.le_of_ble_eq_true rfl) ge_nb (pc' := 29) rfl ?_
  intro T h X K_ A_nb_
  have A_nb : own_JA Z h nb [fill, fill, fill, fill, fill, (0 : Int64), (0 : Int64), (0 : Int64)] := A_nb_
  have KK := KK.trans K_ (allS (Or.inr gz_nb) all0)
  refine own_dup C X own_d2_29 rfl (pc' := 30) rfl ?_
  refine own_iconst C X own_d2_30 (v := 5) (by decide) (pc' := 31) rfl ?_
  refine own_lload C X own_d2_31 rfl (pc' := 33) rfl ?_
  refine own_lastore C X own_d2_33 A_nb (by decide) (i := 5) (Nat.le_of_ble_eq_true rfl) ge_nb (pc' := 34) rfl ?_
  intro T h X K_ A_nb_
  have A_nb : own_JA Z h nb [fill, fill, fill, fill, fill, fill, (0 : Int64), (0 : Int64)] := A_nb_
  have KK := KK.trans K_ (allS (Or.inr gz_nb) all0)
  refine own_dup C X own_d2_34 rfl (pc' := 35) rfl ?_
  refine own_bipush C X own_d2_35 (v := 6) (by decide) (pc' := 37) rfl ?_
  refine own_lload C X own_d2_37 rfl (pc' := 39) rfl ?_
  refine own_lastore C X own_d2_39 A_nb (by decide) (i := 6) (Nat.le_of_ble_eq_true rfl) ge_nb (pc' := 40) rfl ?_
  intro T h X K_ A_nb_
  have A_nb : own_JA Z h nb [fill, fill, fill, fill, fill, fill, fill, (0 : Int64)] := A_nb_
  have KK := KK.trans K_ (allS (Or.inr gz_nb) all0)
  refine own_dup C X own_d2_40 rfl (pc' := 41) rfl ?_
  refine own_bipush C X own_d2_41 (v := 7) (by decide) (pc' := 43) rfl ?_
  refine own_lload C X own_d2_43 rfl (pc' := 45) rfl ?_
  refine own_lastore C X own_d2_45 A_nb (by decide) (i := 7) (Nat.le_of_ble_eq_true rfl) ge_nb (pc' := 46) rfl ?_
  intro T h X K_ A_nb_
  have A_nb : own_JA Z h nb [fill, fill, fill, fill, fill, fill, fill, fill] := A_nb_
  have KK := KK.trans K_ (allS (Or.inr gz_nb) all0)
  refine own_astore C X own_d2_46 rfl (L' := #[.val (.long v0), .second, .val (.long v1), .second, .val (.long v2), .second, .val (.long v3), .second, .val (.long v4), .second, .val (.long v5), .second, .val (.int (3 : Int32)), .val (.int (1 : Int32)), .val (.long fill), .second, .val (.ref nb)]) rfl (pc' := 48) rfl ?_
  refine own_iload C X own_d2_48 rfl (pc' := 50) rfl ?_
  refine own_if_le C X own_d2_50 (pcT := 59) (pc' := 53) (by decide) (by decide) rfl (fun hc50 => absurd hc50 (by decide)) (fun hc50 => ?_)
  refine own_aload C X own_d2_53 rfl rfl (pc' := 55) rfl ?_
  refine own_iload C X own_d2_55 rfl (pc' := 57) rfl ?_
  refine own_lloadN C X own_d2_57 rfl (pc' := 58) rfl ?_
  refine own_lastore C X own_d2_58 A_nb (by decide) (i := 1) (Nat.le_of_ble_eq_true rfl) ge_nb (pc' := 59) rfl ?_
  intro T h X K_ A_nb_
  have A_nb : own_JA Z h nb [fill, v0, fill, fill, fill, fill, fill, fill] := A_nb_
  have KK := KK.trans K_ (allS (Or.inr gz_nb) all0)
  refine own_iload C X own_d2_59 rfl (pc' := 61) rfl ?_
  refine own_iconst C X own_d2_61 (v := 1) (by decide) (pc' := 62) rfl ?_
  refine own_icmp_le C X own_d2_62 (pcT := 73) (pc' := 65) (by decide) (by decide) rfl (fun hc62 => absurd hc62 (by decide)) (fun hc62 => ?_)
  refine own_aload C X own_d2_65 rfl rfl (pc' := 67) rfl ?_
  refine own_iload C X own_d2_67 rfl (pc' := 69) rfl ?_
  refine own_iconst C X own_d2_69 (v := 1) (by decide) (pc' := 70) rfl ?_
  refine own_iadd C X own_d2_70 (z := 2) (by decide) (pc' := 71) rfl ?_
  refine own_lloadN C X own_d2_71 rfl (pc' := 72) rfl ?_
  refine own_lastore C X own_d2_72 A_nb (by decide) (i := 2) (Nat.le_of_ble_eq_true rfl) ge_nb (pc' := 73) rfl ?_
  intro T h X K_ A_nb_
  have A_nb : own_JA Z h nb [fill, v0, v1, fill, fill, fill, fill, fill] := A_nb_
  have KK := KK.trans K_ (allS (Or.inr gz_nb) all0)
  refine own_iload C X own_d2_73 rfl (pc' := 75) rfl ?_
  refine own_iconst C X own_d2_75 (v := 2) (by decide) (pc' := 76) rfl ?_
  refine own_icmp_le C X own_d2_76 (pcT := 88) (pc' := 79) (by decide) (by decide) rfl (fun hc76 => absurd hc76 (by decide)) (fun hc76 => ?_)
  refine own_aload C X own_d2_79 rfl rfl (pc' := 81) rfl ?_
  refine own_iload C X own_d2_81 rfl (pc' := 83) rfl ?_
  refine own_iconst C X own_d2_83 (v := 2) (by decide) (pc' := 84) rfl ?_
  refine own_iadd C X own_d2_84 (z := 3) (by decide) (pc' := 85) rfl ?_
  refine own_lload C X own_d2_85 rfl (pc' := 87) rfl ?_
  refine own_lastore C X own_d2_87 A_nb (by decide) (i := 3) (Nat.le_of_ble_eq_true rfl) ge_nb (pc' := 88) rfl ?_
  intro T h X K_ A_nb_
  have A_nb : own_JA Z h nb [fill, v0, v1, v2, fill, fill, fill, fill] := A_nb_
  have KK := KK.trans K_ (allS (Or.inr gz_nb) all0)
  refine own_iload C X own_d2_88 rfl (pc' := 90) rfl ?_
  refine own_iconst C X own_d2_90 (v := 3) (by decide) (pc' := 91) rfl ?_
  refine own_icmp_le C X own_d2_91 (pcT := 103) (pc' := 94) (by decide) (by decide) rfl (fun hc91 => ?_) (fun hc91 => absurd hc91 (by decide))
  refine own_iload C X own_d2_103 rfl (pc' := 105) rfl ?_
  refine own_iconst C X own_d2_105 (v := 4) (by decide) (pc' := 106) rfl ?_
  refine own_icmp_le C X own_d2_106 (pcT := 118) (pc' := 109) (by decide) (by decide) rfl (fun hc106 => ?_) (fun hc106 => absurd hc106 (by decide))
  refine own_iload C X own_d2_118 rfl (pc' := 120) rfl ?_
  refine own_iconst C X own_d2_120 (v := 5) (by decide) (pc' := 121) rfl ?_
  refine own_icmp_le C X own_d2_121 (pcT := 133) (pc' := 124) (by decide) (by decide) rfl (fun hc121 => ?_) (fun hc121 => absurd hc121 (by decide))
  refine own_aload C X own_d2_133 rfl rfl (pc' := 135) rfl ?_
  exact own_areturn C X own_d2_135 rfl rfl rfl (Nat.le_of_ble_eq_true rfl) (Nat.le_of_ble_eq_true rfl) (⟨nb, rfl, gz_nb, KK, A_nb⟩)
theorem own_ef_b40 (v0 : Int64) (v1 : Int64) (v2 : Int64) (v3 : Int64) (v4 : Int64) (v5 : Int64) (fill : Int64) (m : MethodId) : entryFrame m #[(.long v0), (.long v1), (.long v2), (.long v3), (.long v4), (.long v5), (.int (4 : Int32)), (.int (0 : Int32)), (.long fill)] 17 = mkF m 0 #[.val (.long v0), .second, .val (.long v1), .second, .val (.long v2), .second, .val (.long v3), .second, .val (.long v4), .second, .val (.long v5), .second, .val (.int (4 : Int32)), .val (.int (0 : Int32)), .val (.long fill), .second, .unset] [] := by first | (simp [entryFrame, mkF, argsToLocals, Value.category]; done) | rfl
theorem own_d2_94 : decode method_3_code 94 = .ok (.aload 16, 2) := by decide +kernel
theorem own_d2_96 : decode method_3_code 96 = .ok (.iload 13, 2) := by decide +kernel
theorem own_d2_98 : decode method_3_code 98 = .ok (.iconst 3, 1) := by decide +kernel
theorem own_d2_99 : decode method_3_code 99 = .ok (.iadd, 1) := by decide +kernel
theorem own_d2_100 : decode method_3_code 100 = .ok (.lload 6, 2) := by decide +kernel
theorem own_d2_102 : decode method_3_code 102 = .ok (.lastore, 1) := by decide +kernel
set_option maxRecDepth 65536 in
set_option maxHeartbeats 40000000 in
theorem own_m_b40 (l : Launch) (Z : State) (a0 : Array Value) (hw : ∀ d ∈ tables_1, d.before a0 Z = true) (v0 : Int64) (v1 : Int64) (v2 : Int64) (v3 : Int64) (v4 : Int64) (v5 : Int64) (fill : Int64) (h0 : Heap) (n0 : Nat) (hn0 : n0 ≤ h0.size)  : own_Met l Z n0 (⟨"com/example/stablemate/stablemate/SliceHeapsAddPinLaw", "build", "(JJJJJJIIJ)[J"⟩ : MethodName) method_3_code 17 (some (.array .long)) [] ({ frames := 0, cells := 1, slots := 8, locals := 0 } : Room) #[(.long v0), (.long v1), (.long v2), (.long v3), (.long v4), (.long v5), (.int (4 : Int32)), (.int (0 : Int32)), (.long fill)] h0 (fun v h => ∃ b, v = some (.ref b) ∧ h0.size ≤ b ∧ Keep h0 h [] ∧ own_JA Z h b [v0, v1, v2, v3, fill, fill, fill, fill]) := by
  refine own_body (plainFor_of_name own_pn_com_example_stablemate_stablemate_SliceHeapsAddPinLaw) hn0 (own_ef_b40 v0 v1 v2 v3 v4 v5 fill) ?_
  intro p e s m below meth c T C X
  have KK := Keep.refl h0 []
  refine own_bipush C X own_d2_0 (v := 8) (by decide) (pc' := 2) rfl ?_
  refine own_newJ C X own_d2_2 (hw _ (List.mem_of_getElem? (i := 10) rfl)) (by decide) (k := 8) (cap := 8) (Nat.le_of_ble_eq_true rfl) (by decide) (Nat.le_of_ble_eq_true rfl) (Nat.le_of_ble_eq_true rfl) (pc' := 4) rfl ?_
  intro T h nb e_nb X K_ ge_nb A_nb_
  have gz_nb : h0.size ≤ nb := by rw [e_nb]; exact KK.1
  have A_nb : own_JA Z h nb [(0 : Int64), (0 : Int64), (0 : Int64), (0 : Int64), (0 : Int64), (0 : Int64), (0 : Int64), (0 : Int64)] := A_nb_
  have KK := KK.trans K_ all0
  refine own_dup C X own_d2_4 rfl (pc' := 5) rfl ?_
  refine own_iconst C X own_d2_5 (v := 0) (by decide) (pc' := 6) rfl ?_
  refine own_lload C X own_d2_6 rfl (pc' := 8) rfl ?_
  refine own_lastore C X own_d2_8 A_nb (by decide) (i := 0) (Nat.le_of_ble_eq_true rfl) ge_nb (pc' := 9) rfl ?_
  intro T h X K_ A_nb_
  have A_nb : own_JA Z h nb [fill, (0 : Int64), (0 : Int64), (0 : Int64), (0 : Int64), (0 : Int64), (0 : Int64), (0 : Int64)] := A_nb_
  have KK := KK.trans K_ (allS (Or.inr gz_nb) all0)
  refine own_dup C X own_d2_9 rfl (pc' := 10) rfl ?_
  refine own_iconst C X own_d2_10 (v := 1) (by decide) (pc' := 11) rfl ?_
  refine own_lload C X own_d2_11 rfl (pc' := 13) rfl ?_
  refine own_lastore C X own_d2_13 A_nb (by decide) (i := 1) (Nat.le_of_ble_eq_true rfl) ge_nb (pc' := 14) rfl ?_
  intro T h X K_ A_nb_
  have A_nb : own_JA Z h nb [fill, fill, (0 : Int64), (0 : Int64), (0 : Int64), (0 : Int64), (0 : Int64), (0 : Int64)] := A_nb_
  have KK := KK.trans K_ (allS (Or.inr gz_nb) all0)
  refine own_dup C X own_d2_14 rfl (pc' := 15) rfl ?_
  refine own_iconst C X own_d2_15 (v := 2) (by decide) (pc' := 16) rfl ?_
  refine own_lload C X own_d2_16 rfl (pc' := 18) rfl ?_
  refine own_lastore C X own_d2_18 A_nb (by decide) (i := 2) (Nat.le_of_ble_eq_true rfl) ge_nb (pc' := 19) rfl ?_
  intro T h X K_ A_nb_
  have A_nb : own_JA Z h nb [fill, fill, fill, (0 : Int64), (0 : Int64), (0 : Int64), (0 : Int64), (0 : Int64)] := A_nb_
  have KK := KK.trans K_ (allS (Or.inr gz_nb) all0)
  refine own_dup C X own_d2_19 rfl (pc' := 20) rfl ?_
  refine own_iconst C X own_d2_20 (v := 3) (by decide) (pc' := 21) rfl ?_
  refine own_lload C X own_d2_21 rfl (pc' := 23) rfl ?_
  refine own_lastore C X own_d2_23 A_nb (by decide) (i := 3) (Nat.le_of_ble_eq_true rfl) ge_nb (pc' := 24) rfl ?_
  intro T h X K_ A_nb_
  have A_nb : own_JA Z h nb [fill, fill, fill, fill, (0 : Int64), (0 : Int64), (0 : Int64), (0 : Int64)] := A_nb_
  have KK := KK.trans K_ (allS (Or.inr gz_nb) all0)
  refine own_dup C X own_d2_24 rfl (pc' := 25) rfl ?_
  refine own_iconst C X own_d2_25 (v := 4) (by decide) (pc' := 26) rfl ?_
  refine own_lload C X own_d2_26 rfl (pc' := 28) rfl ?_
  refine own_lastore C X own_d2_28 A_nb (by decide) (i := 4) (Nat.le_of_ble_eq_true rfl) ge_nb (pc' := 29) rfl ?_
  intro T h X K_ A_nb_
  have A_nb : own_JA Z h nb [fill, fill, fill, fill, fill, (0 : Int64), (0 : Int64), (0 : Int64)] := A_nb_
  have KK := KK.trans K_ (allS (Or.inr gz_nb) all0)
  refine own_dup C X own_d2_29 rfl (pc' := 30) rfl ?_
  refine own_iconst C X own_d2_30 (v := 5) (by decide) (pc' := 31) rfl ?_
  refine own_lload C X own_d2_31 rfl (pc' := 33) rfl ?_
  refine own_lastore C X own_d2_33 A_nb (by decide) (i := 5) (Nat.le_of_ble_eq_true rfl) ge_nb (pc' := 34) rfl ?_
  intro T h X K_ A_nb_
  have A_nb : own_JA Z h nb [fill, fill, fill, fill, fill, fill, (0 : Int64), (0 : Int64)] := A_nb_
  have KK := KK.trans K_ (allS (Or.inr gz_nb) all0)
  refine own_dup C X own_d2_34 rfl (pc' := 35) rfl ?_
  refine own_bipush C X own_d2_35 (v := 6) (by decide) (pc' := 37) rfl ?_
  refine own_lload C X own_d2_37 rfl (pc' := 39) rfl ?_
  refine own_lastore C X own_d2_39 A_nb (by decide) (i := 6) (Nat.le_of_ble_eq_true rfl) ge_nb (pc' := 40) rfl ?_
  intro T h X K_ A_nb_
  have A_nb : own_JA Z h nb [fill, fill, fill, fill, fill, fill, fill, (0 : Int64)] := A_nb_
  have KK := KK.trans K_ (allS (Or.inr gz_nb) all0)
  refine own_dup C X own_d2_40 rfl (pc' := 41) rfl ?_
  refine own_bipush C X own_d2_41 (v := 7) (by decide) (pc' := 43) rfl ?_
  refine own_lload C X own_d2_43 rfl (pc' := 45) rfl ?_
  refine own_lastore C X own_d2_45 A_nb (by decide) (i := 7) (Nat.le_of_ble_eq_true rfl) ge_nb (pc' := 46) rfl ?_
  intro T h X K_ A_nb_
  have A_nb : own_JA Z h nb [fill, fill, fill, fill, fill, fill, fill, fill] := A_nb_
  have KK := KK.trans K_ (allS (Or.inr gz_nb) all0)
  refine own_astore C X own_d2_46 rfl (L' := #[.val (.long v0), .second, .val (.long v1), .second, .val (.long v2), .second, .val (.long v3), .second, .val (.long v4), .second, .val (.long v5), .second, .val (.int (4 : Int32)), .val (.int (0 : Int32)), .val (.long fill), .second, .val (.ref nb)]) rfl (pc' := 48) rfl ?_
  refine own_iload C X own_d2_48 rfl (pc' := 50) rfl ?_
  refine own_if_le C X own_d2_50 (pcT := 59) (pc' := 53) (by decide) (by decide) rfl (fun hc50 => absurd hc50 (by decide)) (fun hc50 => ?_)
  refine own_aload C X own_d2_53 rfl rfl (pc' := 55) rfl ?_
  refine own_iload C X own_d2_55 rfl (pc' := 57) rfl ?_
  refine own_lloadN C X own_d2_57 rfl (pc' := 58) rfl ?_
  refine own_lastore C X own_d2_58 A_nb (by decide) (i := 0) (Nat.le_of_ble_eq_true rfl) ge_nb (pc' := 59) rfl ?_
  intro T h X K_ A_nb_
  have A_nb : own_JA Z h nb [v0, fill, fill, fill, fill, fill, fill, fill] := A_nb_
  have KK := KK.trans K_ (allS (Or.inr gz_nb) all0)
  refine own_iload C X own_d2_59 rfl (pc' := 61) rfl ?_
  refine own_iconst C X own_d2_61 (v := 1) (by decide) (pc' := 62) rfl ?_
  refine own_icmp_le C X own_d2_62 (pcT := 73) (pc' := 65) (by decide) (by decide) rfl (fun hc62 => absurd hc62 (by decide)) (fun hc62 => ?_)
  refine own_aload C X own_d2_65 rfl rfl (pc' := 67) rfl ?_
  refine own_iload C X own_d2_67 rfl (pc' := 69) rfl ?_
  refine own_iconst C X own_d2_69 (v := 1) (by decide) (pc' := 70) rfl ?_
  refine own_iadd C X own_d2_70 (z := 1) (by decide) (pc' := 71) rfl ?_
  refine own_lloadN C X own_d2_71 rfl (pc' := 72) rfl ?_
  refine own_lastore C X own_d2_72 A_nb (by decide) (i := 1) (Nat.le_of_ble_eq_true rfl) ge_nb (pc' := 73) rfl ?_
  intro T h X K_ A_nb_
  have A_nb : own_JA Z h nb [v0, v1, fill, fill, fill, fill, fill, fill] := A_nb_
  have KK := KK.trans K_ (allS (Or.inr gz_nb) all0)
  refine own_iload C X own_d2_73 rfl (pc' := 75) rfl ?_
  refine own_iconst C X own_d2_75 (v := 2) (by decide) (pc' := 76) rfl ?_
  refine own_icmp_le C X own_d2_76 (pcT := 88) (pc' := 79) (by decide) (by decide) rfl (fun hc76 => absurd hc76 (by decide)) (fun hc76 => ?_)
  refine own_aload C X own_d2_79 rfl rfl (pc' := 81) rfl ?_
  refine own_iload C X own_d2_81 rfl (pc' := 83) rfl ?_
  refine own_iconst C X own_d2_83 (v := 2) (by decide) (pc' := 84) rfl ?_
  refine own_iadd C X own_d2_84 (z := 2) (by decide) (pc' := 85) rfl ?_
  refine own_lload C X own_d2_85 rfl (pc' := 87) rfl ?_
  refine own_lastore C X own_d2_87 A_nb (by decide) (i := 2) (Nat.le_of_ble_eq_true rfl) ge_nb (pc' := 88) rfl ?_
  intro T h X K_ A_nb_
  have A_nb : own_JA Z h nb [v0, v1, v2, fill, fill, fill, fill, fill] := A_nb_
  have KK := KK.trans K_ (allS (Or.inr gz_nb) all0)
  refine own_iload C X own_d2_88 rfl (pc' := 90) rfl ?_
  refine own_iconst C X own_d2_90 (v := 3) (by decide) (pc' := 91) rfl ?_
  refine own_icmp_le C X own_d2_91 (pcT := 103) (pc' := 94) (by decide) (by decide) rfl (fun hc91 => absurd hc91 (by decide)) (fun hc91 => ?_)
  refine own_aload C X own_d2_94 rfl rfl (pc' := 96) rfl ?_
  refine own_iload C X own_d2_96 rfl (pc' := 98) rfl ?_
  refine own_iconst C X own_d2_98 (v := 3) (by decide) (pc' := 99) rfl ?_
  refine own_iadd C X own_d2_99 (z := 3) (by decide) (pc' := 100) rfl ?_
  refine own_lload C X own_d2_100 rfl (pc' := 102) rfl ?_
  refine own_lastore C X own_d2_102 A_nb (by decide) (i := 3) (Nat.le_of_ble_eq_true rfl) ge_nb (pc' := 103) rfl ?_
  intro T h X K_ A_nb_
  have A_nb : own_JA Z h nb [v0, v1, v2, v3, fill, fill, fill, fill] := A_nb_
  have KK := KK.trans K_ (allS (Or.inr gz_nb) all0)
  refine own_iload C X own_d2_103 rfl (pc' := 105) rfl ?_
  refine own_iconst C X own_d2_105 (v := 4) (by decide) (pc' := 106) rfl ?_
  refine own_icmp_le C X own_d2_106 (pcT := 118) (pc' := 109) (by decide) (by decide) rfl (fun hc106 => ?_) (fun hc106 => absurd hc106 (by decide))
  refine own_iload C X own_d2_118 rfl (pc' := 120) rfl ?_
  refine own_iconst C X own_d2_120 (v := 5) (by decide) (pc' := 121) rfl ?_
  refine own_icmp_le C X own_d2_121 (pcT := 133) (pc' := 124) (by decide) (by decide) rfl (fun hc121 => ?_) (fun hc121 => absurd hc121 (by decide))
  refine own_aload C X own_d2_133 rfl rfl (pc' := 135) rfl ?_
  exact own_areturn C X own_d2_135 rfl rfl rfl (Nat.le_of_ble_eq_true rfl) (Nat.le_of_ble_eq_true rfl) (⟨nb, rfl, gz_nb, KK, A_nb⟩)
theorem own_ef_b41 (v0 : Int64) (v1 : Int64) (v2 : Int64) (v3 : Int64) (v4 : Int64) (v5 : Int64) (fill : Int64) (m : MethodId) : entryFrame m #[(.long v0), (.long v1), (.long v2), (.long v3), (.long v4), (.long v5), (.int (4 : Int32)), (.int (1 : Int32)), (.long fill)] 17 = mkF m 0 #[.val (.long v0), .second, .val (.long v1), .second, .val (.long v2), .second, .val (.long v3), .second, .val (.long v4), .second, .val (.long v5), .second, .val (.int (4 : Int32)), .val (.int (1 : Int32)), .val (.long fill), .second, .unset] [] := by first | (simp [entryFrame, mkF, argsToLocals, Value.category]; done) | rfl
set_option maxRecDepth 65536 in
set_option maxHeartbeats 40000000 in
theorem own_m_b41 (l : Launch) (Z : State) (a0 : Array Value) (hw : ∀ d ∈ tables_1, d.before a0 Z = true) (v0 : Int64) (v1 : Int64) (v2 : Int64) (v3 : Int64) (v4 : Int64) (v5 : Int64) (fill : Int64) (h0 : Heap) (n0 : Nat) (hn0 : n0 ≤ h0.size)  : own_Met l Z n0 (⟨"com/example/stablemate/stablemate/SliceHeapsAddPinLaw", "build", "(JJJJJJIIJ)[J"⟩ : MethodName) method_3_code 17 (some (.array .long)) [] ({ frames := 0, cells := 1, slots := 8, locals := 0 } : Room) #[(.long v0), (.long v1), (.long v2), (.long v3), (.long v4), (.long v5), (.int (4 : Int32)), (.int (1 : Int32)), (.long fill)] h0 (fun v h => ∃ b, v = some (.ref b) ∧ h0.size ≤ b ∧ Keep h0 h [] ∧ own_JA Z h b [fill, v0, v1, v2, v3, fill, fill, fill]) := by
  refine own_body (plainFor_of_name own_pn_com_example_stablemate_stablemate_SliceHeapsAddPinLaw) hn0 (own_ef_b41 v0 v1 v2 v3 v4 v5 fill) ?_
  intro p e s m below meth c T C X
  have KK := Keep.refl h0 []
  refine own_bipush C X own_d2_0 (v := 8) (by decide) (pc' := 2) rfl ?_
  refine own_newJ C X own_d2_2 (hw _ (List.mem_of_getElem? (i := 10) rfl)) (by decide) (k := 8) (cap := 8) (Nat.le_of_ble_eq_true rfl) (by decide) (Nat.le_of_ble_eq_true rfl) (Nat.le_of_ble_eq_true rfl) (pc' := 4) rfl ?_
  intro T h nb e_nb X K_ ge_nb A_nb_
  have gz_nb : h0.size ≤ nb := by rw [e_nb]; exact KK.1
  have A_nb : own_JA Z h nb [(0 : Int64), (0 : Int64), (0 : Int64), (0 : Int64), (0 : Int64), (0 : Int64), (0 : Int64), (0 : Int64)] := A_nb_
  have KK := KK.trans K_ all0
  refine own_dup C X own_d2_4 rfl (pc' := 5) rfl ?_
  refine own_iconst C X own_d2_5 (v := 0) (by decide) (pc' := 6) rfl ?_
  refine own_lload C X own_d2_6 rfl (pc' := 8) rfl ?_
  refine own_lastore C X own_d2_8 A_nb (by decide) (i := 0) (Nat.le_of_ble_eq_true rfl) ge_nb (pc' := 9) rfl ?_
  intro T h X K_ A_nb_
  have A_nb : own_JA Z h nb [fill, (0 : Int64), (0 : Int64), (0 : Int64), (0 : Int64), (0 : Int64), (0 : Int64), (0 : Int64)] := A_nb_
  have KK := KK.trans K_ (allS (Or.inr gz_nb) all0)
  refine own_dup C X own_d2_9 rfl (pc' := 10) rfl ?_
  refine own_iconst C X own_d2_10 (v := 1) (by decide) (pc' := 11) rfl ?_
  refine own_lload C X own_d2_11 rfl (pc' := 13) rfl ?_
  refine own_lastore C X own_d2_13 A_nb (by decide) (i := 1) (Nat.le_of_ble_eq_true rfl) ge_nb (pc' := 14) rfl ?_
  intro T h X K_ A_nb_
  have A_nb : own_JA Z h nb [fill, fill, (0 : Int64), (0 : Int64), (0 : Int64), (0 : Int64), (0 : Int64), (0 : Int64)] := A_nb_
  have KK := KK.trans K_ (allS (Or.inr gz_nb) all0)
  refine own_dup C X own_d2_14 rfl (pc' := 15) rfl ?_
  refine own_iconst C X own_d2_15 (v := 2) (by decide) (pc' := 16) rfl ?_
  refine own_lload C X own_d2_16 rfl (pc' := 18) rfl ?_
  refine own_lastore C X own_d2_18 A_nb (by decide) (i := 2) (Nat.le_of_ble_eq_true rfl) ge_nb (pc' := 19) rfl ?_
  intro T h X K_ A_nb_
  have A_nb : own_JA Z h nb [fill, fill, fill, (0 : Int64), (0 : Int64), (0 : Int64), (0 : Int64), (0 : Int64)] := A_nb_
  have KK := KK.trans K_ (allS (Or.inr gz_nb) all0)
  refine own_dup C X own_d2_19 rfl (pc' := 20) rfl ?_
  refine own_iconst C X own_d2_20 (v := 3) (by decide) (pc' := 21) rfl ?_
  refine own_lload C X own_d2_21 rfl (pc' := 23) rfl ?_
  refine own_lastore C X own_d2_23 A_nb (by decide) (i := 3) (Nat.le_of_ble_eq_true rfl) ge_nb (pc' := 24) rfl ?_
  intro T h X K_ A_nb_
  have A_nb : own_JA Z h nb [fill, fill, fill, fill, (0 : Int64), (0 : Int64), (0 : Int64), (0 : Int64)] := A_nb_
  have KK := KK.trans K_ (allS (Or.inr gz_nb) all0)
  refine own_dup C X own_d2_24 rfl (pc' := 25) rfl ?_
  refine own_iconst C X own_d2_25 (v := 4) (by decide) (pc' := 26) rfl ?_
  refine own_lload C X own_d2_26 rfl (pc' := 28) rfl ?_
  refine own_lastore C X own_d2_28 A_nb (by decide) (i := 4) (Nat.le_of_ble_eq_true rfl) ge_nb (pc' := 29) rfl ?_
  intro T h X K_ A_nb_
  have A_nb : own_JA Z h nb [fill, fill, fill, fill, fill, (0 : Int64), (0 : Int64), (0 : Int64)] := A_nb_
  have KK := KK.trans K_ (allS (Or.inr gz_nb) all0)
  refine own_dup C X own_d2_29 rfl (pc' := 30) rfl ?_
  refine own_iconst C X own_d2_30 (v := 5) (by decide) (pc' := 31) rfl ?_
  refine own_lload C X own_d2_31 rfl (pc' := 33) rfl ?_
  refine own_lastore C X own_d2_33 A_nb (by decide) (i := 5) (Nat.le_of_ble_eq_true rfl) ge_nb (pc' := 34) rfl ?_
  intro T h X K_ A_nb_
  have A_nb : own_JA Z h nb [fill, fill, fill, fill, fill, fill, (0 : Int64), (0 : Int64)] := A_nb_
  have KK := KK.trans K_ (allS (Or.inr gz_nb) all0)
  refine own_dup C X own_d2_34 rfl (pc' := 35) rfl ?_
  refine own_bipush C X own_d2_35 (v := 6) (by decide) (pc' := 37) rfl ?_
  refine own_lload C X own_d2_37 rfl (pc' := 39) rfl ?_
  refine own_lastore C X own_d2_39 A_nb (by decide) (i := 6) (Nat.le_of_ble_eq_true rfl) ge_nb (pc' := 40) rfl ?_
  intro T h X K_ A_nb_
  have A_nb : own_JA Z h nb [fill, fill, fill, fill, fill, fill, fill, (0 : Int64)] := A_nb_
  have KK := KK.trans K_ (allS (Or.inr gz_nb) all0)
  refine own_dup C X own_d2_40 rfl (pc' := 41) rfl ?_
  refine own_bipush C X own_d2_41 (v := 7) (by decide) (pc' := 43) rfl ?_
  refine own_lload C X own_d2_43 rfl (pc' := 45) rfl ?_
  refine own_lastore C X own_d2_45 A_nb (by decide) (i := 7) (Nat.le_of_ble_eq_true rfl) ge_nb (pc' := 46) rfl ?_
  intro T h X K_ A_nb_
  have A_nb : own_JA Z h nb [fill, fill, fill, fill, fill, fill, fill, fill] := A_nb_
  have KK := KK.trans K_ (allS (Or.inr gz_nb) all0)
  refine own_astore C X own_d2_46 rfl (L' := #[.val (.long v0), .second, .val (.long v1), .second, .val (.long v2), .second, .val (.long v3), .second, .val (.long v4), .second, .val (.long v5), .second, .val (.int (4 : Int32)), .val (.int (1 : Int32)), .val (.long fill), .second, .val (.ref nb)]) rfl (pc' := 48) rfl ?_
  refine own_iload C X own_d2_48 rfl (pc' := 50) rfl ?_
  refine own_if_le C X own_d2_50 (pcT := 59) (pc' := 53) (by decide) (by decide) rfl (fun hc50 => absurd hc50 (by decide)) (fun hc50 => ?_)
  refine own_aload C X own_d2_53 rfl rfl (pc' := 55) rfl ?_
  refine own_iload C X own_d2_55 rfl (pc' := 57) rfl ?_
  refine own_lloadN C X own_d2_57 rfl (pc' := 58) rfl ?_
  refine own_lastore C X own_d2_58 A_nb (by decide) (i := 1) (Nat.le_of_ble_eq_true rfl) ge_nb (pc' := 59) rfl ?_
  intro T h X K_ A_nb_
  have A_nb : own_JA Z h nb [fill, v0, fill, fill, fill, fill, fill, fill] := A_nb_
  have KK := KK.trans K_ (allS (Or.inr gz_nb) all0)
  refine own_iload C X own_d2_59 rfl (pc' := 61) rfl ?_
  refine own_iconst C X own_d2_61 (v := 1) (by decide) (pc' := 62) rfl ?_
  refine own_icmp_le C X own_d2_62 (pcT := 73) (pc' := 65) (by decide) (by decide) rfl (fun hc62 => absurd hc62 (by decide)) (fun hc62 => ?_)
  refine own_aload C X own_d2_65 rfl rfl (pc' := 67) rfl ?_
  refine own_iload C X own_d2_67 rfl (pc' := 69) rfl ?_
  refine own_iconst C X own_d2_69 (v := 1) (by decide) (pc' := 70) rfl ?_
  refine own_iadd C X own_d2_70 (z := 2) (by decide) (pc' := 71) rfl ?_
  refine own_lloadN C X own_d2_71 rfl (pc' := 72) rfl ?_
  refine own_lastore C X own_d2_72 A_nb (by decide) (i := 2) (Nat.le_of_ble_eq_true rfl) ge_nb (pc' := 73) rfl ?_
  intro T h X K_ A_nb_
  have A_nb : own_JA Z h nb [fill, v0, v1, fill, fill, fill, fill, fill] := A_nb_
  have KK := KK.trans K_ (allS (Or.inr gz_nb) all0)
  refine own_iload C X own_d2_73 rfl (pc' := 75) rfl ?_
  refine own_iconst C X own_d2_75 (v := 2) (by decide) (pc' := 76) rfl ?_
  refine own_icmp_le C X own_d2_76 (pcT := 88) (pc' := 79) (by decide) (by decide) rfl (fun hc76 => absurd hc76 (by decide)) (fun hc76 => ?_)
  refine own_aload C X own_d2_79 rfl rfl (pc' := 81) rfl ?_
  refine own_iload C X own_d2_81 rfl (pc' := 83) rfl ?_
  refine own_iconst C X own_d2_83 (v := 2) (by decide) (pc' := 84) rfl ?_
  refine own_iadd C X own_d2_84 (z := 3) (by decide) (pc' := 85) rfl ?_
  refine own_lload C X own_d2_85 rfl (pc' := 87) rfl ?_
  refine own_lastore C X own_d2_87 A_nb (by decide) (i := 3) (Nat.le_of_ble_eq_true rfl) ge_nb (pc' := 88) rfl ?_
  intro T h X K_ A_nb_
  have A_nb : own_JA Z h nb [fill, v0, v1, v2, fill, fill, fill, fill] := A_nb_
  have KK := KK.trans K_ (allS (Or.inr gz_nb) all0)
  refine own_iload C X own_d2_88 rfl (pc' := 90) rfl ?_
  refine own_iconst C X own_d2_90 (v := 3) (by decide) (pc' := 91) rfl ?_
  refine own_icmp_le C X own_d2_91 (pcT := 103) (pc' := 94) (by decide) (by decide) rfl (fun hc91 => absurd hc91 (by decide)) (fun hc91 => ?_)
  refine own_aload C X own_d2_94 rfl rfl (pc' := 96) rfl ?_
  refine own_iload C X own_d2_96 rfl (pc' := 98) rfl ?_
  refine own_iconst C X own_d2_98 (v := 3) (by decide) (pc' := 99) rfl ?_
  refine own_iadd C X own_d2_99 (z := 4) (by decide) (pc' := 100) rfl ?_
  refine own_lload C X own_d2_100 rfl (pc' := 102) rfl ?_
  refine own_lastore C X own_d2_102 A_nb (by decide) (i := 4) (Nat.le_of_ble_eq_true rfl) ge_nb (pc' := 103) rfl ?_
  intro T h X K_ A_nb_
  have A_nb : own_JA Z h nb [fill, v0, v1, v2, v3, fill, fill, fill] := A_nb_
  have KK := KK.trans K_ (allS (Or.inr gz_nb) all0)
  refine own_iload C X own_d2_103 rfl (pc' := 105) rfl ?_
  refine own_iconst C X own_d2_105 (v := 4) (by decide) (pc' := 106) rfl ?_
  refine own_icmp_le C X own_d2_106 (pcT := 118) (pc' := 109) (by decide) (by decide) rfl (fun hc106 => ?_) (fun hc106 => absurd hc106 (by decide))
  refine own_iload C X own_d2_118 rfl (pc' := 120) rfl ?_
  refine own_iconst C X own_d2_120 (v := 5) (by decide) (pc' := 121) rfl ?_
  refine own_icmp_le C X own_d2_121 (pcT := 133) (pc' := 124) (by decide) (by decide) rfl (fun hc121 => ?_) (fun hc121 => absurd hc121 (by decide))
  refine own_aload C X own_d2_133 rfl rfl (pc' := 135) rfl ?_
  exact own_areturn C X own_d2_135 rfl rfl rfl (Nat.le_of_ble_eq_true rfl) (Nat.le_of_ble_eq_true rfl) (⟨nb, rfl, gz_nb, KK, A_nb⟩)
theorem own_ef_b50 (v0 : Int64) (v1 : Int64) (v2 : Int64) (v3 : Int64) (v4 : Int64) (v5 : Int64) (fill : Int64) (m : MethodId) : entryFrame m #[(.long v0), (.long v1), (.long v2), (.long v3), (.long v4), (.long v5), (.int (5 : Int32)), (.int (0 : Int32)), (.long fill)] 17 = mkF m 0 #[.val (.long v0), .second, .val (.long v1), .second, .val (.long v2), .second, .val (.long v3), .second, .val (.long v4), .second, .val (.long v5), .second, .val (.int (5 : Int32)), .val (.int (0 : Int32)), .val (.long fill), .second, .unset] [] := by first | (simp [entryFrame, mkF, argsToLocals, Value.category]; done) | rfl
theorem own_d2_109 : decode method_3_code 109 = .ok (.aload 16, 2) := by decide +kernel
theorem own_d2_111 : decode method_3_code 111 = .ok (.iload 13, 2) := by decide +kernel
theorem own_d2_113 : decode method_3_code 113 = .ok (.iconst 4, 1) := by decide +kernel
theorem own_d2_114 : decode method_3_code 114 = .ok (.iadd, 1) := by decide +kernel
theorem own_d2_115 : decode method_3_code 115 = .ok (.lload 8, 2) := by decide +kernel
theorem own_d2_117 : decode method_3_code 117 = .ok (.lastore, 1) := by decide +kernel
set_option maxRecDepth 65536 in
set_option maxHeartbeats 40000000 in
theorem own_m_b50 (l : Launch) (Z : State) (a0 : Array Value) (hw : ∀ d ∈ tables_1, d.before a0 Z = true) (v0 : Int64) (v1 : Int64) (v2 : Int64) (v3 : Int64) (v4 : Int64) (v5 : Int64) (fill : Int64) (h0 : Heap) (n0 : Nat) (hn0 : n0 ≤ h0.size)  : own_Met l Z n0 (⟨"com/example/stablemate/stablemate/SliceHeapsAddPinLaw", "build", "(JJJJJJIIJ)[J"⟩ : MethodName) method_3_code 17 (some (.array .long)) [] ({ frames := 0, cells := 1, slots := 8, locals := 0 } : Room) #[(.long v0), (.long v1), (.long v2), (.long v3), (.long v4), (.long v5), (.int (5 : Int32)), (.int (0 : Int32)), (.long fill)] h0 (fun v h => ∃ b, v = some (.ref b) ∧ h0.size ≤ b ∧ Keep h0 h [] ∧ own_JA Z h b [v0, v1, v2, v3, v4, fill, fill, fill]) := by
  refine own_body (plainFor_of_name own_pn_com_example_stablemate_stablemate_SliceHeapsAddPinLaw) hn0 (own_ef_b50 v0 v1 v2 v3 v4 v5 fill) ?_
  intro p e s m below meth c T C X
  have KK := Keep.refl h0 []
  refine own_bipush C X own_d2_0 (v := 8) (by decide) (pc' := 2) rfl ?_
  refine own_newJ C X own_d2_2 (hw _ (List.mem_of_getElem? (i := 10) rfl)) (by decide) (k := 8) (cap := 8) (Nat.le_of_ble_eq_true rfl) (by decide) (Nat.le_of_ble_eq_true rfl) (Nat.le_of_ble_eq_true rfl) (pc' := 4) rfl ?_
  intro T h nb e_nb X K_ ge_nb A_nb_
  have gz_nb : h0.size ≤ nb := by rw [e_nb]; exact KK.1
  have A_nb : own_JA Z h nb [(0 : Int64), (0 : Int64), (0 : Int64), (0 : Int64), (0 : Int64), (0 : Int64), (0 : Int64), (0 : Int64)] := A_nb_
  have KK := KK.trans K_ all0
  refine own_dup C X own_d2_4 rfl (pc' := 5) rfl ?_
  refine own_iconst C X own_d2_5 (v := 0) (by decide) (pc' := 6) rfl ?_
  refine own_lload C X own_d2_6 rfl (pc' := 8) rfl ?_
  refine own_lastore C X own_d2_8 A_nb (by decide) (i := 0) (Nat.le_of_ble_eq_true rfl) ge_nb (pc' := 9) rfl ?_
  intro T h X K_ A_nb_
  have A_nb : own_JA Z h nb [fill, (0 : Int64), (0 : Int64), (0 : Int64), (0 : Int64), (0 : Int64), (0 : Int64), (0 : Int64)] := A_nb_
  have KK := KK.trans K_ (allS (Or.inr gz_nb) all0)
  refine own_dup C X own_d2_9 rfl (pc' := 10) rfl ?_
  refine own_iconst C X own_d2_10 (v := 1) (by decide) (pc' := 11) rfl ?_
  refine own_lload C X own_d2_11 rfl (pc' := 13) rfl ?_
  refine own_lastore C X own_d2_13 A_nb (by decide) (i := 1) (Nat.le_of_ble_eq_true rfl) ge_nb (pc' := 14) rfl ?_
  intro T h X K_ A_nb_
  have A_nb : own_JA Z h nb [fill, fill, (0 : Int64), (0 : Int64), (0 : Int64), (0 : Int64), (0 : Int64), (0 : Int64)] := A_nb_
  have KK := KK.trans K_ (allS (Or.inr gz_nb) all0)
  refine own_dup C X own_d2_14 rfl (pc' := 15) rfl ?_
  refine own_iconst C X own_d2_15 (v := 2) (by decide) (pc' := 16) rfl ?_
  refine own_lload C X own_d2_16 rfl (pc' := 18) rfl ?_
  refine own_lastore C X own_d2_18 A_nb (by decide) (i := 2) (Nat.le_of_ble_eq_true rfl) ge_nb (pc' := 19) rfl ?_
  intro T h X K_ A_nb_
  have A_nb : own_JA Z h nb [fill, fill, fill, (0 : Int64), (0 : Int64), (0 : Int64), (0 : Int64), (0 : Int64)] := A_nb_
  have KK := KK.trans K_ (allS (Or.inr gz_nb) all0)
  refine own_dup C X own_d2_19 rfl (pc' := 20) rfl ?_
  refine own_iconst C X own_d2_20 (v := 3) (by decide) (pc' := 21) rfl ?_
  refine own_lload C X own_d2_21 rfl (pc' := 23) rfl ?_
  refine own_lastore C X own_d2_23 A_nb (by decide) (i := 3) (Nat.le_of_ble_eq_true rfl) ge_nb (pc' := 24) rfl ?_
  intro T h X K_ A_nb_
  have A_nb : own_JA Z h nb [fill, fill, fill, fill, (0 : Int64), (0 : Int64), (0 : Int64), (0 : Int64)] := A_nb_
  have KK := KK.trans K_ (allS (Or.inr gz_nb) all0)
  refine own_dup C X own_d2_24 rfl (pc' := 25) rfl ?_
  refine own_iconst C X own_d2_25 (v := 4) (by decide) (pc' := 26) rfl ?_
  refine own_lload C X own_d2_26 rfl (pc' := 28) rfl ?_
  refine own_lastore C X own_d2_28 A_nb (by decide) (i := 4) (Nat.le_of_ble_eq_true rfl) ge_nb (pc' := 29) rfl ?_
  intro T h X K_ A_nb_
  have A_nb : own_JA Z h nb [fill, fill, fill, fill, fill, (0 : Int64), (0 : Int64), (0 : Int64)] := A_nb_
  have KK := KK.trans K_ (allS (Or.inr gz_nb) all0)
  refine own_dup C X own_d2_29 rfl (pc' := 30) rfl ?_
  refine own_iconst C X own_d2_30 (v := 5) (by decide) (pc' := 31) rfl ?_
  refine own_lload C X own_d2_31 rfl (pc' := 33) rfl ?_
  refine own_lastore C X own_d2_33 A_nb (by decide) (i := 5) (Nat.le_of_ble_eq_true rfl) ge_nb (pc' := 34) rfl ?_
  intro T h X K_ A_nb_
  have A_nb : own_JA Z h nb [fill, fill, fill, fill, fill, fill, (0 : Int64), (0 : Int64)] := A_nb_
  have KK := KK.trans K_ (allS (Or.inr gz_nb) all0)
  refine own_dup C X own_d2_34 rfl (pc' := 35) rfl ?_
  refine own_bipush C X own_d2_35 (v := 6) (by decide) (pc' := 37) rfl ?_
  refine own_lload C X own_d2_37 rfl (pc' := 39) rfl ?_
  refine own_lastore C X own_d2_39 A_nb (by decide) (i := 6) (Nat.le_of_ble_eq_true rfl) ge_nb (pc' := 40) rfl ?_
  intro T h X K_ A_nb_
  have A_nb : own_JA Z h nb [fill, fill, fill, fill, fill, fill, fill, (0 : Int64)] := A_nb_
  have KK := KK.trans K_ (allS (Or.inr gz_nb) all0)
  refine own_dup C X own_d2_40 rfl (pc' := 41) rfl ?_
  refine own_bipush C X own_d2_41 (v := 7) (by decide) (pc' := 43) rfl ?_
  refine own_lload C X own_d2_43 rfl (pc' := 45) rfl ?_
  refine own_lastore C X own_d2_45 A_nb (by decide) (i := 7) (Nat.le_of_ble_eq_true rfl) ge_nb (pc' := 46) rfl ?_
  intro T h X K_ A_nb_
  have A_nb : own_JA Z h nb [fill, fill, fill, fill, fill, fill, fill, fill] := A_nb_
  have KK := KK.trans K_ (allS (Or.inr gz_nb) all0)
  refine own_astore C X own_d2_46 rfl (L' := #[.val (.long v0), .second, .val (.long v1), .second, .val (.long v2), .second, .val (.long v3), .second, .val (.long v4), .second, .val (.long v5), .second, .val (.int (5 : Int32)), .val (.int (0 : Int32)), .val (.long fill), .second, .val (.ref nb)]) rfl (pc' := 48) rfl ?_
  refine own_iload C X own_d2_48 rfl (pc' := 50) rfl ?_
  refine own_if_le C X own_d2_50 (pcT := 59) (pc' := 53) (by decide) (by decide) rfl (fun hc50 => absurd hc50 (by decide)) (fun hc50 => ?_)
  refine own_aload C X own_d2_53 rfl rfl (pc' := 55) rfl ?_
  refine own_iload C X own_d2_55 rfl (pc' := 57) rfl ?_
  refine own_lloadN C X own_d2_57 rfl (pc' := 58) rfl ?_
  refine own_lastore C X own_d2_58 A_nb (by decide) (i := 0) (Nat.le_of_ble_eq_true rfl) ge_nb (pc' := 59) rfl ?_
  intro T h X K_ A_nb_
  have A_nb : own_JA Z h nb [v0, fill, fill, fill, fill, fill, fill, fill] := A_nb_
  have KK := KK.trans K_ (allS (Or.inr gz_nb) all0)
  refine own_iload C X own_d2_59 rfl (pc' := 61) rfl ?_
  refine own_iconst C X own_d2_61 (v := 1) (by decide) (pc' := 62) rfl ?_
  refine own_icmp_le C X own_d2_62 (pcT := 73) (pc' := 65) (by decide) (by decide) rfl (fun hc62 => absurd hc62 (by decide)) (fun hc62 => ?_)
  refine own_aload C X own_d2_65 rfl rfl (pc' := 67) rfl ?_
  refine own_iload C X own_d2_67 rfl (pc' := 69) rfl ?_
  refine own_iconst C X own_d2_69 (v := 1) (by decide) (pc' := 70) rfl ?_
  refine own_iadd C X own_d2_70 (z := 1) (by decide) (pc' := 71) rfl ?_
  refine own_lloadN C X own_d2_71 rfl (pc' := 72) rfl ?_
  refine own_lastore C X own_d2_72 A_nb (by decide) (i := 1) (Nat.le_of_ble_eq_true rfl) ge_nb (pc' := 73) rfl ?_
  intro T h X K_ A_nb_
  have A_nb : own_JA Z h nb [v0, v1, fill, fill, fill, fill, fill, fill] := A_nb_
  have KK := KK.trans K_ (allS (Or.inr gz_nb) all0)
  refine own_iload C X own_d2_73 rfl (pc' := 75) rfl ?_
  refine own_iconst C X own_d2_75 (v := 2) (by decide) (pc' := 76) rfl ?_
  refine own_icmp_le C X own_d2_76 (pcT := 88) (pc' := 79) (by decide) (by decide) rfl (fun hc76 => absurd hc76 (by decide)) (fun hc76 => ?_)
  refine own_aload C X own_d2_79 rfl rfl (pc' := 81) rfl ?_
  refine own_iload C X own_d2_81 rfl (pc' := 83) rfl ?_
  refine own_iconst C X own_d2_83 (v := 2) (by decide) (pc' := 84) rfl ?_
  refine own_iadd C X own_d2_84 (z := 2) (by decide) (pc' := 85) rfl ?_
  refine own_lload C X own_d2_85 rfl (pc' := 87) rfl ?_
  refine own_lastore C X own_d2_87 A_nb (by decide) (i := 2) (Nat.le_of_ble_eq_true rfl) ge_nb (pc' := 88) rfl ?_
  intro T h X K_ A_nb_
  have A_nb : own_JA Z h nb [v0, v1, v2, fill, fill, fill, fill, fill] := A_nb_
  have KK := KK.trans K_ (allS (Or.inr gz_nb) all0)
  refine own_iload C X own_d2_88 rfl (pc' := 90) rfl ?_
  refine own_iconst C X own_d2_90 (v := 3) (by decide) (pc' := 91) rfl ?_
  refine own_icmp_le C X own_d2_91 (pcT := 103) (pc' := 94) (by decide) (by decide) rfl (fun hc91 => absurd hc91 (by decide)) (fun hc91 => ?_)
  refine own_aload C X own_d2_94 rfl rfl (pc' := 96) rfl ?_
  refine own_iload C X own_d2_96 rfl (pc' := 98) rfl ?_
  refine own_iconst C X own_d2_98 (v := 3) (by decide) (pc' := 99) rfl ?_
  refine own_iadd C X own_d2_99 (z := 3) (by decide) (pc' := 100) rfl ?_
  refine own_lload C X own_d2_100 rfl (pc' := 102) rfl ?_
  refine own_lastore C X own_d2_102 A_nb (by decide) (i := 3) (Nat.le_of_ble_eq_true rfl) ge_nb (pc' := 103) rfl ?_
  intro T h X K_ A_nb_
  have A_nb : own_JA Z h nb [v0, v1, v2, v3, fill, fill, fill, fill] := A_nb_
  have KK := KK.trans K_ (allS (Or.inr gz_nb) all0)
  refine own_iload C X own_d2_103 rfl (pc' := 105) rfl ?_
  refine own_iconst C X own_d2_105 (v := 4) (by decide) (pc' := 106) rfl ?_
  refine own_icmp_le C X own_d2_106 (pcT := 118) (pc' := 109) (by decide) (by decide) rfl (fun hc106 => absurd hc106 (by decide)) (fun hc106 => ?_)
  refine own_aload C X own_d2_109 rfl rfl (pc' := 111) rfl ?_
  refine own_iload C X own_d2_111 rfl (pc' := 113) rfl ?_
  refine own_iconst C X own_d2_113 (v := 4) (by decide) (pc' := 114) rfl ?_
  refine own_iadd C X own_d2_114 (z := 4) (by decide) (pc' := 115) rfl ?_
  refine own_lload C X own_d2_115 rfl (pc' := 117) rfl ?_
  refine own_lastore C X own_d2_117 A_nb (by decide) (i := 4) (Nat.le_of_ble_eq_true rfl) ge_nb (pc' := 118) rfl ?_
  intro T h X K_ A_nb_
  have A_nb : own_JA Z h nb [v0, v1, v2, v3, v4, fill, fill, fill] := A_nb_
  have KK := KK.trans K_ (allS (Or.inr gz_nb) all0)
  refine own_iload C X own_d2_118 rfl (pc' := 120) rfl ?_
  refine own_iconst C X own_d2_120 (v := 5) (by decide) (pc' := 121) rfl ?_
  refine own_icmp_le C X own_d2_121 (pcT := 133) (pc' := 124) (by decide) (by decide) rfl (fun hc121 => ?_) (fun hc121 => absurd hc121 (by decide))
  refine own_aload C X own_d2_133 rfl rfl (pc' := 135) rfl ?_
  exact own_areturn C X own_d2_135 rfl rfl rfl (Nat.le_of_ble_eq_true rfl) (Nat.le_of_ble_eq_true rfl) (⟨nb, rfl, gz_nb, KK, A_nb⟩)
theorem own_ef_b51 (v0 : Int64) (v1 : Int64) (v2 : Int64) (v3 : Int64) (v4 : Int64) (v5 : Int64) (fill : Int64) (m : MethodId) : entryFrame m #[(.long v0), (.long v1), (.long v2), (.long v3), (.long v4), (.long v5), (.int (5 : Int32)), (.int (1 : Int32)), (.long fill)] 17 = mkF m 0 #[.val (.long v0), .second, .val (.long v1), .second, .val (.long v2), .second, .val (.long v3), .second, .val (.long v4), .second, .val (.long v5), .second, .val (.int (5 : Int32)), .val (.int (1 : Int32)), .val (.long fill), .second, .unset] [] := by first | (simp [entryFrame, mkF, argsToLocals, Value.category]; done) | rfl
set_option maxRecDepth 65536 in
set_option maxHeartbeats 40000000 in
theorem own_m_b51 (l : Launch) (Z : State) (a0 : Array Value) (hw : ∀ d ∈ tables_1, d.before a0 Z = true) (v0 : Int64) (v1 : Int64) (v2 : Int64) (v3 : Int64) (v4 : Int64) (v5 : Int64) (fill : Int64) (h0 : Heap) (n0 : Nat) (hn0 : n0 ≤ h0.size)  : own_Met l Z n0 (⟨"com/example/stablemate/stablemate/SliceHeapsAddPinLaw", "build", "(JJJJJJIIJ)[J"⟩ : MethodName) method_3_code 17 (some (.array .long)) [] ({ frames := 0, cells := 1, slots := 8, locals := 0 } : Room) #[(.long v0), (.long v1), (.long v2), (.long v3), (.long v4), (.long v5), (.int (5 : Int32)), (.int (1 : Int32)), (.long fill)] h0 (fun v h => ∃ b, v = some (.ref b) ∧ h0.size ≤ b ∧ Keep h0 h [] ∧ own_JA Z h b [fill, v0, v1, v2, v3, v4, fill, fill]) := by
  refine own_body (plainFor_of_name own_pn_com_example_stablemate_stablemate_SliceHeapsAddPinLaw) hn0 (own_ef_b51 v0 v1 v2 v3 v4 v5 fill) ?_
  intro p e s m below meth c T C X
  have KK := Keep.refl h0 []
  refine own_bipush C X own_d2_0 (v := 8) (by decide) (pc' := 2) rfl ?_
  refine own_newJ C X own_d2_2 (hw _ (List.mem_of_getElem? (i := 10) rfl)) (by decide) (k := 8) (cap := 8) (Nat.le_of_ble_eq_true rfl) (by decide) (Nat.le_of_ble_eq_true rfl) (Nat.le_of_ble_eq_true rfl) (pc' := 4) rfl ?_
  intro T h nb e_nb X K_ ge_nb A_nb_
  have gz_nb : h0.size ≤ nb := by rw [e_nb]; exact KK.1
  have A_nb : own_JA Z h nb [(0 : Int64), (0 : Int64), (0 : Int64), (0 : Int64), (0 : Int64), (0 : Int64), (0 : Int64), (0 : Int64)] := A_nb_
  have KK := KK.trans K_ all0
  refine own_dup C X own_d2_4 rfl (pc' := 5) rfl ?_
  refine own_iconst C X own_d2_5 (v := 0) (by decide) (pc' := 6) rfl ?_
  refine own_lload C X own_d2_6 rfl (pc' := 8) rfl ?_
  refine own_lastore C X own_d2_8 A_nb (by decide) (i := 0) (Nat.le_of_ble_eq_true rfl) ge_nb (pc' := 9) rfl ?_
  intro T h X K_ A_nb_
  have A_nb : own_JA Z h nb [fill, (0 : Int64), (0 : Int64), (0 : Int64), (0 : Int64), (0 : Int64), (0 : Int64), (0 : Int64)] := A_nb_
  have KK := KK.trans K_ (allS (Or.inr gz_nb) all0)
  refine own_dup C X own_d2_9 rfl (pc' := 10) rfl ?_
  refine own_iconst C X own_d2_10 (v := 1) (by decide) (pc' := 11) rfl ?_
  refine own_lload C X own_d2_11 rfl (pc' := 13) rfl ?_
  refine own_lastore C X own_d2_13 A_nb (by decide) (i := 1) (Nat.le_of_ble_eq_true rfl) ge_nb (pc' := 14) rfl ?_
  intro T h X K_ A_nb_
  have A_nb : own_JA Z h nb [fill, fill, (0 : Int64), (0 : Int64), (0 : Int64), (0 : Int64), (0 : Int64), (0 : Int64)] := A_nb_
  have KK := KK.trans K_ (allS (Or.inr gz_nb) all0)
  refine own_dup C X own_d2_14 rfl (pc' := 15) rfl ?_
  refine own_iconst C X own_d2_15 (v := 2) (by decide) (pc' := 16) rfl ?_
  refine own_lload C X own_d2_16 rfl (pc' := 18) rfl ?_
  refine own_lastore C X own_d2_18 A_nb (by decide) (i := 2) (Nat.le_of_ble_eq_true rfl) ge_nb (pc' := 19) rfl ?_
  intro T h X K_ A_nb_
  have A_nb : own_JA Z h nb [fill, fill, fill, (0 : Int64), (0 : Int64), (0 : Int64), (0 : Int64), (0 : Int64)] := A_nb_
  have KK := KK.trans K_ (allS (Or.inr gz_nb) all0)
  refine own_dup C X own_d2_19 rfl (pc' := 20) rfl ?_
  refine own_iconst C X own_d2_20 (v := 3) (by decide) (pc' := 21) rfl ?_
  refine own_lload C X own_d2_21 rfl (pc' := 23) rfl ?_
  refine own_lastore C X own_d2_23 A_nb (by decide) (i := 3) (Nat.le_of_ble_eq_true rfl) ge_nb (pc' := 24) rfl ?_
  intro T h X K_ A_nb_
  have A_nb : own_JA Z h nb [fill, fill, fill, fill, (0 : Int64), (0 : Int64), (0 : Int64), (0 : Int64)] := A_nb_
  have KK := KK.trans K_ (allS (Or.inr gz_nb) all0)
  refine own_dup C X own_d2_24 rfl (pc' := 25) rfl ?_
  refine own_iconst C X own_d2_25 (v := 4) (by decide) (pc' := 26) rfl ?_
  refine own_lload C X own_d2_26 rfl (pc' := 28) rfl ?_
  refine own_lastore C X own_d2_28 A_nb (by decide) (i := 4) (Nat.le_of_ble_eq_true rfl) ge_nb (pc' := 29) rfl ?_
  intro T h X K_ A_nb_
  have A_nb : own_JA Z h nb [fill, fill, fill, fill, fill, (0 : Int64), (0 : Int64), (0 : Int64)] := A_nb_
  have KK := KK.trans K_ (allS (Or.inr gz_nb) all0)
  refine own_dup C X own_d2_29 rfl (pc' := 30) rfl ?_
  refine own_iconst C X own_d2_30 (v := 5) (by decide) (pc' := 31) rfl ?_
  refine own_lload C X own_d2_31 rfl (pc' := 33) rfl ?_
  refine own_lastore C X own_d2_33 A_nb (by decide) (i := 5) (Nat.le_of_ble_eq_true rfl) ge_nb (pc' := 34) rfl ?_
  intro T h X K_ A_nb_
  have A_nb : own_JA Z h nb [fill, fill, fill, fill, fill, fill, (0 : Int64), (0 : Int64)] := A_nb_
  have KK := KK.trans K_ (allS (Or.inr gz_nb) all0)
  refine own_dup C X own_d2_34 rfl (pc' := 35) rfl ?_
  refine own_bipush C X own_d2_35 (v := 6) (by decide) (pc' := 37) rfl ?_
  refine own_lload C X own_d2_37 rfl (pc' := 39) rfl ?_
  refine own_lastore C X own_d2_39 A_nb (by decide) (i := 6) (Nat.le_of_ble_eq_true rfl) ge_nb (pc' := 40) rfl ?_
  intro T h X K_ A_nb_
  have A_nb : own_JA Z h nb [fill, fill, fill, fill, fill, fill, fill, (0 : Int64)] := A_nb_
  have KK := KK.trans K_ (allS (Or.inr gz_nb) all0)
  refine own_dup C X own_d2_40 rfl (pc' := 41) rfl ?_
  refine own_bipush C X own_d2_41 (v := 7) (by decide) (pc' := 43) rfl ?_
  refine own_lload C X own_d2_43 rfl (pc' := 45) rfl ?_
  refine own_lastore C X own_d2_45 A_nb (by decide) (i := 7) (Nat.le_of_ble_eq_true rfl) ge_nb (pc' := 46) rfl ?_
  intro T h X K_ A_nb_
  have A_nb : own_JA Z h nb [fill, fill, fill, fill, fill, fill, fill, fill] := A_nb_
  have KK := KK.trans K_ (allS (Or.inr gz_nb) all0)
  refine own_astore C X own_d2_46 rfl (L' := #[.val (.long v0), .second, .val (.long v1), .second, .val (.long v2), .second, .val (.long v3), .second, .val (.long v4), .second, .val (.long v5), .second, .val (.int (5 : Int32)), .val (.int (1 : Int32)), .val (.long fill), .second, .val (.ref nb)]) rfl (pc' := 48) rfl ?_
  refine own_iload C X own_d2_48 rfl (pc' := 50) rfl ?_
  refine own_if_le C X own_d2_50 (pcT := 59) (pc' := 53) (by decide) (by decide) rfl (fun hc50 => absurd hc50 (by decide)) (fun hc50 => ?_)
  refine own_aload C X own_d2_53 rfl rfl (pc' := 55) rfl ?_
  refine own_iload C X own_d2_55 rfl (pc' := 57) rfl ?_
  refine own_lloadN C X own_d2_57 rfl (pc' := 58) rfl ?_
  refine own_lastore C X own_d2_58 A_nb (by decide) (i := 1) (Nat.le_of_ble_eq_true rfl) ge_nb (pc' := 59) rfl ?_
  intro T h X K_ A_nb_
  have A_nb : own_JA Z h nb [fill, v0, fill, fill, fill, fill, fill, fill] := A_nb_
  have KK := KK.trans K_ (allS (Or.inr gz_nb) all0)
  refine own_iload C X own_d2_59 rfl (pc' := 61) rfl ?_
  refine own_iconst C X own_d2_61 (v := 1) (by decide) (pc' := 62) rfl ?_
  refine own_icmp_le C X own_d2_62 (pcT := 73) (pc' := 65) (by decide) (by decide) rfl (fun hc62 => absurd hc62 (by decide)) (fun hc62 => ?_)
  refine own_aload C X own_d2_65 rfl rfl (pc' := 67) rfl ?_
  refine own_iload C X own_d2_67 rfl (pc' := 69) rfl ?_
  refine own_iconst C X own_d2_69 (v := 1) (by decide) (pc' := 70) rfl ?_
  refine own_iadd C X own_d2_70 (z := 2) (by decide) (pc' := 71) rfl ?_
  refine own_lloadN C X own_d2_71 rfl (pc' := 72) rfl ?_
  refine own_lastore C X own_d2_72 A_nb (by decide) (i := 2) (Nat.le_of_ble_eq_true rfl) ge_nb (pc' := 73) rfl ?_
  intro T h X K_ A_nb_
  have A_nb : own_JA Z h nb [fill, v0, v1, fill, fill, fill, fill, fill] := A_nb_
  have KK := KK.trans K_ (allS (Or.inr gz_nb) all0)
  refine own_iload C X own_d2_73 rfl (pc' := 75) rfl ?_
  refine own_iconst C X own_d2_75 (v := 2) (by decide) (pc' := 76) rfl ?_
  refine own_icmp_le C X own_d2_76 (pcT := 88) (pc' := 79) (by decide) (by decide) rfl (fun hc76 => absurd hc76 (by decide)) (fun hc76 => ?_)
  refine own_aload C X own_d2_79 rfl rfl (pc' := 81) rfl ?_
  refine own_iload C X own_d2_81 rfl (pc' := 83) rfl ?_
  refine own_iconst C X own_d2_83 (v := 2) (by decide) (pc' := 84) rfl ?_
  refine own_iadd C X own_d2_84 (z := 3) (by decide) (pc' := 85) rfl ?_
  refine own_lload C X own_d2_85 rfl (pc' := 87) rfl ?_
  refine own_lastore C X own_d2_87 A_nb (by decide) (i := 3) (Nat.le_of_ble_eq_true rfl) ge_nb (pc' := 88) rfl ?_
  intro T h X K_ A_nb_
  have A_nb : own_JA Z h nb [fill, v0, v1, v2, fill, fill, fill, fill] := A_nb_
  have KK := KK.trans K_ (allS (Or.inr gz_nb) all0)
  refine own_iload C X own_d2_88 rfl (pc' := 90) rfl ?_
  refine own_iconst C X own_d2_90 (v := 3) (by decide) (pc' := 91) rfl ?_
  refine own_icmp_le C X own_d2_91 (pcT := 103) (pc' := 94) (by decide) (by decide) rfl (fun hc91 => absurd hc91 (by decide)) (fun hc91 => ?_)
  refine own_aload C X own_d2_94 rfl rfl (pc' := 96) rfl ?_
  refine own_iload C X own_d2_96 rfl (pc' := 98) rfl ?_
  refine own_iconst C X own_d2_98 (v := 3) (by decide) (pc' := 99) rfl ?_
  refine own_iadd C X own_d2_99 (z := 4) (by decide) (pc' := 100) rfl ?_
  refine own_lload C X own_d2_100 rfl (pc' := 102) rfl ?_
  refine own_lastore C X own_d2_102 A_nb (by decide) (i := 4) (Nat.le_of_ble_eq_true rfl) ge_nb (pc' := 103) rfl ?_
  intro T h X K_ A_nb_
  have A_nb : own_JA Z h nb [fill, v0, v1, v2, v3, fill, fill, fill] := A_nb_
  have KK := KK.trans K_ (allS (Or.inr gz_nb) all0)
  refine own_iload C X own_d2_103 rfl (pc' := 105) rfl ?_
  refine own_iconst C X own_d2_105 (v := 4) (by decide) (pc' := 106) rfl ?_
  refine own_icmp_le C X own_d2_106 (pcT := 118) (pc' := 109) (by decide) (by decide) rfl (fun hc106 => absurd hc106 (by decide)) (fun hc106 => ?_)
  refine own_aload C X own_d2_109 rfl rfl (pc' := 111) rfl ?_
  refine own_iload C X own_d2_111 rfl (pc' := 113) rfl ?_
  refine own_iconst C X own_d2_113 (v := 4) (by decide) (pc' := 114) rfl ?_
  refine own_iadd C X own_d2_114 (z := 5) (by decide) (pc' := 115) rfl ?_
  refine own_lload C X own_d2_115 rfl (pc' := 117) rfl ?_
  refine own_lastore C X own_d2_117 A_nb (by decide) (i := 5) (Nat.le_of_ble_eq_true rfl) ge_nb (pc' := 118) rfl ?_
  intro T h X K_ A_nb_
  have A_nb : own_JA Z h nb [fill, v0, v1, v2, v3, v4, fill, fill] := A_nb_
  have KK := KK.trans K_ (allS (Or.inr gz_nb) all0)
  refine own_iload C X own_d2_118 rfl (pc' := 120) rfl ?_
  refine own_iconst C X own_d2_120 (v := 5) (by decide) (pc' := 121) rfl ?_
  refine own_icmp_le C X own_d2_121 (pcT := 133) (pc' := 124) (by decide) (by decide) rfl (fun hc121 => ?_) (fun hc121 => absurd hc121 (by decide))
  refine own_aload C X own_d2_133 rfl rfl (pc' := 135) rfl ?_
  exact own_areturn C X own_d2_135 rfl rfl rfl (Nat.le_of_ble_eq_true rfl) (Nat.le_of_ble_eq_true rfl) (⟨nb, rfl, gz_nb, KK, A_nb⟩)
theorem own_ef_b60 (v0 : Int64) (v1 : Int64) (v2 : Int64) (v3 : Int64) (v4 : Int64) (v5 : Int64) (fill : Int64) (m : MethodId) : entryFrame m #[(.long v0), (.long v1), (.long v2), (.long v3), (.long v4), (.long v5), (.int (6 : Int32)), (.int (0 : Int32)), (.long fill)] 17 = mkF m 0 #[.val (.long v0), .second, .val (.long v1), .second, .val (.long v2), .second, .val (.long v3), .second, .val (.long v4), .second, .val (.long v5), .second, .val (.int (6 : Int32)), .val (.int (0 : Int32)), .val (.long fill), .second, .unset] [] := by first | (simp [entryFrame, mkF, argsToLocals, Value.category]; done) | rfl
theorem own_d2_124 : decode method_3_code 124 = .ok (.aload 16, 2) := by decide +kernel
theorem own_d2_126 : decode method_3_code 126 = .ok (.iload 13, 2) := by decide +kernel
theorem own_d2_128 : decode method_3_code 128 = .ok (.iconst 5, 1) := by decide +kernel
theorem own_d2_129 : decode method_3_code 129 = .ok (.iadd, 1) := by decide +kernel
theorem own_d2_130 : decode method_3_code 130 = .ok (.lload 10, 2) := by decide +kernel
theorem own_d2_132 : decode method_3_code 132 = .ok (.lastore, 1) := by decide +kernel
set_option maxRecDepth 65536 in
set_option maxHeartbeats 40000000 in
theorem own_m_b60 (l : Launch) (Z : State) (a0 : Array Value) (hw : ∀ d ∈ tables_1, d.before a0 Z = true) (v0 : Int64) (v1 : Int64) (v2 : Int64) (v3 : Int64) (v4 : Int64) (v5 : Int64) (fill : Int64) (h0 : Heap) (n0 : Nat) (hn0 : n0 ≤ h0.size)  : own_Met l Z n0 (⟨"com/example/stablemate/stablemate/SliceHeapsAddPinLaw", "build", "(JJJJJJIIJ)[J"⟩ : MethodName) method_3_code 17 (some (.array .long)) [] ({ frames := 0, cells := 1, slots := 8, locals := 0 } : Room) #[(.long v0), (.long v1), (.long v2), (.long v3), (.long v4), (.long v5), (.int (6 : Int32)), (.int (0 : Int32)), (.long fill)] h0 (fun v h => ∃ b, v = some (.ref b) ∧ h0.size ≤ b ∧ Keep h0 h [] ∧ own_JA Z h b [v0, v1, v2, v3, v4, v5, fill, fill]) := by
  refine own_body (plainFor_of_name own_pn_com_example_stablemate_stablemate_SliceHeapsAddPinLaw) hn0 (own_ef_b60 v0 v1 v2 v3 v4 v5 fill) ?_
  intro p e s m below meth c T C X
  have KK := Keep.refl h0 []
  refine own_bipush C X own_d2_0 (v := 8) (by decide) (pc' := 2) rfl ?_
  refine own_newJ C X own_d2_2 (hw _ (List.mem_of_getElem? (i := 10) rfl)) (by decide) (k := 8) (cap := 8) (Nat.le_of_ble_eq_true rfl) (by decide) (Nat.le_of_ble_eq_true rfl) (Nat.le_of_ble_eq_true rfl) (pc' := 4) rfl ?_
  intro T h nb e_nb X K_ ge_nb A_nb_
  have gz_nb : h0.size ≤ nb := by rw [e_nb]; exact KK.1
  have A_nb : own_JA Z h nb [(0 : Int64), (0 : Int64), (0 : Int64), (0 : Int64), (0 : Int64), (0 : Int64), (0 : Int64), (0 : Int64)] := A_nb_
  have KK := KK.trans K_ all0
  refine own_dup C X own_d2_4 rfl (pc' := 5) rfl ?_
  refine own_iconst C X own_d2_5 (v := 0) (by decide) (pc' := 6) rfl ?_
  refine own_lload C X own_d2_6 rfl (pc' := 8) rfl ?_
  refine own_lastore C X own_d2_8 A_nb (by decide) (i := 0) (Nat.le_of_ble_eq_true rfl) ge_nb (pc' := 9) rfl ?_
  intro T h X K_ A_nb_
  have A_nb : own_JA Z h nb [fill, (0 : Int64), (0 : Int64), (0 : Int64), (0 : Int64), (0 : Int64), (0 : Int64), (0 : Int64)] := A_nb_
  have KK := KK.trans K_ (allS (Or.inr gz_nb) all0)
  refine own_dup C X own_d2_9 rfl (pc' := 10) rfl ?_
  refine own_iconst C X own_d2_10 (v := 1) (by decide) (pc' := 11) rfl ?_
  refine own_lload C X own_d2_11 rfl (pc' := 13) rfl ?_
  refine own_lastore C X own_d2_13 A_nb (by decide) (i := 1) (Nat.le_of_ble_eq_true rfl) ge_nb (pc' := 14) rfl ?_
  intro T h X K_ A_nb_
  have A_nb : own_JA Z h nb [fill, fill, (0 : Int64), (0 : Int64), (0 : Int64), (0 : Int64), (0 : Int64), (0 : Int64)] := A_nb_
  have KK := KK.trans K_ (allS (Or.inr gz_nb) all0)
  refine own_dup C X own_d2_14 rfl (pc' := 15) rfl ?_
  refine own_iconst C X own_d2_15 (v := 2) (by decide) (pc' := 16) rfl ?_
  refine own_lload C X own_d2_16 rfl (pc' := 18) rfl ?_
  refine own_lastore C X own_d2_18 A_nb (by decide) (i := 2) (Nat.le_of_ble_eq_true rfl) ge_nb (pc' := 19) rfl ?_
  intro T h X K_ A_nb_
  have A_nb : own_JA Z h nb [fill, fill, fill, (0 : Int64), (0 : Int64), (0 : Int64), (0 : Int64), (0 : Int64)] := A_nb_
  have KK := KK.trans K_ (allS (Or.inr gz_nb) all0)
  refine own_dup C X own_d2_19 rfl (pc' := 20) rfl ?_
  refine own_iconst C X own_d2_20 (v := 3) (by decide) (pc' := 21) rfl ?_
  refine own_lload C X own_d2_21 rfl (pc' := 23) rfl ?_
  refine own_lastore C X own_d2_23 A_nb (by decide) (i := 3) (Nat.le_of_ble_eq_true rfl) ge_nb (pc' := 24) rfl ?_
  intro T h X K_ A_nb_
  have A_nb : own_JA Z h nb [fill, fill, fill, fill, (0 : Int64), (0 : Int64), (0 : Int64), (0 : Int64)] := A_nb_
  have KK := KK.trans K_ (allS (Or.inr gz_nb) all0)
  refine own_dup C X own_d2_24 rfl (pc' := 25) rfl ?_
  refine own_iconst C X own_d2_25 (v := 4) (by decide) (pc' := 26) rfl ?_
  refine own_lload C X own_d2_26 rfl (pc' := 28) rfl ?_
  refine own_lastore C X own_d2_28 A_nb (by decide) (i := 4) (Nat.le_of_ble_eq_true rfl) ge_nb (pc' := 29) rfl ?_
  intro T h X K_ A_nb_
  have A_nb : own_JA Z h nb [fill, fill, fill, fill, fill, (0 : Int64), (0 : Int64), (0 : Int64)] := A_nb_
  have KK := KK.trans K_ (allS (Or.inr gz_nb) all0)
  refine own_dup C X own_d2_29 rfl (pc' := 30) rfl ?_
  refine own_iconst C X own_d2_30 (v := 5) (by decide) (pc' := 31) rfl ?_
  refine own_lload C X own_d2_31 rfl (pc' := 33) rfl ?_
  refine own_lastore C X own_d2_33 A_nb (by decide) (i := 5) (Nat.le_of_ble_eq_true rfl) ge_nb (pc' := 34) rfl ?_
  intro T h X K_ A_nb_
  have A_nb : own_JA Z h nb [fill, fill, fill, fill, fill, fill, (0 : Int64), (0 : Int64)] := A_nb_
  have KK := KK.trans K_ (allS (Or.inr gz_nb) all0)
  refine own_dup C X own_d2_34 rfl (pc' := 35) rfl ?_
  refine own_bipush C X own_d2_35 (v := 6) (by decide) (pc' := 37) rfl ?_
  refine own_lload C X own_d2_37 rfl (pc' := 39) rfl ?_
  refine own_lastore C X own_d2_39 A_nb (by decide) (i := 6) (Nat.le_of_ble_eq_true rfl) ge_nb (pc' := 40) rfl ?_
  intro T h X K_ A_nb_
  have A_nb : own_JA Z h nb [fill, fill, fill, fill, fill, fill, fill, (0 : Int64)] := A_nb_
  have KK := KK.trans K_ (allS (Or.inr gz_nb) all0)
  refine own_dup C X own_d2_40 rfl (pc' := 41) rfl ?_
  refine own_bipush C X own_d2_41 (v := 7) (by decide) (pc' := 43) rfl ?_
  refine own_lload C X own_d2_43 rfl (pc' := 45) rfl ?_
  refine own_lastore C X own_d2_45 A_nb (by decide) (i := 7) (Nat.le_of_ble_eq_true rfl) ge_nb (pc' := 46) rfl ?_
  intro T h X K_ A_nb_
  have A_nb : own_JA Z h nb [fill, fill, fill, fill, fill, fill, fill, fill] := A_nb_
  have KK := KK.trans K_ (allS (Or.inr gz_nb) all0)
  refine own_astore C X own_d2_46 rfl (L' := #[.val (.long v0), .second, .val (.long v1), .second, .val (.long v2), .second, .val (.long v3), .second, .val (.long v4), .second, .val (.long v5), .second, .val (.int (6 : Int32)), .val (.int (0 : Int32)), .val (.long fill), .second, .val (.ref nb)]) rfl (pc' := 48) rfl ?_
  refine own_iload C X own_d2_48 rfl (pc' := 50) rfl ?_
  refine own_if_le C X own_d2_50 (pcT := 59) (pc' := 53) (by decide) (by decide) rfl (fun hc50 => absurd hc50 (by decide)) (fun hc50 => ?_)
  refine own_aload C X own_d2_53 rfl rfl (pc' := 55) rfl ?_
  refine own_iload C X own_d2_55 rfl (pc' := 57) rfl ?_
  refine own_lloadN C X own_d2_57 rfl (pc' := 58) rfl ?_
  refine own_lastore C X own_d2_58 A_nb (by decide) (i := 0) (Nat.le_of_ble_eq_true rfl) ge_nb (pc' := 59) rfl ?_
  intro T h X K_ A_nb_
  have A_nb : own_JA Z h nb [v0, fill, fill, fill, fill, fill, fill, fill] := A_nb_
  have KK := KK.trans K_ (allS (Or.inr gz_nb) all0)
  refine own_iload C X own_d2_59 rfl (pc' := 61) rfl ?_
  refine own_iconst C X own_d2_61 (v := 1) (by decide) (pc' := 62) rfl ?_
  refine own_icmp_le C X own_d2_62 (pcT := 73) (pc' := 65) (by decide) (by decide) rfl (fun hc62 => absurd hc62 (by decide)) (fun hc62 => ?_)
  refine own_aload C X own_d2_65 rfl rfl (pc' := 67) rfl ?_
  refine own_iload C X own_d2_67 rfl (pc' := 69) rfl ?_
  refine own_iconst C X own_d2_69 (v := 1) (by decide) (pc' := 70) rfl ?_
  refine own_iadd C X own_d2_70 (z := 1) (by decide) (pc' := 71) rfl ?_
  refine own_lloadN C X own_d2_71 rfl (pc' := 72) rfl ?_
  refine own_lastore C X own_d2_72 A_nb (by decide) (i := 1) (Nat.le_of_ble_eq_true rfl) ge_nb (pc' := 73) rfl ?_
  intro T h X K_ A_nb_
  have A_nb : own_JA Z h nb [v0, v1, fill, fill, fill, fill, fill, fill] := A_nb_
  have KK := KK.trans K_ (allS (Or.inr gz_nb) all0)
  refine own_iload C X own_d2_73 rfl (pc' := 75) rfl ?_
  refine own_iconst C X own_d2_75 (v := 2) (by decide) (pc' := 76) rfl ?_
  refine own_icmp_le C X own_d2_76 (pcT := 88) (pc' := 79) (by decide) (by decide) rfl (fun hc76 => absurd hc76 (by decide)) (fun hc76 => ?_)
  refine own_aload C X own_d2_79 rfl rfl (pc' := 81) rfl ?_
  refine own_iload C X own_d2_81 rfl (pc' := 83) rfl ?_
  refine own_iconst C X own_d2_83 (v := 2) (by decide) (pc' := 84) rfl ?_
  refine own_iadd C X own_d2_84 (z := 2) (by decide) (pc' := 85) rfl ?_
  refine own_lload C X own_d2_85 rfl (pc' := 87) rfl ?_
  refine own_lastore C X own_d2_87 A_nb (by decide) (i := 2) (Nat.le_of_ble_eq_true rfl) ge_nb (pc' := 88) rfl ?_
  intro T h X K_ A_nb_
  have A_nb : own_JA Z h nb [v0, v1, v2, fill, fill, fill, fill, fill] := A_nb_
  have KK := KK.trans K_ (allS (Or.inr gz_nb) all0)
  refine own_iload C X own_d2_88 rfl (pc' := 90) rfl ?_
  refine own_iconst C X own_d2_90 (v := 3) (by decide) (pc' := 91) rfl ?_
  refine own_icmp_le C X own_d2_91 (pcT := 103) (pc' := 94) (by decide) (by decide) rfl (fun hc91 => absurd hc91 (by decide)) (fun hc91 => ?_)
  refine own_aload C X own_d2_94 rfl rfl (pc' := 96) rfl ?_
  refine own_iload C X own_d2_96 rfl (pc' := 98) rfl ?_
  refine own_iconst C X own_d2_98 (v := 3) (by decide) (pc' := 99) rfl ?_
  refine own_iadd C X own_d2_99 (z := 3) (by decide) (pc' := 100) rfl ?_
  refine own_lload C X own_d2_100 rfl (pc' := 102) rfl ?_
  refine own_lastore C X own_d2_102 A_nb (by decide) (i := 3) (Nat.le_of_ble_eq_true rfl) ge_nb (pc' := 103) rfl ?_
  intro T h X K_ A_nb_
  have A_nb : own_JA Z h nb [v0, v1, v2, v3, fill, fill, fill, fill] := A_nb_
  have KK := KK.trans K_ (allS (Or.inr gz_nb) all0)
  refine own_iload C X own_d2_103 rfl (pc' := 105) rfl ?_
  refine own_iconst C X own_d2_105 (v := 4) (by decide) (pc' := 106) rfl ?_
  refine own_icmp_le C X own_d2_106 (pcT := 118) (pc' := 109) (by decide) (by decide) rfl (fun hc106 => absurd hc106 (by decide)) (fun hc106 => ?_)
  refine own_aload C X own_d2_109 rfl rfl (pc' := 111) rfl ?_
  refine own_iload C X own_d2_111 rfl (pc' := 113) rfl ?_
  refine own_iconst C X own_d2_113 (v := 4) (by decide) (pc' := 114) rfl ?_
  refine own_iadd C X own_d2_114 (z := 4) (by decide) (pc' := 115) rfl ?_
  refine own_lload C X own_d2_115 rfl (pc' := 117) rfl ?_
  refine own_lastore C X own_d2_117 A_nb (by decide) (i := 4) (Nat.le_of_ble_eq_true rfl) ge_nb (pc' := 118) rfl ?_
  intro T h X K_ A_nb_
  have A_nb : own_JA Z h nb [v0, v1, v2, v3, v4, fill, fill, fill] := A_nb_
  have KK := KK.trans K_ (allS (Or.inr gz_nb) all0)
  refine own_iload C X own_d2_118 rfl (pc' := 120) rfl ?_
  refine own_iconst C X own_d2_120 (v := 5) (by decide) (pc' := 121) rfl ?_
  refine own_icmp_le C X own_d2_121 (pcT := 133) (pc' := 124) (by decide) (by decide) rfl (fun hc121 => absurd hc121 (by decide)) (fun hc121 => ?_)
  refine own_aload C X own_d2_124 rfl rfl (pc' := 126) rfl ?_
  refine own_iload C X own_d2_126 rfl (pc' := 128) rfl ?_
  refine own_iconst C X own_d2_128 (v := 5) (by decide) (pc' := 129) rfl ?_
  refine own_iadd C X own_d2_129 (z := 5) (by decide) (pc' := 130) rfl ?_
  refine own_lload C X own_d2_130 rfl (pc' := 132) rfl ?_
  refine own_lastore C X own_d2_132 A_nb (by decide) (i := 5) (Nat.le_of_ble_eq_true rfl) ge_nb (pc' := 133) rfl ?_
  intro T h X K_ A_nb_
  have A_nb : own_JA Z h nb [v0, v1, v2, v3, v4, v5, fill, fill] := A_nb_
  have KK := KK.trans K_ (allS (Or.inr gz_nb) all0)
  refine own_aload C X own_d2_133 rfl rfl (pc' := 135) rfl ?_
  exact own_areturn C X own_d2_135 rfl rfl rfl (Nat.le_of_ble_eq_true rfl) (Nat.le_of_ble_eq_true rfl) (⟨nb, rfl, gz_nb, KK, A_nb⟩)
theorem own_ef_b61 (v0 : Int64) (v1 : Int64) (v2 : Int64) (v3 : Int64) (v4 : Int64) (v5 : Int64) (fill : Int64) (m : MethodId) : entryFrame m #[(.long v0), (.long v1), (.long v2), (.long v3), (.long v4), (.long v5), (.int (6 : Int32)), (.int (1 : Int32)), (.long fill)] 17 = mkF m 0 #[.val (.long v0), .second, .val (.long v1), .second, .val (.long v2), .second, .val (.long v3), .second, .val (.long v4), .second, .val (.long v5), .second, .val (.int (6 : Int32)), .val (.int (1 : Int32)), .val (.long fill), .second, .unset] [] := by first | (simp [entryFrame, mkF, argsToLocals, Value.category]; done) | rfl
set_option maxRecDepth 65536 in
set_option maxHeartbeats 40000000 in
theorem own_m_b61 (l : Launch) (Z : State) (a0 : Array Value) (hw : ∀ d ∈ tables_1, d.before a0 Z = true) (v0 : Int64) (v1 : Int64) (v2 : Int64) (v3 : Int64) (v4 : Int64) (v5 : Int64) (fill : Int64) (h0 : Heap) (n0 : Nat) (hn0 : n0 ≤ h0.size)  : own_Met l Z n0 (⟨"com/example/stablemate/stablemate/SliceHeapsAddPinLaw", "build", "(JJJJJJIIJ)[J"⟩ : MethodName) method_3_code 17 (some (.array .long)) [] ({ frames := 0, cells := 1, slots := 8, locals := 0 } : Room) #[(.long v0), (.long v1), (.long v2), (.long v3), (.long v4), (.long v5), (.int (6 : Int32)), (.int (1 : Int32)), (.long fill)] h0 (fun v h => ∃ b, v = some (.ref b) ∧ h0.size ≤ b ∧ Keep h0 h [] ∧ own_JA Z h b [fill, v0, v1, v2, v3, v4, v5, fill]) := by
  refine own_body (plainFor_of_name own_pn_com_example_stablemate_stablemate_SliceHeapsAddPinLaw) hn0 (own_ef_b61 v0 v1 v2 v3 v4 v5 fill) ?_
  intro p e s m below meth c T C X
  have KK := Keep.refl h0 []
  refine own_bipush C X own_d2_0 (v := 8) (by decide) (pc' := 2) rfl ?_
  refine own_newJ C X own_d2_2 (hw _ (List.mem_of_getElem? (i := 10) rfl)) (by decide) (k := 8) (cap := 8) (Nat.le_of_ble_eq_true rfl) (by decide) (Nat.le_of_ble_eq_true rfl) (Nat.le_of_ble_eq_true rfl) (pc' := 4) rfl ?_
  intro T h nb e_nb X K_ ge_nb A_nb_
  have gz_nb : h0.size ≤ nb := by rw [e_nb]; exact KK.1
  have A_nb : own_JA Z h nb [(0 : Int64), (0 : Int64), (0 : Int64), (0 : Int64), (0 : Int64), (0 : Int64), (0 : Int64), (0 : Int64)] := A_nb_
  have KK := KK.trans K_ all0
  refine own_dup C X own_d2_4 rfl (pc' := 5) rfl ?_
  refine own_iconst C X own_d2_5 (v := 0) (by decide) (pc' := 6) rfl ?_
  refine own_lload C X own_d2_6 rfl (pc' := 8) rfl ?_
  refine own_lastore C X own_d2_8 A_nb (by decide) (i := 0) (Nat.le_of_ble_eq_true rfl) ge_nb (pc' := 9) rfl ?_
  intro T h X K_ A_nb_
  have A_nb : own_JA Z h nb [fill, (0 : Int64), (0 : Int64), (0 : Int64), (0 : Int64), (0 : Int64), (0 : Int64), (0 : Int64)] := A_nb_
  have KK := KK.trans K_ (allS (Or.inr gz_nb) all0)
  refine own_dup C X own_d2_9 rfl (pc' := 10) rfl ?_
  refine own_iconst C X own_d2_10 (v := 1) (by decide) (pc' := 11) rfl ?_
  refine own_lload C X own_d2_11 rfl (pc' := 13) rfl ?_
  refine own_lastore C X own_d2_13 A_nb (by decide) (i := 1) (Nat.le_of_ble_eq_true rfl) ge_nb (pc' := 14) rfl ?_
  intro T h X K_ A_nb_
  have A_nb : own_JA Z h nb [fill, fill, (0 : Int64), (0 : Int64), (0 : Int64), (0 : Int64), (0 : Int64), (0 : Int64)] := A_nb_
  have KK := KK.trans K_ (allS (Or.inr gz_nb) all0)
  refine own_dup C X own_d2_14 rfl (pc' := 15) rfl ?_
  refine own_iconst C X own_d2_15 (v := 2) (by decide) (pc' := 16) rfl ?_
  refine own_lload C X own_d2_16 rfl (pc' := 18) rfl ?_
  refine own_lastore C X own_d2_18 A_nb (by decide) (i := 2) (Nat.le_of_ble_eq_true rfl) ge_nb (pc' := 19) rfl ?_
  intro T h X K_ A_nb_
  have A_nb : own_JA Z h nb [fill, fill, fill, (0 : Int64), (0 : Int64), (0 : Int64), (0 : Int64), (0 : Int64)] := A_nb_
  have KK := KK.trans K_ (allS (Or.inr gz_nb) all0)
  refine own_dup C X own_d2_19 rfl (pc' := 20) rfl ?_
  refine own_iconst C X own_d2_20 (v := 3) (by decide) (pc' := 21) rfl ?_
  refine own_lload C X own_d2_21 rfl (pc' := 23) rfl ?_
  refine own_lastore C X own_d2_23 A_nb (by decide) (i := 3) (Nat.le_of_ble_eq_true rfl) ge_nb (pc' := 24) rfl ?_
  intro T h X K_ A_nb_
  have A_nb : own_JA Z h nb [fill, fill, fill, fill, (0 : Int64), (0 : Int64), (0 : Int64), (0 : Int64)] := A_nb_
  have KK := KK.trans K_ (allS (Or.inr gz_nb) all0)
  refine own_dup C X own_d2_24 rfl (pc' := 25) rfl ?_
  refine own_iconst C X own_d2_25 (v := 4) (by decide) (pc' := 26) rfl ?_
  refine own_lload C X own_d2_26 rfl (pc' := 28) rfl ?_
  refine own_lastore C X own_d2_28 A_nb (by decide) (i := 4) (Nat.le_of_ble_eq_true rfl) ge_nb (pc' := 29) rfl ?_
  intro T h X K_ A_nb_
  have A_nb : own_JA Z h nb [fill, fill, fill, fill, fill, (0 : Int64), (0 : Int64), (0 : Int64)] := A_nb_
  have KK := KK.trans K_ (allS (Or.inr gz_nb) all0)
  refine own_dup C X own_d2_29 rfl (pc' := 30) rfl ?_
  refine own_iconst C X own_d2_30 (v := 5) (by decide) (pc' := 31) rfl ?_
  refine own_lload C X own_d2_31 rfl (pc' := 33) rfl ?_
  refine own_lastore C X own_d2_33 A_nb (by decide) (i := 5) (Nat.le_of_ble_eq_true rfl) ge_nb (pc' := 34) rfl ?_
  intro T h X K_ A_nb_
  have A_nb : own_JA Z h nb [fill, fill, fill, fill, fill, fill, (0 : Int64), (0 : Int64)] := A_nb_
  have KK := KK.trans K_ (allS (Or.inr gz_nb) all0)
  refine own_dup C X own_d2_34 rfl (pc' := 35) rfl ?_
  refine own_bipush C X own_d2_35 (v := 6) (by decide) (pc' := 37) rfl ?_
  refine own_lload C X own_d2_37 rfl (pc' := 39) rfl ?_
  refine own_lastore C X own_d2_39 A_nb (by decide) (i := 6) (Nat.le_of_ble_eq_true rfl) ge_nb (pc' := 40) rfl ?_
  intro T h X K_ A_nb_
  have A_nb : own_JA Z h nb [fill, fill, fill, fill, fill, fill, fill, (0 : Int64)] := A_nb_
  have KK := KK.trans K_ (allS (Or.inr gz_nb) all0)
  refine own_dup C X own_d2_40 rfl (pc' := 41) rfl ?_
  refine own_bipush C X own_d2_41 (v := 7) (by decide) (pc' := 43) rfl ?_
  refine own_lload C X own_d2_43 rfl (pc' := 45) rfl ?_
  refine own_lastore C X own_d2_45 A_nb (by decide) (i := 7) (Nat.le_of_ble_eq_true rfl) ge_nb (pc' := 46) rfl ?_
  intro T h X K_ A_nb_
  have A_nb : own_JA Z h nb [fill, fill, fill, fill, fill, fill, fill, fill] := A_nb_
  have KK := KK.trans K_ (allS (Or.inr gz_nb) all0)
  refine own_astore C X own_d2_46 rfl (L' := #[.val (.long v0), .second, .val (.long v1), .second, .val (.long v2), .second, .val (.long v3), .second, .val (.long v4), .second, .val (.long v5), .second, .val (.int (6 : Int32)), .val (.int (1 : Int32)), .val (.long fill), .second, .val (.ref nb)]) rfl (pc' := 48) rfl ?_
  refine own_iload C X own_d2_48 rfl (pc' := 50) rfl ?_
  refine own_if_le C X own_d2_50 (pcT := 59) (pc' := 53) (by decide) (by decide) rfl (fun hc50 => absurd hc50 (by decide)) (fun hc50 => ?_)
  refine own_aload C X own_d2_53 rfl rfl (pc' := 55) rfl ?_
  refine own_iload C X own_d2_55 rfl (pc' := 57) rfl ?_
  refine own_lloadN C X own_d2_57 rfl (pc' := 58) rfl ?_
  refine own_lastore C X own_d2_58 A_nb (by decide) (i := 1) (Nat.le_of_ble_eq_true rfl) ge_nb (pc' := 59) rfl ?_
  intro T h X K_ A_nb_
  have A_nb : own_JA Z h nb [fill, v0, fill, fill, fill, fill, fill, fill] := A_nb_
  have KK := KK.trans K_ (allS (Or.inr gz_nb) all0)
  refine own_iload C X own_d2_59 rfl (pc' := 61) rfl ?_
  refine own_iconst C X own_d2_61 (v := 1) (by decide) (pc' := 62) rfl ?_
  refine own_icmp_le C X own_d2_62 (pcT := 73) (pc' := 65) (by decide) (by decide) rfl (fun hc62 => absurd hc62 (by decide)) (fun hc62 => ?_)
  refine own_aload C X own_d2_65 rfl rfl (pc' := 67) rfl ?_
  refine own_iload C X own_d2_67 rfl (pc' := 69) rfl ?_
  refine own_iconst C X own_d2_69 (v := 1) (by decide) (pc' := 70) rfl ?_
  refine own_iadd C X own_d2_70 (z := 2) (by decide) (pc' := 71) rfl ?_
  refine own_lloadN C X own_d2_71 rfl (pc' := 72) rfl ?_
  refine own_lastore C X own_d2_72 A_nb (by decide) (i := 2) (Nat.le_of_ble_eq_true rfl) ge_nb (pc' := 73) rfl ?_
  intro T h X K_ A_nb_
  have A_nb : own_JA Z h nb [fill, v0, v1, fill, fill, fill, fill, fill] := A_nb_
  have KK := KK.trans K_ (allS (Or.inr gz_nb) all0)
  refine own_iload C X own_d2_73 rfl (pc' := 75) rfl ?_
  refine own_iconst C X own_d2_75 (v := 2) (by decide) (pc' := 76) rfl ?_
  refine own_icmp_le C X own_d2_76 (pcT := 88) (pc' := 79) (by decide) (by decide) rfl (fun hc76 => absurd hc76 (by decide)) (fun hc76 => ?_)
  refine own_aload C X own_d2_79 rfl rfl (pc' := 81) rfl ?_
  refine own_iload C X own_d2_81 rfl (pc' := 83) rfl ?_
  refine own_iconst C X own_d2_83 (v := 2) (by decide) (pc' := 84) rfl ?_
  refine own_iadd C X own_d2_84 (z := 3) (by decide) (pc' := 85) rfl ?_
  refine own_lload C X own_d2_85 rfl (pc' := 87) rfl ?_
  refine own_lastore C X own_d2_87 A_nb (by decide) (i := 3) (Nat.le_of_ble_eq_true rfl) ge_nb (pc' := 88) rfl ?_
  intro T h X K_ A_nb_
  have A_nb : own_JA Z h nb [fill, v0, v1, v2, fill, fill, fill, fill] := A_nb_
  have KK := KK.trans K_ (allS (Or.inr gz_nb) all0)
  refine own_iload C X own_d2_88 rfl (pc' := 90) rfl ?_
  refine own_iconst C X own_d2_90 (v := 3) (by decide) (pc' := 91) rfl ?_
  refine own_icmp_le C X own_d2_91 (pcT := 103) (pc' := 94) (by decide) (by decide) rfl (fun hc91 => absurd hc91 (by decide)) (fun hc91 => ?_)
  refine own_aload C X own_d2_94 rfl rfl (pc' := 96) rfl ?_
  refine own_iload C X own_d2_96 rfl (pc' := 98) rfl ?_
  refine own_iconst C X own_d2_98 (v := 3) (by decide) (pc' := 99) rfl ?_
  refine own_iadd C X own_d2_99 (z := 4) (by decide) (pc' := 100) rfl ?_
  refine own_lload C X own_d2_100 rfl (pc' := 102) rfl ?_
  refine own_lastore C X own_d2_102 A_nb (by decide) (i := 4) (Nat.le_of_ble_eq_true rfl) ge_nb (pc' := 103) rfl ?_
  intro T h X K_ A_nb_
  have A_nb : own_JA Z h nb [fill, v0, v1, v2, v3, fill, fill, fill] := A_nb_
  have KK := KK.trans K_ (allS (Or.inr gz_nb) all0)
  refine own_iload C X own_d2_103 rfl (pc' := 105) rfl ?_
  refine own_iconst C X own_d2_105 (v := 4) (by decide) (pc' := 106) rfl ?_
  refine own_icmp_le C X own_d2_106 (pcT := 118) (pc' := 109) (by decide) (by decide) rfl (fun hc106 => absurd hc106 (by decide)) (fun hc106 => ?_)
  refine own_aload C X own_d2_109 rfl rfl (pc' := 111) rfl ?_
  refine own_iload C X own_d2_111 rfl (pc' := 113) rfl ?_
  refine own_iconst C X own_d2_113 (v := 4) (by decide) (pc' := 114) rfl ?_
  refine own_iadd C X own_d2_114 (z := 5) (by decide) (pc' := 115) rfl ?_
  refine own_lload C X own_d2_115 rfl (pc' := 117) rfl ?_
  refine own_lastore C X own_d2_117 A_nb (by decide) (i := 5) (Nat.le_of_ble_eq_true rfl) ge_nb (pc' := 118) rfl ?_
  intro T h X K_ A_nb_
  have A_nb : own_JA Z h nb [fill, v0, v1, v2, v3, v4, fill, fill] := A_nb_
  have KK := KK.trans K_ (allS (Or.inr gz_nb) all0)
  refine own_iload C X own_d2_118 rfl (pc' := 120) rfl ?_
  refine own_iconst C X own_d2_120 (v := 5) (by decide) (pc' := 121) rfl ?_
  refine own_icmp_le C X own_d2_121 (pcT := 133) (pc' := 124) (by decide) (by decide) rfl (fun hc121 => absurd hc121 (by decide)) (fun hc121 => ?_)
  refine own_aload C X own_d2_124 rfl rfl (pc' := 126) rfl ?_
  refine own_iload C X own_d2_126 rfl (pc' := 128) rfl ?_
  refine own_iconst C X own_d2_128 (v := 5) (by decide) (pc' := 129) rfl ?_
  refine own_iadd C X own_d2_129 (z := 6) (by decide) (pc' := 130) rfl ?_
  refine own_lload C X own_d2_130 rfl (pc' := 132) rfl ?_
  refine own_lastore C X own_d2_132 A_nb (by decide) (i := 6) (Nat.le_of_ble_eq_true rfl) ge_nb (pc' := 133) rfl ?_
  intro T h X K_ A_nb_
  have A_nb : own_JA Z h nb [fill, v0, v1, v2, v3, v4, v5, fill] := A_nb_
  have KK := KK.trans K_ (allS (Or.inr gz_nb) all0)
  refine own_aload C X own_d2_133 rfl rfl (pc' := 135) rfl ?_
  exact own_areturn C X own_d2_135 rfl rfl rfl (Nat.le_of_ble_eq_true rfl) (Nat.le_of_ble_eq_true rfl) (⟨nb, rfl, gz_nb, KK, A_nb⟩)
theorem own_pn_com_example_stablemate_stablemate_SliceHeaps : plainName "com/example/stablemate/stablemate/SliceHeaps" = true := by first | (simp [plainName, overriddenIn]; done) | decide +kernel
theorem own_ef_add000 (a : Addr) (en : Int64) (m : MethodId) : entryFrame m #[(.ref a), (.int (0 : Int32)), (.int (0 : Int32)), (.long en)] 6 = mkF m 0 #[.val (.ref a), .val (.int (0 : Int32)), .val (.int (0 : Int32)), .val (.long en), .second, .unset] [] := by first | (simp [entryFrame, mkF, argsToLocals, Value.category]; done) | rfl
theorem own_d3_0 : decode prog_40_method_3_code 0 = .ok (.iload_n 2, 1) := by decide +kernel
theorem own_d3_1 : decode prog_40_method_3_code 1 = .ok (.istore 5, 2) := by decide +kernel
theorem own_d3_3 : decode prog_40_method_3_code 3 = .ok (.iload 5, 2) := by decide +kernel
theorem own_d3_5 : decode prog_40_method_3_code 5 = .ok (.ifCond .le 45, 3) := by decide +kernel
theorem own_d3_50 : decode prog_40_method_3_code 50 = .ok (.aload_n 0, 1) := by decide +kernel
theorem own_d3_51 : decode prog_40_method_3_code 51 = .ok (.iload_n 1, 1) := by decide +kernel
theorem own_d3_52 : decode prog_40_method_3_code 52 = .ok (.iload 5, 2) := by decide +kernel
theorem own_d3_54 : decode prog_40_method_3_code 54 = .ok (.iadd, 1) := by decide +kernel
theorem own_d3_55 : decode prog_40_method_3_code 55 = .ok (.lload_n 3, 1) := by decide +kernel
theorem own_d3_56 : decode prog_40_method_3_code 56 = .ok (.lastore, 1) := by decide +kernel
theorem own_d3_57 : decode prog_40_method_3_code 57 = .ok (.return_, 1) := by decide +kernel
set_option maxRecDepth 65536 in
set_option maxHeartbeats 40000000 in
theorem own_m_add000 (l : Launch) (Z : State) (a0 : Array Value) (hw : ∀ d ∈ tables_1, d.before a0 Z = true) (a : Addr) (en : Int64) (h0 : Heap) (n0 : Nat) (hn0 : n0 ≤ h0.size) (x0 x1 x2 x3 x4 x5 x6 x7 : Int64) (A : own_JA Z h0 a [x0, x1, x2, x3, x4, x5, x6, x7]) (ge_a : n0 ≤ a)  : own_Met l Z n0 (⟨"com/example/stablemate/stablemate/SliceHeaps", "add", "([JIIJ)V"⟩ : MethodName) prog_40_method_3_code 6 none [] ({ frames := 0, cells := 0, slots := 0, locals := 0 } : Room) #[(.ref a), (.int (0 : Int32)), (.int (0 : Int32)), (.long en)] h0 (fun v h => v = none ∧ Keep h0 h [a] ∧ own_JA Z h a [en, x1, x2, x3, x4, x5, x6, x7]) := by
  refine own_body (plainFor_of_name own_pn_com_example_stablemate_stablemate_SliceHeaps) hn0 (own_ef_add000 a en) ?_
  intro p e s m below meth c T C X
  have KK := Keep.refl h0 [a]
  refine own_iloadN C X own_d3_0 rfl (pc' := 1) rfl ?_
  refine own_istore C X own_d3_1 (L' := #[.val (.ref a), .val (.int (0 : Int32)), .val (.int (0 : Int32)), .val (.long en), .second, .val (.int (0 : Int32))]) rfl (pc' := 3) rfl ?_
  refine own_iload C X own_d3_3 rfl (pc' := 5) rfl ?_
  refine own_if_le C X own_d3_5 (pcT := 50) (pc' := 8) (by decide) (by decide) rfl (fun hc5 => ?_) (fun hc5 => absurd hc5 (by decide))
  refine own_aloadN C X own_d3_50 rfl rfl (pc' := 51) rfl ?_
  refine own_iloadN C X own_d3_51 rfl (pc' := 52) rfl ?_
  refine own_iload C X own_d3_52 rfl (pc' := 54) rfl ?_
  refine own_iadd C X own_d3_54 (z := 0) (by decide) (pc' := 55) rfl ?_
  refine own_lloadN C X own_d3_55 rfl (pc' := 56) rfl ?_
  refine own_lastore C X own_d3_56 A (by decide) (i := 0) (Nat.le_of_ble_eq_true rfl) ge_a (pc' := 57) rfl ?_
  intro T h X K_ A_
  have A : own_JA Z h a [en, x1, x2, x3, x4, x5, x6, x7] := A_
  have KK := KK.trans K_ (allS (Or.inl (by simp)) all0)
  exact own_return C X own_d3_57 (Nat.le_of_ble_eq_true rfl) (Nat.le_of_ble_eq_true rfl) (⟨rfl, KK, A⟩)
theorem own_ef_add010 (a : Addr) (en : Int64) (m : MethodId) : entryFrame m #[(.ref a), (.int (1 : Int32)), (.int (0 : Int32)), (.long en)] 6 = mkF m 0 #[.val (.ref a), .val (.int (1 : Int32)), .val (.int (0 : Int32)), .val (.long en), .second, .unset] [] := by first | (simp [entryFrame, mkF, argsToLocals, Value.category]; done) | rfl
set_option maxRecDepth 65536 in
set_option maxHeartbeats 40000000 in
theorem own_m_add010 (l : Launch) (Z : State) (a0 : Array Value) (hw : ∀ d ∈ tables_1, d.before a0 Z = true) (a : Addr) (en : Int64) (h0 : Heap) (n0 : Nat) (hn0 : n0 ≤ h0.size) (x0 x1 x2 x3 x4 x5 x6 x7 : Int64) (A : own_JA Z h0 a [x0, x1, x2, x3, x4, x5, x6, x7]) (ge_a : n0 ≤ a)  : own_Met l Z n0 (⟨"com/example/stablemate/stablemate/SliceHeaps", "add", "([JIIJ)V"⟩ : MethodName) prog_40_method_3_code 6 none [] ({ frames := 0, cells := 0, slots := 0, locals := 0 } : Room) #[(.ref a), (.int (1 : Int32)), (.int (0 : Int32)), (.long en)] h0 (fun v h => v = none ∧ Keep h0 h [a] ∧ own_JA Z h a [x0, en, x2, x3, x4, x5, x6, x7]) := by
  refine own_body (plainFor_of_name own_pn_com_example_stablemate_stablemate_SliceHeaps) hn0 (own_ef_add010 a en) ?_
  intro p e s m below meth c T C X
  have KK := Keep.refl h0 [a]
  refine own_iloadN C X own_d3_0 rfl (pc' := 1) rfl ?_
  refine own_istore C X own_d3_1 (L' := #[.val (.ref a), .val (.int (1 : Int32)), .val (.int (0 : Int32)), .val (.long en), .second, .val (.int (0 : Int32))]) rfl (pc' := 3) rfl ?_
  refine own_iload C X own_d3_3 rfl (pc' := 5) rfl ?_
  refine own_if_le C X own_d3_5 (pcT := 50) (pc' := 8) (by decide) (by decide) rfl (fun hc5 => ?_) (fun hc5 => absurd hc5 (by decide))
  refine own_aloadN C X own_d3_50 rfl rfl (pc' := 51) rfl ?_
  refine own_iloadN C X own_d3_51 rfl (pc' := 52) rfl ?_
  refine own_iload C X own_d3_52 rfl (pc' := 54) rfl ?_
  refine own_iadd C X own_d3_54 (z := 1) (by decide) (pc' := 55) rfl ?_
  refine own_lloadN C X own_d3_55 rfl (pc' := 56) rfl ?_
  refine own_lastore C X own_d3_56 A (by decide) (i := 1) (Nat.le_of_ble_eq_true rfl) ge_a (pc' := 57) rfl ?_
  intro T h X K_ A_
  have A : own_JA Z h a [x0, en, x2, x3, x4, x5, x6, x7] := A_
  have KK := KK.trans K_ (allS (Or.inl (by simp)) all0)
  exact own_return C X own_d3_57 (Nat.le_of_ble_eq_true rfl) (Nat.le_of_ble_eq_true rfl) (⟨rfl, KK, A⟩)
theorem own_ef_add100 (a : Addr) (en : Int64) (m : MethodId) : entryFrame m #[(.ref a), (.int (0 : Int32)), (.int (1 : Int32)), (.long en)] 6 = mkF m 0 #[.val (.ref a), .val (.int (0 : Int32)), .val (.int (1 : Int32)), .val (.long en), .second, .unset] [] := by first | (simp [entryFrame, mkF, argsToLocals, Value.category]; done) | rfl
theorem own_d3_8 : decode prog_40_method_3_code 8 = .ok (.aload_n 0, 1) := by decide +kernel
theorem own_d3_9 : decode prog_40_method_3_code 9 = .ok (.iload_n 1, 1) := by decide +kernel
theorem own_d3_10 : decode prog_40_method_3_code 10 = .ok (.iload 5, 2) := by decide +kernel
theorem own_d3_12 : decode prog_40_method_3_code 12 = .ok (.iconst 1, 1) := by decide +kernel
theorem own_d3_13 : decode prog_40_method_3_code 13 = .ok (.isub, 1) := by decide +kernel
theorem own_d3_14 : decode prog_40_method_3_code 14 = .ok (.iconst 2, 1) := by decide +kernel
theorem own_d3_15 : decode prog_40_method_3_code 15 = .ok (.idiv, 1) := by decide +kernel
theorem own_d3_16 : decode prog_40_method_3_code 16 = .ok (.iadd, 1) := by decide +kernel
theorem own_d3_17 : decode prog_40_method_3_code 17 = .ok (.laload, 1) := by decide +kernel
theorem own_d3_18 : decode prog_40_method_3_code 18 = .ok (.lload_n 3, 1) := by decide +kernel
theorem own_d3_19 : decode prog_40_method_3_code 19 = .ok (.lcmp, 1) := by decide +kernel
theorem own_d3_20 : decode prog_40_method_3_code 20 = .ok (.ifCond .ge 30, 3) := by decide +kernel
set_option maxRecDepth 65536 in
set_option maxHeartbeats 40000000 in
theorem own_m_add100 (l : Launch) (Z : State) (a0 : Array Value) (hw : ∀ d ∈ tables_1, d.before a0 Z = true) (a : Addr) (en : Int64) (h0 : Heap) (n0 : Nat) (hn0 : n0 ≤ h0.size) (x0 x1 x2 x3 x4 x5 x6 x7 : Int64) (A : own_JA Z h0 a [x0, x1, x2, x3, x4, x5, x6, x7]) (ge_a : n0 ≤ a) (g0 : ¬ x0 < en) : own_Met l Z n0 (⟨"com/example/stablemate/stablemate/SliceHeaps", "add", "([JIIJ)V"⟩ : MethodName) prog_40_method_3_code 6 none [] ({ frames := 0, cells := 0, slots := 0, locals := 0 } : Room) #[(.ref a), (.int (0 : Int32)), (.int (1 : Int32)), (.long en)] h0 (fun v h => v = none ∧ Keep h0 h [a] ∧ own_JA Z h a [x0, en, x2, x3, x4, x5, x6, x7]) := by
  refine own_body (plainFor_of_name own_pn_com_example_stablemate_stablemate_SliceHeaps) hn0 (own_ef_add100 a en) ?_
  intro p e s m below meth c T C X
  have KK := Keep.refl h0 [a]
  refine own_iloadN C X own_d3_0 rfl (pc' := 1) rfl ?_
  refine own_istore C X own_d3_1 (L' := #[.val (.ref a), .val (.int (0 : Int32)), .val (.int (1 : Int32)), .val (.long en), .second, .val (.int (1 : Int32))]) rfl (pc' := 3) rfl ?_
  refine own_iload C X own_d3_3 rfl (pc' := 5) rfl ?_
  refine own_if_le C X own_d3_5 (pcT := 50) (pc' := 8) (by decide) (by decide) rfl (fun hc5 => absurd hc5 (by decide)) (fun hc5 => ?_)
  refine own_aloadN C X own_d3_8 rfl rfl (pc' := 9) rfl ?_
  refine own_iloadN C X own_d3_9 rfl (pc' := 10) rfl ?_
  refine own_iload C X own_d3_10 rfl (pc' := 12) rfl ?_
  refine own_iconst C X own_d3_12 (v := 1) (by decide) (pc' := 13) rfl ?_
  refine own_isub C X own_d3_13 (z := 0) (by decide) (pc' := 14) rfl ?_
  refine own_iconst C X own_d3_14 (v := 2) (by decide) (pc' := 15) rfl ?_
  refine own_idiv C X own_d3_15 (by decide) (z := 0) (by decide) (pc' := 16) rfl ?_
  refine own_iadd C X own_d3_16 (z := 0) (by decide) (pc' := 17) rfl ?_
  refine own_laload C X own_d3_17 A (by decide) (i := 0) rfl (pc' := 18) rfl ?_
  refine own_lloadN C X own_d3_18 rfl (pc' := 19) rfl ?_
  refine own_lcmp_ge C X own_d3_19 own_d3_20 (pcT := 50) (pc' := 23) (by decide) (by decide) rfl (fun hc19 => ?_) (fun hc19 => absurd hc19 (g0))
  refine own_aloadN C X own_d3_50 rfl rfl (pc' := 51) rfl ?_
  refine own_iloadN C X own_d3_51 rfl (pc' := 52) rfl ?_
  refine own_iload C X own_d3_52 rfl (pc' := 54) rfl ?_
  refine own_iadd C X own_d3_54 (z := 1) (by decide) (pc' := 55) rfl ?_
  refine own_lloadN C X own_d3_55 rfl (pc' := 56) rfl ?_
  refine own_lastore C X own_d3_56 A (by decide) (i := 1) (Nat.le_of_ble_eq_true rfl) ge_a (pc' := 57) rfl ?_
  intro T h X K_ A_
  have A : own_JA Z h a [x0, en, x2, x3, x4, x5, x6, x7] := A_
  have KK := KK.trans K_ (allS (Or.inl (by simp)) all0)
  exact own_return C X own_d3_57 (Nat.le_of_ble_eq_true rfl) (Nat.le_of_ble_eq_true rfl) (⟨rfl, KK, A⟩)
theorem own_ef_add101 (a : Addr) (en : Int64) (m : MethodId) : entryFrame m #[(.ref a), (.int (0 : Int32)), (.int (1 : Int32)), (.long en)] 6 = mkF m 0 #[.val (.ref a), .val (.int (0 : Int32)), .val (.int (1 : Int32)), .val (.long en), .second, .unset] [] := by first | (simp [entryFrame, mkF, argsToLocals, Value.category]; done) | rfl
theorem own_d3_23 : decode prog_40_method_3_code 23 = .ok (.aload_n 0, 1) := by decide +kernel
theorem own_d3_24 : decode prog_40_method_3_code 24 = .ok (.iload_n 1, 1) := by decide +kernel
theorem own_d3_25 : decode prog_40_method_3_code 25 = .ok (.iload 5, 2) := by decide +kernel
theorem own_d3_27 : decode prog_40_method_3_code 27 = .ok (.iadd, 1) := by decide +kernel
theorem own_d3_28 : decode prog_40_method_3_code 28 = .ok (.aload_n 0, 1) := by decide +kernel
theorem own_d3_29 : decode prog_40_method_3_code 29 = .ok (.iload_n 1, 1) := by decide +kernel
theorem own_d3_30 : decode prog_40_method_3_code 30 = .ok (.iload 5, 2) := by decide +kernel
theorem own_d3_32 : decode prog_40_method_3_code 32 = .ok (.iconst 1, 1) := by decide +kernel
theorem own_d3_33 : decode prog_40_method_3_code 33 = .ok (.isub, 1) := by decide +kernel
theorem own_d3_34 : decode prog_40_method_3_code 34 = .ok (.iconst 2, 1) := by decide +kernel
theorem own_d3_35 : decode prog_40_method_3_code 35 = .ok (.idiv, 1) := by decide +kernel
theorem own_d3_36 : decode prog_40_method_3_code 36 = .ok (.iadd, 1) := by decide +kernel
theorem own_d3_37 : decode prog_40_method_3_code 37 = .ok (.laload, 1) := by decide +kernel
theorem own_d3_38 : decode prog_40_method_3_code 38 = .ok (.lastore, 1) := by decide +kernel
theorem own_d3_39 : decode prog_40_method_3_code 39 = .ok (.iload 5, 2) := by decide +kernel
theorem own_d3_41 : decode prog_40_method_3_code 41 = .ok (.iconst 1, 1) := by decide +kernel
theorem own_d3_42 : decode prog_40_method_3_code 42 = .ok (.isub, 1) := by decide +kernel
theorem own_d3_43 : decode prog_40_method_3_code 43 = .ok (.iconst 2, 1) := by decide +kernel
theorem own_d3_44 : decode prog_40_method_3_code 44 = .ok (.idiv, 1) := by decide +kernel
theorem own_d3_45 : decode prog_40_method_3_code 45 = .ok (.istore 5, 2) := by decide +kernel
theorem own_d3_47 : decode prog_40_method_3_code 47 = .ok (.goto (-44), 3) := by decide +kernel
set_option maxRecDepth 65536 in
set_option maxHeartbeats 40000000 in
theorem own_m_add101 (l : Launch) (Z : State) (a0 : Array Value) (hw : ∀ d ∈ tables_1, d.before a0 Z = true) (a : Addr) (en : Int64) (h0 : Heap) (n0 : Nat) (hn0 : n0 ≤ h0.size) (x0 x1 x2 x3 x4 x5 x6 x7 : Int64) (A : own_JA Z h0 a [x0, x1, x2, x3, x4, x5, x6, x7]) (ge_a : n0 ≤ a) (g0 : x0 < en) : own_Met l Z n0 (⟨"com/example/stablemate/stablemate/SliceHeaps", "add", "([JIIJ)V"⟩ : MethodName) prog_40_method_3_code 6 none [] ({ frames := 0, cells := 0, slots := 0, locals := 0 } : Room) #[(.ref a), (.int (0 : Int32)), (.int (1 : Int32)), (.long en)] h0 (fun v h => v = none ∧ Keep h0 h [a] ∧ own_JA Z h a [en, x0, x2, x3, x4, x5, x6, x7]) := by
  refine own_body (plainFor_of_name own_pn_com_example_stablemate_stablemate_SliceHeaps) hn0 (own_ef_add101 a en) ?_
  intro p e s m below meth c T C X
  have KK := Keep.refl h0 [a]
  refine own_iloadN C X own_d3_0 rfl (pc' := 1) rfl ?_
  refine own_istore C X own_d3_1 (L' := #[.val (.ref a), .val (.int (0 : Int32)), .val (.int (1 : Int32)), .val (.long en), .second, .val (.int (1 : Int32))]) rfl (pc' := 3) rfl ?_
  refine own_iload C X own_d3_3 rfl (pc' := 5) rfl ?_
  refine own_if_le C X own_d3_5 (pcT := 50) (pc' := 8) (by decide) (by decide) rfl (fun hc5 => absurd hc5 (by decide)) (fun hc5 => ?_)
  refine own_aloadN C X own_d3_8 rfl rfl (pc' := 9) rfl ?_
  refine own_iloadN C X own_d3_9 rfl (pc' := 10) rfl ?_
  refine own_iload C X own_d3_10 rfl (pc' := 12) rfl ?_
  refine own_iconst C X own_d3_12 (v := 1) (by decide) (pc' := 13) rfl ?_
  refine own_isub C X own_d3_13 (z := 0) (by decide) (pc' := 14) rfl ?_
  refine own_iconst C X own_d3_14 (v := 2) (by decide) (pc' := 15) rfl ?_
  refine own_idiv C X own_d3_15 (by decide) (z := 0) (by decide) (pc' := 16) rfl ?_
  refine own_iadd C X own_d3_16 (z := 0) (by decide) (pc' := 17) rfl ?_
  refine own_laload C X own_d3_17 A (by decide) (i := 0) rfl (pc' := 18) rfl ?_
  refine own_lloadN C X own_d3_18 rfl (pc' := 19) rfl ?_
  refine own_lcmp_ge C X own_d3_19 own_d3_20 (pcT := 50) (pc' := 23) (by decide) (by decide) rfl (fun hc19 => absurd hc19 (not_not_intro g0)) (fun hc19 => ?_)
  refine own_aloadN C X own_d3_23 rfl rfl (pc' := 24) rfl ?_
  refine own_iloadN C X own_d3_24 rfl (pc' := 25) rfl ?_
  refine own_iload C X own_d3_25 rfl (pc' := 27) rfl ?_
  refine own_iadd C X own_d3_27 (z := 1) (by decide) (pc' := 28) rfl ?_
  refine own_aloadN C X own_d3_28 rfl rfl (pc' := 29) rfl ?_
  refine own_iloadN C X own_d3_29 rfl (pc' := 30) rfl ?_
  refine own_iload C X own_d3_30 rfl (pc' := 32) rfl ?_
  refine own_iconst C X own_d3_32 (v := 1) (by decide) (pc' := 33) rfl ?_
  refine own_isub C X own_d3_33 (z := 0) (by decide) (pc' := 34) rfl ?_
  refine own_iconst C X own_d3_34 (v := 2) (by decide) (pc' := 35) rfl ?_
  refine own_idiv C X own_d3_35 (by decide) (z := 0) (by decide) (pc' := 36) rfl ?_
  refine own_iadd C X own_d3_36 (z := 0) (by decide) (pc' := 37) rfl ?_
  refine own_laload C X own_d3_37 A (by decide) (i := 0) rfl (pc' := 38) rfl ?_
  refine own_lastore C X own_d3_38 A (by decide) (i := 1) (Nat.le_of_ble_eq_true rfl) ge_a (pc' := 39) rfl ?_
  intro T h X K_ A_
  have A : own_JA Z h a [x0, x0, x2, x3, x4, x5, x6, x7] := A_
  have KK := KK.trans K_ (allS (Or.inl (by simp)) all0)
  refine own_iload C X own_d3_39 rfl (pc' := 41) rfl ?_
  refine own_iconst C X own_d3_41 (v := 1) (by decide) (pc' := 42) rfl ?_
  refine own_isub C X own_d3_42 (z := 0) (by decide) (pc' := 43) rfl ?_
  refine own_iconst C X own_d3_43 (v := 2) (by decide) (pc' := 44) rfl ?_
  refine own_idiv C X own_d3_44 (by decide) (z := 0) (by decide) (pc' := 45) rfl ?_
  refine own_istore C X own_d3_45 (L' := #[.val (.ref a), .val (.int (0 : Int32)), .val (.int (1 : Int32)), .val (.long en), .second, .val (.int (0 : Int32))]) rfl (pc' := 47) rfl ?_
  refine own_goto C X own_d3_47 (pc' := 3) (by decide) (by decide) ?_
  refine own_iload C X own_d3_3 rfl (pc' := 5) rfl ?_
  refine own_if_le C X own_d3_5 (pcT := 50) (pc' := 8) (by decide) (by decide) rfl (fun hc5_2 => ?_) (fun hc5_2 => absurd hc5_2 (by decide))
  refine own_aloadN C X own_d3_50 rfl rfl (pc' := 51) rfl ?_
  refine own_iloadN C X own_d3_51 rfl (pc' := 52) rfl ?_
  refine own_iload C X own_d3_52 rfl (pc' := 54) rfl ?_
  refine own_iadd C X own_d3_54 (z := 0) (by decide) (pc' := 55) rfl ?_
  refine own_lloadN C X own_d3_55 rfl (pc' := 56) rfl ?_
  refine own_lastore C X own_d3_56 A (by decide) (i := 0) (Nat.le_of_ble_eq_true rfl) ge_a (pc' := 57) rfl ?_
  intro T h X K_ A_
  have A : own_JA Z h a [en, x0, x2, x3, x4, x5, x6, x7] := A_
  have KK := KK.trans K_ (allS (Or.inl (by simp)) all0)
  exact own_return C X own_d3_57 (Nat.le_of_ble_eq_true rfl) (Nat.le_of_ble_eq_true rfl) (⟨rfl, KK, A⟩)
theorem own_ef_add110 (a : Addr) (en : Int64) (m : MethodId) : entryFrame m #[(.ref a), (.int (1 : Int32)), (.int (1 : Int32)), (.long en)] 6 = mkF m 0 #[.val (.ref a), .val (.int (1 : Int32)), .val (.int (1 : Int32)), .val (.long en), .second, .unset] [] := by first | (simp [entryFrame, mkF, argsToLocals, Value.category]; done) | rfl
set_option maxRecDepth 65536 in
set_option maxHeartbeats 40000000 in
theorem own_m_add110 (l : Launch) (Z : State) (a0 : Array Value) (hw : ∀ d ∈ tables_1, d.before a0 Z = true) (a : Addr) (en : Int64) (h0 : Heap) (n0 : Nat) (hn0 : n0 ≤ h0.size) (x0 x1 x2 x3 x4 x5 x6 x7 : Int64) (A : own_JA Z h0 a [x0, x1, x2, x3, x4, x5, x6, x7]) (ge_a : n0 ≤ a) (g0 : ¬ x1 < en) : own_Met l Z n0 (⟨"com/example/stablemate/stablemate/SliceHeaps", "add", "([JIIJ)V"⟩ : MethodName) prog_40_method_3_code 6 none [] ({ frames := 0, cells := 0, slots := 0, locals := 0 } : Room) #[(.ref a), (.int (1 : Int32)), (.int (1 : Int32)), (.long en)] h0 (fun v h => v = none ∧ Keep h0 h [a] ∧ own_JA Z h a [x0, x1, en, x3, x4, x5, x6, x7]) := by
  refine own_body (plainFor_of_name own_pn_com_example_stablemate_stablemate_SliceHeaps) hn0 (own_ef_add110 a en) ?_
  intro p e s m below meth c T C X
  have KK := Keep.refl h0 [a]
  refine own_iloadN C X own_d3_0 rfl (pc' := 1) rfl ?_
  refine own_istore C X own_d3_1 (L' := #[.val (.ref a), .val (.int (1 : Int32)), .val (.int (1 : Int32)), .val (.long en), .second, .val (.int (1 : Int32))]) rfl (pc' := 3) rfl ?_
  refine own_iload C X own_d3_3 rfl (pc' := 5) rfl ?_
  refine own_if_le C X own_d3_5 (pcT := 50) (pc' := 8) (by decide) (by decide) rfl (fun hc5 => absurd hc5 (by decide)) (fun hc5 => ?_)
  refine own_aloadN C X own_d3_8 rfl rfl (pc' := 9) rfl ?_
  refine own_iloadN C X own_d3_9 rfl (pc' := 10) rfl ?_
  refine own_iload C X own_d3_10 rfl (pc' := 12) rfl ?_
  refine own_iconst C X own_d3_12 (v := 1) (by decide) (pc' := 13) rfl ?_
  refine own_isub C X own_d3_13 (z := 0) (by decide) (pc' := 14) rfl ?_
  refine own_iconst C X own_d3_14 (v := 2) (by decide) (pc' := 15) rfl ?_
  refine own_idiv C X own_d3_15 (by decide) (z := 0) (by decide) (pc' := 16) rfl ?_
  refine own_iadd C X own_d3_16 (z := 1) (by decide) (pc' := 17) rfl ?_
  refine own_laload C X own_d3_17 A (by decide) (i := 1) rfl (pc' := 18) rfl ?_
  refine own_lloadN C X own_d3_18 rfl (pc' := 19) rfl ?_
  refine own_lcmp_ge C X own_d3_19 own_d3_20 (pcT := 50) (pc' := 23) (by decide) (by decide) rfl (fun hc19 => ?_) (fun hc19 => absurd hc19 (g0))
  refine own_aloadN C X own_d3_50 rfl rfl (pc' := 51) rfl ?_
  refine own_iloadN C X own_d3_51 rfl (pc' := 52) rfl ?_
  refine own_iload C X own_d3_52 rfl (pc' := 54) rfl ?_
  refine own_iadd C X own_d3_54 (z := 2) (by decide) (pc' := 55) rfl ?_
  refine own_lloadN C X own_d3_55 rfl (pc' := 56) rfl ?_
  refine own_lastore C X own_d3_56 A (by decide) (i := 2) (Nat.le_of_ble_eq_true rfl) ge_a (pc' := 57) rfl ?_
  intro T h X K_ A_
  have A : own_JA Z h a [x0, x1, en, x3, x4, x5, x6, x7] := A_
  have KK := KK.trans K_ (allS (Or.inl (by simp)) all0)
  exact own_return C X own_d3_57 (Nat.le_of_ble_eq_true rfl) (Nat.le_of_ble_eq_true rfl) (⟨rfl, KK, A⟩)
theorem own_ef_add111 (a : Addr) (en : Int64) (m : MethodId) : entryFrame m #[(.ref a), (.int (1 : Int32)), (.int (1 : Int32)), (.long en)] 6 = mkF m 0 #[.val (.ref a), .val (.int (1 : Int32)), .val (.int (1 : Int32)), .val (.long en), .second, .unset] [] := by first | (simp [entryFrame, mkF, argsToLocals, Value.category]; done) | rfl
set_option maxRecDepth 65536 in
set_option maxHeartbeats 40000000 in
theorem own_m_add111 (l : Launch) (Z : State) (a0 : Array Value) (hw : ∀ d ∈ tables_1, d.before a0 Z = true) (a : Addr) (en : Int64) (h0 : Heap) (n0 : Nat) (hn0 : n0 ≤ h0.size) (x0 x1 x2 x3 x4 x5 x6 x7 : Int64) (A : own_JA Z h0 a [x0, x1, x2, x3, x4, x5, x6, x7]) (ge_a : n0 ≤ a) (g0 : x1 < en) : own_Met l Z n0 (⟨"com/example/stablemate/stablemate/SliceHeaps", "add", "([JIIJ)V"⟩ : MethodName) prog_40_method_3_code 6 none [] ({ frames := 0, cells := 0, slots := 0, locals := 0 } : Room) #[(.ref a), (.int (1 : Int32)), (.int (1 : Int32)), (.long en)] h0 (fun v h => v = none ∧ Keep h0 h [a] ∧ own_JA Z h a [x0, en, x1, x3, x4, x5, x6, x7]) := by
  refine own_body (plainFor_of_name own_pn_com_example_stablemate_stablemate_SliceHeaps) hn0 (own_ef_add111 a en) ?_
  intro p e s m below meth c T C X
  have KK := Keep.refl h0 [a]
  refine own_iloadN C X own_d3_0 rfl (pc' := 1) rfl ?_
  refine own_istore C X own_d3_1 (L' := #[.val (.ref a), .val (.int (1 : Int32)), .val (.int (1 : Int32)), .val (.long en), .second, .val (.int (1 : Int32))]) rfl (pc' := 3) rfl ?_
  refine own_iload C X own_d3_3 rfl (pc' := 5) rfl ?_
  refine own_if_le C X own_d3_5 (pcT := 50) (pc' := 8) (by decide) (by decide) rfl (fun hc5 => absurd hc5 (by decide)) (fun hc5 => ?_)
  refine own_aloadN C X own_d3_8 rfl rfl (pc' := 9) rfl ?_
  refine own_iloadN C X own_d3_9 rfl (pc' := 10) rfl ?_
  refine own_iload C X own_d3_10 rfl (pc' := 12) rfl ?_
  refine own_iconst C X own_d3_12 (v := 1) (by decide) (pc' := 13) rfl ?_
  refine own_isub C X own_d3_13 (z := 0) (by decide) (pc' := 14) rfl ?_
  refine own_iconst C X own_d3_14 (v := 2) (by decide) (pc' := 15) rfl ?_
  refine own_idiv C X own_d3_15 (by decide) (z := 0) (by decide) (pc' := 16) rfl ?_
  refine own_iadd C X own_d3_16 (z := 1) (by decide) (pc' := 17) rfl ?_
  refine own_laload C X own_d3_17 A (by decide) (i := 1) rfl (pc' := 18) rfl ?_
  refine own_lloadN C X own_d3_18 rfl (pc' := 19) rfl ?_
  refine own_lcmp_ge C X own_d3_19 own_d3_20 (pcT := 50) (pc' := 23) (by decide) (by decide) rfl (fun hc19 => absurd hc19 (not_not_intro g0)) (fun hc19 => ?_)
  refine own_aloadN C X own_d3_23 rfl rfl (pc' := 24) rfl ?_
  refine own_iloadN C X own_d3_24 rfl (pc' := 25) rfl ?_
  refine own_iload C X own_d3_25 rfl (pc' := 27) rfl ?_
  refine own_iadd C X own_d3_27 (z := 2) (by decide) (pc' := 28) rfl ?_
  refine own_aloadN C X own_d3_28 rfl rfl (pc' := 29) rfl ?_
  refine own_iloadN C X own_d3_29 rfl (pc' := 30) rfl ?_
  refine own_iload C X own_d3_30 rfl (pc' := 32) rfl ?_
  refine own_iconst C X own_d3_32 (v := 1) (by decide) (pc' := 33) rfl ?_
  refine own_isub C X own_d3_33 (z := 0) (by decide) (pc' := 34) rfl ?_
  refine own_iconst C X own_d3_34 (v := 2) (by decide) (pc' := 35) rfl ?_
  refine own_idiv C X own_d3_35 (by decide) (z := 0) (by decide) (pc' := 36) rfl ?_
  refine own_iadd C X own_d3_36 (z := 1) (by decide) (pc' := 37) rfl ?_
  refine own_laload C X own_d3_37 A (by decide) (i := 1) rfl (pc' := 38) rfl ?_
  refine own_lastore C X own_d3_38 A (by decide) (i := 2) (Nat.le_of_ble_eq_true rfl) ge_a (pc' := 39) rfl ?_
  intro T h X K_ A_
  have A : own_JA Z h a [x0, x1, x1, x3, x4, x5, x6, x7] := A_
  have KK := KK.trans K_ (allS (Or.inl (by simp)) all0)
  refine own_iload C X own_d3_39 rfl (pc' := 41) rfl ?_
  refine own_iconst C X own_d3_41 (v := 1) (by decide) (pc' := 42) rfl ?_
  refine own_isub C X own_d3_42 (z := 0) (by decide) (pc' := 43) rfl ?_
  refine own_iconst C X own_d3_43 (v := 2) (by decide) (pc' := 44) rfl ?_
  refine own_idiv C X own_d3_44 (by decide) (z := 0) (by decide) (pc' := 45) rfl ?_
  refine own_istore C X own_d3_45 (L' := #[.val (.ref a), .val (.int (1 : Int32)), .val (.int (1 : Int32)), .val (.long en), .second, .val (.int (0 : Int32))]) rfl (pc' := 47) rfl ?_
  refine own_goto C X own_d3_47 (pc' := 3) (by decide) (by decide) ?_
  refine own_iload C X own_d3_3 rfl (pc' := 5) rfl ?_
  refine own_if_le C X own_d3_5 (pcT := 50) (pc' := 8) (by decide) (by decide) rfl (fun hc5_2 => ?_) (fun hc5_2 => absurd hc5_2 (by decide))
  refine own_aloadN C X own_d3_50 rfl rfl (pc' := 51) rfl ?_
  refine own_iloadN C X own_d3_51 rfl (pc' := 52) rfl ?_
  refine own_iload C X own_d3_52 rfl (pc' := 54) rfl ?_
  refine own_iadd C X own_d3_54 (z := 1) (by decide) (pc' := 55) rfl ?_
  refine own_lloadN C X own_d3_55 rfl (pc' := 56) rfl ?_
  refine own_lastore C X own_d3_56 A (by decide) (i := 1) (Nat.le_of_ble_eq_true rfl) ge_a (pc' := 57) rfl ?_
  intro T h X K_ A_
  have A : own_JA Z h a [x0, en, x1, x3, x4, x5, x6, x7] := A_
  have KK := KK.trans K_ (allS (Or.inl (by simp)) all0)
  exact own_return C X own_d3_57 (Nat.le_of_ble_eq_true rfl) (Nat.le_of_ble_eq_true rfl) (⟨rfl, KK, A⟩)
theorem own_ef_add200 (a : Addr) (en : Int64) (m : MethodId) : entryFrame m #[(.ref a), (.int (0 : Int32)), (.int (2 : Int32)), (.long en)] 6 = mkF m 0 #[.val (.ref a), .val (.int (0 : Int32)), .val (.int (2 : Int32)), .val (.long en), .second, .unset] [] := by first | (simp [entryFrame, mkF, argsToLocals, Value.category]; done) | rfl
set_option maxRecDepth 65536 in
set_option maxHeartbeats 40000000 in
theorem own_m_add200 (l : Launch) (Z : State) (a0 : Array Value) (hw : ∀ d ∈ tables_1, d.before a0 Z = true) (a : Addr) (en : Int64) (h0 : Heap) (n0 : Nat) (hn0 : n0 ≤ h0.size) (x0 x1 x2 x3 x4 x5 x6 x7 : Int64) (A : own_JA Z h0 a [x0, x1, x2, x3, x4, x5, x6, x7]) (ge_a : n0 ≤ a) (g0 : ¬ x0 < en) : own_Met l Z n0 (⟨"com/example/stablemate/stablemate/SliceHeaps", "add", "([JIIJ)V"⟩ : MethodName) prog_40_method_3_code 6 none [] ({ frames := 0, cells := 0, slots := 0, locals := 0 } : Room) #[(.ref a), (.int (0 : Int32)), (.int (2 : Int32)), (.long en)] h0 (fun v h => v = none ∧ Keep h0 h [a] ∧ own_JA Z h a [x0, x1, en, x3, x4, x5, x6, x7]) := by
  refine own_body (plainFor_of_name own_pn_com_example_stablemate_stablemate_SliceHeaps) hn0 (own_ef_add200 a en) ?_
  intro p e s m below meth c T C X
  have KK := Keep.refl h0 [a]
  refine own_iloadN C X own_d3_0 rfl (pc' := 1) rfl ?_
  refine own_istore C X own_d3_1 (L' := #[.val (.ref a), .val (.int (0 : Int32)), .val (.int (2 : Int32)), .val (.long en), .second, .val (.int (2 : Int32))]) rfl (pc' := 3) rfl ?_
  refine own_iload C X own_d3_3 rfl (pc' := 5) rfl ?_
  refine own_if_le C X own_d3_5 (pcT := 50) (pc' := 8) (by decide) (by decide) rfl (fun hc5 => absurd hc5 (by decide)) (fun hc5 => ?_)
  refine own_aloadN C X own_d3_8 rfl rfl (pc' := 9) rfl ?_
  refine own_iloadN C X own_d3_9 rfl (pc' := 10) rfl ?_
  refine own_iload C X own_d3_10 rfl (pc' := 12) rfl ?_
  refine own_iconst C X own_d3_12 (v := 1) (by decide) (pc' := 13) rfl ?_
  refine own_isub C X own_d3_13 (z := 1) (by decide) (pc' := 14) rfl ?_
  refine own_iconst C X own_d3_14 (v := 2) (by decide) (pc' := 15) rfl ?_
  refine own_idiv C X own_d3_15 (by decide) (z := 0) (by decide) (pc' := 16) rfl ?_
  refine own_iadd C X own_d3_16 (z := 0) (by decide) (pc' := 17) rfl ?_
  refine own_laload C X own_d3_17 A (by decide) (i := 0) rfl (pc' := 18) rfl ?_
  refine own_lloadN C X own_d3_18 rfl (pc' := 19) rfl ?_
  refine own_lcmp_ge C X own_d3_19 own_d3_20 (pcT := 50) (pc' := 23) (by decide) (by decide) rfl (fun hc19 => ?_) (fun hc19 => absurd hc19 (g0))
  refine own_aloadN C X own_d3_50 rfl rfl (pc' := 51) rfl ?_
  refine own_iloadN C X own_d3_51 rfl (pc' := 52) rfl ?_
  refine own_iload C X own_d3_52 rfl (pc' := 54) rfl ?_
  refine own_iadd C X own_d3_54 (z := 2) (by decide) (pc' := 55) rfl ?_
  refine own_lloadN C X own_d3_55 rfl (pc' := 56) rfl ?_
  refine own_lastore C X own_d3_56 A (by decide) (i := 2) (Nat.le_of_ble_eq_true rfl) ge_a (pc' := 57) rfl ?_
  intro T h X K_ A_
  have A : own_JA Z h a [x0, x1, en, x3, x4, x5, x6, x7] := A_
  have KK := KK.trans K_ (allS (Or.inl (by simp)) all0)
  exact own_return C X own_d3_57 (Nat.le_of_ble_eq_true rfl) (Nat.le_of_ble_eq_true rfl) (⟨rfl, KK, A⟩)
theorem own_ef_add201 (a : Addr) (en : Int64) (m : MethodId) : entryFrame m #[(.ref a), (.int (0 : Int32)), (.int (2 : Int32)), (.long en)] 6 = mkF m 0 #[.val (.ref a), .val (.int (0 : Int32)), .val (.int (2 : Int32)), .val (.long en), .second, .unset] [] := by first | (simp [entryFrame, mkF, argsToLocals, Value.category]; done) | rfl
set_option maxRecDepth 65536 in
set_option maxHeartbeats 40000000 in
theorem own_m_add201 (l : Launch) (Z : State) (a0 : Array Value) (hw : ∀ d ∈ tables_1, d.before a0 Z = true) (a : Addr) (en : Int64) (h0 : Heap) (n0 : Nat) (hn0 : n0 ≤ h0.size) (x0 x1 x2 x3 x4 x5 x6 x7 : Int64) (A : own_JA Z h0 a [x0, x1, x2, x3, x4, x5, x6, x7]) (ge_a : n0 ≤ a) (g0 : x0 < en) : own_Met l Z n0 (⟨"com/example/stablemate/stablemate/SliceHeaps", "add", "([JIIJ)V"⟩ : MethodName) prog_40_method_3_code 6 none [] ({ frames := 0, cells := 0, slots := 0, locals := 0 } : Room) #[(.ref a), (.int (0 : Int32)), (.int (2 : Int32)), (.long en)] h0 (fun v h => v = none ∧ Keep h0 h [a] ∧ own_JA Z h a [en, x1, x0, x3, x4, x5, x6, x7]) := by
  refine own_body (plainFor_of_name own_pn_com_example_stablemate_stablemate_SliceHeaps) hn0 (own_ef_add201 a en) ?_
  intro p e s m below meth c T C X
  have KK := Keep.refl h0 [a]
  refine own_iloadN C X own_d3_0 rfl (pc' := 1) rfl ?_
  refine own_istore C X own_d3_1 (L' := #[.val (.ref a), .val (.int (0 : Int32)), .val (.int (2 : Int32)), .val (.long en), .second, .val (.int (2 : Int32))]) rfl (pc' := 3) rfl ?_
  refine own_iload C X own_d3_3 rfl (pc' := 5) rfl ?_
  refine own_if_le C X own_d3_5 (pcT := 50) (pc' := 8) (by decide) (by decide) rfl (fun hc5 => absurd hc5 (by decide)) (fun hc5 => ?_)
  refine own_aloadN C X own_d3_8 rfl rfl (pc' := 9) rfl ?_
  refine own_iloadN C X own_d3_9 rfl (pc' := 10) rfl ?_
  refine own_iload C X own_d3_10 rfl (pc' := 12) rfl ?_
  refine own_iconst C X own_d3_12 (v := 1) (by decide) (pc' := 13) rfl ?_
  refine own_isub C X own_d3_13 (z := 1) (by decide) (pc' := 14) rfl ?_
  refine own_iconst C X own_d3_14 (v := 2) (by decide) (pc' := 15) rfl ?_
  refine own_idiv C X own_d3_15 (by decide) (z := 0) (by decide) (pc' := 16) rfl ?_
  refine own_iadd C X own_d3_16 (z := 0) (by decide) (pc' := 17) rfl ?_
  refine own_laload C X own_d3_17 A (by decide) (i := 0) rfl (pc' := 18) rfl ?_
  refine own_lloadN C X own_d3_18 rfl (pc' := 19) rfl ?_
  refine own_lcmp_ge C X own_d3_19 own_d3_20 (pcT := 50) (pc' := 23) (by decide) (by decide) rfl (fun hc19 => absurd hc19 (not_not_intro g0)) (fun hc19 => ?_)
  refine own_aloadN C X own_d3_23 rfl rfl (pc' := 24) rfl ?_
  refine own_iloadN C X own_d3_24 rfl (pc' := 25) rfl ?_
  refine own_iload C X own_d3_25 rfl (pc' := 27) rfl ?_
  refine own_iadd C X own_d3_27 (z := 2) (by decide) (pc' := 28) rfl ?_
  refine own_aloadN C X own_d3_28 rfl rfl (pc' := 29) rfl ?_
  refine own_iloadN C X own_d3_29 rfl (pc' := 30) rfl ?_
  refine own_iload C X own_d3_30 rfl (pc' := 32) rfl ?_
  refine own_iconst C X own_d3_32 (v := 1) (by decide) (pc' := 33) rfl ?_
  refine own_isub C X own_d3_33 (z := 1) (by decide) (pc' := 34) rfl ?_
  refine own_iconst C X own_d3_34 (v := 2) (by decide) (pc' := 35) rfl ?_
  refine own_idiv C X own_d3_35 (by decide) (z := 0) (by decide) (pc' := 36) rfl ?_
  refine own_iadd C X own_d3_36 (z := 0) (by decide) (pc' := 37) rfl ?_
  refine own_laload C X own_d3_37 A (by decide) (i := 0) rfl (pc' := 38) rfl ?_
  refine own_lastore C X own_d3_38 A (by decide) (i := 2) (Nat.le_of_ble_eq_true rfl) ge_a (pc' := 39) rfl ?_
  intro T h X K_ A_
  have A : own_JA Z h a [x0, x1, x0, x3, x4, x5, x6, x7] := A_
  have KK := KK.trans K_ (allS (Or.inl (by simp)) all0)
  refine own_iload C X own_d3_39 rfl (pc' := 41) rfl ?_
  refine own_iconst C X own_d3_41 (v := 1) (by decide) (pc' := 42) rfl ?_
  refine own_isub C X own_d3_42 (z := 1) (by decide) (pc' := 43) rfl ?_
  refine own_iconst C X own_d3_43 (v := 2) (by decide) (pc' := 44) rfl ?_
  refine own_idiv C X own_d3_44 (by decide) (z := 0) (by decide) (pc' := 45) rfl ?_
  refine own_istore C X own_d3_45 (L' := #[.val (.ref a), .val (.int (0 : Int32)), .val (.int (2 : Int32)), .val (.long en), .second, .val (.int (0 : Int32))]) rfl (pc' := 47) rfl ?_
  refine own_goto C X own_d3_47 (pc' := 3) (by decide) (by decide) ?_
  refine own_iload C X own_d3_3 rfl (pc' := 5) rfl ?_
  refine own_if_le C X own_d3_5 (pcT := 50) (pc' := 8) (by decide) (by decide) rfl (fun hc5_2 => ?_) (fun hc5_2 => absurd hc5_2 (by decide))
  refine own_aloadN C X own_d3_50 rfl rfl (pc' := 51) rfl ?_
  refine own_iloadN C X own_d3_51 rfl (pc' := 52) rfl ?_
  refine own_iload C X own_d3_52 rfl (pc' := 54) rfl ?_
  refine own_iadd C X own_d3_54 (z := 0) (by decide) (pc' := 55) rfl ?_
  refine own_lloadN C X own_d3_55 rfl (pc' := 56) rfl ?_
  refine own_lastore C X own_d3_56 A (by decide) (i := 0) (Nat.le_of_ble_eq_true rfl) ge_a (pc' := 57) rfl ?_
  intro T h X K_ A_
  have A : own_JA Z h a [en, x1, x0, x3, x4, x5, x6, x7] := A_
  have KK := KK.trans K_ (allS (Or.inl (by simp)) all0)
  exact own_return C X own_d3_57 (Nat.le_of_ble_eq_true rfl) (Nat.le_of_ble_eq_true rfl) (⟨rfl, KK, A⟩)
theorem own_ef_add210 (a : Addr) (en : Int64) (m : MethodId) : entryFrame m #[(.ref a), (.int (1 : Int32)), (.int (2 : Int32)), (.long en)] 6 = mkF m 0 #[.val (.ref a), .val (.int (1 : Int32)), .val (.int (2 : Int32)), .val (.long en), .second, .unset] [] := by first | (simp [entryFrame, mkF, argsToLocals, Value.category]; done) | rfl
set_option maxRecDepth 65536 in
set_option maxHeartbeats 40000000 in
theorem own_m_add210 (l : Launch) (Z : State) (a0 : Array Value) (hw : ∀ d ∈ tables_1, d.before a0 Z = true) (a : Addr) (en : Int64) (h0 : Heap) (n0 : Nat) (hn0 : n0 ≤ h0.size) (x0 x1 x2 x3 x4 x5 x6 x7 : Int64) (A : own_JA Z h0 a [x0, x1, x2, x3, x4, x5, x6, x7]) (ge_a : n0 ≤ a) (g0 : ¬ x1 < en) : own_Met l Z n0 (⟨"com/example/stablemate/stablemate/SliceHeaps", "add", "([JIIJ)V"⟩ : MethodName) prog_40_method_3_code 6 none [] ({ frames := 0, cells := 0, slots := 0, locals := 0 } : Room) #[(.ref a), (.int (1 : Int32)), (.int (2 : Int32)), (.long en)] h0 (fun v h => v = none ∧ Keep h0 h [a] ∧ own_JA Z h a [x0, x1, x2, en, x4, x5, x6, x7]) := by
  refine own_body (plainFor_of_name own_pn_com_example_stablemate_stablemate_SliceHeaps) hn0 (own_ef_add210 a en) ?_
  intro p e s m below meth c T C X
  have KK := Keep.refl h0 [a]
  refine own_iloadN C X own_d3_0 rfl (pc' := 1) rfl ?_
  refine own_istore C X own_d3_1 (L' := #[.val (.ref a), .val (.int (1 : Int32)), .val (.int (2 : Int32)), .val (.long en), .second, .val (.int (2 : Int32))]) rfl (pc' := 3) rfl ?_
  refine own_iload C X own_d3_3 rfl (pc' := 5) rfl ?_
  refine own_if_le C X own_d3_5 (pcT := 50) (pc' := 8) (by decide) (by decide) rfl (fun hc5 => absurd hc5 (by decide)) (fun hc5 => ?_)
  refine own_aloadN C X own_d3_8 rfl rfl (pc' := 9) rfl ?_
  refine own_iloadN C X own_d3_9 rfl (pc' := 10) rfl ?_
  refine own_iload C X own_d3_10 rfl (pc' := 12) rfl ?_
  refine own_iconst C X own_d3_12 (v := 1) (by decide) (pc' := 13) rfl ?_
  refine own_isub C X own_d3_13 (z := 1) (by decide) (pc' := 14) rfl ?_
  refine own_iconst C X own_d3_14 (v := 2) (by decide) (pc' := 15) rfl ?_
  refine own_idiv C X own_d3_15 (by decide) (z := 0) (by decide) (pc' := 16) rfl ?_
  refine own_iadd C X own_d3_16 (z := 1) (by decide) (pc' := 17) rfl ?_
  refine own_laload C X own_d3_17 A (by decide) (i := 1) rfl (pc' := 18) rfl ?_
  refine own_lloadN C X own_d3_18 rfl (pc' := 19) rfl ?_
  refine own_lcmp_ge C X own_d3_19 own_d3_20 (pcT := 50) (pc' := 23) (by decide) (by decide) rfl (fun hc19 => ?_) (fun hc19 => absurd hc19 (g0))
  refine own_aloadN C X own_d3_50 rfl rfl (pc' := 51) rfl ?_
  refine own_iloadN C X own_d3_51 rfl (pc' := 52) rfl ?_
  refine own_iload C X own_d3_52 rfl (pc' := 54) rfl ?_
  refine own_iadd C X own_d3_54 (z := 3) (by decide) (pc' := 55) rfl ?_
  refine own_lloadN C X own_d3_55 rfl (pc' := 56) rfl ?_
  refine own_lastore C X own_d3_56 A (by decide) (i := 3) (Nat.le_of_ble_eq_true rfl) ge_a (pc' := 57) rfl ?_
  intro T h X K_ A_
  have A : own_JA Z h a [x0, x1, x2, en, x4, x5, x6, x7] := A_
  have KK := KK.trans K_ (allS (Or.inl (by simp)) all0)
  exact own_return C X own_d3_57 (Nat.le_of_ble_eq_true rfl) (Nat.le_of_ble_eq_true rfl) (⟨rfl, KK, A⟩)
theorem own_ef_add211 (a : Addr) (en : Int64) (m : MethodId) : entryFrame m #[(.ref a), (.int (1 : Int32)), (.int (2 : Int32)), (.long en)] 6 = mkF m 0 #[.val (.ref a), .val (.int (1 : Int32)), .val (.int (2 : Int32)), .val (.long en), .second, .unset] [] := by first | (simp [entryFrame, mkF, argsToLocals, Value.category]; done) | rfl
set_option maxRecDepth 65536 in
set_option maxHeartbeats 40000000 in
theorem own_m_add211 (l : Launch) (Z : State) (a0 : Array Value) (hw : ∀ d ∈ tables_1, d.before a0 Z = true) (a : Addr) (en : Int64) (h0 : Heap) (n0 : Nat) (hn0 : n0 ≤ h0.size) (x0 x1 x2 x3 x4 x5 x6 x7 : Int64) (A : own_JA Z h0 a [x0, x1, x2, x3, x4, x5, x6, x7]) (ge_a : n0 ≤ a) (g0 : x1 < en) : own_Met l Z n0 (⟨"com/example/stablemate/stablemate/SliceHeaps", "add", "([JIIJ)V"⟩ : MethodName) prog_40_method_3_code 6 none [] ({ frames := 0, cells := 0, slots := 0, locals := 0 } : Room) #[(.ref a), (.int (1 : Int32)), (.int (2 : Int32)), (.long en)] h0 (fun v h => v = none ∧ Keep h0 h [a] ∧ own_JA Z h a [x0, en, x2, x1, x4, x5, x6, x7]) := by
  refine own_body (plainFor_of_name own_pn_com_example_stablemate_stablemate_SliceHeaps) hn0 (own_ef_add211 a en) ?_
  intro p e s m below meth c T C X
  have KK := Keep.refl h0 [a]
  refine own_iloadN C X own_d3_0 rfl (pc' := 1) rfl ?_
  refine own_istore C X own_d3_1 (L' := #[.val (.ref a), .val (.int (1 : Int32)), .val (.int (2 : Int32)), .val (.long en), .second, .val (.int (2 : Int32))]) rfl (pc' := 3) rfl ?_
  refine own_iload C X own_d3_3 rfl (pc' := 5) rfl ?_
  refine own_if_le C X own_d3_5 (pcT := 50) (pc' := 8) (by decide) (by decide) rfl (fun hc5 => absurd hc5 (by decide)) (fun hc5 => ?_)
  refine own_aloadN C X own_d3_8 rfl rfl (pc' := 9) rfl ?_
  refine own_iloadN C X own_d3_9 rfl (pc' := 10) rfl ?_
  refine own_iload C X own_d3_10 rfl (pc' := 12) rfl ?_
  refine own_iconst C X own_d3_12 (v := 1) (by decide) (pc' := 13) rfl ?_
  refine own_isub C X own_d3_13 (z := 1) (by decide) (pc' := 14) rfl ?_
  refine own_iconst C X own_d3_14 (v := 2) (by decide) (pc' := 15) rfl ?_
  refine own_idiv C X own_d3_15 (by decide) (z := 0) (by decide) (pc' := 16) rfl ?_
  refine own_iadd C X own_d3_16 (z := 1) (by decide) (pc' := 17) rfl ?_
  refine own_laload C X own_d3_17 A (by decide) (i := 1) rfl (pc' := 18) rfl ?_
  refine own_lloadN C X own_d3_18 rfl (pc' := 19) rfl ?_
  refine own_lcmp_ge C X own_d3_19 own_d3_20 (pcT := 50) (pc' := 23) (by decide) (by decide) rfl (fun hc19 => absurd hc19 (not_not_intro g0)) (fun hc19 => ?_)
  refine own_aloadN C X own_d3_23 rfl rfl (pc' := 24) rfl ?_
  refine own_iloadN C X own_d3_24 rfl (pc' := 25) rfl ?_
  refine own_iload C X own_d3_25 rfl (pc' := 27) rfl ?_
  refine own_iadd C X own_d3_27 (z := 3) (by decide) (pc' := 28) rfl ?_
  refine own_aloadN C X own_d3_28 rfl rfl (pc' := 29) rfl ?_
  refine own_iloadN C X own_d3_29 rfl (pc' := 30) rfl ?_
  refine own_iload C X own_d3_30 rfl (pc' := 32) rfl ?_
  refine own_iconst C X own_d3_32 (v := 1) (by decide) (pc' := 33) rfl ?_
  refine own_isub C X own_d3_33 (z := 1) (by decide) (pc' := 34) rfl ?_
  refine own_iconst C X own_d3_34 (v := 2) (by decide) (pc' := 35) rfl ?_
  refine own_idiv C X own_d3_35 (by decide) (z := 0) (by decide) (pc' := 36) rfl ?_
  refine own_iadd C X own_d3_36 (z := 1) (by decide) (pc' := 37) rfl ?_
  refine own_laload C X own_d3_37 A (by decide) (i := 1) rfl (pc' := 38) rfl ?_
  refine own_lastore C X own_d3_38 A (by decide) (i := 3) (Nat.le_of_ble_eq_true rfl) ge_a (pc' := 39) rfl ?_
  intro T h X K_ A_
  have A : own_JA Z h a [x0, x1, x2, x1, x4, x5, x6, x7] := A_
  have KK := KK.trans K_ (allS (Or.inl (by simp)) all0)
  refine own_iload C X own_d3_39 rfl (pc' := 41) rfl ?_
  refine own_iconst C X own_d3_41 (v := 1) (by decide) (pc' := 42) rfl ?_
  refine own_isub C X own_d3_42 (z := 1) (by decide) (pc' := 43) rfl ?_
  refine own_iconst C X own_d3_43 (v := 2) (by decide) (pc' := 44) rfl ?_
  refine own_idiv C X own_d3_44 (by decide) (z := 0) (by decide) (pc' := 45) rfl ?_
  refine own_istore C X own_d3_45 (L' := #[.val (.ref a), .val (.int (1 : Int32)), .val (.int (2 : Int32)), .val (.long en), .second, .val (.int (0 : Int32))]) rfl (pc' := 47) rfl ?_
  refine own_goto C X own_d3_47 (pc' := 3) (by decide) (by decide) ?_
  refine own_iload C X own_d3_3 rfl (pc' := 5) rfl ?_
  refine own_if_le C X own_d3_5 (pcT := 50) (pc' := 8) (by decide) (by decide) rfl (fun hc5_2 => ?_) (fun hc5_2 => absurd hc5_2 (by decide))
  refine own_aloadN C X own_d3_50 rfl rfl (pc' := 51) rfl ?_
  refine own_iloadN C X own_d3_51 rfl (pc' := 52) rfl ?_
  refine own_iload C X own_d3_52 rfl (pc' := 54) rfl ?_
  refine own_iadd C X own_d3_54 (z := 1) (by decide) (pc' := 55) rfl ?_
  refine own_lloadN C X own_d3_55 rfl (pc' := 56) rfl ?_
  refine own_lastore C X own_d3_56 A (by decide) (i := 1) (Nat.le_of_ble_eq_true rfl) ge_a (pc' := 57) rfl ?_
  intro T h X K_ A_
  have A : own_JA Z h a [x0, en, x2, x1, x4, x5, x6, x7] := A_
  have KK := KK.trans K_ (allS (Or.inl (by simp)) all0)
  exact own_return C X own_d3_57 (Nat.le_of_ble_eq_true rfl) (Nat.le_of_ble_eq_true rfl) (⟨rfl, KK, A⟩)
theorem own_ef_add300 (a : Addr) (en : Int64) (m : MethodId) : entryFrame m #[(.ref a), (.int (0 : Int32)), (.int (3 : Int32)), (.long en)] 6 = mkF m 0 #[.val (.ref a), .val (.int (0 : Int32)), .val (.int (3 : Int32)), .val (.long en), .second, .unset] [] := by first | (simp [entryFrame, mkF, argsToLocals, Value.category]; done) | rfl
set_option maxRecDepth 65536 in
set_option maxHeartbeats 40000000 in
theorem own_m_add300 (l : Launch) (Z : State) (a0 : Array Value) (hw : ∀ d ∈ tables_1, d.before a0 Z = true) (a : Addr) (en : Int64) (h0 : Heap) (n0 : Nat) (hn0 : n0 ≤ h0.size) (x0 x1 x2 x3 x4 x5 x6 x7 : Int64) (A : own_JA Z h0 a [x0, x1, x2, x3, x4, x5, x6, x7]) (ge_a : n0 ≤ a) (g0 : ¬ x1 < en) : own_Met l Z n0 (⟨"com/example/stablemate/stablemate/SliceHeaps", "add", "([JIIJ)V"⟩ : MethodName) prog_40_method_3_code 6 none [] ({ frames := 0, cells := 0, slots := 0, locals := 0 } : Room) #[(.ref a), (.int (0 : Int32)), (.int (3 : Int32)), (.long en)] h0 (fun v h => v = none ∧ Keep h0 h [a] ∧ own_JA Z h a [x0, x1, x2, en, x4, x5, x6, x7]) := by
  refine own_body (plainFor_of_name own_pn_com_example_stablemate_stablemate_SliceHeaps) hn0 (own_ef_add300 a en) ?_
  intro p e s m below meth c T C X
  have KK := Keep.refl h0 [a]
  refine own_iloadN C X own_d3_0 rfl (pc' := 1) rfl ?_
  refine own_istore C X own_d3_1 (L' := #[.val (.ref a), .val (.int (0 : Int32)), .val (.int (3 : Int32)), .val (.long en), .second, .val (.int (3 : Int32))]) rfl (pc' := 3) rfl ?_
  refine own_iload C X own_d3_3 rfl (pc' := 5) rfl ?_
  refine own_if_le C X own_d3_5 (pcT := 50) (pc' := 8) (by decide) (by decide) rfl (fun hc5 => absurd hc5 (by decide)) (fun hc5 => ?_)
  refine own_aloadN C X own_d3_8 rfl rfl (pc' := 9) rfl ?_
  refine own_iloadN C X own_d3_9 rfl (pc' := 10) rfl ?_
  refine own_iload C X own_d3_10 rfl (pc' := 12) rfl ?_
  refine own_iconst C X own_d3_12 (v := 1) (by decide) (pc' := 13) rfl ?_
  refine own_isub C X own_d3_13 (z := 2) (by decide) (pc' := 14) rfl ?_
  refine own_iconst C X own_d3_14 (v := 2) (by decide) (pc' := 15) rfl ?_
  refine own_idiv C X own_d3_15 (by decide) (z := 1) (by decide) (pc' := 16) rfl ?_
  refine own_iadd C X own_d3_16 (z := 1) (by decide) (pc' := 17) rfl ?_
  refine own_laload C X own_d3_17 A (by decide) (i := 1) rfl (pc' := 18) rfl ?_
  refine own_lloadN C X own_d3_18 rfl (pc' := 19) rfl ?_
  refine own_lcmp_ge C X own_d3_19 own_d3_20 (pcT := 50) (pc' := 23) (by decide) (by decide) rfl (fun hc19 => ?_) (fun hc19 => absurd hc19 (g0))
  refine own_aloadN C X own_d3_50 rfl rfl (pc' := 51) rfl ?_
  refine own_iloadN C X own_d3_51 rfl (pc' := 52) rfl ?_
  refine own_iload C X own_d3_52 rfl (pc' := 54) rfl ?_
  refine own_iadd C X own_d3_54 (z := 3) (by decide) (pc' := 55) rfl ?_
  refine own_lloadN C X own_d3_55 rfl (pc' := 56) rfl ?_
  refine own_lastore C X own_d3_56 A (by decide) (i := 3) (Nat.le_of_ble_eq_true rfl) ge_a (pc' := 57) rfl ?_
  intro T h X K_ A_
  have A : own_JA Z h a [x0, x1, x2, en, x4, x5, x6, x7] := A_
  have KK := KK.trans K_ (allS (Or.inl (by simp)) all0)
  exact own_return C X own_d3_57 (Nat.le_of_ble_eq_true rfl) (Nat.le_of_ble_eq_true rfl) (⟨rfl, KK, A⟩)
theorem own_ef_add301 (a : Addr) (en : Int64) (m : MethodId) : entryFrame m #[(.ref a), (.int (0 : Int32)), (.int (3 : Int32)), (.long en)] 6 = mkF m 0 #[.val (.ref a), .val (.int (0 : Int32)), .val (.int (3 : Int32)), .val (.long en), .second, .unset] [] := by first | (simp [entryFrame, mkF, argsToLocals, Value.category]; done) | rfl
set_option maxRecDepth 65536 in
set_option maxHeartbeats 40000000 in
theorem own_m_add301 (l : Launch) (Z : State) (a0 : Array Value) (hw : ∀ d ∈ tables_1, d.before a0 Z = true) (a : Addr) (en : Int64) (h0 : Heap) (n0 : Nat) (hn0 : n0 ≤ h0.size) (x0 x1 x2 x3 x4 x5 x6 x7 : Int64) (A : own_JA Z h0 a [x0, x1, x2, x3, x4, x5, x6, x7]) (ge_a : n0 ≤ a) (g0 : x1 < en) (g1 : ¬ x0 < en) : own_Met l Z n0 (⟨"com/example/stablemate/stablemate/SliceHeaps", "add", "([JIIJ)V"⟩ : MethodName) prog_40_method_3_code 6 none [] ({ frames := 0, cells := 0, slots := 0, locals := 0 } : Room) #[(.ref a), (.int (0 : Int32)), (.int (3 : Int32)), (.long en)] h0 (fun v h => v = none ∧ Keep h0 h [a] ∧ own_JA Z h a [x0, en, x2, x1, x4, x5, x6, x7]) := by
  refine own_body (plainFor_of_name own_pn_com_example_stablemate_stablemate_SliceHeaps) hn0 (own_ef_add301 a en) ?_
  intro p e s m below meth c T C X
  have KK := Keep.refl h0 [a]
  refine own_iloadN C X own_d3_0 rfl (pc' := 1) rfl ?_
  refine own_istore C X own_d3_1 (L' := #[.val (.ref a), .val (.int (0 : Int32)), .val (.int (3 : Int32)), .val (.long en), .second, .val (.int (3 : Int32))]) rfl (pc' := 3) rfl ?_
  refine own_iload C X own_d3_3 rfl (pc' := 5) rfl ?_
  refine own_if_le C X own_d3_5 (pcT := 50) (pc' := 8) (by decide) (by decide) rfl (fun hc5 => absurd hc5 (by decide)) (fun hc5 => ?_)
  refine own_aloadN C X own_d3_8 rfl rfl (pc' := 9) rfl ?_
  refine own_iloadN C X own_d3_9 rfl (pc' := 10) rfl ?_
  refine own_iload C X own_d3_10 rfl (pc' := 12) rfl ?_
  refine own_iconst C X own_d3_12 (v := 1) (by decide) (pc' := 13) rfl ?_
  refine own_isub C X own_d3_13 (z := 2) (by decide) (pc' := 14) rfl ?_
  refine own_iconst C X own_d3_14 (v := 2) (by decide) (pc' := 15) rfl ?_
  refine own_idiv C X own_d3_15 (by decide) (z := 1) (by decide) (pc' := 16) rfl ?_
  refine own_iadd C X own_d3_16 (z := 1) (by decide) (pc' := 17) rfl ?_
  refine own_laload C X own_d3_17 A (by decide) (i := 1) rfl (pc' := 18) rfl ?_
  refine own_lloadN C X own_d3_18 rfl (pc' := 19) rfl ?_
  refine own_lcmp_ge C X own_d3_19 own_d3_20 (pcT := 50) (pc' := 23) (by decide) (by decide) rfl (fun hc19 => absurd hc19 (not_not_intro g0)) (fun hc19 => ?_)
  refine own_aloadN C X own_d3_23 rfl rfl (pc' := 24) rfl ?_
  refine own_iloadN C X own_d3_24 rfl (pc' := 25) rfl ?_
  refine own_iload C X own_d3_25 rfl (pc' := 27) rfl ?_
  refine own_iadd C X own_d3_27 (z := 3) (by decide) (pc' := 28) rfl ?_
  refine own_aloadN C X own_d3_28 rfl rfl (pc' := 29) rfl ?_
  refine own_iloadN C X own_d3_29 rfl (pc' := 30) rfl ?_
  refine own_iload C X own_d3_30 rfl (pc' := 32) rfl ?_
  refine own_iconst C X own_d3_32 (v := 1) (by decide) (pc' := 33) rfl ?_
  refine own_isub C X own_d3_33 (z := 2) (by decide) (pc' := 34) rfl ?_
  refine own_iconst C X own_d3_34 (v := 2) (by decide) (pc' := 35) rfl ?_
  refine own_idiv C X own_d3_35 (by decide) (z := 1) (by decide) (pc' := 36) rfl ?_
  refine own_iadd C X own_d3_36 (z := 1) (by decide) (pc' := 37) rfl ?_
  refine own_laload C X own_d3_37 A (by decide) (i := 1) rfl (pc' := 38) rfl ?_
  refine own_lastore C X own_d3_38 A (by decide) (i := 3) (Nat.le_of_ble_eq_true rfl) ge_a (pc' := 39) rfl ?_
  intro T h X K_ A_
  have A : own_JA Z h a [x0, x1, x2, x1, x4, x5, x6, x7] := A_
  have KK := KK.trans K_ (allS (Or.inl (by simp)) all0)
  refine own_iload C X own_d3_39 rfl (pc' := 41) rfl ?_
  refine own_iconst C X own_d3_41 (v := 1) (by decide) (pc' := 42) rfl ?_
  refine own_isub C X own_d3_42 (z := 2) (by decide) (pc' := 43) rfl ?_
  refine own_iconst C X own_d3_43 (v := 2) (by decide) (pc' := 44) rfl ?_
  refine own_idiv C X own_d3_44 (by decide) (z := 1) (by decide) (pc' := 45) rfl ?_
  refine own_istore C X own_d3_45 (L' := #[.val (.ref a), .val (.int (0 : Int32)), .val (.int (3 : Int32)), .val (.long en), .second, .val (.int (1 : Int32))]) rfl (pc' := 47) rfl ?_
  refine own_goto C X own_d3_47 (pc' := 3) (by decide) (by decide) ?_
  refine own_iload C X own_d3_3 rfl (pc' := 5) rfl ?_
  refine own_if_le C X own_d3_5 (pcT := 50) (pc' := 8) (by decide) (by decide) rfl (fun hc5_2 => absurd hc5_2 (by decide)) (fun hc5_2 => ?_)
  refine own_aloadN C X own_d3_8 rfl rfl (pc' := 9) rfl ?_
  refine own_iloadN C X own_d3_9 rfl (pc' := 10) rfl ?_
  refine own_iload C X own_d3_10 rfl (pc' := 12) rfl ?_
  refine own_iconst C X own_d3_12 (v := 1) (by decide) (pc' := 13) rfl ?_
  refine own_isub C X own_d3_13 (z := 0) (by decide) (pc' := 14) rfl ?_
  refine own_iconst C X own_d3_14 (v := 2) (by decide) (pc' := 15) rfl ?_
  refine own_idiv C X own_d3_15 (by decide) (z := 0) (by decide) (pc' := 16) rfl ?_
  refine own_iadd C X own_d3_16 (z := 0) (by decide) (pc' := 17) rfl ?_
  refine own_laload C X own_d3_17 A (by decide) (i := 0) rfl (pc' := 18) rfl ?_
  refine own_lloadN C X own_d3_18 rfl (pc' := 19) rfl ?_
  refine own_lcmp_ge C X own_d3_19 own_d3_20 (pcT := 50) (pc' := 23) (by decide) (by decide) rfl (fun hc19_2 => ?_) (fun hc19_2 => absurd hc19_2 (g1))
  refine own_aloadN C X own_d3_50 rfl rfl (pc' := 51) rfl ?_
  refine own_iloadN C X own_d3_51 rfl (pc' := 52) rfl ?_
  refine own_iload C X own_d3_52 rfl (pc' := 54) rfl ?_
  refine own_iadd C X own_d3_54 (z := 1) (by decide) (pc' := 55) rfl ?_
  refine own_lloadN C X own_d3_55 rfl (pc' := 56) rfl ?_
  refine own_lastore C X own_d3_56 A (by decide) (i := 1) (Nat.le_of_ble_eq_true rfl) ge_a (pc' := 57) rfl ?_
  intro T h X K_ A_
  have A : own_JA Z h a [x0, en, x2, x1, x4, x5, x6, x7] := A_
  have KK := KK.trans K_ (allS (Or.inl (by simp)) all0)
  exact own_return C X own_d3_57 (Nat.le_of_ble_eq_true rfl) (Nat.le_of_ble_eq_true rfl) (⟨rfl, KK, A⟩)
theorem own_ef_add302 (a : Addr) (en : Int64) (m : MethodId) : entryFrame m #[(.ref a), (.int (0 : Int32)), (.int (3 : Int32)), (.long en)] 6 = mkF m 0 #[.val (.ref a), .val (.int (0 : Int32)), .val (.int (3 : Int32)), .val (.long en), .second, .unset] [] := by first | (simp [entryFrame, mkF, argsToLocals, Value.category]; done) | rfl
set_option maxRecDepth 65536 in
set_option maxHeartbeats 40000000 in
theorem own_m_add302 (l : Launch) (Z : State) (a0 : Array Value) (hw : ∀ d ∈ tables_1, d.before a0 Z = true) (a : Addr) (en : Int64) (h0 : Heap) (n0 : Nat) (hn0 : n0 ≤ h0.size) (x0 x1 x2 x3 x4 x5 x6 x7 : Int64) (A : own_JA Z h0 a [x0, x1, x2, x3, x4, x5, x6, x7]) (ge_a : n0 ≤ a) (g0 : x1 < en) (g1 : x0 < en) : own_Met l Z n0 (⟨"com/example/stablemate/stablemate/SliceHeaps", "add", "([JIIJ)V"⟩ : MethodName) prog_40_method_3_code 6 none [] ({ frames := 0, cells := 0, slots := 0, locals := 0 } : Room) #[(.ref a), (.int (0 : Int32)), (.int (3 : Int32)), (.long en)] h0 (fun v h => v = none ∧ Keep h0 h [a] ∧ own_JA Z h a [en, x0, x2, x1, x4, x5, x6, x7]) := by
  refine own_body (plainFor_of_name own_pn_com_example_stablemate_stablemate_SliceHeaps) hn0 (own_ef_add302 a en) ?_
  intro p e s m below meth c T C X
  have KK := Keep.refl h0 [a]
  refine own_iloadN C X own_d3_0 rfl (pc' := 1) rfl ?_
  refine own_istore C X own_d3_1 (L' := #[.val (.ref a), .val (.int (0 : Int32)), .val (.int (3 : Int32)), .val (.long en), .second, .val (.int (3 : Int32))]) rfl (pc' := 3) rfl ?_
  refine own_iload C X own_d3_3 rfl (pc' := 5) rfl ?_
  refine own_if_le C X own_d3_5 (pcT := 50) (pc' := 8) (by decide) (by decide) rfl (fun hc5 => absurd hc5 (by decide)) (fun hc5 => ?_)
  refine own_aloadN C X own_d3_8 rfl rfl (pc' := 9) rfl ?_
  refine own_iloadN C X own_d3_9 rfl (pc' := 10) rfl ?_
  refine own_iload C X own_d3_10 rfl (pc' := 12) rfl ?_
  refine own_iconst C X own_d3_12 (v := 1) (by decide) (pc' := 13) rfl ?_
  refine own_isub C X own_d3_13 (z := 2) (by decide) (pc' := 14) rfl ?_
  refine own_iconst C X own_d3_14 (v := 2) (by decide) (pc' := 15) rfl ?_
  refine own_idiv C X own_d3_15 (by decide) (z := 1) (by decide) (pc' := 16) rfl ?_
  refine own_iadd C X own_d3_16 (z := 1) (by decide) (pc' := 17) rfl ?_
  refine own_laload C X own_d3_17 A (by decide) (i := 1) rfl (pc' := 18) rfl ?_
  refine own_lloadN C X own_d3_18 rfl (pc' := 19) rfl ?_
  refine own_lcmp_ge C X own_d3_19 own_d3_20 (pcT := 50) (pc' := 23) (by decide) (by decide) rfl (fun hc19 => absurd hc19 (not_not_intro g0)) (fun hc19 => ?_)
  refine own_aloadN C X own_d3_23 rfl rfl (pc' := 24) rfl ?_
  refine own_iloadN C X own_d3_24 rfl (pc' := 25) rfl ?_
  refine own_iload C X own_d3_25 rfl (pc' := 27) rfl ?_
  refine own_iadd C X own_d3_27 (z := 3) (by decide) (pc' := 28) rfl ?_
  refine own_aloadN C X own_d3_28 rfl rfl (pc' := 29) rfl ?_
  refine own_iloadN C X own_d3_29 rfl (pc' := 30) rfl ?_
  refine own_iload C X own_d3_30 rfl (pc' := 32) rfl ?_
  refine own_iconst C X own_d3_32 (v := 1) (by decide) (pc' := 33) rfl ?_
  refine own_isub C X own_d3_33 (z := 2) (by decide) (pc' := 34) rfl ?_
  refine own_iconst C X own_d3_34 (v := 2) (by decide) (pc' := 35) rfl ?_
  refine own_idiv C X own_d3_35 (by decide) (z := 1) (by decide) (pc' := 36) rfl ?_
  refine own_iadd C X own_d3_36 (z := 1) (by decide) (pc' := 37) rfl ?_
  refine own_laload C X own_d3_37 A (by decide) (i := 1) rfl (pc' := 38) rfl ?_
  refine own_lastore C X own_d3_38 A (by decide) (i := 3) (Nat.le_of_ble_eq_true rfl) ge_a (pc' := 39) rfl ?_
  intro T h X K_ A_
  have A : own_JA Z h a [x0, x1, x2, x1, x4, x5, x6, x7] := A_
  have KK := KK.trans K_ (allS (Or.inl (by simp)) all0)
  refine own_iload C X own_d3_39 rfl (pc' := 41) rfl ?_
  refine own_iconst C X own_d3_41 (v := 1) (by decide) (pc' := 42) rfl ?_
  refine own_isub C X own_d3_42 (z := 2) (by decide) (pc' := 43) rfl ?_
  refine own_iconst C X own_d3_43 (v := 2) (by decide) (pc' := 44) rfl ?_
  refine own_idiv C X own_d3_44 (by decide) (z := 1) (by decide) (pc' := 45) rfl ?_
  refine own_istore C X own_d3_45 (L' := #[.val (.ref a), .val (.int (0 : Int32)), .val (.int (3 : Int32)), .val (.long en), .second, .val (.int (1 : Int32))]) rfl (pc' := 47) rfl ?_
  refine own_goto C X own_d3_47 (pc' := 3) (by decide) (by decide) ?_
  refine own_iload C X own_d3_3 rfl (pc' := 5) rfl ?_
  refine own_if_le C X own_d3_5 (pcT := 50) (pc' := 8) (by decide) (by decide) rfl (fun hc5_2 => absurd hc5_2 (by decide)) (fun hc5_2 => ?_)
  refine own_aloadN C X own_d3_8 rfl rfl (pc' := 9) rfl ?_
  refine own_iloadN C X own_d3_9 rfl (pc' := 10) rfl ?_
  refine own_iload C X own_d3_10 rfl (pc' := 12) rfl ?_
  refine own_iconst C X own_d3_12 (v := 1) (by decide) (pc' := 13) rfl ?_
  refine own_isub C X own_d3_13 (z := 0) (by decide) (pc' := 14) rfl ?_
  refine own_iconst C X own_d3_14 (v := 2) (by decide) (pc' := 15) rfl ?_
  refine own_idiv C X own_d3_15 (by decide) (z := 0) (by decide) (pc' := 16) rfl ?_
  refine own_iadd C X own_d3_16 (z := 0) (by decide) (pc' := 17) rfl ?_
  refine own_laload C X own_d3_17 A (by decide) (i := 0) rfl (pc' := 18) rfl ?_
  refine own_lloadN C X own_d3_18 rfl (pc' := 19) rfl ?_
  refine own_lcmp_ge C X own_d3_19 own_d3_20 (pcT := 50) (pc' := 23) (by decide) (by decide) rfl (fun hc19_2 => absurd hc19_2 (not_not_intro g1)) (fun hc19_2 => ?_)
  refine own_aloadN C X own_d3_23 rfl rfl (pc' := 24) rfl ?_
  refine own_iloadN C X own_d3_24 rfl (pc' := 25) rfl ?_
  refine own_iload C X own_d3_25 rfl (pc' := 27) rfl ?_
  refine own_iadd C X own_d3_27 (z := 1) (by decide) (pc' := 28) rfl ?_
  refine own_aloadN C X own_d3_28 rfl rfl (pc' := 29) rfl ?_
  refine own_iloadN C X own_d3_29 rfl (pc' := 30) rfl ?_
  refine own_iload C X own_d3_30 rfl (pc' := 32) rfl ?_
  refine own_iconst C X own_d3_32 (v := 1) (by decide) (pc' := 33) rfl ?_
  refine own_isub C X own_d3_33 (z := 0) (by decide) (pc' := 34) rfl ?_
  refine own_iconst C X own_d3_34 (v := 2) (by decide) (pc' := 35) rfl ?_
  refine own_idiv C X own_d3_35 (by decide) (z := 0) (by decide) (pc' := 36) rfl ?_
  refine own_iadd C X own_d3_36 (z := 0) (by decide) (pc' := 37) rfl ?_
  refine own_laload C X own_d3_37 A (by decide) (i := 0) rfl (pc' := 38) rfl ?_
  refine own_lastore C X own_d3_38 A (by decide) (i := 1) (Nat.le_of_ble_eq_true rfl) ge_a (pc' := 39) rfl ?_
  intro T h X K_ A_
  have A : own_JA Z h a [x0, x0, x2, x1, x4, x5, x6, x7] := A_
  have KK := KK.trans K_ (allS (Or.inl (by simp)) all0)
  refine own_iload C X own_d3_39 rfl (pc' := 41) rfl ?_
  refine own_iconst C X own_d3_41 (v := 1) (by decide) (pc' := 42) rfl ?_
  refine own_isub C X own_d3_42 (z := 0) (by decide) (pc' := 43) rfl ?_
  refine own_iconst C X own_d3_43 (v := 2) (by decide) (pc' := 44) rfl ?_
  refine own_idiv C X own_d3_44 (by decide) (z := 0) (by decide) (pc' := 45) rfl ?_
  refine own_istore C X own_d3_45 (L' := #[.val (.ref a), .val (.int (0 : Int32)), .val (.int (3 : Int32)), .val (.long en), .second, .val (.int (0 : Int32))]) rfl (pc' := 47) rfl ?_
  refine own_goto C X own_d3_47 (pc' := 3) (by decide) (by decide) ?_
  refine own_iload C X own_d3_3 rfl (pc' := 5) rfl ?_
  refine own_if_le C X own_d3_5 (pcT := 50) (pc' := 8) (by decide) (by decide) rfl (fun hc5_3 => ?_) (fun hc5_3 => absurd hc5_3 (by decide))
  refine own_aloadN C X own_d3_50 rfl rfl (pc' := 51) rfl ?_
  refine own_iloadN C X own_d3_51 rfl (pc' := 52) rfl ?_
  refine own_iload C X own_d3_52 rfl (pc' := 54) rfl ?_
  refine own_iadd C X own_d3_54 (z := 0) (by decide) (pc' := 55) rfl ?_
  refine own_lloadN C X own_d3_55 rfl (pc' := 56) rfl ?_
  refine own_lastore C X own_d3_56 A (by decide) (i := 0) (Nat.le_of_ble_eq_true rfl) ge_a (pc' := 57) rfl ?_
  intro T h X K_ A_
  have A : own_JA Z h a [en, x0, x2, x1, x4, x5, x6, x7] := A_
  have KK := KK.trans K_ (allS (Or.inl (by simp)) all0)
  exact own_return C X own_d3_57 (Nat.le_of_ble_eq_true rfl) (Nat.le_of_ble_eq_true rfl) (⟨rfl, KK, A⟩)
theorem own_ef_add310 (a : Addr) (en : Int64) (m : MethodId) : entryFrame m #[(.ref a), (.int (1 : Int32)), (.int (3 : Int32)), (.long en)] 6 = mkF m 0 #[.val (.ref a), .val (.int (1 : Int32)), .val (.int (3 : Int32)), .val (.long en), .second, .unset] [] := by first | (simp [entryFrame, mkF, argsToLocals, Value.category]; done) | rfl
set_option maxRecDepth 65536 in
set_option maxHeartbeats 40000000 in
theorem own_m_add310 (l : Launch) (Z : State) (a0 : Array Value) (hw : ∀ d ∈ tables_1, d.before a0 Z = true) (a : Addr) (en : Int64) (h0 : Heap) (n0 : Nat) (hn0 : n0 ≤ h0.size) (x0 x1 x2 x3 x4 x5 x6 x7 : Int64) (A : own_JA Z h0 a [x0, x1, x2, x3, x4, x5, x6, x7]) (ge_a : n0 ≤ a) (g0 : ¬ x2 < en) : own_Met l Z n0 (⟨"com/example/stablemate/stablemate/SliceHeaps", "add", "([JIIJ)V"⟩ : MethodName) prog_40_method_3_code 6 none [] ({ frames := 0, cells := 0, slots := 0, locals := 0 } : Room) #[(.ref a), (.int (1 : Int32)), (.int (3 : Int32)), (.long en)] h0 (fun v h => v = none ∧ Keep h0 h [a] ∧ own_JA Z h a [x0, x1, x2, x3, en, x5, x6, x7]) := by
  refine own_body (plainFor_of_name own_pn_com_example_stablemate_stablemate_SliceHeaps) hn0 (own_ef_add310 a en) ?_
  intro p e s m below meth c T C X
  have KK := Keep.refl h0 [a]
  refine own_iloadN C X own_d3_0 rfl (pc' := 1) rfl ?_
  refine own_istore C X own_d3_1 (L' := #[.val (.ref a), .val (.int (1 : Int32)), .val (.int (3 : Int32)), .val (.long en), .second, .val (.int (3 : Int32))]) rfl (pc' := 3) rfl ?_
  refine own_iload C X own_d3_3 rfl (pc' := 5) rfl ?_
  refine own_if_le C X own_d3_5 (pcT := 50) (pc' := 8) (by decide) (by decide) rfl (fun hc5 => absurd hc5 (by decide)) (fun hc5 => ?_)
  refine own_aloadN C X own_d3_8 rfl rfl (pc' := 9) rfl ?_
  refine own_iloadN C X own_d3_9 rfl (pc' := 10) rfl ?_
  refine own_iload C X own_d3_10 rfl (pc' := 12) rfl ?_
  refine own_iconst C X own_d3_12 (v := 1) (by decide) (pc' := 13) rfl ?_
  refine own_isub C X own_d3_13 (z := 2) (by decide) (pc' := 14) rfl ?_
  refine own_iconst C X own_d3_14 (v := 2) (by decide) (pc' := 15) rfl ?_
  refine own_idiv C X own_d3_15 (by decide) (z := 1) (by decide) (pc' := 16) rfl ?_
  refine own_iadd C X own_d3_16 (z := 2) (by decide) (pc' := 17) rfl ?_
  refine own_laload C X own_d3_17 A (by decide) (i := 2) rfl (pc' := 18) rfl ?_
  refine own_lloadN C X own_d3_18 rfl (pc' := 19) rfl ?_
  refine own_lcmp_ge C X own_d3_19 own_d3_20 (pcT := 50) (pc' := 23) (by decide) (by decide) rfl (fun hc19 => ?_) (fun hc19 => absurd hc19 (g0))
  refine own_aloadN C X own_d3_50 rfl rfl (pc' := 51) rfl ?_
  refine own_iloadN C X own_d3_51 rfl (pc' := 52) rfl ?_
  refine own_iload C X own_d3_52 rfl (pc' := 54) rfl ?_
  refine own_iadd C X own_d3_54 (z := 4) (by decide) (pc' := 55) rfl ?_
  refine own_lloadN C X own_d3_55 rfl (pc' := 56) rfl ?_
  refine own_lastore C X own_d3_56 A (by decide) (i := 4) (Nat.le_of_ble_eq_true rfl) ge_a (pc' := 57) rfl ?_
  intro T h X K_ A_
  have A : own_JA Z h a [x0, x1, x2, x3, en, x5, x6, x7] := A_
  have KK := KK.trans K_ (allS (Or.inl (by simp)) all0)
  exact own_return C X own_d3_57 (Nat.le_of_ble_eq_true rfl) (Nat.le_of_ble_eq_true rfl) (⟨rfl, KK, A⟩)
theorem own_ef_add311 (a : Addr) (en : Int64) (m : MethodId) : entryFrame m #[(.ref a), (.int (1 : Int32)), (.int (3 : Int32)), (.long en)] 6 = mkF m 0 #[.val (.ref a), .val (.int (1 : Int32)), .val (.int (3 : Int32)), .val (.long en), .second, .unset] [] := by first | (simp [entryFrame, mkF, argsToLocals, Value.category]; done) | rfl
set_option maxRecDepth 65536 in
set_option maxHeartbeats 40000000 in
theorem own_m_add311 (l : Launch) (Z : State) (a0 : Array Value) (hw : ∀ d ∈ tables_1, d.before a0 Z = true) (a : Addr) (en : Int64) (h0 : Heap) (n0 : Nat) (hn0 : n0 ≤ h0.size) (x0 x1 x2 x3 x4 x5 x6 x7 : Int64) (A : own_JA Z h0 a [x0, x1, x2, x3, x4, x5, x6, x7]) (ge_a : n0 ≤ a) (g0 : x2 < en) (g1 : ¬ x1 < en) : own_Met l Z n0 (⟨"com/example/stablemate/stablemate/SliceHeaps", "add", "([JIIJ)V"⟩ : MethodName) prog_40_method_3_code 6 none [] ({ frames := 0, cells := 0, slots := 0, locals := 0 } : Room) #[(.ref a), (.int (1 : Int32)), (.int (3 : Int32)), (.long en)] h0 (fun v h => v = none ∧ Keep h0 h [a] ∧ own_JA Z h a [x0, x1, en, x3, x2, x5, x6, x7]) := by
  refine own_body (plainFor_of_name own_pn_com_example_stablemate_stablemate_SliceHeaps) hn0 (own_ef_add311 a en) ?_
  intro p e s m below meth c T C X
  have KK := Keep.refl h0 [a]
  refine own_iloadN C X own_d3_0 rfl (pc' := 1) rfl ?_
  refine own_istore C X own_d3_1 (L' := #[.val (.ref a), .val (.int (1 : Int32)), .val (.int (3 : Int32)), .val (.long en), .second, .val (.int (3 : Int32))]) rfl (pc' := 3) rfl ?_
  refine own_iload C X own_d3_3 rfl (pc' := 5) rfl ?_
  refine own_if_le C X own_d3_5 (pcT := 50) (pc' := 8) (by decide) (by decide) rfl (fun hc5 => absurd hc5 (by decide)) (fun hc5 => ?_)
  refine own_aloadN C X own_d3_8 rfl rfl (pc' := 9) rfl ?_
  refine own_iloadN C X own_d3_9 rfl (pc' := 10) rfl ?_
  refine own_iload C X own_d3_10 rfl (pc' := 12) rfl ?_
  refine own_iconst C X own_d3_12 (v := 1) (by decide) (pc' := 13) rfl ?_
  refine own_isub C X own_d3_13 (z := 2) (by decide) (pc' := 14) rfl ?_
  refine own_iconst C X own_d3_14 (v := 2) (by decide) (pc' := 15) rfl ?_
  refine own_idiv C X own_d3_15 (by decide) (z := 1) (by decide) (pc' := 16) rfl ?_
  refine own_iadd C X own_d3_16 (z := 2) (by decide) (pc' := 17) rfl ?_
  refine own_laload C X own_d3_17 A (by decide) (i := 2) rfl (pc' := 18) rfl ?_
  refine own_lloadN C X own_d3_18 rfl (pc' := 19) rfl ?_
  refine own_lcmp_ge C X own_d3_19 own_d3_20 (pcT := 50) (pc' := 23) (by decide) (by decide) rfl (fun hc19 => absurd hc19 (not_not_intro g0)) (fun hc19 => ?_)
  refine own_aloadN C X own_d3_23 rfl rfl (pc' := 24) rfl ?_
  refine own_iloadN C X own_d3_24 rfl (pc' := 25) rfl ?_
  refine own_iload C X own_d3_25 rfl (pc' := 27) rfl ?_
  refine own_iadd C X own_d3_27 (z := 4) (by decide) (pc' := 28) rfl ?_
  refine own_aloadN C X own_d3_28 rfl rfl (pc' := 29) rfl ?_
  refine own_iloadN C X own_d3_29 rfl (pc' := 30) rfl ?_
  refine own_iload C X own_d3_30 rfl (pc' := 32) rfl ?_
  refine own_iconst C X own_d3_32 (v := 1) (by decide) (pc' := 33) rfl ?_
  refine own_isub C X own_d3_33 (z := 2) (by decide) (pc' := 34) rfl ?_
  refine own_iconst C X own_d3_34 (v := 2) (by decide) (pc' := 35) rfl ?_
  refine own_idiv C X own_d3_35 (by decide) (z := 1) (by decide) (pc' := 36) rfl ?_
  refine own_iadd C X own_d3_36 (z := 2) (by decide) (pc' := 37) rfl ?_
  refine own_laload C X own_d3_37 A (by decide) (i := 2) rfl (pc' := 38) rfl ?_
  refine own_lastore C X own_d3_38 A (by decide) (i := 4) (Nat.le_of_ble_eq_true rfl) ge_a (pc' := 39) rfl ?_
  intro T h X K_ A_
  have A : own_JA Z h a [x0, x1, x2, x3, x2, x5, x6, x7] := A_
  have KK := KK.trans K_ (allS (Or.inl (by simp)) all0)
  refine own_iload C X own_d3_39 rfl (pc' := 41) rfl ?_
  refine own_iconst C X own_d3_41 (v := 1) (by decide) (pc' := 42) rfl ?_
  refine own_isub C X own_d3_42 (z := 2) (by decide) (pc' := 43) rfl ?_
  refine own_iconst C X own_d3_43 (v := 2) (by decide) (pc' := 44) rfl ?_
  refine own_idiv C X own_d3_44 (by decide) (z := 1) (by decide) (pc' := 45) rfl ?_
  refine own_istore C X own_d3_45 (L' := #[.val (.ref a), .val (.int (1 : Int32)), .val (.int (3 : Int32)), .val (.long en), .second, .val (.int (1 : Int32))]) rfl (pc' := 47) rfl ?_
  refine own_goto C X own_d3_47 (pc' := 3) (by decide) (by decide) ?_
  refine own_iload C X own_d3_3 rfl (pc' := 5) rfl ?_
  refine own_if_le C X own_d3_5 (pcT := 50) (pc' := 8) (by decide) (by decide) rfl (fun hc5_2 => absurd hc5_2 (by decide)) (fun hc5_2 => ?_)
  refine own_aloadN C X own_d3_8 rfl rfl (pc' := 9) rfl ?_
  refine own_iloadN C X own_d3_9 rfl (pc' := 10) rfl ?_
  refine own_iload C X own_d3_10 rfl (pc' := 12) rfl ?_
  refine own_iconst C X own_d3_12 (v := 1) (by decide) (pc' := 13) rfl ?_
  refine own_isub C X own_d3_13 (z := 0) (by decide) (pc' := 14) rfl ?_
  refine own_iconst C X own_d3_14 (v := 2) (by decide) (pc' := 15) rfl ?_
  refine own_idiv C X own_d3_15 (by decide) (z := 0) (by decide) (pc' := 16) rfl ?_
  refine own_iadd C X own_d3_16 (z := 1) (by decide) (pc' := 17) rfl ?_
  refine own_laload C X own_d3_17 A (by decide) (i := 1) rfl (pc' := 18) rfl ?_
  refine own_lloadN C X own_d3_18 rfl (pc' := 19) rfl ?_
  refine own_lcmp_ge C X own_d3_19 own_d3_20 (pcT := 50) (pc' := 23) (by decide) (by decide) rfl (fun hc19_2 => ?_) (fun hc19_2 => absurd hc19_2 (g1))
  refine own_aloadN C X own_d3_50 rfl rfl (pc' := 51) rfl ?_
  refine own_iloadN C X own_d3_51 rfl (pc' := 52) rfl ?_
  refine own_iload C X own_d3_52 rfl (pc' := 54) rfl ?_
  refine own_iadd C X own_d3_54 (z := 2) (by decide) (pc' := 55) rfl ?_
  refine own_lloadN C X own_d3_55 rfl (pc' := 56) rfl ?_
  refine own_lastore C X own_d3_56 A (by decide) (i := 2) (Nat.le_of_ble_eq_true rfl) ge_a (pc' := 57) rfl ?_
  intro T h X K_ A_
  have A : own_JA Z h a [x0, x1, en, x3, x2, x5, x6, x7] := A_
  have KK := KK.trans K_ (allS (Or.inl (by simp)) all0)
  exact own_return C X own_d3_57 (Nat.le_of_ble_eq_true rfl) (Nat.le_of_ble_eq_true rfl) (⟨rfl, KK, A⟩)
theorem own_ef_add312 (a : Addr) (en : Int64) (m : MethodId) : entryFrame m #[(.ref a), (.int (1 : Int32)), (.int (3 : Int32)), (.long en)] 6 = mkF m 0 #[.val (.ref a), .val (.int (1 : Int32)), .val (.int (3 : Int32)), .val (.long en), .second, .unset] [] := by first | (simp [entryFrame, mkF, argsToLocals, Value.category]; done) | rfl
set_option maxRecDepth 65536 in
set_option maxHeartbeats 40000000 in
theorem own_m_add312 (l : Launch) (Z : State) (a0 : Array Value) (hw : ∀ d ∈ tables_1, d.before a0 Z = true) (a : Addr) (en : Int64) (h0 : Heap) (n0 : Nat) (hn0 : n0 ≤ h0.size) (x0 x1 x2 x3 x4 x5 x6 x7 : Int64) (A : own_JA Z h0 a [x0, x1, x2, x3, x4, x5, x6, x7]) (ge_a : n0 ≤ a) (g0 : x2 < en) (g1 : x1 < en) : own_Met l Z n0 (⟨"com/example/stablemate/stablemate/SliceHeaps", "add", "([JIIJ)V"⟩ : MethodName) prog_40_method_3_code 6 none [] ({ frames := 0, cells := 0, slots := 0, locals := 0 } : Room) #[(.ref a), (.int (1 : Int32)), (.int (3 : Int32)), (.long en)] h0 (fun v h => v = none ∧ Keep h0 h [a] ∧ own_JA Z h a [x0, en, x1, x3, x2, x5, x6, x7]) := by
  refine own_body (plainFor_of_name own_pn_com_example_stablemate_stablemate_SliceHeaps) hn0 (own_ef_add312 a en) ?_
  intro p e s m below meth c T C X
  have KK := Keep.refl h0 [a]
  refine own_iloadN C X own_d3_0 rfl (pc' := 1) rfl ?_
  refine own_istore C X own_d3_1 (L' := #[.val (.ref a), .val (.int (1 : Int32)), .val (.int (3 : Int32)), .val (.long en), .second, .val (.int (3 : Int32))]) rfl (pc' := 3) rfl ?_
  refine own_iload C X own_d3_3 rfl (pc' := 5) rfl ?_
  refine own_if_le C X own_d3_5 (pcT := 50) (pc' := 8) (by decide) (by decide) rfl (fun hc5 => absurd hc5 (by decide)) (fun hc5 => ?_)
  refine own_aloadN C X own_d3_8 rfl rfl (pc' := 9) rfl ?_
  refine own_iloadN C X own_d3_9 rfl (pc' := 10) rfl ?_
  refine own_iload C X own_d3_10 rfl (pc' := 12) rfl ?_
  refine own_iconst C X own_d3_12 (v := 1) (by decide) (pc' := 13) rfl ?_
  refine own_isub C X own_d3_13 (z := 2) (by decide) (pc' := 14) rfl ?_
  refine own_iconst C X own_d3_14 (v := 2) (by decide) (pc' := 15) rfl ?_
  refine own_idiv C X own_d3_15 (by decide) (z := 1) (by decide) (pc' := 16) rfl ?_
  refine own_iadd C X own_d3_16 (z := 2) (by decide) (pc' := 17) rfl ?_
  refine own_laload C X own_d3_17 A (by decide) (i := 2) rfl (pc' := 18) rfl ?_
  refine own_lloadN C X own_d3_18 rfl (pc' := 19) rfl ?_
  refine own_lcmp_ge C X own_d3_19 own_d3_20 (pcT := 50) (pc' := 23) (by decide) (by decide) rfl (fun hc19 => absurd hc19 (not_not_intro g0)) (fun hc19 => ?_)
  refine own_aloadN C X own_d3_23 rfl rfl (pc' := 24) rfl ?_
  refine own_iloadN C X own_d3_24 rfl (pc' := 25) rfl ?_
  refine own_iload C X own_d3_25 rfl (pc' := 27) rfl ?_
  refine own_iadd C X own_d3_27 (z := 4) (by decide) (pc' := 28) rfl ?_
  refine own_aloadN C X own_d3_28 rfl rfl (pc' := 29) rfl ?_
  refine own_iloadN C X own_d3_29 rfl (pc' := 30) rfl ?_
  refine own_iload C X own_d3_30 rfl (pc' := 32) rfl ?_
  refine own_iconst C X own_d3_32 (v := 1) (by decide) (pc' := 33) rfl ?_
  refine own_isub C X own_d3_33 (z := 2) (by decide) (pc' := 34) rfl ?_
  refine own_iconst C X own_d3_34 (v := 2) (by decide) (pc' := 35) rfl ?_
  refine own_idiv C X own_d3_35 (by decide) (z := 1) (by decide) (pc' := 36) rfl ?_
  refine own_iadd C X own_d3_36 (z := 2) (by decide) (pc' := 37) rfl ?_
  refine own_laload C X own_d3_37 A (by decide) (i := 2) rfl (pc' := 38) rfl ?_
  refine own_lastore C X own_d3_38 A (by decide) (i := 4) (Nat.le_of_ble_eq_true rfl) ge_a (pc' := 39) rfl ?_
  intro T h X K_ A_
  have A : own_JA Z h a [x0, x1, x2, x3, x2, x5, x6, x7] := A_
  have KK := KK.trans K_ (allS (Or.inl (by simp)) all0)
  refine own_iload C X own_d3_39 rfl (pc' := 41) rfl ?_
  refine own_iconst C X own_d3_41 (v := 1) (by decide) (pc' := 42) rfl ?_
  refine own_isub C X own_d3_42 (z := 2) (by decide) (pc' := 43) rfl ?_
  refine own_iconst C X own_d3_43 (v := 2) (by decide) (pc' := 44) rfl ?_
  refine own_idiv C X own_d3_44 (by decide) (z := 1) (by decide) (pc' := 45) rfl ?_
  refine own_istore C X own_d3_45 (L' := #[.val (.ref a), .val (.int (1 : Int32)), .val (.int (3 : Int32)), .val (.long en), .second, .val (.int (1 : Int32))]) rfl (pc' := 47) rfl ?_
  refine own_goto C X own_d3_47 (pc' := 3) (by decide) (by decide) ?_
  refine own_iload C X own_d3_3 rfl (pc' := 5) rfl ?_
  refine own_if_le C X own_d3_5 (pcT := 50) (pc' := 8) (by decide) (by decide) rfl (fun hc5_2 => absurd hc5_2 (by decide)) (fun hc5_2 => ?_)
  refine own_aloadN C X own_d3_8 rfl rfl (pc' := 9) rfl ?_
  refine own_iloadN C X own_d3_9 rfl (pc' := 10) rfl ?_
  refine own_iload C X own_d3_10 rfl (pc' := 12) rfl ?_
  refine own_iconst C X own_d3_12 (v := 1) (by decide) (pc' := 13) rfl ?_
  refine own_isub C X own_d3_13 (z := 0) (by decide) (pc' := 14) rfl ?_
  refine own_iconst C X own_d3_14 (v := 2) (by decide) (pc' := 15) rfl ?_
  refine own_idiv C X own_d3_15 (by decide) (z := 0) (by decide) (pc' := 16) rfl ?_
  refine own_iadd C X own_d3_16 (z := 1) (by decide) (pc' := 17) rfl ?_
  refine own_laload C X own_d3_17 A (by decide) (i := 1) rfl (pc' := 18) rfl ?_
  refine own_lloadN C X own_d3_18 rfl (pc' := 19) rfl ?_
  refine own_lcmp_ge C X own_d3_19 own_d3_20 (pcT := 50) (pc' := 23) (by decide) (by decide) rfl (fun hc19_2 => absurd hc19_2 (not_not_intro g1)) (fun hc19_2 => ?_)
  refine own_aloadN C X own_d3_23 rfl rfl (pc' := 24) rfl ?_
  refine own_iloadN C X own_d3_24 rfl (pc' := 25) rfl ?_
  refine own_iload C X own_d3_25 rfl (pc' := 27) rfl ?_
  refine own_iadd C X own_d3_27 (z := 2) (by decide) (pc' := 28) rfl ?_
  refine own_aloadN C X own_d3_28 rfl rfl (pc' := 29) rfl ?_
  refine own_iloadN C X own_d3_29 rfl (pc' := 30) rfl ?_
  refine own_iload C X own_d3_30 rfl (pc' := 32) rfl ?_
  refine own_iconst C X own_d3_32 (v := 1) (by decide) (pc' := 33) rfl ?_
  refine own_isub C X own_d3_33 (z := 0) (by decide) (pc' := 34) rfl ?_
  refine own_iconst C X own_d3_34 (v := 2) (by decide) (pc' := 35) rfl ?_
  refine own_idiv C X own_d3_35 (by decide) (z := 0) (by decide) (pc' := 36) rfl ?_
  refine own_iadd C X own_d3_36 (z := 1) (by decide) (pc' := 37) rfl ?_
  refine own_laload C X own_d3_37 A (by decide) (i := 1) rfl (pc' := 38) rfl ?_
  refine own_lastore C X own_d3_38 A (by decide) (i := 2) (Nat.le_of_ble_eq_true rfl) ge_a (pc' := 39) rfl ?_
  intro T h X K_ A_
  have A : own_JA Z h a [x0, x1, x1, x3, x2, x5, x6, x7] := A_
  have KK := KK.trans K_ (allS (Or.inl (by simp)) all0)
  refine own_iload C X own_d3_39 rfl (pc' := 41) rfl ?_
  refine own_iconst C X own_d3_41 (v := 1) (by decide) (pc' := 42) rfl ?_
  refine own_isub C X own_d3_42 (z := 0) (by decide) (pc' := 43) rfl ?_
  refine own_iconst C X own_d3_43 (v := 2) (by decide) (pc' := 44) rfl ?_
  refine own_idiv C X own_d3_44 (by decide) (z := 0) (by decide) (pc' := 45) rfl ?_
  refine own_istore C X own_d3_45 (L' := #[.val (.ref a), .val (.int (1 : Int32)), .val (.int (3 : Int32)), .val (.long en), .second, .val (.int (0 : Int32))]) rfl (pc' := 47) rfl ?_
  refine own_goto C X own_d3_47 (pc' := 3) (by decide) (by decide) ?_
  refine own_iload C X own_d3_3 rfl (pc' := 5) rfl ?_
  refine own_if_le C X own_d3_5 (pcT := 50) (pc' := 8) (by decide) (by decide) rfl (fun hc5_3 => ?_) (fun hc5_3 => absurd hc5_3 (by decide))
  refine own_aloadN C X own_d3_50 rfl rfl (pc' := 51) rfl ?_
  refine own_iloadN C X own_d3_51 rfl (pc' := 52) rfl ?_
  refine own_iload C X own_d3_52 rfl (pc' := 54) rfl ?_
  refine own_iadd C X own_d3_54 (z := 1) (by decide) (pc' := 55) rfl ?_
  refine own_lloadN C X own_d3_55 rfl (pc' := 56) rfl ?_
  refine own_lastore C X own_d3_56 A (by decide) (i := 1) (Nat.le_of_ble_eq_true rfl) ge_a (pc' := 57) rfl ?_
  intro T h X K_ A_
  have A : own_JA Z h a [x0, en, x1, x3, x2, x5, x6, x7] := A_
  have KK := KK.trans K_ (allS (Or.inl (by simp)) all0)
  exact own_return C X own_d3_57 (Nat.le_of_ble_eq_true rfl) (Nat.le_of_ble_eq_true rfl) (⟨rfl, KK, A⟩)
theorem own_ef_add400 (a : Addr) (en : Int64) (m : MethodId) : entryFrame m #[(.ref a), (.int (0 : Int32)), (.int (4 : Int32)), (.long en)] 6 = mkF m 0 #[.val (.ref a), .val (.int (0 : Int32)), .val (.int (4 : Int32)), .val (.long en), .second, .unset] [] := by first | (simp [entryFrame, mkF, argsToLocals, Value.category]; done) | rfl
set_option maxRecDepth 65536 in
set_option maxHeartbeats 40000000 in
theorem own_m_add400 (l : Launch) (Z : State) (a0 : Array Value) (hw : ∀ d ∈ tables_1, d.before a0 Z = true) (a : Addr) (en : Int64) (h0 : Heap) (n0 : Nat) (hn0 : n0 ≤ h0.size) (x0 x1 x2 x3 x4 x5 x6 x7 : Int64) (A : own_JA Z h0 a [x0, x1, x2, x3, x4, x5, x6, x7]) (ge_a : n0 ≤ a) (g0 : ¬ x1 < en) : own_Met l Z n0 (⟨"com/example/stablemate/stablemate/SliceHeaps", "add", "([JIIJ)V"⟩ : MethodName) prog_40_method_3_code 6 none [] ({ frames := 0, cells := 0, slots := 0, locals := 0 } : Room) #[(.ref a), (.int (0 : Int32)), (.int (4 : Int32)), (.long en)] h0 (fun v h => v = none ∧ Keep h0 h [a] ∧ own_JA Z h a [x0, x1, x2, x3, en, x5, x6, x7]) := by
  refine own_body (plainFor_of_name own_pn_com_example_stablemate_stablemate_SliceHeaps) hn0 (own_ef_add400 a en) ?_
  intro p e s m below meth c T C X
  have KK := Keep.refl h0 [a]
  refine own_iloadN C X own_d3_0 rfl (pc' := 1) rfl ?_
  refine own_istore C X own_d3_1 (L' := #[.val (.ref a), .val (.int (0 : Int32)), .val (.int (4 : Int32)), .val (.long en), .second, .val (.int (4 : Int32))]) rfl (pc' := 3) rfl ?_
  refine own_iload C X own_d3_3 rfl (pc' := 5) rfl ?_
  refine own_if_le C X own_d3_5 (pcT := 50) (pc' := 8) (by decide) (by decide) rfl (fun hc5 => absurd hc5 (by decide)) (fun hc5 => ?_)
  refine own_aloadN C X own_d3_8 rfl rfl (pc' := 9) rfl ?_
  refine own_iloadN C X own_d3_9 rfl (pc' := 10) rfl ?_
  refine own_iload C X own_d3_10 rfl (pc' := 12) rfl ?_
  refine own_iconst C X own_d3_12 (v := 1) (by decide) (pc' := 13) rfl ?_
  refine own_isub C X own_d3_13 (z := 3) (by decide) (pc' := 14) rfl ?_
  refine own_iconst C X own_d3_14 (v := 2) (by decide) (pc' := 15) rfl ?_
  refine own_idiv C X own_d3_15 (by decide) (z := 1) (by decide) (pc' := 16) rfl ?_
  refine own_iadd C X own_d3_16 (z := 1) (by decide) (pc' := 17) rfl ?_
  refine own_laload C X own_d3_17 A (by decide) (i := 1) rfl (pc' := 18) rfl ?_
  refine own_lloadN C X own_d3_18 rfl (pc' := 19) rfl ?_
  refine own_lcmp_ge C X own_d3_19 own_d3_20 (pcT := 50) (pc' := 23) (by decide) (by decide) rfl (fun hc19 => ?_) (fun hc19 => absurd hc19 (g0))
  refine own_aloadN C X own_d3_50 rfl rfl (pc' := 51) rfl ?_
  refine own_iloadN C X own_d3_51 rfl (pc' := 52) rfl ?_
  refine own_iload C X own_d3_52 rfl (pc' := 54) rfl ?_
  refine own_iadd C X own_d3_54 (z := 4) (by decide) (pc' := 55) rfl ?_
  refine own_lloadN C X own_d3_55 rfl (pc' := 56) rfl ?_
  refine own_lastore C X own_d3_56 A (by decide) (i := 4) (Nat.le_of_ble_eq_true rfl) ge_a (pc' := 57) rfl ?_
  intro T h X K_ A_
  have A : own_JA Z h a [x0, x1, x2, x3, en, x5, x6, x7] := A_
  have KK := KK.trans K_ (allS (Or.inl (by simp)) all0)
  exact own_return C X own_d3_57 (Nat.le_of_ble_eq_true rfl) (Nat.le_of_ble_eq_true rfl) (⟨rfl, KK, A⟩)
theorem own_ef_add401 (a : Addr) (en : Int64) (m : MethodId) : entryFrame m #[(.ref a), (.int (0 : Int32)), (.int (4 : Int32)), (.long en)] 6 = mkF m 0 #[.val (.ref a), .val (.int (0 : Int32)), .val (.int (4 : Int32)), .val (.long en), .second, .unset] [] := by first | (simp [entryFrame, mkF, argsToLocals, Value.category]; done) | rfl
set_option maxRecDepth 65536 in
set_option maxHeartbeats 40000000 in
theorem own_m_add401 (l : Launch) (Z : State) (a0 : Array Value) (hw : ∀ d ∈ tables_1, d.before a0 Z = true) (a : Addr) (en : Int64) (h0 : Heap) (n0 : Nat) (hn0 : n0 ≤ h0.size) (x0 x1 x2 x3 x4 x5 x6 x7 : Int64) (A : own_JA Z h0 a [x0, x1, x2, x3, x4, x5, x6, x7]) (ge_a : n0 ≤ a) (g0 : x1 < en) (g1 : ¬ x0 < en) : own_Met l Z n0 (⟨"com/example/stablemate/stablemate/SliceHeaps", "add", "([JIIJ)V"⟩ : MethodName) prog_40_method_3_code 6 none [] ({ frames := 0, cells := 0, slots := 0, locals := 0 } : Room) #[(.ref a), (.int (0 : Int32)), (.int (4 : Int32)), (.long en)] h0 (fun v h => v = none ∧ Keep h0 h [a] ∧ own_JA Z h a [x0, en, x2, x3, x1, x5, x6, x7]) := by
  refine own_body (plainFor_of_name own_pn_com_example_stablemate_stablemate_SliceHeaps) hn0 (own_ef_add401 a en) ?_
  intro p e s m below meth c T C X
  have KK := Keep.refl h0 [a]
  refine own_iloadN C X own_d3_0 rfl (pc' := 1) rfl ?_
  refine own_istore C X own_d3_1 (L' := #[.val (.ref a), .val (.int (0 : Int32)), .val (.int (4 : Int32)), .val (.long en), .second, .val (.int (4 : Int32))]) rfl (pc' := 3) rfl ?_
  refine own_iload C X own_d3_3 rfl (pc' := 5) rfl ?_
  refine own_if_le C X own_d3_5 (pcT := 50) (pc' := 8) (by decide) (by decide) rfl (fun hc5 => absurd hc5 (by decide)) (fun hc5 => ?_)
  refine own_aloadN C X own_d3_8 rfl rfl (pc' := 9) rfl ?_
  refine own_iloadN C X own_d3_9 rfl (pc' := 10) rfl ?_
  refine own_iload C X own_d3_10 rfl (pc' := 12) rfl ?_
  refine own_iconst C X own_d3_12 (v := 1) (by decide) (pc' := 13) rfl ?_
  refine own_isub C X own_d3_13 (z := 3) (by decide) (pc' := 14) rfl ?_
  refine own_iconst C X own_d3_14 (v := 2) (by decide) (pc' := 15) rfl ?_
  refine own_idiv C X own_d3_15 (by decide) (z := 1) (by decide) (pc' := 16) rfl ?_
  refine own_iadd C X own_d3_16 (z := 1) (by decide) (pc' := 17) rfl ?_
  refine own_laload C X own_d3_17 A (by decide) (i := 1) rfl (pc' := 18) rfl ?_
  refine own_lloadN C X own_d3_18 rfl (pc' := 19) rfl ?_
  refine own_lcmp_ge C X own_d3_19 own_d3_20 (pcT := 50) (pc' := 23) (by decide) (by decide) rfl (fun hc19 => absurd hc19 (not_not_intro g0)) (fun hc19 => ?_)
  refine own_aloadN C X own_d3_23 rfl rfl (pc' := 24) rfl ?_
  refine own_iloadN C X own_d3_24 rfl (pc' := 25) rfl ?_
  refine own_iload C X own_d3_25 rfl (pc' := 27) rfl ?_
  refine own_iadd C X own_d3_27 (z := 4) (by decide) (pc' := 28) rfl ?_
  refine own_aloadN C X own_d3_28 rfl rfl (pc' := 29) rfl ?_
  refine own_iloadN C X own_d3_29 rfl (pc' := 30) rfl ?_
  refine own_iload C X own_d3_30 rfl (pc' := 32) rfl ?_
  refine own_iconst C X own_d3_32 (v := 1) (by decide) (pc' := 33) rfl ?_
  refine own_isub C X own_d3_33 (z := 3) (by decide) (pc' := 34) rfl ?_
  refine own_iconst C X own_d3_34 (v := 2) (by decide) (pc' := 35) rfl ?_
  refine own_idiv C X own_d3_35 (by decide) (z := 1) (by decide) (pc' := 36) rfl ?_
  refine own_iadd C X own_d3_36 (z := 1) (by decide) (pc' := 37) rfl ?_
  refine own_laload C X own_d3_37 A (by decide) (i := 1) rfl (pc' := 38) rfl ?_
  refine own_lastore C X own_d3_38 A (by decide) (i := 4) (Nat.le_of_ble_eq_true rfl) ge_a (pc' := 39) rfl ?_
  intro T h X K_ A_
  have A : own_JA Z h a [x0, x1, x2, x3, x1, x5, x6, x7] := A_
  have KK := KK.trans K_ (allS (Or.inl (by simp)) all0)
  refine own_iload C X own_d3_39 rfl (pc' := 41) rfl ?_
  refine own_iconst C X own_d3_41 (v := 1) (by decide) (pc' := 42) rfl ?_
  refine own_isub C X own_d3_42 (z := 3) (by decide) (pc' := 43) rfl ?_
  refine own_iconst C X own_d3_43 (v := 2) (by decide) (pc' := 44) rfl ?_
  refine own_idiv C X own_d3_44 (by decide) (z := 1) (by decide) (pc' := 45) rfl ?_
  refine own_istore C X own_d3_45 (L' := #[.val (.ref a), .val (.int (0 : Int32)), .val (.int (4 : Int32)), .val (.long en), .second, .val (.int (1 : Int32))]) rfl (pc' := 47) rfl ?_
  refine own_goto C X own_d3_47 (pc' := 3) (by decide) (by decide) ?_
  refine own_iload C X own_d3_3 rfl (pc' := 5) rfl ?_
  refine own_if_le C X own_d3_5 (pcT := 50) (pc' := 8) (by decide) (by decide) rfl (fun hc5_2 => absurd hc5_2 (by decide)) (fun hc5_2 => ?_)
  refine own_aloadN C X own_d3_8 rfl rfl (pc' := 9) rfl ?_
  refine own_iloadN C X own_d3_9 rfl (pc' := 10) rfl ?_
  refine own_iload C X own_d3_10 rfl (pc' := 12) rfl ?_
  refine own_iconst C X own_d3_12 (v := 1) (by decide) (pc' := 13) rfl ?_
  refine own_isub C X own_d3_13 (z := 0) (by decide) (pc' := 14) rfl ?_
  refine own_iconst C X own_d3_14 (v := 2) (by decide) (pc' := 15) rfl ?_
  refine own_idiv C X own_d3_15 (by decide) (z := 0) (by decide) (pc' := 16) rfl ?_
  refine own_iadd C X own_d3_16 (z := 0) (by decide) (pc' := 17) rfl ?_
  refine own_laload C X own_d3_17 A (by decide) (i := 0) rfl (pc' := 18) rfl ?_
  refine own_lloadN C X own_d3_18 rfl (pc' := 19) rfl ?_
  refine own_lcmp_ge C X own_d3_19 own_d3_20 (pcT := 50) (pc' := 23) (by decide) (by decide) rfl (fun hc19_2 => ?_) (fun hc19_2 => absurd hc19_2 (g1))
  refine own_aloadN C X own_d3_50 rfl rfl (pc' := 51) rfl ?_
  refine own_iloadN C X own_d3_51 rfl (pc' := 52) rfl ?_
  refine own_iload C X own_d3_52 rfl (pc' := 54) rfl ?_
  refine own_iadd C X own_d3_54 (z := 1) (by decide) (pc' := 55) rfl ?_
  refine own_lloadN C X own_d3_55 rfl (pc' := 56) rfl ?_
  refine own_lastore C X own_d3_56 A (by decide) (i := 1) (Nat.le_of_ble_eq_true rfl) ge_a (pc' := 57) rfl ?_
  intro T h X K_ A_
  have A : own_JA Z h a [x0, en, x2, x3, x1, x5, x6, x7] := A_
  have KK := KK.trans K_ (allS (Or.inl (by simp)) all0)
  exact own_return C X own_d3_57 (Nat.le_of_ble_eq_true rfl) (Nat.le_of_ble_eq_true rfl) (⟨rfl, KK, A⟩)
theorem own_ef_add402 (a : Addr) (en : Int64) (m : MethodId) : entryFrame m #[(.ref a), (.int (0 : Int32)), (.int (4 : Int32)), (.long en)] 6 = mkF m 0 #[.val (.ref a), .val (.int (0 : Int32)), .val (.int (4 : Int32)), .val (.long en), .second, .unset] [] := by first | (simp [entryFrame, mkF, argsToLocals, Value.category]; done) | rfl
set_option maxRecDepth 65536 in
set_option maxHeartbeats 40000000 in
theorem own_m_add402 (l : Launch) (Z : State) (a0 : Array Value) (hw : ∀ d ∈ tables_1, d.before a0 Z = true) (a : Addr) (en : Int64) (h0 : Heap) (n0 : Nat) (hn0 : n0 ≤ h0.size) (x0 x1 x2 x3 x4 x5 x6 x7 : Int64) (A : own_JA Z h0 a [x0, x1, x2, x3, x4, x5, x6, x7]) (ge_a : n0 ≤ a) (g0 : x1 < en) (g1 : x0 < en) : own_Met l Z n0 (⟨"com/example/stablemate/stablemate/SliceHeaps", "add", "([JIIJ)V"⟩ : MethodName) prog_40_method_3_code 6 none [] ({ frames := 0, cells := 0, slots := 0, locals := 0 } : Room) #[(.ref a), (.int (0 : Int32)), (.int (4 : Int32)), (.long en)] h0 (fun v h => v = none ∧ Keep h0 h [a] ∧ own_JA Z h a [en, x0, x2, x3, x1, x5, x6, x7]) := by
  refine own_body (plainFor_of_name own_pn_com_example_stablemate_stablemate_SliceHeaps) hn0 (own_ef_add402 a en) ?_
  intro p e s m below meth c T C X
  have KK := Keep.refl h0 [a]
  refine own_iloadN C X own_d3_0 rfl (pc' := 1) rfl ?_
  refine own_istore C X own_d3_1 (L' := #[.val (.ref a), .val (.int (0 : Int32)), .val (.int (4 : Int32)), .val (.long en), .second, .val (.int (4 : Int32))]) rfl (pc' := 3) rfl ?_
  refine own_iload C X own_d3_3 rfl (pc' := 5) rfl ?_
  refine own_if_le C X own_d3_5 (pcT := 50) (pc' := 8) (by decide) (by decide) rfl (fun hc5 => absurd hc5 (by decide)) (fun hc5 => ?_)
  refine own_aloadN C X own_d3_8 rfl rfl (pc' := 9) rfl ?_
  refine own_iloadN C X own_d3_9 rfl (pc' := 10) rfl ?_
  refine own_iload C X own_d3_10 rfl (pc' := 12) rfl ?_
  refine own_iconst C X own_d3_12 (v := 1) (by decide) (pc' := 13) rfl ?_
  refine own_isub C X own_d3_13 (z := 3) (by decide) (pc' := 14) rfl ?_
  refine own_iconst C X own_d3_14 (v := 2) (by decide) (pc' := 15) rfl ?_
  refine own_idiv C X own_d3_15 (by decide) (z := 1) (by decide) (pc' := 16) rfl ?_
  refine own_iadd C X own_d3_16 (z := 1) (by decide) (pc' := 17) rfl ?_
  refine own_laload C X own_d3_17 A (by decide) (i := 1) rfl (pc' := 18) rfl ?_
  refine own_lloadN C X own_d3_18 rfl (pc' := 19) rfl ?_
  refine own_lcmp_ge C X own_d3_19 own_d3_20 (pcT := 50) (pc' := 23) (by decide) (by decide) rfl (fun hc19 => absurd hc19 (not_not_intro g0)) (fun hc19 => ?_)
  refine own_aloadN C X own_d3_23 rfl rfl (pc' := 24) rfl ?_
  refine own_iloadN C X own_d3_24 rfl (pc' := 25) rfl ?_
  refine own_iload C X own_d3_25 rfl (pc' := 27) rfl ?_
  refine own_iadd C X own_d3_27 (z := 4) (by decide) (pc' := 28) rfl ?_
  refine own_aloadN C X own_d3_28 rfl rfl (pc' := 29) rfl ?_
  refine own_iloadN C X own_d3_29 rfl (pc' := 30) rfl ?_
  refine own_iload C X own_d3_30 rfl (pc' := 32) rfl ?_
  refine own_iconst C X own_d3_32 (v := 1) (by decide) (pc' := 33) rfl ?_
  refine own_isub C X own_d3_33 (z := 3) (by decide) (pc' := 34) rfl ?_
  refine own_iconst C X own_d3_34 (v := 2) (by decide) (pc' := 35) rfl ?_
  refine own_idiv C X own_d3_35 (by decide) (z := 1) (by decide) (pc' := 36) rfl ?_
  refine own_iadd C X own_d3_36 (z := 1) (by decide) (pc' := 37) rfl ?_
  refine own_laload C X own_d3_37 A (by decide) (i := 1) rfl (pc' := 38) rfl ?_
  refine own_lastore C X own_d3_38 A (by decide) (i := 4) (Nat.le_of_ble_eq_true rfl) ge_a (pc' := 39) rfl ?_
  intro T h X K_ A_
  have A : own_JA Z h a [x0, x1, x2, x3, x1, x5, x6, x7] := A_
  have KK := KK.trans K_ (allS (Or.inl (by simp)) all0)
  refine own_iload C X own_d3_39 rfl (pc' := 41) rfl ?_
  refine own_iconst C X own_d3_41 (v := 1) (by decide) (pc' := 42) rfl ?_
  refine own_isub C X own_d3_42 (z := 3) (by decide) (pc' := 43) rfl ?_
  refine own_iconst C X own_d3_43 (v := 2) (by decide) (pc' := 44) rfl ?_
  refine own_idiv C X own_d3_44 (by decide) (z := 1) (by decide) (pc' := 45) rfl ?_
  refine own_istore C X own_d3_45 (L' := #[.val (.ref a), .val (.int (0 : Int32)), .val (.int (4 : Int32)), .val (.long en), .second, .val (.int (1 : Int32))]) rfl (pc' := 47) rfl ?_
  refine own_goto C X own_d3_47 (pc' := 3) (by decide) (by decide) ?_
  refine own_iload C X own_d3_3 rfl (pc' := 5) rfl ?_
  refine own_if_le C X own_d3_5 (pcT := 50) (pc' := 8) (by decide) (by decide) rfl (fun hc5_2 => absurd hc5_2 (by decide)) (fun hc5_2 => ?_)
  refine own_aloadN C X own_d3_8 rfl rfl (pc' := 9) rfl ?_
  refine own_iloadN C X own_d3_9 rfl (pc' := 10) rfl ?_
  refine own_iload C X own_d3_10 rfl (pc' := 12) rfl ?_
  refine own_iconst C X own_d3_12 (v := 1) (by decide) (pc' := 13) rfl ?_
  refine own_isub C X own_d3_13 (z := 0) (by decide) (pc' := 14) rfl ?_
  refine own_iconst C X own_d3_14 (v := 2) (by decide) (pc' := 15) rfl ?_
  refine own_idiv C X own_d3_15 (by decide) (z := 0) (by decide) (pc' := 16) rfl ?_
  refine own_iadd C X own_d3_16 (z := 0) (by decide) (pc' := 17) rfl ?_
  refine own_laload C X own_d3_17 A (by decide) (i := 0) rfl (pc' := 18) rfl ?_
  refine own_lloadN C X own_d3_18 rfl (pc' := 19) rfl ?_
  refine own_lcmp_ge C X own_d3_19 own_d3_20 (pcT := 50) (pc' := 23) (by decide) (by decide) rfl (fun hc19_2 => absurd hc19_2 (not_not_intro g1)) (fun hc19_2 => ?_)
  refine own_aloadN C X own_d3_23 rfl rfl (pc' := 24) rfl ?_
  refine own_iloadN C X own_d3_24 rfl (pc' := 25) rfl ?_
  refine own_iload C X own_d3_25 rfl (pc' := 27) rfl ?_
  refine own_iadd C X own_d3_27 (z := 1) (by decide) (pc' := 28) rfl ?_
  refine own_aloadN C X own_d3_28 rfl rfl (pc' := 29) rfl ?_
  refine own_iloadN C X own_d3_29 rfl (pc' := 30) rfl ?_
  refine own_iload C X own_d3_30 rfl (pc' := 32) rfl ?_
  refine own_iconst C X own_d3_32 (v := 1) (by decide) (pc' := 33) rfl ?_
  refine own_isub C X own_d3_33 (z := 0) (by decide) (pc' := 34) rfl ?_
  refine own_iconst C X own_d3_34 (v := 2) (by decide) (pc' := 35) rfl ?_
  refine own_idiv C X own_d3_35 (by decide) (z := 0) (by decide) (pc' := 36) rfl ?_
  refine own_iadd C X own_d3_36 (z := 0) (by decide) (pc' := 37) rfl ?_
  refine own_laload C X own_d3_37 A (by decide) (i := 0) rfl (pc' := 38) rfl ?_
  refine own_lastore C X own_d3_38 A (by decide) (i := 1) (Nat.le_of_ble_eq_true rfl) ge_a (pc' := 39) rfl ?_
  intro T h X K_ A_
  have A : own_JA Z h a [x0, x0, x2, x3, x1, x5, x6, x7] := A_
  have KK := KK.trans K_ (allS (Or.inl (by simp)) all0)
  refine own_iload C X own_d3_39 rfl (pc' := 41) rfl ?_
  refine own_iconst C X own_d3_41 (v := 1) (by decide) (pc' := 42) rfl ?_
  refine own_isub C X own_d3_42 (z := 0) (by decide) (pc' := 43) rfl ?_
  refine own_iconst C X own_d3_43 (v := 2) (by decide) (pc' := 44) rfl ?_
  refine own_idiv C X own_d3_44 (by decide) (z := 0) (by decide) (pc' := 45) rfl ?_
  refine own_istore C X own_d3_45 (L' := #[.val (.ref a), .val (.int (0 : Int32)), .val (.int (4 : Int32)), .val (.long en), .second, .val (.int (0 : Int32))]) rfl (pc' := 47) rfl ?_
  refine own_goto C X own_d3_47 (pc' := 3) (by decide) (by decide) ?_
  refine own_iload C X own_d3_3 rfl (pc' := 5) rfl ?_
  refine own_if_le C X own_d3_5 (pcT := 50) (pc' := 8) (by decide) (by decide) rfl (fun hc5_3 => ?_) (fun hc5_3 => absurd hc5_3 (by decide))
  refine own_aloadN C X own_d3_50 rfl rfl (pc' := 51) rfl ?_
  refine own_iloadN C X own_d3_51 rfl (pc' := 52) rfl ?_
  refine own_iload C X own_d3_52 rfl (pc' := 54) rfl ?_
  refine own_iadd C X own_d3_54 (z := 0) (by decide) (pc' := 55) rfl ?_
  refine own_lloadN C X own_d3_55 rfl (pc' := 56) rfl ?_
  refine own_lastore C X own_d3_56 A (by decide) (i := 0) (Nat.le_of_ble_eq_true rfl) ge_a (pc' := 57) rfl ?_
  intro T h X K_ A_
  have A : own_JA Z h a [en, x0, x2, x3, x1, x5, x6, x7] := A_
  have KK := KK.trans K_ (allS (Or.inl (by simp)) all0)
  exact own_return C X own_d3_57 (Nat.le_of_ble_eq_true rfl) (Nat.le_of_ble_eq_true rfl) (⟨rfl, KK, A⟩)
theorem own_ef_add410 (a : Addr) (en : Int64) (m : MethodId) : entryFrame m #[(.ref a), (.int (1 : Int32)), (.int (4 : Int32)), (.long en)] 6 = mkF m 0 #[.val (.ref a), .val (.int (1 : Int32)), .val (.int (4 : Int32)), .val (.long en), .second, .unset] [] := by first | (simp [entryFrame, mkF, argsToLocals, Value.category]; done) | rfl
set_option maxRecDepth 65536 in
set_option maxHeartbeats 40000000 in
theorem own_m_add410 (l : Launch) (Z : State) (a0 : Array Value) (hw : ∀ d ∈ tables_1, d.before a0 Z = true) (a : Addr) (en : Int64) (h0 : Heap) (n0 : Nat) (hn0 : n0 ≤ h0.size) (x0 x1 x2 x3 x4 x5 x6 x7 : Int64) (A : own_JA Z h0 a [x0, x1, x2, x3, x4, x5, x6, x7]) (ge_a : n0 ≤ a) (g0 : ¬ x2 < en) : own_Met l Z n0 (⟨"com/example/stablemate/stablemate/SliceHeaps", "add", "([JIIJ)V"⟩ : MethodName) prog_40_method_3_code 6 none [] ({ frames := 0, cells := 0, slots := 0, locals := 0 } : Room) #[(.ref a), (.int (1 : Int32)), (.int (4 : Int32)), (.long en)] h0 (fun v h => v = none ∧ Keep h0 h [a] ∧ own_JA Z h a [x0, x1, x2, x3, x4, en, x6, x7]) := by
  refine own_body (plainFor_of_name own_pn_com_example_stablemate_stablemate_SliceHeaps) hn0 (own_ef_add410 a en) ?_
  intro p e s m below meth c T C X
  have KK := Keep.refl h0 [a]
  refine own_iloadN C X own_d3_0 rfl (pc' := 1) rfl ?_
  refine own_istore C X own_d3_1 (L' := #[.val (.ref a), .val (.int (1 : Int32)), .val (.int (4 : Int32)), .val (.long en), .second, .val (.int (4 : Int32))]) rfl (pc' := 3) rfl ?_
  refine own_iload C X own_d3_3 rfl (pc' := 5) rfl ?_
  refine own_if_le C X own_d3_5 (pcT := 50) (pc' := 8) (by decide) (by decide) rfl (fun hc5 => absurd hc5 (by decide)) (fun hc5 => ?_)
  refine own_aloadN C X own_d3_8 rfl rfl (pc' := 9) rfl ?_
  refine own_iloadN C X own_d3_9 rfl (pc' := 10) rfl ?_
  refine own_iload C X own_d3_10 rfl (pc' := 12) rfl ?_
  refine own_iconst C X own_d3_12 (v := 1) (by decide) (pc' := 13) rfl ?_
  refine own_isub C X own_d3_13 (z := 3) (by decide) (pc' := 14) rfl ?_
  refine own_iconst C X own_d3_14 (v := 2) (by decide) (pc' := 15) rfl ?_
  refine own_idiv C X own_d3_15 (by decide) (z := 1) (by decide) (pc' := 16) rfl ?_
  refine own_iadd C X own_d3_16 (z := 2) (by decide) (pc' := 17) rfl ?_
  refine own_laload C X own_d3_17 A (by decide) (i := 2) rfl (pc' := 18) rfl ?_
  refine own_lloadN C X own_d3_18 rfl (pc' := 19) rfl ?_
  refine own_lcmp_ge C X own_d3_19 own_d3_20 (pcT := 50) (pc' := 23) (by decide) (by decide) rfl (fun hc19 => ?_) (fun hc19 => absurd hc19 (g0))
  refine own_aloadN C X own_d3_50 rfl rfl (pc' := 51) rfl ?_
  refine own_iloadN C X own_d3_51 rfl (pc' := 52) rfl ?_
  refine own_iload C X own_d3_52 rfl (pc' := 54) rfl ?_
  refine own_iadd C X own_d3_54 (z := 5) (by decide) (pc' := 55) rfl ?_
  refine own_lloadN C X own_d3_55 rfl (pc' := 56) rfl ?_
  refine own_lastore C X own_d3_56 A (by decide) (i := 5) (Nat.le_of_ble_eq_true rfl) ge_a (pc' := 57) rfl ?_
  intro T h X K_ A_
  have A : own_JA Z h a [x0, x1, x2, x3, x4, en, x6, x7] := A_
  have KK := KK.trans K_ (allS (Or.inl (by simp)) all0)
  exact own_return C X own_d3_57 (Nat.le_of_ble_eq_true rfl) (Nat.le_of_ble_eq_true rfl) (⟨rfl, KK, A⟩)
theorem own_ef_add411 (a : Addr) (en : Int64) (m : MethodId) : entryFrame m #[(.ref a), (.int (1 : Int32)), (.int (4 : Int32)), (.long en)] 6 = mkF m 0 #[.val (.ref a), .val (.int (1 : Int32)), .val (.int (4 : Int32)), .val (.long en), .second, .unset] [] := by first | (simp [entryFrame, mkF, argsToLocals, Value.category]; done) | rfl
set_option maxRecDepth 65536 in
set_option maxHeartbeats 40000000 in
theorem own_m_add411 (l : Launch) (Z : State) (a0 : Array Value) (hw : ∀ d ∈ tables_1, d.before a0 Z = true) (a : Addr) (en : Int64) (h0 : Heap) (n0 : Nat) (hn0 : n0 ≤ h0.size) (x0 x1 x2 x3 x4 x5 x6 x7 : Int64) (A : own_JA Z h0 a [x0, x1, x2, x3, x4, x5, x6, x7]) (ge_a : n0 ≤ a) (g0 : x2 < en) (g1 : ¬ x1 < en) : own_Met l Z n0 (⟨"com/example/stablemate/stablemate/SliceHeaps", "add", "([JIIJ)V"⟩ : MethodName) prog_40_method_3_code 6 none [] ({ frames := 0, cells := 0, slots := 0, locals := 0 } : Room) #[(.ref a), (.int (1 : Int32)), (.int (4 : Int32)), (.long en)] h0 (fun v h => v = none ∧ Keep h0 h [a] ∧ own_JA Z h a [x0, x1, en, x3, x4, x2, x6, x7]) := by
  refine own_body (plainFor_of_name own_pn_com_example_stablemate_stablemate_SliceHeaps) hn0 (own_ef_add411 a en) ?_
  intro p e s m below meth c T C X
  have KK := Keep.refl h0 [a]
  refine own_iloadN C X own_d3_0 rfl (pc' := 1) rfl ?_
  refine own_istore C X own_d3_1 (L' := #[.val (.ref a), .val (.int (1 : Int32)), .val (.int (4 : Int32)), .val (.long en), .second, .val (.int (4 : Int32))]) rfl (pc' := 3) rfl ?_
  refine own_iload C X own_d3_3 rfl (pc' := 5) rfl ?_
  refine own_if_le C X own_d3_5 (pcT := 50) (pc' := 8) (by decide) (by decide) rfl (fun hc5 => absurd hc5 (by decide)) (fun hc5 => ?_)
  refine own_aloadN C X own_d3_8 rfl rfl (pc' := 9) rfl ?_
  refine own_iloadN C X own_d3_9 rfl (pc' := 10) rfl ?_
  refine own_iload C X own_d3_10 rfl (pc' := 12) rfl ?_
  refine own_iconst C X own_d3_12 (v := 1) (by decide) (pc' := 13) rfl ?_
  refine own_isub C X own_d3_13 (z := 3) (by decide) (pc' := 14) rfl ?_
  refine own_iconst C X own_d3_14 (v := 2) (by decide) (pc' := 15) rfl ?_
  refine own_idiv C X own_d3_15 (by decide) (z := 1) (by decide) (pc' := 16) rfl ?_
  refine own_iadd C X own_d3_16 (z := 2) (by decide) (pc' := 17) rfl ?_
  refine own_laload C X own_d3_17 A (by decide) (i := 2) rfl (pc' := 18) rfl ?_
  refine own_lloadN C X own_d3_18 rfl (pc' := 19) rfl ?_
  refine own_lcmp_ge C X own_d3_19 own_d3_20 (pcT := 50) (pc' := 23) (by decide) (by decide) rfl (fun hc19 => absurd hc19 (not_not_intro g0)) (fun hc19 => ?_)
  refine own_aloadN C X own_d3_23 rfl rfl (pc' := 24) rfl ?_
  refine own_iloadN C X own_d3_24 rfl (pc' := 25) rfl ?_
  refine own_iload C X own_d3_25 rfl (pc' := 27) rfl ?_
  refine own_iadd C X own_d3_27 (z := 5) (by decide) (pc' := 28) rfl ?_
  refine own_aloadN C X own_d3_28 rfl rfl (pc' := 29) rfl ?_
  refine own_iloadN C X own_d3_29 rfl (pc' := 30) rfl ?_
  refine own_iload C X own_d3_30 rfl (pc' := 32) rfl ?_
  refine own_iconst C X own_d3_32 (v := 1) (by decide) (pc' := 33) rfl ?_
  refine own_isub C X own_d3_33 (z := 3) (by decide) (pc' := 34) rfl ?_
  refine own_iconst C X own_d3_34 (v := 2) (by decide) (pc' := 35) rfl ?_
  refine own_idiv C X own_d3_35 (by decide) (z := 1) (by decide) (pc' := 36) rfl ?_
  refine own_iadd C X own_d3_36 (z := 2) (by decide) (pc' := 37) rfl ?_
  refine own_laload C X own_d3_37 A (by decide) (i := 2) rfl (pc' := 38) rfl ?_
  refine own_lastore C X own_d3_38 A (by decide) (i := 5) (Nat.le_of_ble_eq_true rfl) ge_a (pc' := 39) rfl ?_
  intro T h X K_ A_
  have A : own_JA Z h a [x0, x1, x2, x3, x4, x2, x6, x7] := A_
  have KK := KK.trans K_ (allS (Or.inl (by simp)) all0)
  refine own_iload C X own_d3_39 rfl (pc' := 41) rfl ?_
  refine own_iconst C X own_d3_41 (v := 1) (by decide) (pc' := 42) rfl ?_
  refine own_isub C X own_d3_42 (z := 3) (by decide) (pc' := 43) rfl ?_
  refine own_iconst C X own_d3_43 (v := 2) (by decide) (pc' := 44) rfl ?_
  refine own_idiv C X own_d3_44 (by decide) (z := 1) (by decide) (pc' := 45) rfl ?_
  refine own_istore C X own_d3_45 (L' := #[.val (.ref a), .val (.int (1 : Int32)), .val (.int (4 : Int32)), .val (.long en), .second, .val (.int (1 : Int32))]) rfl (pc' := 47) rfl ?_
  refine own_goto C X own_d3_47 (pc' := 3) (by decide) (by decide) ?_
  refine own_iload C X own_d3_3 rfl (pc' := 5) rfl ?_
  refine own_if_le C X own_d3_5 (pcT := 50) (pc' := 8) (by decide) (by decide) rfl (fun hc5_2 => absurd hc5_2 (by decide)) (fun hc5_2 => ?_)
  refine own_aloadN C X own_d3_8 rfl rfl (pc' := 9) rfl ?_
  refine own_iloadN C X own_d3_9 rfl (pc' := 10) rfl ?_
  refine own_iload C X own_d3_10 rfl (pc' := 12) rfl ?_
  refine own_iconst C X own_d3_12 (v := 1) (by decide) (pc' := 13) rfl ?_
  refine own_isub C X own_d3_13 (z := 0) (by decide) (pc' := 14) rfl ?_
  refine own_iconst C X own_d3_14 (v := 2) (by decide) (pc' := 15) rfl ?_
  refine own_idiv C X own_d3_15 (by decide) (z := 0) (by decide) (pc' := 16) rfl ?_
  refine own_iadd C X own_d3_16 (z := 1) (by decide) (pc' := 17) rfl ?_
  refine own_laload C X own_d3_17 A (by decide) (i := 1) rfl (pc' := 18) rfl ?_
  refine own_lloadN C X own_d3_18 rfl (pc' := 19) rfl ?_
  refine own_lcmp_ge C X own_d3_19 own_d3_20 (pcT := 50) (pc' := 23) (by decide) (by decide) rfl (fun hc19_2 => ?_) (fun hc19_2 => absurd hc19_2 (g1))
  refine own_aloadN C X own_d3_50 rfl rfl (pc' := 51) rfl ?_
  refine own_iloadN C X own_d3_51 rfl (pc' := 52) rfl ?_
  refine own_iload C X own_d3_52 rfl (pc' := 54) rfl ?_
  refine own_iadd C X own_d3_54 (z := 2) (by decide) (pc' := 55) rfl ?_
  refine own_lloadN C X own_d3_55 rfl (pc' := 56) rfl ?_
  refine own_lastore C X own_d3_56 A (by decide) (i := 2) (Nat.le_of_ble_eq_true rfl) ge_a (pc' := 57) rfl ?_
  intro T h X K_ A_
  have A : own_JA Z h a [x0, x1, en, x3, x4, x2, x6, x7] := A_
  have KK := KK.trans K_ (allS (Or.inl (by simp)) all0)
  exact own_return C X own_d3_57 (Nat.le_of_ble_eq_true rfl) (Nat.le_of_ble_eq_true rfl) (⟨rfl, KK, A⟩)
theorem own_ef_add412 (a : Addr) (en : Int64) (m : MethodId) : entryFrame m #[(.ref a), (.int (1 : Int32)), (.int (4 : Int32)), (.long en)] 6 = mkF m 0 #[.val (.ref a), .val (.int (1 : Int32)), .val (.int (4 : Int32)), .val (.long en), .second, .unset] [] := by first | (simp [entryFrame, mkF, argsToLocals, Value.category]; done) | rfl
set_option maxRecDepth 65536 in
set_option maxHeartbeats 40000000 in
theorem own_m_add412 (l : Launch) (Z : State) (a0 : Array Value) (hw : ∀ d ∈ tables_1, d.before a0 Z = true) (a : Addr) (en : Int64) (h0 : Heap) (n0 : Nat) (hn0 : n0 ≤ h0.size) (x0 x1 x2 x3 x4 x5 x6 x7 : Int64) (A : own_JA Z h0 a [x0, x1, x2, x3, x4, x5, x6, x7]) (ge_a : n0 ≤ a) (g0 : x2 < en) (g1 : x1 < en) : own_Met l Z n0 (⟨"com/example/stablemate/stablemate/SliceHeaps", "add", "([JIIJ)V"⟩ : MethodName) prog_40_method_3_code 6 none [] ({ frames := 0, cells := 0, slots := 0, locals := 0 } : Room) #[(.ref a), (.int (1 : Int32)), (.int (4 : Int32)), (.long en)] h0 (fun v h => v = none ∧ Keep h0 h [a] ∧ own_JA Z h a [x0, en, x1, x3, x4, x2, x6, x7]) := by
  refine own_body (plainFor_of_name own_pn_com_example_stablemate_stablemate_SliceHeaps) hn0 (own_ef_add412 a en) ?_
  intro p e s m below meth c T C X
  have KK := Keep.refl h0 [a]
  refine own_iloadN C X own_d3_0 rfl (pc' := 1) rfl ?_
  refine own_istore C X own_d3_1 (L' := #[.val (.ref a), .val (.int (1 : Int32)), .val (.int (4 : Int32)), .val (.long en), .second, .val (.int (4 : Int32))]) rfl (pc' := 3) rfl ?_
  refine own_iload C X own_d3_3 rfl (pc' := 5) rfl ?_
  refine own_if_le C X own_d3_5 (pcT := 50) (pc' := 8) (by decide) (by decide) rfl (fun hc5 => absurd hc5 (by decide)) (fun hc5 => ?_)
  refine own_aloadN C X own_d3_8 rfl rfl (pc' := 9) rfl ?_
  refine own_iloadN C X own_d3_9 rfl (pc' := 10) rfl ?_
  refine own_iload C X own_d3_10 rfl (pc' := 12) rfl ?_
  refine own_iconst C X own_d3_12 (v := 1) (by decide) (pc' := 13) rfl ?_
  refine own_isub C X own_d3_13 (z := 3) (by decide) (pc' := 14) rfl ?_
  refine own_iconst C X own_d3_14 (v := 2) (by decide) (pc' := 15) rfl ?_
  refine own_idiv C X own_d3_15 (by decide) (z := 1) (by decide) (pc' := 16) rfl ?_
  refine own_iadd C X own_d3_16 (z := 2) (by decide) (pc' := 17) rfl ?_
  refine own_laload C X own_d3_17 A (by decide) (i := 2) rfl (pc' := 18) rfl ?_
  refine own_lloadN C X own_d3_18 rfl (pc' := 19) rfl ?_
  refine own_lcmp_ge C X own_d3_19 own_d3_20 (pcT := 50) (pc' := 23) (by decide) (by decide) rfl (fun hc19 => absurd hc19 (not_not_intro g0)) (fun hc19 => ?_)
  refine own_aloadN C X own_d3_23 rfl rfl (pc' := 24) rfl ?_
  refine own_iloadN C X own_d3_24 rfl (pc' := 25) rfl ?_
  refine own_iload C X own_d3_25 rfl (pc' := 27) rfl ?_
  refine own_iadd C X own_d3_27 (z := 5) (by decide) (pc' := 28) rfl ?_
  refine own_aloadN C X own_d3_28 rfl rfl (pc' := 29) rfl ?_
  refine own_iloadN C X own_d3_29 rfl (pc' := 30) rfl ?_
  refine own_iload C X own_d3_30 rfl (pc' := 32) rfl ?_
  refine own_iconst C X own_d3_32 (v := 1) (by decide) (pc' := 33) rfl ?_
  refine own_isub C X own_d3_33 (z := 3) (by decide) (pc' := 34) rfl ?_
  refine own_iconst C X own_d3_34 (v := 2) (by decide) (pc' := 35) rfl ?_
  refine own_idiv C X own_d3_35 (by decide) (z := 1) (by decide) (pc' := 36) rfl ?_
  refine own_iadd C X own_d3_36 (z := 2) (by decide) (pc' := 37) rfl ?_
  refine own_laload C X own_d3_37 A (by decide) (i := 2) rfl (pc' := 38) rfl ?_
  refine own_lastore C X own_d3_38 A (by decide) (i := 5) (Nat.le_of_ble_eq_true rfl) ge_a (pc' := 39) rfl ?_
  intro T h X K_ A_
  have A : own_JA Z h a [x0, x1, x2, x3, x4, x2, x6, x7] := A_
  have KK := KK.trans K_ (allS (Or.inl (by simp)) all0)
  refine own_iload C X own_d3_39 rfl (pc' := 41) rfl ?_
  refine own_iconst C X own_d3_41 (v := 1) (by decide) (pc' := 42) rfl ?_
  refine own_isub C X own_d3_42 (z := 3) (by decide) (pc' := 43) rfl ?_
  refine own_iconst C X own_d3_43 (v := 2) (by decide) (pc' := 44) rfl ?_
  refine own_idiv C X own_d3_44 (by decide) (z := 1) (by decide) (pc' := 45) rfl ?_
  refine own_istore C X own_d3_45 (L' := #[.val (.ref a), .val (.int (1 : Int32)), .val (.int (4 : Int32)), .val (.long en), .second, .val (.int (1 : Int32))]) rfl (pc' := 47) rfl ?_
  refine own_goto C X own_d3_47 (pc' := 3) (by decide) (by decide) ?_
  refine own_iload C X own_d3_3 rfl (pc' := 5) rfl ?_
  refine own_if_le C X own_d3_5 (pcT := 50) (pc' := 8) (by decide) (by decide) rfl (fun hc5_2 => absurd hc5_2 (by decide)) (fun hc5_2 => ?_)
  refine own_aloadN C X own_d3_8 rfl rfl (pc' := 9) rfl ?_
  refine own_iloadN C X own_d3_9 rfl (pc' := 10) rfl ?_
  refine own_iload C X own_d3_10 rfl (pc' := 12) rfl ?_
  refine own_iconst C X own_d3_12 (v := 1) (by decide) (pc' := 13) rfl ?_
  refine own_isub C X own_d3_13 (z := 0) (by decide) (pc' := 14) rfl ?_
  refine own_iconst C X own_d3_14 (v := 2) (by decide) (pc' := 15) rfl ?_
  refine own_idiv C X own_d3_15 (by decide) (z := 0) (by decide) (pc' := 16) rfl ?_
  refine own_iadd C X own_d3_16 (z := 1) (by decide) (pc' := 17) rfl ?_
  refine own_laload C X own_d3_17 A (by decide) (i := 1) rfl (pc' := 18) rfl ?_
  refine own_lloadN C X own_d3_18 rfl (pc' := 19) rfl ?_
  refine own_lcmp_ge C X own_d3_19 own_d3_20 (pcT := 50) (pc' := 23) (by decide) (by decide) rfl (fun hc19_2 => absurd hc19_2 (not_not_intro g1)) (fun hc19_2 => ?_)
  refine own_aloadN C X own_d3_23 rfl rfl (pc' := 24) rfl ?_
  refine own_iloadN C X own_d3_24 rfl (pc' := 25) rfl ?_
  refine own_iload C X own_d3_25 rfl (pc' := 27) rfl ?_
  refine own_iadd C X own_d3_27 (z := 2) (by decide) (pc' := 28) rfl ?_
  refine own_aloadN C X own_d3_28 rfl rfl (pc' := 29) rfl ?_
  refine own_iloadN C X own_d3_29 rfl (pc' := 30) rfl ?_
  refine own_iload C X own_d3_30 rfl (pc' := 32) rfl ?_
  refine own_iconst C X own_d3_32 (v := 1) (by decide) (pc' := 33) rfl ?_
  refine own_isub C X own_d3_33 (z := 0) (by decide) (pc' := 34) rfl ?_
  refine own_iconst C X own_d3_34 (v := 2) (by decide) (pc' := 35) rfl ?_
  refine own_idiv C X own_d3_35 (by decide) (z := 0) (by decide) (pc' := 36) rfl ?_
  refine own_iadd C X own_d3_36 (z := 1) (by decide) (pc' := 37) rfl ?_
  refine own_laload C X own_d3_37 A (by decide) (i := 1) rfl (pc' := 38) rfl ?_
  refine own_lastore C X own_d3_38 A (by decide) (i := 2) (Nat.le_of_ble_eq_true rfl) ge_a (pc' := 39) rfl ?_
  intro T h X K_ A_
  have A : own_JA Z h a [x0, x1, x1, x3, x4, x2, x6, x7] := A_
  have KK := KK.trans K_ (allS (Or.inl (by simp)) all0)
  refine own_iload C X own_d3_39 rfl (pc' := 41) rfl ?_
  refine own_iconst C X own_d3_41 (v := 1) (by decide) (pc' := 42) rfl ?_
  refine own_isub C X own_d3_42 (z := 0) (by decide) (pc' := 43) rfl ?_
  refine own_iconst C X own_d3_43 (v := 2) (by decide) (pc' := 44) rfl ?_
  refine own_idiv C X own_d3_44 (by decide) (z := 0) (by decide) (pc' := 45) rfl ?_
  refine own_istore C X own_d3_45 (L' := #[.val (.ref a), .val (.int (1 : Int32)), .val (.int (4 : Int32)), .val (.long en), .second, .val (.int (0 : Int32))]) rfl (pc' := 47) rfl ?_
  refine own_goto C X own_d3_47 (pc' := 3) (by decide) (by decide) ?_
  refine own_iload C X own_d3_3 rfl (pc' := 5) rfl ?_
  refine own_if_le C X own_d3_5 (pcT := 50) (pc' := 8) (by decide) (by decide) rfl (fun hc5_3 => ?_) (fun hc5_3 => absurd hc5_3 (by decide))
  refine own_aloadN C X own_d3_50 rfl rfl (pc' := 51) rfl ?_
  refine own_iloadN C X own_d3_51 rfl (pc' := 52) rfl ?_
  refine own_iload C X own_d3_52 rfl (pc' := 54) rfl ?_
  refine own_iadd C X own_d3_54 (z := 1) (by decide) (pc' := 55) rfl ?_
  refine own_lloadN C X own_d3_55 rfl (pc' := 56) rfl ?_
  refine own_lastore C X own_d3_56 A (by decide) (i := 1) (Nat.le_of_ble_eq_true rfl) ge_a (pc' := 57) rfl ?_
  intro T h X K_ A_
  have A : own_JA Z h a [x0, en, x1, x3, x4, x2, x6, x7] := A_
  have KK := KK.trans K_ (allS (Or.inl (by simp)) all0)
  exact own_return C X own_d3_57 (Nat.le_of_ble_eq_true rfl) (Nat.le_of_ble_eq_true rfl) (⟨rfl, KK, A⟩)
theorem own_ef_add500 (a : Addr) (en : Int64) (m : MethodId) : entryFrame m #[(.ref a), (.int (0 : Int32)), (.int (5 : Int32)), (.long en)] 6 = mkF m 0 #[.val (.ref a), .val (.int (0 : Int32)), .val (.int (5 : Int32)), .val (.long en), .second, .unset] [] := by first | (simp [entryFrame, mkF, argsToLocals, Value.category]; done) | rfl
set_option maxRecDepth 65536 in
set_option maxHeartbeats 40000000 in
theorem own_m_add500 (l : Launch) (Z : State) (a0 : Array Value) (hw : ∀ d ∈ tables_1, d.before a0 Z = true) (a : Addr) (en : Int64) (h0 : Heap) (n0 : Nat) (hn0 : n0 ≤ h0.size) (x0 x1 x2 x3 x4 x5 x6 x7 : Int64) (A : own_JA Z h0 a [x0, x1, x2, x3, x4, x5, x6, x7]) (ge_a : n0 ≤ a) (g0 : ¬ x2 < en) : own_Met l Z n0 (⟨"com/example/stablemate/stablemate/SliceHeaps", "add", "([JIIJ)V"⟩ : MethodName) prog_40_method_3_code 6 none [] ({ frames := 0, cells := 0, slots := 0, locals := 0 } : Room) #[(.ref a), (.int (0 : Int32)), (.int (5 : Int32)), (.long en)] h0 (fun v h => v = none ∧ Keep h0 h [a] ∧ own_JA Z h a [x0, x1, x2, x3, x4, en, x6, x7]) := by
  refine own_body (plainFor_of_name own_pn_com_example_stablemate_stablemate_SliceHeaps) hn0 (own_ef_add500 a en) ?_
  intro p e s m below meth c T C X
  have KK := Keep.refl h0 [a]
  refine own_iloadN C X own_d3_0 rfl (pc' := 1) rfl ?_
  refine own_istore C X own_d3_1 (L' := #[.val (.ref a), .val (.int (0 : Int32)), .val (.int (5 : Int32)), .val (.long en), .second, .val (.int (5 : Int32))]) rfl (pc' := 3) rfl ?_
  refine own_iload C X own_d3_3 rfl (pc' := 5) rfl ?_
  refine own_if_le C X own_d3_5 (pcT := 50) (pc' := 8) (by decide) (by decide) rfl (fun hc5 => absurd hc5 (by decide)) (fun hc5 => ?_)
  refine own_aloadN C X own_d3_8 rfl rfl (pc' := 9) rfl ?_
  refine own_iloadN C X own_d3_9 rfl (pc' := 10) rfl ?_
  refine own_iload C X own_d3_10 rfl (pc' := 12) rfl ?_
  refine own_iconst C X own_d3_12 (v := 1) (by decide) (pc' := 13) rfl ?_
  refine own_isub C X own_d3_13 (z := 4) (by decide) (pc' := 14) rfl ?_
  refine own_iconst C X own_d3_14 (v := 2) (by decide) (pc' := 15) rfl ?_
  refine own_idiv C X own_d3_15 (by decide) (z := 2) (by decide) (pc' := 16) rfl ?_
  refine own_iadd C X own_d3_16 (z := 2) (by decide) (pc' := 17) rfl ?_
  refine own_laload C X own_d3_17 A (by decide) (i := 2) rfl (pc' := 18) rfl ?_
  refine own_lloadN C X own_d3_18 rfl (pc' := 19) rfl ?_
  refine own_lcmp_ge C X own_d3_19 own_d3_20 (pcT := 50) (pc' := 23) (by decide) (by decide) rfl (fun hc19 => ?_) (fun hc19 => absurd hc19 (g0))
  refine own_aloadN C X own_d3_50 rfl rfl (pc' := 51) rfl ?_
  refine own_iloadN C X own_d3_51 rfl (pc' := 52) rfl ?_
  refine own_iload C X own_d3_52 rfl (pc' := 54) rfl ?_
  refine own_iadd C X own_d3_54 (z := 5) (by decide) (pc' := 55) rfl ?_
  refine own_lloadN C X own_d3_55 rfl (pc' := 56) rfl ?_
  refine own_lastore C X own_d3_56 A (by decide) (i := 5) (Nat.le_of_ble_eq_true rfl) ge_a (pc' := 57) rfl ?_
  intro T h X K_ A_
  have A : own_JA Z h a [x0, x1, x2, x3, x4, en, x6, x7] := A_
  have KK := KK.trans K_ (allS (Or.inl (by simp)) all0)
  exact own_return C X own_d3_57 (Nat.le_of_ble_eq_true rfl) (Nat.le_of_ble_eq_true rfl) (⟨rfl, KK, A⟩)
theorem own_ef_add501 (a : Addr) (en : Int64) (m : MethodId) : entryFrame m #[(.ref a), (.int (0 : Int32)), (.int (5 : Int32)), (.long en)] 6 = mkF m 0 #[.val (.ref a), .val (.int (0 : Int32)), .val (.int (5 : Int32)), .val (.long en), .second, .unset] [] := by first | (simp [entryFrame, mkF, argsToLocals, Value.category]; done) | rfl
set_option maxRecDepth 65536 in
set_option maxHeartbeats 40000000 in
theorem own_m_add501 (l : Launch) (Z : State) (a0 : Array Value) (hw : ∀ d ∈ tables_1, d.before a0 Z = true) (a : Addr) (en : Int64) (h0 : Heap) (n0 : Nat) (hn0 : n0 ≤ h0.size) (x0 x1 x2 x3 x4 x5 x6 x7 : Int64) (A : own_JA Z h0 a [x0, x1, x2, x3, x4, x5, x6, x7]) (ge_a : n0 ≤ a) (g0 : x2 < en) (g1 : ¬ x0 < en) : own_Met l Z n0 (⟨"com/example/stablemate/stablemate/SliceHeaps", "add", "([JIIJ)V"⟩ : MethodName) prog_40_method_3_code 6 none [] ({ frames := 0, cells := 0, slots := 0, locals := 0 } : Room) #[(.ref a), (.int (0 : Int32)), (.int (5 : Int32)), (.long en)] h0 (fun v h => v = none ∧ Keep h0 h [a] ∧ own_JA Z h a [x0, x1, en, x3, x4, x2, x6, x7]) := by
  refine own_body (plainFor_of_name own_pn_com_example_stablemate_stablemate_SliceHeaps) hn0 (own_ef_add501 a en) ?_
  intro p e s m below meth c T C X
  have KK := Keep.refl h0 [a]
  refine own_iloadN C X own_d3_0 rfl (pc' := 1) rfl ?_
  refine own_istore C X own_d3_1 (L' := #[.val (.ref a), .val (.int (0 : Int32)), .val (.int (5 : Int32)), .val (.long en), .second, .val (.int (5 : Int32))]) rfl (pc' := 3) rfl ?_
  refine own_iload C X own_d3_3 rfl (pc' := 5) rfl ?_
  refine own_if_le C X own_d3_5 (pcT := 50) (pc' := 8) (by decide) (by decide) rfl (fun hc5 => absurd hc5 (by decide)) (fun hc5 => ?_)
  refine own_aloadN C X own_d3_8 rfl rfl (pc' := 9) rfl ?_
  refine own_iloadN C X own_d3_9 rfl (pc' := 10) rfl ?_
  refine own_iload C X own_d3_10 rfl (pc' := 12) rfl ?_
  refine own_iconst C X own_d3_12 (v := 1) (by decide) (pc' := 13) rfl ?_
  refine own_isub C X own_d3_13 (z := 4) (by decide) (pc' := 14) rfl ?_
  refine own_iconst C X own_d3_14 (v := 2) (by decide) (pc' := 15) rfl ?_
  refine own_idiv C X own_d3_15 (by decide) (z := 2) (by decide) (pc' := 16) rfl ?_
  refine own_iadd C X own_d3_16 (z := 2) (by decide) (pc' := 17) rfl ?_
  refine own_laload C X own_d3_17 A (by decide) (i := 2) rfl (pc' := 18) rfl ?_
  refine own_lloadN C X own_d3_18 rfl (pc' := 19) rfl ?_
  refine own_lcmp_ge C X own_d3_19 own_d3_20 (pcT := 50) (pc' := 23) (by decide) (by decide) rfl (fun hc19 => absurd hc19 (not_not_intro g0)) (fun hc19 => ?_)
  refine own_aloadN C X own_d3_23 rfl rfl (pc' := 24) rfl ?_
  refine own_iloadN C X own_d3_24 rfl (pc' := 25) rfl ?_
  refine own_iload C X own_d3_25 rfl (pc' := 27) rfl ?_
  refine own_iadd C X own_d3_27 (z := 5) (by decide) (pc' := 28) rfl ?_
  refine own_aloadN C X own_d3_28 rfl rfl (pc' := 29) rfl ?_
  refine own_iloadN C X own_d3_29 rfl (pc' := 30) rfl ?_
  refine own_iload C X own_d3_30 rfl (pc' := 32) rfl ?_
  refine own_iconst C X own_d3_32 (v := 1) (by decide) (pc' := 33) rfl ?_
  refine own_isub C X own_d3_33 (z := 4) (by decide) (pc' := 34) rfl ?_
  refine own_iconst C X own_d3_34 (v := 2) (by decide) (pc' := 35) rfl ?_
  refine own_idiv C X own_d3_35 (by decide) (z := 2) (by decide) (pc' := 36) rfl ?_
  refine own_iadd C X own_d3_36 (z := 2) (by decide) (pc' := 37) rfl ?_
  refine own_laload C X own_d3_37 A (by decide) (i := 2) rfl (pc' := 38) rfl ?_
  refine own_lastore C X own_d3_38 A (by decide) (i := 5) (Nat.le_of_ble_eq_true rfl) ge_a (pc' := 39) rfl ?_
  intro T h X K_ A_
  have A : own_JA Z h a [x0, x1, x2, x3, x4, x2, x6, x7] := A_
  have KK := KK.trans K_ (allS (Or.inl (by simp)) all0)
  refine own_iload C X own_d3_39 rfl (pc' := 41) rfl ?_
  refine own_iconst C X own_d3_41 (v := 1) (by decide) (pc' := 42) rfl ?_
  refine own_isub C X own_d3_42 (z := 4) (by decide) (pc' := 43) rfl ?_
  refine own_iconst C X own_d3_43 (v := 2) (by decide) (pc' := 44) rfl ?_
  refine own_idiv C X own_d3_44 (by decide) (z := 2) (by decide) (pc' := 45) rfl ?_
  refine own_istore C X own_d3_45 (L' := #[.val (.ref a), .val (.int (0 : Int32)), .val (.int (5 : Int32)), .val (.long en), .second, .val (.int (2 : Int32))]) rfl (pc' := 47) rfl ?_
  refine own_goto C X own_d3_47 (pc' := 3) (by decide) (by decide) ?_
  refine own_iload C X own_d3_3 rfl (pc' := 5) rfl ?_
  refine own_if_le C X own_d3_5 (pcT := 50) (pc' := 8) (by decide) (by decide) rfl (fun hc5_2 => absurd hc5_2 (by decide)) (fun hc5_2 => ?_)
  refine own_aloadN C X own_d3_8 rfl rfl (pc' := 9) rfl ?_
  refine own_iloadN C X own_d3_9 rfl (pc' := 10) rfl ?_
  refine own_iload C X own_d3_10 rfl (pc' := 12) rfl ?_
  refine own_iconst C X own_d3_12 (v := 1) (by decide) (pc' := 13) rfl ?_
  refine own_isub C X own_d3_13 (z := 1) (by decide) (pc' := 14) rfl ?_
  refine own_iconst C X own_d3_14 (v := 2) (by decide) (pc' := 15) rfl ?_
  refine own_idiv C X own_d3_15 (by decide) (z := 0) (by decide) (pc' := 16) rfl ?_
  refine own_iadd C X own_d3_16 (z := 0) (by decide) (pc' := 17) rfl ?_
  refine own_laload C X own_d3_17 A (by decide) (i := 0) rfl (pc' := 18) rfl ?_
  refine own_lloadN C X own_d3_18 rfl (pc' := 19) rfl ?_
  refine own_lcmp_ge C X own_d3_19 own_d3_20 (pcT := 50) (pc' := 23) (by decide) (by decide) rfl (fun hc19_2 => ?_) (fun hc19_2 => absurd hc19_2 (g1))
  refine own_aloadN C X own_d3_50 rfl rfl (pc' := 51) rfl ?_
  refine own_iloadN C X own_d3_51 rfl (pc' := 52) rfl ?_
  refine own_iload C X own_d3_52 rfl (pc' := 54) rfl ?_
  refine own_iadd C X own_d3_54 (z := 2) (by decide) (pc' := 55) rfl ?_
  refine own_lloadN C X own_d3_55 rfl (pc' := 56) rfl ?_
  refine own_lastore C X own_d3_56 A (by decide) (i := 2) (Nat.le_of_ble_eq_true rfl) ge_a (pc' := 57) rfl ?_
  intro T h X K_ A_
  have A : own_JA Z h a [x0, x1, en, x3, x4, x2, x6, x7] := A_
  have KK := KK.trans K_ (allS (Or.inl (by simp)) all0)
  exact own_return C X own_d3_57 (Nat.le_of_ble_eq_true rfl) (Nat.le_of_ble_eq_true rfl) (⟨rfl, KK, A⟩)
theorem own_ef_add502 (a : Addr) (en : Int64) (m : MethodId) : entryFrame m #[(.ref a), (.int (0 : Int32)), (.int (5 : Int32)), (.long en)] 6 = mkF m 0 #[.val (.ref a), .val (.int (0 : Int32)), .val (.int (5 : Int32)), .val (.long en), .second, .unset] [] := by first | (simp [entryFrame, mkF, argsToLocals, Value.category]; done) | rfl
set_option maxRecDepth 65536 in
set_option maxHeartbeats 40000000 in
theorem own_m_add502 (l : Launch) (Z : State) (a0 : Array Value) (hw : ∀ d ∈ tables_1, d.before a0 Z = true) (a : Addr) (en : Int64) (h0 : Heap) (n0 : Nat) (hn0 : n0 ≤ h0.size) (x0 x1 x2 x3 x4 x5 x6 x7 : Int64) (A : own_JA Z h0 a [x0, x1, x2, x3, x4, x5, x6, x7]) (ge_a : n0 ≤ a) (g0 : x2 < en) (g1 : x0 < en) : own_Met l Z n0 (⟨"com/example/stablemate/stablemate/SliceHeaps", "add", "([JIIJ)V"⟩ : MethodName) prog_40_method_3_code 6 none [] ({ frames := 0, cells := 0, slots := 0, locals := 0 } : Room) #[(.ref a), (.int (0 : Int32)), (.int (5 : Int32)), (.long en)] h0 (fun v h => v = none ∧ Keep h0 h [a] ∧ own_JA Z h a [en, x1, x0, x3, x4, x2, x6, x7]) := by
  refine own_body (plainFor_of_name own_pn_com_example_stablemate_stablemate_SliceHeaps) hn0 (own_ef_add502 a en) ?_
  intro p e s m below meth c T C X
  have KK := Keep.refl h0 [a]
  refine own_iloadN C X own_d3_0 rfl (pc' := 1) rfl ?_
  refine own_istore C X own_d3_1 (L' := #[.val (.ref a), .val (.int (0 : Int32)), .val (.int (5 : Int32)), .val (.long en), .second, .val (.int (5 : Int32))]) rfl (pc' := 3) rfl ?_
  refine own_iload C X own_d3_3 rfl (pc' := 5) rfl ?_
  refine own_if_le C X own_d3_5 (pcT := 50) (pc' := 8) (by decide) (by decide) rfl (fun hc5 => absurd hc5 (by decide)) (fun hc5 => ?_)
  refine own_aloadN C X own_d3_8 rfl rfl (pc' := 9) rfl ?_
  refine own_iloadN C X own_d3_9 rfl (pc' := 10) rfl ?_
  refine own_iload C X own_d3_10 rfl (pc' := 12) rfl ?_
  refine own_iconst C X own_d3_12 (v := 1) (by decide) (pc' := 13) rfl ?_
  refine own_isub C X own_d3_13 (z := 4) (by decide) (pc' := 14) rfl ?_
  refine own_iconst C X own_d3_14 (v := 2) (by decide) (pc' := 15) rfl ?_
  refine own_idiv C X own_d3_15 (by decide) (z := 2) (by decide) (pc' := 16) rfl ?_
  refine own_iadd C X own_d3_16 (z := 2) (by decide) (pc' := 17) rfl ?_
  refine own_laload C X own_d3_17 A (by decide) (i := 2) rfl (pc' := 18) rfl ?_
  refine own_lloadN C X own_d3_18 rfl (pc' := 19) rfl ?_
  refine own_lcmp_ge C X own_d3_19 own_d3_20 (pcT := 50) (pc' := 23) (by decide) (by decide) rfl (fun hc19 => absurd hc19 (not_not_intro g0)) (fun hc19 => ?_)
  refine own_aloadN C X own_d3_23 rfl rfl (pc' := 24) rfl ?_
  refine own_iloadN C X own_d3_24 rfl (pc' := 25) rfl ?_
  refine own_iload C X own_d3_25 rfl (pc' := 27) rfl ?_
  refine own_iadd C X own_d3_27 (z := 5) (by decide) (pc' := 28) rfl ?_
  refine own_aloadN C X own_d3_28 rfl rfl (pc' := 29) rfl ?_
  refine own_iloadN C X own_d3_29 rfl (pc' := 30) rfl ?_
  refine own_iload C X own_d3_30 rfl (pc' := 32) rfl ?_
  refine own_iconst C X own_d3_32 (v := 1) (by decide) (pc' := 33) rfl ?_
  refine own_isub C X own_d3_33 (z := 4) (by decide) (pc' := 34) rfl ?_
  refine own_iconst C X own_d3_34 (v := 2) (by decide) (pc' := 35) rfl ?_
  refine own_idiv C X own_d3_35 (by decide) (z := 2) (by decide) (pc' := 36) rfl ?_
  refine own_iadd C X own_d3_36 (z := 2) (by decide) (pc' := 37) rfl ?_
  refine own_laload C X own_d3_37 A (by decide) (i := 2) rfl (pc' := 38) rfl ?_
  refine own_lastore C X own_d3_38 A (by decide) (i := 5) (Nat.le_of_ble_eq_true rfl) ge_a (pc' := 39) rfl ?_
  intro T h X K_ A_
  have A : own_JA Z h a [x0, x1, x2, x3, x4, x2, x6, x7] := A_
  have KK := KK.trans K_ (allS (Or.inl (by simp)) all0)
  refine own_iload C X own_d3_39 rfl (pc' := 41) rfl ?_
  refine own_iconst C X own_d3_41 (v := 1) (by decide) (pc' := 42) rfl ?_
  refine own_isub C X own_d3_42 (z := 4) (by decide) (pc' := 43) rfl ?_
  refine own_iconst C X own_d3_43 (v := 2) (by decide) (pc' := 44) rfl ?_
  refine own_idiv C X own_d3_44 (by decide) (z := 2) (by decide) (pc' := 45) rfl ?_
  refine own_istore C X own_d3_45 (L' := #[.val (.ref a), .val (.int (0 : Int32)), .val (.int (5 : Int32)), .val (.long en), .second, .val (.int (2 : Int32))]) rfl (pc' := 47) rfl ?_
  refine own_goto C X own_d3_47 (pc' := 3) (by decide) (by decide) ?_
  refine own_iload C X own_d3_3 rfl (pc' := 5) rfl ?_
  refine own_if_le C X own_d3_5 (pcT := 50) (pc' := 8) (by decide) (by decide) rfl (fun hc5_2 => absurd hc5_2 (by decide)) (fun hc5_2 => ?_)
  refine own_aloadN C X own_d3_8 rfl rfl (pc' := 9) rfl ?_
  refine own_iloadN C X own_d3_9 rfl (pc' := 10) rfl ?_
  refine own_iload C X own_d3_10 rfl (pc' := 12) rfl ?_
  refine own_iconst C X own_d3_12 (v := 1) (by decide) (pc' := 13) rfl ?_
  refine own_isub C X own_d3_13 (z := 1) (by decide) (pc' := 14) rfl ?_
  refine own_iconst C X own_d3_14 (v := 2) (by decide) (pc' := 15) rfl ?_
  refine own_idiv C X own_d3_15 (by decide) (z := 0) (by decide) (pc' := 16) rfl ?_
  refine own_iadd C X own_d3_16 (z := 0) (by decide) (pc' := 17) rfl ?_
  refine own_laload C X own_d3_17 A (by decide) (i := 0) rfl (pc' := 18) rfl ?_
  refine own_lloadN C X own_d3_18 rfl (pc' := 19) rfl ?_
  refine own_lcmp_ge C X own_d3_19 own_d3_20 (pcT := 50) (pc' := 23) (by decide) (by decide) rfl (fun hc19_2 => absurd hc19_2 (not_not_intro g1)) (fun hc19_2 => ?_)
  refine own_aloadN C X own_d3_23 rfl rfl (pc' := 24) rfl ?_
  refine own_iloadN C X own_d3_24 rfl (pc' := 25) rfl ?_
  refine own_iload C X own_d3_25 rfl (pc' := 27) rfl ?_
  refine own_iadd C X own_d3_27 (z := 2) (by decide) (pc' := 28) rfl ?_
  refine own_aloadN C X own_d3_28 rfl rfl (pc' := 29) rfl ?_
  refine own_iloadN C X own_d3_29 rfl (pc' := 30) rfl ?_
  refine own_iload C X own_d3_30 rfl (pc' := 32) rfl ?_
  refine own_iconst C X own_d3_32 (v := 1) (by decide) (pc' := 33) rfl ?_
  refine own_isub C X own_d3_33 (z := 1) (by decide) (pc' := 34) rfl ?_
  refine own_iconst C X own_d3_34 (v := 2) (by decide) (pc' := 35) rfl ?_
  refine own_idiv C X own_d3_35 (by decide) (z := 0) (by decide) (pc' := 36) rfl ?_
  refine own_iadd C X own_d3_36 (z := 0) (by decide) (pc' := 37) rfl ?_
  refine own_laload C X own_d3_37 A (by decide) (i := 0) rfl (pc' := 38) rfl ?_
  refine own_lastore C X own_d3_38 A (by decide) (i := 2) (Nat.le_of_ble_eq_true rfl) ge_a (pc' := 39) rfl ?_
  intro T h X K_ A_
  have A : own_JA Z h a [x0, x1, x0, x3, x4, x2, x6, x7] := A_
  have KK := KK.trans K_ (allS (Or.inl (by simp)) all0)
  refine own_iload C X own_d3_39 rfl (pc' := 41) rfl ?_
  refine own_iconst C X own_d3_41 (v := 1) (by decide) (pc' := 42) rfl ?_
  refine own_isub C X own_d3_42 (z := 1) (by decide) (pc' := 43) rfl ?_
  refine own_iconst C X own_d3_43 (v := 2) (by decide) (pc' := 44) rfl ?_
  refine own_idiv C X own_d3_44 (by decide) (z := 0) (by decide) (pc' := 45) rfl ?_
  refine own_istore C X own_d3_45 (L' := #[.val (.ref a), .val (.int (0 : Int32)), .val (.int (5 : Int32)), .val (.long en), .second, .val (.int (0 : Int32))]) rfl (pc' := 47) rfl ?_
  refine own_goto C X own_d3_47 (pc' := 3) (by decide) (by decide) ?_
  refine own_iload C X own_d3_3 rfl (pc' := 5) rfl ?_
  refine own_if_le C X own_d3_5 (pcT := 50) (pc' := 8) (by decide) (by decide) rfl (fun hc5_3 => ?_) (fun hc5_3 => absurd hc5_3 (by decide))
  refine own_aloadN C X own_d3_50 rfl rfl (pc' := 51) rfl ?_
  refine own_iloadN C X own_d3_51 rfl (pc' := 52) rfl ?_
  refine own_iload C X own_d3_52 rfl (pc' := 54) rfl ?_
  refine own_iadd C X own_d3_54 (z := 0) (by decide) (pc' := 55) rfl ?_
  refine own_lloadN C X own_d3_55 rfl (pc' := 56) rfl ?_
  refine own_lastore C X own_d3_56 A (by decide) (i := 0) (Nat.le_of_ble_eq_true rfl) ge_a (pc' := 57) rfl ?_
  intro T h X K_ A_
  have A : own_JA Z h a [en, x1, x0, x3, x4, x2, x6, x7] := A_
  have KK := KK.trans K_ (allS (Or.inl (by simp)) all0)
  exact own_return C X own_d3_57 (Nat.le_of_ble_eq_true rfl) (Nat.le_of_ble_eq_true rfl) (⟨rfl, KK, A⟩)
theorem own_ef_add510 (a : Addr) (en : Int64) (m : MethodId) : entryFrame m #[(.ref a), (.int (1 : Int32)), (.int (5 : Int32)), (.long en)] 6 = mkF m 0 #[.val (.ref a), .val (.int (1 : Int32)), .val (.int (5 : Int32)), .val (.long en), .second, .unset] [] := by first | (simp [entryFrame, mkF, argsToLocals, Value.category]; done) | rfl
set_option maxRecDepth 65536 in
set_option maxHeartbeats 40000000 in
theorem own_m_add510 (l : Launch) (Z : State) (a0 : Array Value) (hw : ∀ d ∈ tables_1, d.before a0 Z = true) (a : Addr) (en : Int64) (h0 : Heap) (n0 : Nat) (hn0 : n0 ≤ h0.size) (x0 x1 x2 x3 x4 x5 x6 x7 : Int64) (A : own_JA Z h0 a [x0, x1, x2, x3, x4, x5, x6, x7]) (ge_a : n0 ≤ a) (g0 : ¬ x3 < en) : own_Met l Z n0 (⟨"com/example/stablemate/stablemate/SliceHeaps", "add", "([JIIJ)V"⟩ : MethodName) prog_40_method_3_code 6 none [] ({ frames := 0, cells := 0, slots := 0, locals := 0 } : Room) #[(.ref a), (.int (1 : Int32)), (.int (5 : Int32)), (.long en)] h0 (fun v h => v = none ∧ Keep h0 h [a] ∧ own_JA Z h a [x0, x1, x2, x3, x4, x5, en, x7]) := by
  refine own_body (plainFor_of_name own_pn_com_example_stablemate_stablemate_SliceHeaps) hn0 (own_ef_add510 a en) ?_
  intro p e s m below meth c T C X
  have KK := Keep.refl h0 [a]
  refine own_iloadN C X own_d3_0 rfl (pc' := 1) rfl ?_
  refine own_istore C X own_d3_1 (L' := #[.val (.ref a), .val (.int (1 : Int32)), .val (.int (5 : Int32)), .val (.long en), .second, .val (.int (5 : Int32))]) rfl (pc' := 3) rfl ?_
  refine own_iload C X own_d3_3 rfl (pc' := 5) rfl ?_
  refine own_if_le C X own_d3_5 (pcT := 50) (pc' := 8) (by decide) (by decide) rfl (fun hc5 => absurd hc5 (by decide)) (fun hc5 => ?_)
  refine own_aloadN C X own_d3_8 rfl rfl (pc' := 9) rfl ?_
  refine own_iloadN C X own_d3_9 rfl (pc' := 10) rfl ?_
  refine own_iload C X own_d3_10 rfl (pc' := 12) rfl ?_
  refine own_iconst C X own_d3_12 (v := 1) (by decide) (pc' := 13) rfl ?_
  refine own_isub C X own_d3_13 (z := 4) (by decide) (pc' := 14) rfl ?_
  refine own_iconst C X own_d3_14 (v := 2) (by decide) (pc' := 15) rfl ?_
  refine own_idiv C X own_d3_15 (by decide) (z := 2) (by decide) (pc' := 16) rfl ?_
  refine own_iadd C X own_d3_16 (z := 3) (by decide) (pc' := 17) rfl ?_
  refine own_laload C X own_d3_17 A (by decide) (i := 3) rfl (pc' := 18) rfl ?_
  refine own_lloadN C X own_d3_18 rfl (pc' := 19) rfl ?_
  refine own_lcmp_ge C X own_d3_19 own_d3_20 (pcT := 50) (pc' := 23) (by decide) (by decide) rfl (fun hc19 => ?_) (fun hc19 => absurd hc19 (g0))
  refine own_aloadN C X own_d3_50 rfl rfl (pc' := 51) rfl ?_
  refine own_iloadN C X own_d3_51 rfl (pc' := 52) rfl ?_
  refine own_iload C X own_d3_52 rfl (pc' := 54) rfl ?_
  refine own_iadd C X own_d3_54 (z := 6) (by decide) (pc' := 55) rfl ?_
  refine own_lloadN C X own_d3_55 rfl (pc' := 56) rfl ?_
  refine own_lastore C X own_d3_56 A (by decide) (i := 6) (Nat.le_of_ble_eq_true rfl) ge_a (pc' := 57) rfl ?_
  intro T h X K_ A_
  have A : own_JA Z h a [x0, x1, x2, x3, x4, x5, en, x7] := A_
  have KK := KK.trans K_ (allS (Or.inl (by simp)) all0)
  exact own_return C X own_d3_57 (Nat.le_of_ble_eq_true rfl) (Nat.le_of_ble_eq_true rfl) (⟨rfl, KK, A⟩)
theorem own_ef_add511 (a : Addr) (en : Int64) (m : MethodId) : entryFrame m #[(.ref a), (.int (1 : Int32)), (.int (5 : Int32)), (.long en)] 6 = mkF m 0 #[.val (.ref a), .val (.int (1 : Int32)), .val (.int (5 : Int32)), .val (.long en), .second, .unset] [] := by first | (simp [entryFrame, mkF, argsToLocals, Value.category]; done) | rfl
set_option maxRecDepth 65536 in
set_option maxHeartbeats 40000000 in
theorem own_m_add511 (l : Launch) (Z : State) (a0 : Array Value) (hw : ∀ d ∈ tables_1, d.before a0 Z = true) (a : Addr) (en : Int64) (h0 : Heap) (n0 : Nat) (hn0 : n0 ≤ h0.size) (x0 x1 x2 x3 x4 x5 x6 x7 : Int64) (A : own_JA Z h0 a [x0, x1, x2, x3, x4, x5, x6, x7]) (ge_a : n0 ≤ a) (g0 : x3 < en) (g1 : ¬ x1 < en) : own_Met l Z n0 (⟨"com/example/stablemate/stablemate/SliceHeaps", "add", "([JIIJ)V"⟩ : MethodName) prog_40_method_3_code 6 none [] ({ frames := 0, cells := 0, slots := 0, locals := 0 } : Room) #[(.ref a), (.int (1 : Int32)), (.int (5 : Int32)), (.long en)] h0 (fun v h => v = none ∧ Keep h0 h [a] ∧ own_JA Z h a [x0, x1, x2, en, x4, x5, x3, x7]) := by
  refine own_body (plainFor_of_name own_pn_com_example_stablemate_stablemate_SliceHeaps) hn0 (own_ef_add511 a en) ?_
  intro p e s m below meth c T C X
  have KK := Keep.refl h0 [a]
  refine own_iloadN C X own_d3_0 rfl (pc' := 1) rfl ?_
  refine own_istore C X own_d3_1 (L' := #[.val (.ref a), .val (.int (1 : Int32)), .val (.int (5 : Int32)), .val (.long en), .second, .val (.int (5 : Int32))]) rfl (pc' := 3) rfl ?_
  refine own_iload C X own_d3_3 rfl (pc' := 5) rfl ?_
  refine own_if_le C X own_d3_5 (pcT := 50) (pc' := 8) (by decide) (by decide) rfl (fun hc5 => absurd hc5 (by decide)) (fun hc5 => ?_)
  refine own_aloadN C X own_d3_8 rfl rfl (pc' := 9) rfl ?_
  refine own_iloadN C X own_d3_9 rfl (pc' := 10) rfl ?_
  refine own_iload C X own_d3_10 rfl (pc' := 12) rfl ?_
  refine own_iconst C X own_d3_12 (v := 1) (by decide) (pc' := 13) rfl ?_
  refine own_isub C X own_d3_13 (z := 4) (by decide) (pc' := 14) rfl ?_
  refine own_iconst C X own_d3_14 (v := 2) (by decide) (pc' := 15) rfl ?_
  refine own_idiv C X own_d3_15 (by decide) (z := 2) (by decide) (pc' := 16) rfl ?_
  refine own_iadd C X own_d3_16 (z := 3) (by decide) (pc' := 17) rfl ?_
  refine own_laload C X own_d3_17 A (by decide) (i := 3) rfl (pc' := 18) rfl ?_
  refine own_lloadN C X own_d3_18 rfl (pc' := 19) rfl ?_
  refine own_lcmp_ge C X own_d3_19 own_d3_20 (pcT := 50) (pc' := 23) (by decide) (by decide) rfl (fun hc19 => absurd hc19 (not_not_intro g0)) (fun hc19 => ?_)
  refine own_aloadN C X own_d3_23 rfl rfl (pc' := 24) rfl ?_
  refine own_iloadN C X own_d3_24 rfl (pc' := 25) rfl ?_
  refine own_iload C X own_d3_25 rfl (pc' := 27) rfl ?_
  refine own_iadd C X own_d3_27 (z := 6) (by decide) (pc' := 28) rfl ?_
  refine own_aloadN C X own_d3_28 rfl rfl (pc' := 29) rfl ?_
  refine own_iloadN C X own_d3_29 rfl (pc' := 30) rfl ?_
  refine own_iload C X own_d3_30 rfl (pc' := 32) rfl ?_
  refine own_iconst C X own_d3_32 (v := 1) (by decide) (pc' := 33) rfl ?_
  refine own_isub C X own_d3_33 (z := 4) (by decide) (pc' := 34) rfl ?_
  refine own_iconst C X own_d3_34 (v := 2) (by decide) (pc' := 35) rfl ?_
  refine own_idiv C X own_d3_35 (by decide) (z := 2) (by decide) (pc' := 36) rfl ?_
  refine own_iadd C X own_d3_36 (z := 3) (by decide) (pc' := 37) rfl ?_
  refine own_laload C X own_d3_37 A (by decide) (i := 3) rfl (pc' := 38) rfl ?_
  refine own_lastore C X own_d3_38 A (by decide) (i := 6) (Nat.le_of_ble_eq_true rfl) ge_a (pc' := 39) rfl ?_
  intro T h X K_ A_
  have A : own_JA Z h a [x0, x1, x2, x3, x4, x5, x3, x7] := A_
  have KK := KK.trans K_ (allS (Or.inl (by simp)) all0)
  refine own_iload C X own_d3_39 rfl (pc' := 41) rfl ?_
  refine own_iconst C X own_d3_41 (v := 1) (by decide) (pc' := 42) rfl ?_
  refine own_isub C X own_d3_42 (z := 4) (by decide) (pc' := 43) rfl ?_
  refine own_iconst C X own_d3_43 (v := 2) (by decide) (pc' := 44) rfl ?_
  refine own_idiv C X own_d3_44 (by decide) (z := 2) (by decide) (pc' := 45) rfl ?_
  refine own_istore C X own_d3_45 (L' := #[.val (.ref a), .val (.int (1 : Int32)), .val (.int (5 : Int32)), .val (.long en), .second, .val (.int (2 : Int32))]) rfl (pc' := 47) rfl ?_
  refine own_goto C X own_d3_47 (pc' := 3) (by decide) (by decide) ?_
  refine own_iload C X own_d3_3 rfl (pc' := 5) rfl ?_
  refine own_if_le C X own_d3_5 (pcT := 50) (pc' := 8) (by decide) (by decide) rfl (fun hc5_2 => absurd hc5_2 (by decide)) (fun hc5_2 => ?_)
  refine own_aloadN C X own_d3_8 rfl rfl (pc' := 9) rfl ?_
  refine own_iloadN C X own_d3_9 rfl (pc' := 10) rfl ?_
  refine own_iload C X own_d3_10 rfl (pc' := 12) rfl ?_
  refine own_iconst C X own_d3_12 (v := 1) (by decide) (pc' := 13) rfl ?_
  refine own_isub C X own_d3_13 (z := 1) (by decide) (pc' := 14) rfl ?_
  refine own_iconst C X own_d3_14 (v := 2) (by decide) (pc' := 15) rfl ?_
  refine own_idiv C X own_d3_15 (by decide) (z := 0) (by decide) (pc' := 16) rfl ?_
  refine own_iadd C X own_d3_16 (z := 1) (by decide) (pc' := 17) rfl ?_
  refine own_laload C X own_d3_17 A (by decide) (i := 1) rfl (pc' := 18) rfl ?_
  refine own_lloadN C X own_d3_18 rfl (pc' := 19) rfl ?_
  refine own_lcmp_ge C X own_d3_19 own_d3_20 (pcT := 50) (pc' := 23) (by decide) (by decide) rfl (fun hc19_2 => ?_) (fun hc19_2 => absurd hc19_2 (g1))
  refine own_aloadN C X own_d3_50 rfl rfl (pc' := 51) rfl ?_
  refine own_iloadN C X own_d3_51 rfl (pc' := 52) rfl ?_
  refine own_iload C X own_d3_52 rfl (pc' := 54) rfl ?_
  refine own_iadd C X own_d3_54 (z := 3) (by decide) (pc' := 55) rfl ?_
  refine own_lloadN C X own_d3_55 rfl (pc' := 56) rfl ?_
  refine own_lastore C X own_d3_56 A (by decide) (i := 3) (Nat.le_of_ble_eq_true rfl) ge_a (pc' := 57) rfl ?_
  intro T h X K_ A_
  have A : own_JA Z h a [x0, x1, x2, en, x4, x5, x3, x7] := A_
  have KK := KK.trans K_ (allS (Or.inl (by simp)) all0)
  exact own_return C X own_d3_57 (Nat.le_of_ble_eq_true rfl) (Nat.le_of_ble_eq_true rfl) (⟨rfl, KK, A⟩)
theorem own_ef_add512 (a : Addr) (en : Int64) (m : MethodId) : entryFrame m #[(.ref a), (.int (1 : Int32)), (.int (5 : Int32)), (.long en)] 6 = mkF m 0 #[.val (.ref a), .val (.int (1 : Int32)), .val (.int (5 : Int32)), .val (.long en), .second, .unset] [] := by first | (simp [entryFrame, mkF, argsToLocals, Value.category]; done) | rfl
set_option maxRecDepth 65536 in
set_option maxHeartbeats 40000000 in
theorem own_m_add512 (l : Launch) (Z : State) (a0 : Array Value) (hw : ∀ d ∈ tables_1, d.before a0 Z = true) (a : Addr) (en : Int64) (h0 : Heap) (n0 : Nat) (hn0 : n0 ≤ h0.size) (x0 x1 x2 x3 x4 x5 x6 x7 : Int64) (A : own_JA Z h0 a [x0, x1, x2, x3, x4, x5, x6, x7]) (ge_a : n0 ≤ a) (g0 : x3 < en) (g1 : x1 < en) : own_Met l Z n0 (⟨"com/example/stablemate/stablemate/SliceHeaps", "add", "([JIIJ)V"⟩ : MethodName) prog_40_method_3_code 6 none [] ({ frames := 0, cells := 0, slots := 0, locals := 0 } : Room) #[(.ref a), (.int (1 : Int32)), (.int (5 : Int32)), (.long en)] h0 (fun v h => v = none ∧ Keep h0 h [a] ∧ own_JA Z h a [x0, en, x2, x1, x4, x5, x3, x7]) := by
  refine own_body (plainFor_of_name own_pn_com_example_stablemate_stablemate_SliceHeaps) hn0 (own_ef_add512 a en) ?_
  intro p e s m below meth c T C X
  have KK := Keep.refl h0 [a]
  refine own_iloadN C X own_d3_0 rfl (pc' := 1) rfl ?_
  refine own_istore C X own_d3_1 (L' := #[.val (.ref a), .val (.int (1 : Int32)), .val (.int (5 : Int32)), .val (.long en), .second, .val (.int (5 : Int32))]) rfl (pc' := 3) rfl ?_
  refine own_iload C X own_d3_3 rfl (pc' := 5) rfl ?_
  refine own_if_le C X own_d3_5 (pcT := 50) (pc' := 8) (by decide) (by decide) rfl (fun hc5 => absurd hc5 (by decide)) (fun hc5 => ?_)
  refine own_aloadN C X own_d3_8 rfl rfl (pc' := 9) rfl ?_
  refine own_iloadN C X own_d3_9 rfl (pc' := 10) rfl ?_
  refine own_iload C X own_d3_10 rfl (pc' := 12) rfl ?_
  refine own_iconst C X own_d3_12 (v := 1) (by decide) (pc' := 13) rfl ?_
  refine own_isub C X own_d3_13 (z := 4) (by decide) (pc' := 14) rfl ?_
  refine own_iconst C X own_d3_14 (v := 2) (by decide) (pc' := 15) rfl ?_
  refine own_idiv C X own_d3_15 (by decide) (z := 2) (by decide) (pc' := 16) rfl ?_
  refine own_iadd C X own_d3_16 (z := 3) (by decide) (pc' := 17) rfl ?_
  refine own_laload C X own_d3_17 A (by decide) (i := 3) rfl (pc' := 18) rfl ?_
  refine own_lloadN C X own_d3_18 rfl (pc' := 19) rfl ?_
  refine own_lcmp_ge C X own_d3_19 own_d3_20 (pcT := 50) (pc' := 23) (by decide) (by decide) rfl (fun hc19 => absurd hc19 (not_not_intro g0)) (fun hc19 => ?_)
  refine own_aloadN C X own_d3_23 rfl rfl (pc' := 24) rfl ?_
  refine own_iloadN C X own_d3_24 rfl (pc' := 25) rfl ?_
  refine own_iload C X own_d3_25 rfl (pc' := 27) rfl ?_
  refine own_iadd C X own_d3_27 (z := 6) (by decide) (pc' := 28) rfl ?_
  refine own_aloadN C X own_d3_28 rfl rfl (pc' := 29) rfl ?_
  refine own_iloadN C X own_d3_29 rfl (pc' := 30) rfl ?_
  refine own_iload C X own_d3_30 rfl (pc' := 32) rfl ?_
  refine own_iconst C X own_d3_32 (v := 1) (by decide) (pc' := 33) rfl ?_
  refine own_isub C X own_d3_33 (z := 4) (by decide) (pc' := 34) rfl ?_
  refine own_iconst C X own_d3_34 (v := 2) (by decide) (pc' := 35) rfl ?_
  refine own_idiv C X own_d3_35 (by decide) (z := 2) (by decide) (pc' := 36) rfl ?_
  refine own_iadd C X own_d3_36 (z := 3) (by decide) (pc' := 37) rfl ?_
  refine own_laload C X own_d3_37 A (by decide) (i := 3) rfl (pc' := 38) rfl ?_
  refine own_lastore C X own_d3_38 A (by decide) (i := 6) (Nat.le_of_ble_eq_true rfl) ge_a (pc' := 39) rfl ?_
  intro T h X K_ A_
  have A : own_JA Z h a [x0, x1, x2, x3, x4, x5, x3, x7] := A_
  have KK := KK.trans K_ (allS (Or.inl (by simp)) all0)
  refine own_iload C X own_d3_39 rfl (pc' := 41) rfl ?_
  refine own_iconst C X own_d3_41 (v := 1) (by decide) (pc' := 42) rfl ?_
  refine own_isub C X own_d3_42 (z := 4) (by decide) (pc' := 43) rfl ?_
  refine own_iconst C X own_d3_43 (v := 2) (by decide) (pc' := 44) rfl ?_
  refine own_idiv C X own_d3_44 (by decide) (z := 2) (by decide) (pc' := 45) rfl ?_
  refine own_istore C X own_d3_45 (L' := #[.val (.ref a), .val (.int (1 : Int32)), .val (.int (5 : Int32)), .val (.long en), .second, .val (.int (2 : Int32))]) rfl (pc' := 47) rfl ?_
  refine own_goto C X own_d3_47 (pc' := 3) (by decide) (by decide) ?_
  refine own_iload C X own_d3_3 rfl (pc' := 5) rfl ?_
  refine own_if_le C X own_d3_5 (pcT := 50) (pc' := 8) (by decide) (by decide) rfl (fun hc5_2 => absurd hc5_2 (by decide)) (fun hc5_2 => ?_)
  refine own_aloadN C X own_d3_8 rfl rfl (pc' := 9) rfl ?_
  refine own_iloadN C X own_d3_9 rfl (pc' := 10) rfl ?_
  refine own_iload C X own_d3_10 rfl (pc' := 12) rfl ?_
  refine own_iconst C X own_d3_12 (v := 1) (by decide) (pc' := 13) rfl ?_
  refine own_isub C X own_d3_13 (z := 1) (by decide) (pc' := 14) rfl ?_
  refine own_iconst C X own_d3_14 (v := 2) (by decide) (pc' := 15) rfl ?_
  refine own_idiv C X own_d3_15 (by decide) (z := 0) (by decide) (pc' := 16) rfl ?_
  refine own_iadd C X own_d3_16 (z := 1) (by decide) (pc' := 17) rfl ?_
  refine own_laload C X own_d3_17 A (by decide) (i := 1) rfl (pc' := 18) rfl ?_
  refine own_lloadN C X own_d3_18 rfl (pc' := 19) rfl ?_
  refine own_lcmp_ge C X own_d3_19 own_d3_20 (pcT := 50) (pc' := 23) (by decide) (by decide) rfl (fun hc19_2 => absurd hc19_2 (not_not_intro g1)) (fun hc19_2 => ?_)
  refine own_aloadN C X own_d3_23 rfl rfl (pc' := 24) rfl ?_
  refine own_iloadN C X own_d3_24 rfl (pc' := 25) rfl ?_
  refine own_iload C X own_d3_25 rfl (pc' := 27) rfl ?_
  refine own_iadd C X own_d3_27 (z := 3) (by decide) (pc' := 28) rfl ?_
  refine own_aloadN C X own_d3_28 rfl rfl (pc' := 29) rfl ?_
  refine own_iloadN C X own_d3_29 rfl (pc' := 30) rfl ?_
  refine own_iload C X own_d3_30 rfl (pc' := 32) rfl ?_
  refine own_iconst C X own_d3_32 (v := 1) (by decide) (pc' := 33) rfl ?_
  refine own_isub C X own_d3_33 (z := 1) (by decide) (pc' := 34) rfl ?_
  refine own_iconst C X own_d3_34 (v := 2) (by decide) (pc' := 35) rfl ?_
  refine own_idiv C X own_d3_35 (by decide) (z := 0) (by decide) (pc' := 36) rfl ?_
  refine own_iadd C X own_d3_36 (z := 1) (by decide) (pc' := 37) rfl ?_
  refine own_laload C X own_d3_37 A (by decide) (i := 1) rfl (pc' := 38) rfl ?_
  refine own_lastore C X own_d3_38 A (by decide) (i := 3) (Nat.le_of_ble_eq_true rfl) ge_a (pc' := 39) rfl ?_
  intro T h X K_ A_
  have A : own_JA Z h a [x0, x1, x2, x1, x4, x5, x3, x7] := A_
  have KK := KK.trans K_ (allS (Or.inl (by simp)) all0)
  refine own_iload C X own_d3_39 rfl (pc' := 41) rfl ?_
  refine own_iconst C X own_d3_41 (v := 1) (by decide) (pc' := 42) rfl ?_
  refine own_isub C X own_d3_42 (z := 1) (by decide) (pc' := 43) rfl ?_
  refine own_iconst C X own_d3_43 (v := 2) (by decide) (pc' := 44) rfl ?_
  refine own_idiv C X own_d3_44 (by decide) (z := 0) (by decide) (pc' := 45) rfl ?_
  refine own_istore C X own_d3_45 (L' := #[.val (.ref a), .val (.int (1 : Int32)), .val (.int (5 : Int32)), .val (.long en), .second, .val (.int (0 : Int32))]) rfl (pc' := 47) rfl ?_
  refine own_goto C X own_d3_47 (pc' := 3) (by decide) (by decide) ?_
  refine own_iload C X own_d3_3 rfl (pc' := 5) rfl ?_
  refine own_if_le C X own_d3_5 (pcT := 50) (pc' := 8) (by decide) (by decide) rfl (fun hc5_3 => ?_) (fun hc5_3 => absurd hc5_3 (by decide))
  refine own_aloadN C X own_d3_50 rfl rfl (pc' := 51) rfl ?_
  refine own_iloadN C X own_d3_51 rfl (pc' := 52) rfl ?_
  refine own_iload C X own_d3_52 rfl (pc' := 54) rfl ?_
  refine own_iadd C X own_d3_54 (z := 1) (by decide) (pc' := 55) rfl ?_
  refine own_lloadN C X own_d3_55 rfl (pc' := 56) rfl ?_
  refine own_lastore C X own_d3_56 A (by decide) (i := 1) (Nat.le_of_ble_eq_true rfl) ge_a (pc' := 57) rfl ?_
  intro T h X K_ A_
  have A : own_JA Z h a [x0, en, x2, x1, x4, x5, x3, x7] := A_
  have KK := KK.trans K_ (allS (Or.inl (by simp)) all0)
  exact own_return C X own_d3_57 (Nat.le_of_ble_eq_true rfl) (Nat.le_of_ble_eq_true rfl) (⟨rfl, KK, A⟩)
theorem own_ef_add600 (a : Addr) (en : Int64) (m : MethodId) : entryFrame m #[(.ref a), (.int (0 : Int32)), (.int (6 : Int32)), (.long en)] 6 = mkF m 0 #[.val (.ref a), .val (.int (0 : Int32)), .val (.int (6 : Int32)), .val (.long en), .second, .unset] [] := by first | (simp [entryFrame, mkF, argsToLocals, Value.category]; done) | rfl
set_option maxRecDepth 65536 in
set_option maxHeartbeats 40000000 in
theorem own_m_add600 (l : Launch) (Z : State) (a0 : Array Value) (hw : ∀ d ∈ tables_1, d.before a0 Z = true) (a : Addr) (en : Int64) (h0 : Heap) (n0 : Nat) (hn0 : n0 ≤ h0.size) (x0 x1 x2 x3 x4 x5 x6 x7 : Int64) (A : own_JA Z h0 a [x0, x1, x2, x3, x4, x5, x6, x7]) (ge_a : n0 ≤ a) (g0 : ¬ x2 < en) : own_Met l Z n0 (⟨"com/example/stablemate/stablemate/SliceHeaps", "add", "([JIIJ)V"⟩ : MethodName) prog_40_method_3_code 6 none [] ({ frames := 0, cells := 0, slots := 0, locals := 0 } : Room) #[(.ref a), (.int (0 : Int32)), (.int (6 : Int32)), (.long en)] h0 (fun v h => v = none ∧ Keep h0 h [a] ∧ own_JA Z h a [x0, x1, x2, x3, x4, x5, en, x7]) := by
  refine own_body (plainFor_of_name own_pn_com_example_stablemate_stablemate_SliceHeaps) hn0 (own_ef_add600 a en) ?_
  intro p e s m below meth c T C X
  have KK := Keep.refl h0 [a]
  refine own_iloadN C X own_d3_0 rfl (pc' := 1) rfl ?_
  refine own_istore C X own_d3_1 (L' := #[.val (.ref a), .val (.int (0 : Int32)), .val (.int (6 : Int32)), .val (.long en), .second, .val (.int (6 : Int32))]) rfl (pc' := 3) rfl ?_
  refine own_iload C X own_d3_3 rfl (pc' := 5) rfl ?_
  refine own_if_le C X own_d3_5 (pcT := 50) (pc' := 8) (by decide) (by decide) rfl (fun hc5 => absurd hc5 (by decide)) (fun hc5 => ?_)
  refine own_aloadN C X own_d3_8 rfl rfl (pc' := 9) rfl ?_
  refine own_iloadN C X own_d3_9 rfl (pc' := 10) rfl ?_
  refine own_iload C X own_d3_10 rfl (pc' := 12) rfl ?_
  refine own_iconst C X own_d3_12 (v := 1) (by decide) (pc' := 13) rfl ?_
  refine own_isub C X own_d3_13 (z := 5) (by decide) (pc' := 14) rfl ?_
  refine own_iconst C X own_d3_14 (v := 2) (by decide) (pc' := 15) rfl ?_
  refine own_idiv C X own_d3_15 (by decide) (z := 2) (by decide) (pc' := 16) rfl ?_
  refine own_iadd C X own_d3_16 (z := 2) (by decide) (pc' := 17) rfl ?_
  refine own_laload C X own_d3_17 A (by decide) (i := 2) rfl (pc' := 18) rfl ?_
  refine own_lloadN C X own_d3_18 rfl (pc' := 19) rfl ?_
  refine own_lcmp_ge C X own_d3_19 own_d3_20 (pcT := 50) (pc' := 23) (by decide) (by decide) rfl (fun hc19 => ?_) (fun hc19 => absurd hc19 (g0))
  refine own_aloadN C X own_d3_50 rfl rfl (pc' := 51) rfl ?_
  refine own_iloadN C X own_d3_51 rfl (pc' := 52) rfl ?_
  refine own_iload C X own_d3_52 rfl (pc' := 54) rfl ?_
  refine own_iadd C X own_d3_54 (z := 6) (by decide) (pc' := 55) rfl ?_
  refine own_lloadN C X own_d3_55 rfl (pc' := 56) rfl ?_
  refine own_lastore C X own_d3_56 A (by decide) (i := 6) (Nat.le_of_ble_eq_true rfl) ge_a (pc' := 57) rfl ?_
  intro T h X K_ A_
  have A : own_JA Z h a [x0, x1, x2, x3, x4, x5, en, x7] := A_
  have KK := KK.trans K_ (allS (Or.inl (by simp)) all0)
  exact own_return C X own_d3_57 (Nat.le_of_ble_eq_true rfl) (Nat.le_of_ble_eq_true rfl) (⟨rfl, KK, A⟩)
theorem own_ef_add601 (a : Addr) (en : Int64) (m : MethodId) : entryFrame m #[(.ref a), (.int (0 : Int32)), (.int (6 : Int32)), (.long en)] 6 = mkF m 0 #[.val (.ref a), .val (.int (0 : Int32)), .val (.int (6 : Int32)), .val (.long en), .second, .unset] [] := by first | (simp [entryFrame, mkF, argsToLocals, Value.category]; done) | rfl
set_option maxRecDepth 65536 in
set_option maxHeartbeats 40000000 in
theorem own_m_add601 (l : Launch) (Z : State) (a0 : Array Value) (hw : ∀ d ∈ tables_1, d.before a0 Z = true) (a : Addr) (en : Int64) (h0 : Heap) (n0 : Nat) (hn0 : n0 ≤ h0.size) (x0 x1 x2 x3 x4 x5 x6 x7 : Int64) (A : own_JA Z h0 a [x0, x1, x2, x3, x4, x5, x6, x7]) (ge_a : n0 ≤ a) (g0 : x2 < en) (g1 : ¬ x0 < en) : own_Met l Z n0 (⟨"com/example/stablemate/stablemate/SliceHeaps", "add", "([JIIJ)V"⟩ : MethodName) prog_40_method_3_code 6 none [] ({ frames := 0, cells := 0, slots := 0, locals := 0 } : Room) #[(.ref a), (.int (0 : Int32)), (.int (6 : Int32)), (.long en)] h0 (fun v h => v = none ∧ Keep h0 h [a] ∧ own_JA Z h a [x0, x1, en, x3, x4, x5, x2, x7]) := by
  refine own_body (plainFor_of_name own_pn_com_example_stablemate_stablemate_SliceHeaps) hn0 (own_ef_add601 a en) ?_
  intro p e s m below meth c T C X
  have KK := Keep.refl h0 [a]
  refine own_iloadN C X own_d3_0 rfl (pc' := 1) rfl ?_
  refine own_istore C X own_d3_1 (L' := #[.val (.ref a), .val (.int (0 : Int32)), .val (.int (6 : Int32)), .val (.long en), .second, .val (.int (6 : Int32))]) rfl (pc' := 3) rfl ?_
  refine own_iload C X own_d3_3 rfl (pc' := 5) rfl ?_
  refine own_if_le C X own_d3_5 (pcT := 50) (pc' := 8) (by decide) (by decide) rfl (fun hc5 => absurd hc5 (by decide)) (fun hc5 => ?_)
  refine own_aloadN C X own_d3_8 rfl rfl (pc' := 9) rfl ?_
  refine own_iloadN C X own_d3_9 rfl (pc' := 10) rfl ?_
  refine own_iload C X own_d3_10 rfl (pc' := 12) rfl ?_
  refine own_iconst C X own_d3_12 (v := 1) (by decide) (pc' := 13) rfl ?_
  refine own_isub C X own_d3_13 (z := 5) (by decide) (pc' := 14) rfl ?_
  refine own_iconst C X own_d3_14 (v := 2) (by decide) (pc' := 15) rfl ?_
  refine own_idiv C X own_d3_15 (by decide) (z := 2) (by decide) (pc' := 16) rfl ?_
  refine own_iadd C X own_d3_16 (z := 2) (by decide) (pc' := 17) rfl ?_
  refine own_laload C X own_d3_17 A (by decide) (i := 2) rfl (pc' := 18) rfl ?_
  refine own_lloadN C X own_d3_18 rfl (pc' := 19) rfl ?_
  refine own_lcmp_ge C X own_d3_19 own_d3_20 (pcT := 50) (pc' := 23) (by decide) (by decide) rfl (fun hc19 => absurd hc19 (not_not_intro g0)) (fun hc19 => ?_)
  refine own_aloadN C X own_d3_23 rfl rfl (pc' := 24) rfl ?_
  refine own_iloadN C X own_d3_24 rfl (pc' := 25) rfl ?_
  refine own_iload C X own_d3_25 rfl (pc' := 27) rfl ?_
  refine own_iadd C X own_d3_27 (z := 6) (by decide) (pc' := 28) rfl ?_
  refine own_aloadN C X own_d3_28 rfl rfl (pc' := 29) rfl ?_
  refine own_iloadN C X own_d3_29 rfl (pc' := 30) rfl ?_
  refine own_iload C X own_d3_30 rfl (pc' := 32) rfl ?_
  refine own_iconst C X own_d3_32 (v := 1) (by decide) (pc' := 33) rfl ?_
  refine own_isub C X own_d3_33 (z := 5) (by decide) (pc' := 34) rfl ?_
  refine own_iconst C X own_d3_34 (v := 2) (by decide) (pc' := 35) rfl ?_
  refine own_idiv C X own_d3_35 (by decide) (z := 2) (by decide) (pc' := 36) rfl ?_
  refine own_iadd C X own_d3_36 (z := 2) (by decide) (pc' := 37) rfl ?_
  refine own_laload C X own_d3_37 A (by decide) (i := 2) rfl (pc' := 38) rfl ?_
  refine own_lastore C X own_d3_38 A (by decide) (i := 6) (Nat.le_of_ble_eq_true rfl) ge_a (pc' := 39) rfl ?_
  intro T h X K_ A_
  have A : own_JA Z h a [x0, x1, x2, x3, x4, x5, x2, x7] := A_
  have KK := KK.trans K_ (allS (Or.inl (by simp)) all0)
  refine own_iload C X own_d3_39 rfl (pc' := 41) rfl ?_
  refine own_iconst C X own_d3_41 (v := 1) (by decide) (pc' := 42) rfl ?_
  refine own_isub C X own_d3_42 (z := 5) (by decide) (pc' := 43) rfl ?_
  refine own_iconst C X own_d3_43 (v := 2) (by decide) (pc' := 44) rfl ?_
  refine own_idiv C X own_d3_44 (by decide) (z := 2) (by decide) (pc' := 45) rfl ?_
  refine own_istore C X own_d3_45 (L' := #[.val (.ref a), .val (.int (0 : Int32)), .val (.int (6 : Int32)), .val (.long en), .second, .val (.int (2 : Int32))]) rfl (pc' := 47) rfl ?_
  refine own_goto C X own_d3_47 (pc' := 3) (by decide) (by decide) ?_
  refine own_iload C X own_d3_3 rfl (pc' := 5) rfl ?_
  refine own_if_le C X own_d3_5 (pcT := 50) (pc' := 8) (by decide) (by decide) rfl (fun hc5_2 => absurd hc5_2 (by decide)) (fun hc5_2 => ?_)
  refine own_aloadN C X own_d3_8 rfl rfl (pc' := 9) rfl ?_
  refine own_iloadN C X own_d3_9 rfl (pc' := 10) rfl ?_
  refine own_iload C X own_d3_10 rfl (pc' := 12) rfl ?_
  refine own_iconst C X own_d3_12 (v := 1) (by decide) (pc' := 13) rfl ?_
  refine own_isub C X own_d3_13 (z := 1) (by decide) (pc' := 14) rfl ?_
  refine own_iconst C X own_d3_14 (v := 2) (by decide) (pc' := 15) rfl ?_
  refine own_idiv C X own_d3_15 (by decide) (z := 0) (by decide) (pc' := 16) rfl ?_
  refine own_iadd C X own_d3_16 (z := 0) (by decide) (pc' := 17) rfl ?_
  refine own_laload C X own_d3_17 A (by decide) (i := 0) rfl (pc' := 18) rfl ?_
  refine own_lloadN C X own_d3_18 rfl (pc' := 19) rfl ?_
  refine own_lcmp_ge C X own_d3_19 own_d3_20 (pcT := 50) (pc' := 23) (by decide) (by decide) rfl (fun hc19_2 => ?_) (fun hc19_2 => absurd hc19_2 (g1))
  refine own_aloadN C X own_d3_50 rfl rfl (pc' := 51) rfl ?_
  refine own_iloadN C X own_d3_51 rfl (pc' := 52) rfl ?_
  refine own_iload C X own_d3_52 rfl (pc' := 54) rfl ?_
  refine own_iadd C X own_d3_54 (z := 2) (by decide) (pc' := 55) rfl ?_
  refine own_lloadN C X own_d3_55 rfl (pc' := 56) rfl ?_
  refine own_lastore C X own_d3_56 A (by decide) (i := 2) (Nat.le_of_ble_eq_true rfl) ge_a (pc' := 57) rfl ?_
  intro T h X K_ A_
  have A : own_JA Z h a [x0, x1, en, x3, x4, x5, x2, x7] := A_
  have KK := KK.trans K_ (allS (Or.inl (by simp)) all0)
  exact own_return C X own_d3_57 (Nat.le_of_ble_eq_true rfl) (Nat.le_of_ble_eq_true rfl) (⟨rfl, KK, A⟩)
theorem own_ef_add602 (a : Addr) (en : Int64) (m : MethodId) : entryFrame m #[(.ref a), (.int (0 : Int32)), (.int (6 : Int32)), (.long en)] 6 = mkF m 0 #[.val (.ref a), .val (.int (0 : Int32)), .val (.int (6 : Int32)), .val (.long en), .second, .unset] [] := by first | (simp [entryFrame, mkF, argsToLocals, Value.category]; done) | rfl
set_option maxRecDepth 65536 in
set_option maxHeartbeats 40000000 in
theorem own_m_add602 (l : Launch) (Z : State) (a0 : Array Value) (hw : ∀ d ∈ tables_1, d.before a0 Z = true) (a : Addr) (en : Int64) (h0 : Heap) (n0 : Nat) (hn0 : n0 ≤ h0.size) (x0 x1 x2 x3 x4 x5 x6 x7 : Int64) (A : own_JA Z h0 a [x0, x1, x2, x3, x4, x5, x6, x7]) (ge_a : n0 ≤ a) (g0 : x2 < en) (g1 : x0 < en) : own_Met l Z n0 (⟨"com/example/stablemate/stablemate/SliceHeaps", "add", "([JIIJ)V"⟩ : MethodName) prog_40_method_3_code 6 none [] ({ frames := 0, cells := 0, slots := 0, locals := 0 } : Room) #[(.ref a), (.int (0 : Int32)), (.int (6 : Int32)), (.long en)] h0 (fun v h => v = none ∧ Keep h0 h [a] ∧ own_JA Z h a [en, x1, x0, x3, x4, x5, x2, x7]) := by
  refine own_body (plainFor_of_name own_pn_com_example_stablemate_stablemate_SliceHeaps) hn0 (own_ef_add602 a en) ?_
  intro p e s m below meth c T C X
  have KK := Keep.refl h0 [a]
  refine own_iloadN C X own_d3_0 rfl (pc' := 1) rfl ?_
  refine own_istore C X own_d3_1 (L' := #[.val (.ref a), .val (.int (0 : Int32)), .val (.int (6 : Int32)), .val (.long en), .second, .val (.int (6 : Int32))]) rfl (pc' := 3) rfl ?_
  refine own_iload C X own_d3_3 rfl (pc' := 5) rfl ?_
  refine own_if_le C X own_d3_5 (pcT := 50) (pc' := 8) (by decide) (by decide) rfl (fun hc5 => absurd hc5 (by decide)) (fun hc5 => ?_)
  refine own_aloadN C X own_d3_8 rfl rfl (pc' := 9) rfl ?_
  refine own_iloadN C X own_d3_9 rfl (pc' := 10) rfl ?_
  refine own_iload C X own_d3_10 rfl (pc' := 12) rfl ?_
  refine own_iconst C X own_d3_12 (v := 1) (by decide) (pc' := 13) rfl ?_
  refine own_isub C X own_d3_13 (z := 5) (by decide) (pc' := 14) rfl ?_
  refine own_iconst C X own_d3_14 (v := 2) (by decide) (pc' := 15) rfl ?_
  refine own_idiv C X own_d3_15 (by decide) (z := 2) (by decide) (pc' := 16) rfl ?_
  refine own_iadd C X own_d3_16 (z := 2) (by decide) (pc' := 17) rfl ?_
  refine own_laload C X own_d3_17 A (by decide) (i := 2) rfl (pc' := 18) rfl ?_
  refine own_lloadN C X own_d3_18 rfl (pc' := 19) rfl ?_
  refine own_lcmp_ge C X own_d3_19 own_d3_20 (pcT := 50) (pc' := 23) (by decide) (by decide) rfl (fun hc19 => absurd hc19 (not_not_intro g0)) (fun hc19 => ?_)
  refine own_aloadN C X own_d3_23 rfl rfl (pc' := 24) rfl ?_
  refine own_iloadN C X own_d3_24 rfl (pc' := 25) rfl ?_
  refine own_iload C X own_d3_25 rfl (pc' := 27) rfl ?_
  refine own_iadd C X own_d3_27 (z := 6) (by decide) (pc' := 28) rfl ?_
  refine own_aloadN C X own_d3_28 rfl rfl (pc' := 29) rfl ?_
  refine own_iloadN C X own_d3_29 rfl (pc' := 30) rfl ?_
  refine own_iload C X own_d3_30 rfl (pc' := 32) rfl ?_
  refine own_iconst C X own_d3_32 (v := 1) (by decide) (pc' := 33) rfl ?_
  refine own_isub C X own_d3_33 (z := 5) (by decide) (pc' := 34) rfl ?_
  refine own_iconst C X own_d3_34 (v := 2) (by decide) (pc' := 35) rfl ?_
  refine own_idiv C X own_d3_35 (by decide) (z := 2) (by decide) (pc' := 36) rfl ?_
  refine own_iadd C X own_d3_36 (z := 2) (by decide) (pc' := 37) rfl ?_
  refine own_laload C X own_d3_37 A (by decide) (i := 2) rfl (pc' := 38) rfl ?_
  refine own_lastore C X own_d3_38 A (by decide) (i := 6) (Nat.le_of_ble_eq_true rfl) ge_a (pc' := 39) rfl ?_
  intro T h X K_ A_
  have A : own_JA Z h a [x0, x1, x2, x3, x4, x5, x2, x7] := A_
  have KK := KK.trans K_ (allS (Or.inl (by simp)) all0)
  refine own_iload C X own_d3_39 rfl (pc' := 41) rfl ?_
  refine own_iconst C X own_d3_41 (v := 1) (by decide) (pc' := 42) rfl ?_
  refine own_isub C X own_d3_42 (z := 5) (by decide) (pc' := 43) rfl ?_
  refine own_iconst C X own_d3_43 (v := 2) (by decide) (pc' := 44) rfl ?_
  refine own_idiv C X own_d3_44 (by decide) (z := 2) (by decide) (pc' := 45) rfl ?_
  refine own_istore C X own_d3_45 (L' := #[.val (.ref a), .val (.int (0 : Int32)), .val (.int (6 : Int32)), .val (.long en), .second, .val (.int (2 : Int32))]) rfl (pc' := 47) rfl ?_
  refine own_goto C X own_d3_47 (pc' := 3) (by decide) (by decide) ?_
  refine own_iload C X own_d3_3 rfl (pc' := 5) rfl ?_
  refine own_if_le C X own_d3_5 (pcT := 50) (pc' := 8) (by decide) (by decide) rfl (fun hc5_2 => absurd hc5_2 (by decide)) (fun hc5_2 => ?_)
  refine own_aloadN C X own_d3_8 rfl rfl (pc' := 9) rfl ?_
  refine own_iloadN C X own_d3_9 rfl (pc' := 10) rfl ?_
  refine own_iload C X own_d3_10 rfl (pc' := 12) rfl ?_
  refine own_iconst C X own_d3_12 (v := 1) (by decide) (pc' := 13) rfl ?_
  refine own_isub C X own_d3_13 (z := 1) (by decide) (pc' := 14) rfl ?_
  refine own_iconst C X own_d3_14 (v := 2) (by decide) (pc' := 15) rfl ?_
  refine own_idiv C X own_d3_15 (by decide) (z := 0) (by decide) (pc' := 16) rfl ?_
  refine own_iadd C X own_d3_16 (z := 0) (by decide) (pc' := 17) rfl ?_
  refine own_laload C X own_d3_17 A (by decide) (i := 0) rfl (pc' := 18) rfl ?_
  refine own_lloadN C X own_d3_18 rfl (pc' := 19) rfl ?_
  refine own_lcmp_ge C X own_d3_19 own_d3_20 (pcT := 50) (pc' := 23) (by decide) (by decide) rfl (fun hc19_2 => absurd hc19_2 (not_not_intro g1)) (fun hc19_2 => ?_)
  refine own_aloadN C X own_d3_23 rfl rfl (pc' := 24) rfl ?_
  refine own_iloadN C X own_d3_24 rfl (pc' := 25) rfl ?_
  refine own_iload C X own_d3_25 rfl (pc' := 27) rfl ?_
  refine own_iadd C X own_d3_27 (z := 2) (by decide) (pc' := 28) rfl ?_
  refine own_aloadN C X own_d3_28 rfl rfl (pc' := 29) rfl ?_
  refine own_iloadN C X own_d3_29 rfl (pc' := 30) rfl ?_
  refine own_iload C X own_d3_30 rfl (pc' := 32) rfl ?_
  refine own_iconst C X own_d3_32 (v := 1) (by decide) (pc' := 33) rfl ?_
  refine own_isub C X own_d3_33 (z := 1) (by decide) (pc' := 34) rfl ?_
  refine own_iconst C X own_d3_34 (v := 2) (by decide) (pc' := 35) rfl ?_
  refine own_idiv C X own_d3_35 (by decide) (z := 0) (by decide) (pc' := 36) rfl ?_
  refine own_iadd C X own_d3_36 (z := 0) (by decide) (pc' := 37) rfl ?_
  refine own_laload C X own_d3_37 A (by decide) (i := 0) rfl (pc' := 38) rfl ?_
  refine own_lastore C X own_d3_38 A (by decide) (i := 2) (Nat.le_of_ble_eq_true rfl) ge_a (pc' := 39) rfl ?_
  intro T h X K_ A_
  have A : own_JA Z h a [x0, x1, x0, x3, x4, x5, x2, x7] := A_
  have KK := KK.trans K_ (allS (Or.inl (by simp)) all0)
  refine own_iload C X own_d3_39 rfl (pc' := 41) rfl ?_
  refine own_iconst C X own_d3_41 (v := 1) (by decide) (pc' := 42) rfl ?_
  refine own_isub C X own_d3_42 (z := 1) (by decide) (pc' := 43) rfl ?_
  refine own_iconst C X own_d3_43 (v := 2) (by decide) (pc' := 44) rfl ?_
  refine own_idiv C X own_d3_44 (by decide) (z := 0) (by decide) (pc' := 45) rfl ?_
  refine own_istore C X own_d3_45 (L' := #[.val (.ref a), .val (.int (0 : Int32)), .val (.int (6 : Int32)), .val (.long en), .second, .val (.int (0 : Int32))]) rfl (pc' := 47) rfl ?_
  refine own_goto C X own_d3_47 (pc' := 3) (by decide) (by decide) ?_
  refine own_iload C X own_d3_3 rfl (pc' := 5) rfl ?_
  refine own_if_le C X own_d3_5 (pcT := 50) (pc' := 8) (by decide) (by decide) rfl (fun hc5_3 => ?_) (fun hc5_3 => absurd hc5_3 (by decide))
  refine own_aloadN C X own_d3_50 rfl rfl (pc' := 51) rfl ?_
  refine own_iloadN C X own_d3_51 rfl (pc' := 52) rfl ?_
  refine own_iload C X own_d3_52 rfl (pc' := 54) rfl ?_
  refine own_iadd C X own_d3_54 (z := 0) (by decide) (pc' := 55) rfl ?_
  refine own_lloadN C X own_d3_55 rfl (pc' := 56) rfl ?_
  refine own_lastore C X own_d3_56 A (by decide) (i := 0) (Nat.le_of_ble_eq_true rfl) ge_a (pc' := 57) rfl ?_
  intro T h X K_ A_
  have A : own_JA Z h a [en, x1, x0, x3, x4, x5, x2, x7] := A_
  have KK := KK.trans K_ (allS (Or.inl (by simp)) all0)
  exact own_return C X own_d3_57 (Nat.le_of_ble_eq_true rfl) (Nat.le_of_ble_eq_true rfl) (⟨rfl, KK, A⟩)
theorem own_ef_add610 (a : Addr) (en : Int64) (m : MethodId) : entryFrame m #[(.ref a), (.int (1 : Int32)), (.int (6 : Int32)), (.long en)] 6 = mkF m 0 #[.val (.ref a), .val (.int (1 : Int32)), .val (.int (6 : Int32)), .val (.long en), .second, .unset] [] := by first | (simp [entryFrame, mkF, argsToLocals, Value.category]; done) | rfl
set_option maxRecDepth 65536 in
set_option maxHeartbeats 40000000 in
theorem own_m_add610 (l : Launch) (Z : State) (a0 : Array Value) (hw : ∀ d ∈ tables_1, d.before a0 Z = true) (a : Addr) (en : Int64) (h0 : Heap) (n0 : Nat) (hn0 : n0 ≤ h0.size) (x0 x1 x2 x3 x4 x5 x6 x7 : Int64) (A : own_JA Z h0 a [x0, x1, x2, x3, x4, x5, x6, x7]) (ge_a : n0 ≤ a) (g0 : ¬ x3 < en) : own_Met l Z n0 (⟨"com/example/stablemate/stablemate/SliceHeaps", "add", "([JIIJ)V"⟩ : MethodName) prog_40_method_3_code 6 none [] ({ frames := 0, cells := 0, slots := 0, locals := 0 } : Room) #[(.ref a), (.int (1 : Int32)), (.int (6 : Int32)), (.long en)] h0 (fun v h => v = none ∧ Keep h0 h [a] ∧ own_JA Z h a [x0, x1, x2, x3, x4, x5, x6, en]) := by
  refine own_body (plainFor_of_name own_pn_com_example_stablemate_stablemate_SliceHeaps) hn0 (own_ef_add610 a en) ?_
  intro p e s m below meth c T C X
  have KK := Keep.refl h0 [a]
  refine own_iloadN C X own_d3_0 rfl (pc' := 1) rfl ?_
  refine own_istore C X own_d3_1 (L' := #[.val (.ref a), .val (.int (1 : Int32)), .val (.int (6 : Int32)), .val (.long en), .second, .val (.int (6 : Int32))]) rfl (pc' := 3) rfl ?_
  refine own_iload C X own_d3_3 rfl (pc' := 5) rfl ?_
  refine own_if_le C X own_d3_5 (pcT := 50) (pc' := 8) (by decide) (by decide) rfl (fun hc5 => absurd hc5 (by decide)) (fun hc5 => ?_)
  refine own_aloadN C X own_d3_8 rfl rfl (pc' := 9) rfl ?_
  refine own_iloadN C X own_d3_9 rfl (pc' := 10) rfl ?_
  refine own_iload C X own_d3_10 rfl (pc' := 12) rfl ?_
  refine own_iconst C X own_d3_12 (v := 1) (by decide) (pc' := 13) rfl ?_
  refine own_isub C X own_d3_13 (z := 5) (by decide) (pc' := 14) rfl ?_
  refine own_iconst C X own_d3_14 (v := 2) (by decide) (pc' := 15) rfl ?_
  refine own_idiv C X own_d3_15 (by decide) (z := 2) (by decide) (pc' := 16) rfl ?_
  refine own_iadd C X own_d3_16 (z := 3) (by decide) (pc' := 17) rfl ?_
  refine own_laload C X own_d3_17 A (by decide) (i := 3) rfl (pc' := 18) rfl ?_
  refine own_lloadN C X own_d3_18 rfl (pc' := 19) rfl ?_
  refine own_lcmp_ge C X own_d3_19 own_d3_20 (pcT := 50) (pc' := 23) (by decide) (by decide) rfl (fun hc19 => ?_) (fun hc19 => absurd hc19 (g0))
  refine own_aloadN C X own_d3_50 rfl rfl (pc' := 51) rfl ?_
  refine own_iloadN C X own_d3_51 rfl (pc' := 52) rfl ?_
  refine own_iload C X own_d3_52 rfl (pc' := 54) rfl ?_
  refine own_iadd C X own_d3_54 (z := 7) (by decide) (pc' := 55) rfl ?_
  refine own_lloadN C X own_d3_55 rfl (pc' := 56) rfl ?_
  refine own_lastore C X own_d3_56 A (by decide) (i := 7) (Nat.le_of_ble_eq_true rfl) ge_a (pc' := 57) rfl ?_
  intro T h X K_ A_
  have A : own_JA Z h a [x0, x1, x2, x3, x4, x5, x6, en] := A_
  have KK := KK.trans K_ (allS (Or.inl (by simp)) all0)
  exact own_return C X own_d3_57 (Nat.le_of_ble_eq_true rfl) (Nat.le_of_ble_eq_true rfl) (⟨rfl, KK, A⟩)
theorem own_ef_add611 (a : Addr) (en : Int64) (m : MethodId) : entryFrame m #[(.ref a), (.int (1 : Int32)), (.int (6 : Int32)), (.long en)] 6 = mkF m 0 #[.val (.ref a), .val (.int (1 : Int32)), .val (.int (6 : Int32)), .val (.long en), .second, .unset] [] := by first | (simp [entryFrame, mkF, argsToLocals, Value.category]; done) | rfl
set_option maxRecDepth 65536 in
set_option maxHeartbeats 40000000 in
theorem own_m_add611 (l : Launch) (Z : State) (a0 : Array Value) (hw : ∀ d ∈ tables_1, d.before a0 Z = true) (a : Addr) (en : Int64) (h0 : Heap) (n0 : Nat) (hn0 : n0 ≤ h0.size) (x0 x1 x2 x3 x4 x5 x6 x7 : Int64) (A : own_JA Z h0 a [x0, x1, x2, x3, x4, x5, x6, x7]) (ge_a : n0 ≤ a) (g0 : x3 < en) (g1 : ¬ x1 < en) : own_Met l Z n0 (⟨"com/example/stablemate/stablemate/SliceHeaps", "add", "([JIIJ)V"⟩ : MethodName) prog_40_method_3_code 6 none [] ({ frames := 0, cells := 0, slots := 0, locals := 0 } : Room) #[(.ref a), (.int (1 : Int32)), (.int (6 : Int32)), (.long en)] h0 (fun v h => v = none ∧ Keep h0 h [a] ∧ own_JA Z h a [x0, x1, x2, en, x4, x5, x6, x3]) := by
  refine own_body (plainFor_of_name own_pn_com_example_stablemate_stablemate_SliceHeaps) hn0 (own_ef_add611 a en) ?_
  intro p e s m below meth c T C X
  have KK := Keep.refl h0 [a]
  refine own_iloadN C X own_d3_0 rfl (pc' := 1) rfl ?_
  refine own_istore C X own_d3_1 (L' := #[.val (.ref a), .val (.int (1 : Int32)), .val (.int (6 : Int32)), .val (.long en), .second, .val (.int (6 : Int32))]) rfl (pc' := 3) rfl ?_
  refine own_iload C X own_d3_3 rfl (pc' := 5) rfl ?_
  refine own_if_le C X own_d3_5 (pcT := 50) (pc' := 8) (by decide) (by decide) rfl (fun hc5 => absurd hc5 (by decide)) (fun hc5 => ?_)
  refine own_aloadN C X own_d3_8 rfl rfl (pc' := 9) rfl ?_
  refine own_iloadN C X own_d3_9 rfl (pc' := 10) rfl ?_
  refine own_iload C X own_d3_10 rfl (pc' := 12) rfl ?_
  refine own_iconst C X own_d3_12 (v := 1) (by decide) (pc' := 13) rfl ?_
  refine own_isub C X own_d3_13 (z := 5) (by decide) (pc' := 14) rfl ?_
  refine own_iconst C X own_d3_14 (v := 2) (by decide) (pc' := 15) rfl ?_
  refine own_idiv C X own_d3_15 (by decide) (z := 2) (by decide) (pc' := 16) rfl ?_
  refine own_iadd C X own_d3_16 (z := 3) (by decide) (pc' := 17) rfl ?_
  refine own_laload C X own_d3_17 A (by decide) (i := 3) rfl (pc' := 18) rfl ?_
  refine own_lloadN C X own_d3_18 rfl (pc' := 19) rfl ?_
  refine own_lcmp_ge C X own_d3_19 own_d3_20 (pcT := 50) (pc' := 23) (by decide) (by decide) rfl (fun hc19 => absurd hc19 (not_not_intro g0)) (fun hc19 => ?_)
  refine own_aloadN C X own_d3_23 rfl rfl (pc' := 24) rfl ?_
  refine own_iloadN C X own_d3_24 rfl (pc' := 25) rfl ?_
  refine own_iload C X own_d3_25 rfl (pc' := 27) rfl ?_
  refine own_iadd C X own_d3_27 (z := 7) (by decide) (pc' := 28) rfl ?_
  refine own_aloadN C X own_d3_28 rfl rfl (pc' := 29) rfl ?_
  refine own_iloadN C X own_d3_29 rfl (pc' := 30) rfl ?_
  refine own_iload C X own_d3_30 rfl (pc' := 32) rfl ?_
  refine own_iconst C X own_d3_32 (v := 1) (by decide) (pc' := 33) rfl ?_
  refine own_isub C X own_d3_33 (z := 5) (by decide) (pc' := 34) rfl ?_
  refine own_iconst C X own_d3_34 (v := 2) (by decide) (pc' := 35) rfl ?_
  refine own_idiv C X own_d3_35 (by decide) (z := 2) (by decide) (pc' := 36) rfl ?_
  refine own_iadd C X own_d3_36 (z := 3) (by decide) (pc' := 37) rfl ?_
  refine own_laload C X own_d3_37 A (by decide) (i := 3) rfl (pc' := 38) rfl ?_
  refine own_lastore C X own_d3_38 A (by decide) (i := 7) (Nat.le_of_ble_eq_true rfl) ge_a (pc' := 39) rfl ?_
  intro T h X K_ A_
  have A : own_JA Z h a [x0, x1, x2, x3, x4, x5, x6, x3] := A_
  have KK := KK.trans K_ (allS (Or.inl (by simp)) all0)
  refine own_iload C X own_d3_39 rfl (pc' := 41) rfl ?_
  refine own_iconst C X own_d3_41 (v := 1) (by decide) (pc' := 42) rfl ?_
  refine own_isub C X own_d3_42 (z := 5) (by decide) (pc' := 43) rfl ?_
  refine own_iconst C X own_d3_43 (v := 2) (by decide) (pc' := 44) rfl ?_
  refine own_idiv C X own_d3_44 (by decide) (z := 2) (by decide) (pc' := 45) rfl ?_
  refine own_istore C X own_d3_45 (L' := #[.val (.ref a), .val (.int (1 : Int32)), .val (.int (6 : Int32)), .val (.long en), .second, .val (.int (2 : Int32))]) rfl (pc' := 47) rfl ?_
  refine own_goto C X own_d3_47 (pc' := 3) (by decide) (by decide) ?_
  refine own_iload C X own_d3_3 rfl (pc' := 5) rfl ?_
  refine own_if_le C X own_d3_5 (pcT := 50) (pc' := 8) (by decide) (by decide) rfl (fun hc5_2 => absurd hc5_2 (by decide)) (fun hc5_2 => ?_)
  refine own_aloadN C X own_d3_8 rfl rfl (pc' := 9) rfl ?_
  refine own_iloadN C X own_d3_9 rfl (pc' := 10) rfl ?_
  refine own_iload C X own_d3_10 rfl (pc' := 12) rfl ?_
  refine own_iconst C X own_d3_12 (v := 1) (by decide) (pc' := 13) rfl ?_
  refine own_isub C X own_d3_13 (z := 1) (by decide) (pc' := 14) rfl ?_
  refine own_iconst C X own_d3_14 (v := 2) (by decide) (pc' := 15) rfl ?_
  refine own_idiv C X own_d3_15 (by decide) (z := 0) (by decide) (pc' := 16) rfl ?_
  refine own_iadd C X own_d3_16 (z := 1) (by decide) (pc' := 17) rfl ?_
  refine own_laload C X own_d3_17 A (by decide) (i := 1) rfl (pc' := 18) rfl ?_
  refine own_lloadN C X own_d3_18 rfl (pc' := 19) rfl ?_
  refine own_lcmp_ge C X own_d3_19 own_d3_20 (pcT := 50) (pc' := 23) (by decide) (by decide) rfl (fun hc19_2 => ?_) (fun hc19_2 => absurd hc19_2 (g1))
  refine own_aloadN C X own_d3_50 rfl rfl (pc' := 51) rfl ?_
  refine own_iloadN C X own_d3_51 rfl (pc' := 52) rfl ?_
  refine own_iload C X own_d3_52 rfl (pc' := 54) rfl ?_
  refine own_iadd C X own_d3_54 (z := 3) (by decide) (pc' := 55) rfl ?_
  refine own_lloadN C X own_d3_55 rfl (pc' := 56) rfl ?_
  refine own_lastore C X own_d3_56 A (by decide) (i := 3) (Nat.le_of_ble_eq_true rfl) ge_a (pc' := 57) rfl ?_
  intro T h X K_ A_
  have A : own_JA Z h a [x0, x1, x2, en, x4, x5, x6, x3] := A_
  have KK := KK.trans K_ (allS (Or.inl (by simp)) all0)
  exact own_return C X own_d3_57 (Nat.le_of_ble_eq_true rfl) (Nat.le_of_ble_eq_true rfl) (⟨rfl, KK, A⟩)
theorem own_ef_add612 (a : Addr) (en : Int64) (m : MethodId) : entryFrame m #[(.ref a), (.int (1 : Int32)), (.int (6 : Int32)), (.long en)] 6 = mkF m 0 #[.val (.ref a), .val (.int (1 : Int32)), .val (.int (6 : Int32)), .val (.long en), .second, .unset] [] := by first | (simp [entryFrame, mkF, argsToLocals, Value.category]; done) | rfl
set_option maxRecDepth 65536 in
set_option maxHeartbeats 40000000 in
theorem own_m_add612 (l : Launch) (Z : State) (a0 : Array Value) (hw : ∀ d ∈ tables_1, d.before a0 Z = true) (a : Addr) (en : Int64) (h0 : Heap) (n0 : Nat) (hn0 : n0 ≤ h0.size) (x0 x1 x2 x3 x4 x5 x6 x7 : Int64) (A : own_JA Z h0 a [x0, x1, x2, x3, x4, x5, x6, x7]) (ge_a : n0 ≤ a) (g0 : x3 < en) (g1 : x1 < en) : own_Met l Z n0 (⟨"com/example/stablemate/stablemate/SliceHeaps", "add", "([JIIJ)V"⟩ : MethodName) prog_40_method_3_code 6 none [] ({ frames := 0, cells := 0, slots := 0, locals := 0 } : Room) #[(.ref a), (.int (1 : Int32)), (.int (6 : Int32)), (.long en)] h0 (fun v h => v = none ∧ Keep h0 h [a] ∧ own_JA Z h a [x0, en, x2, x1, x4, x5, x6, x3]) := by
  refine own_body (plainFor_of_name own_pn_com_example_stablemate_stablemate_SliceHeaps) hn0 (own_ef_add612 a en) ?_
  intro p e s m below meth c T C X
  have KK := Keep.refl h0 [a]
  refine own_iloadN C X own_d3_0 rfl (pc' := 1) rfl ?_
  refine own_istore C X own_d3_1 (L' := #[.val (.ref a), .val (.int (1 : Int32)), .val (.int (6 : Int32)), .val (.long en), .second, .val (.int (6 : Int32))]) rfl (pc' := 3) rfl ?_
  refine own_iload C X own_d3_3 rfl (pc' := 5) rfl ?_
  refine own_if_le C X own_d3_5 (pcT := 50) (pc' := 8) (by decide) (by decide) rfl (fun hc5 => absurd hc5 (by decide)) (fun hc5 => ?_)
  refine own_aloadN C X own_d3_8 rfl rfl (pc' := 9) rfl ?_
  refine own_iloadN C X own_d3_9 rfl (pc' := 10) rfl ?_
  refine own_iload C X own_d3_10 rfl (pc' := 12) rfl ?_
  refine own_iconst C X own_d3_12 (v := 1) (by decide) (pc' := 13) rfl ?_
  refine own_isub C X own_d3_13 (z := 5) (by decide) (pc' := 14) rfl ?_
  refine own_iconst C X own_d3_14 (v := 2) (by decide) (pc' := 15) rfl ?_
  refine own_idiv C X own_d3_15 (by decide) (z := 2) (by decide) (pc' := 16) rfl ?_
  refine own_iadd C X own_d3_16 (z := 3) (by decide) (pc' := 17) rfl ?_
  refine own_laload C X own_d3_17 A (by decide) (i := 3) rfl (pc' := 18) rfl ?_
  refine own_lloadN C X own_d3_18 rfl (pc' := 19) rfl ?_
  refine own_lcmp_ge C X own_d3_19 own_d3_20 (pcT := 50) (pc' := 23) (by decide) (by decide) rfl (fun hc19 => absurd hc19 (not_not_intro g0)) (fun hc19 => ?_)
  refine own_aloadN C X own_d3_23 rfl rfl (pc' := 24) rfl ?_
  refine own_iloadN C X own_d3_24 rfl (pc' := 25) rfl ?_
  refine own_iload C X own_d3_25 rfl (pc' := 27) rfl ?_
  refine own_iadd C X own_d3_27 (z := 7) (by decide) (pc' := 28) rfl ?_
  refine own_aloadN C X own_d3_28 rfl rfl (pc' := 29) rfl ?_
  refine own_iloadN C X own_d3_29 rfl (pc' := 30) rfl ?_
  refine own_iload C X own_d3_30 rfl (pc' := 32) rfl ?_
  refine own_iconst C X own_d3_32 (v := 1) (by decide) (pc' := 33) rfl ?_
  refine own_isub C X own_d3_33 (z := 5) (by decide) (pc' := 34) rfl ?_
  refine own_iconst C X own_d3_34 (v := 2) (by decide) (pc' := 35) rfl ?_
  refine own_idiv C X own_d3_35 (by decide) (z := 2) (by decide) (pc' := 36) rfl ?_
  refine own_iadd C X own_d3_36 (z := 3) (by decide) (pc' := 37) rfl ?_
  refine own_laload C X own_d3_37 A (by decide) (i := 3) rfl (pc' := 38) rfl ?_
  refine own_lastore C X own_d3_38 A (by decide) (i := 7) (Nat.le_of_ble_eq_true rfl) ge_a (pc' := 39) rfl ?_
  intro T h X K_ A_
  have A : own_JA Z h a [x0, x1, x2, x3, x4, x5, x6, x3] := A_
  have KK := KK.trans K_ (allS (Or.inl (by simp)) all0)
  refine own_iload C X own_d3_39 rfl (pc' := 41) rfl ?_
  refine own_iconst C X own_d3_41 (v := 1) (by decide) (pc' := 42) rfl ?_
  refine own_isub C X own_d3_42 (z := 5) (by decide) (pc' := 43) rfl ?_
  refine own_iconst C X own_d3_43 (v := 2) (by decide) (pc' := 44) rfl ?_
  refine own_idiv C X own_d3_44 (by decide) (z := 2) (by decide) (pc' := 45) rfl ?_
  refine own_istore C X own_d3_45 (L' := #[.val (.ref a), .val (.int (1 : Int32)), .val (.int (6 : Int32)), .val (.long en), .second, .val (.int (2 : Int32))]) rfl (pc' := 47) rfl ?_
  refine own_goto C X own_d3_47 (pc' := 3) (by decide) (by decide) ?_
  refine own_iload C X own_d3_3 rfl (pc' := 5) rfl ?_
  refine own_if_le C X own_d3_5 (pcT := 50) (pc' := 8) (by decide) (by decide) rfl (fun hc5_2 => absurd hc5_2 (by decide)) (fun hc5_2 => ?_)
  refine own_aloadN C X own_d3_8 rfl rfl (pc' := 9) rfl ?_
  refine own_iloadN C X own_d3_9 rfl (pc' := 10) rfl ?_
  refine own_iload C X own_d3_10 rfl (pc' := 12) rfl ?_
  refine own_iconst C X own_d3_12 (v := 1) (by decide) (pc' := 13) rfl ?_
  refine own_isub C X own_d3_13 (z := 1) (by decide) (pc' := 14) rfl ?_
  refine own_iconst C X own_d3_14 (v := 2) (by decide) (pc' := 15) rfl ?_
  refine own_idiv C X own_d3_15 (by decide) (z := 0) (by decide) (pc' := 16) rfl ?_
  refine own_iadd C X own_d3_16 (z := 1) (by decide) (pc' := 17) rfl ?_
  refine own_laload C X own_d3_17 A (by decide) (i := 1) rfl (pc' := 18) rfl ?_
  refine own_lloadN C X own_d3_18 rfl (pc' := 19) rfl ?_
  refine own_lcmp_ge C X own_d3_19 own_d3_20 (pcT := 50) (pc' := 23) (by decide) (by decide) rfl (fun hc19_2 => absurd hc19_2 (not_not_intro g1)) (fun hc19_2 => ?_)
  refine own_aloadN C X own_d3_23 rfl rfl (pc' := 24) rfl ?_
  refine own_iloadN C X own_d3_24 rfl (pc' := 25) rfl ?_
  refine own_iload C X own_d3_25 rfl (pc' := 27) rfl ?_
  refine own_iadd C X own_d3_27 (z := 3) (by decide) (pc' := 28) rfl ?_
  refine own_aloadN C X own_d3_28 rfl rfl (pc' := 29) rfl ?_
  refine own_iloadN C X own_d3_29 rfl (pc' := 30) rfl ?_
  refine own_iload C X own_d3_30 rfl (pc' := 32) rfl ?_
  refine own_iconst C X own_d3_32 (v := 1) (by decide) (pc' := 33) rfl ?_
  refine own_isub C X own_d3_33 (z := 1) (by decide) (pc' := 34) rfl ?_
  refine own_iconst C X own_d3_34 (v := 2) (by decide) (pc' := 35) rfl ?_
  refine own_idiv C X own_d3_35 (by decide) (z := 0) (by decide) (pc' := 36) rfl ?_
  refine own_iadd C X own_d3_36 (z := 1) (by decide) (pc' := 37) rfl ?_
  refine own_laload C X own_d3_37 A (by decide) (i := 1) rfl (pc' := 38) rfl ?_
  refine own_lastore C X own_d3_38 A (by decide) (i := 3) (Nat.le_of_ble_eq_true rfl) ge_a (pc' := 39) rfl ?_
  intro T h X K_ A_
  have A : own_JA Z h a [x0, x1, x2, x1, x4, x5, x6, x3] := A_
  have KK := KK.trans K_ (allS (Or.inl (by simp)) all0)
  refine own_iload C X own_d3_39 rfl (pc' := 41) rfl ?_
  refine own_iconst C X own_d3_41 (v := 1) (by decide) (pc' := 42) rfl ?_
  refine own_isub C X own_d3_42 (z := 1) (by decide) (pc' := 43) rfl ?_
  refine own_iconst C X own_d3_43 (v := 2) (by decide) (pc' := 44) rfl ?_
  refine own_idiv C X own_d3_44 (by decide) (z := 0) (by decide) (pc' := 45) rfl ?_
  refine own_istore C X own_d3_45 (L' := #[.val (.ref a), .val (.int (1 : Int32)), .val (.int (6 : Int32)), .val (.long en), .second, .val (.int (0 : Int32))]) rfl (pc' := 47) rfl ?_
  refine own_goto C X own_d3_47 (pc' := 3) (by decide) (by decide) ?_
  refine own_iload C X own_d3_3 rfl (pc' := 5) rfl ?_
  refine own_if_le C X own_d3_5 (pcT := 50) (pc' := 8) (by decide) (by decide) rfl (fun hc5_3 => ?_) (fun hc5_3 => absurd hc5_3 (by decide))
  refine own_aloadN C X own_d3_50 rfl rfl (pc' := 51) rfl ?_
  refine own_iloadN C X own_d3_51 rfl (pc' := 52) rfl ?_
  refine own_iload C X own_d3_52 rfl (pc' := 54) rfl ?_
  refine own_iadd C X own_d3_54 (z := 1) (by decide) (pc' := 55) rfl ?_
  refine own_lloadN C X own_d3_55 rfl (pc' := 56) rfl ?_
  refine own_lastore C X own_d3_56 A (by decide) (i := 1) (Nat.le_of_ble_eq_true rfl) ge_a (pc' := 57) rfl ?_
  intro T h X K_ A_
  have A : own_JA Z h a [x0, en, x2, x1, x4, x5, x6, x3] := A_
  have KK := KK.trans K_ (allS (Or.inl (by simp)) all0)
  exact own_return C X own_d3_57 (Nat.le_of_ble_eq_true rfl) (Nat.le_of_ble_eq_true rfl) (⟨rfl, KK, A⟩)
theorem own_ef_same (a : Addr) (b : Addr) (m : MethodId) : entryFrame m #[(.ref a), (.ref b)] 2 = mkF m 0 #[.val (.ref a), .val (.ref b)] [] := by first | (simp [entryFrame, mkF, argsToLocals, Value.category]; done) | rfl
theorem own_d4_0 : decode method_4_code 0 = .ok (.aload_n 0, 1) := by decide +kernel
theorem own_d4_1 : decode method_4_code 1 = .ok (.iconst 0, 1) := by decide +kernel
theorem own_d4_2 : decode method_4_code 2 = .ok (.laload, 1) := by decide +kernel
theorem own_d4_3 : decode method_4_code 3 = .ok (.aload_n 1, 1) := by decide +kernel
theorem own_d4_4 : decode method_4_code 4 = .ok (.iconst 0, 1) := by decide +kernel
theorem own_d4_5 : decode method_4_code 5 = .ok (.laload, 1) := by decide +kernel
theorem own_d4_6 : decode method_4_code 6 = .ok (.lcmp, 1) := by decide +kernel
theorem own_d4_7 : decode method_4_code 7 = .ok (.ifCond .ne 81, 3) := by decide +kernel
theorem own_d4_10 : decode method_4_code 10 = .ok (.aload_n 0, 1) := by decide +kernel
theorem own_d4_11 : decode method_4_code 11 = .ok (.iconst 1, 1) := by decide +kernel
theorem own_d4_12 : decode method_4_code 12 = .ok (.laload, 1) := by decide +kernel
theorem own_d4_13 : decode method_4_code 13 = .ok (.aload_n 1, 1) := by decide +kernel
theorem own_d4_14 : decode method_4_code 14 = .ok (.iconst 1, 1) := by decide +kernel
theorem own_d4_15 : decode method_4_code 15 = .ok (.laload, 1) := by decide +kernel
theorem own_d4_16 : decode method_4_code 16 = .ok (.lcmp, 1) := by decide +kernel
theorem own_d4_17 : decode method_4_code 17 = .ok (.ifCond .ne 71, 3) := by decide +kernel
theorem own_d4_20 : decode method_4_code 20 = .ok (.aload_n 0, 1) := by decide +kernel
theorem own_d4_21 : decode method_4_code 21 = .ok (.iconst 2, 1) := by decide +kernel
theorem own_d4_22 : decode method_4_code 22 = .ok (.laload, 1) := by decide +kernel
theorem own_d4_23 : decode method_4_code 23 = .ok (.aload_n 1, 1) := by decide +kernel
theorem own_d4_24 : decode method_4_code 24 = .ok (.iconst 2, 1) := by decide +kernel
theorem own_d4_25 : decode method_4_code 25 = .ok (.laload, 1) := by decide +kernel
theorem own_d4_26 : decode method_4_code 26 = .ok (.lcmp, 1) := by decide +kernel
theorem own_d4_27 : decode method_4_code 27 = .ok (.ifCond .ne 61, 3) := by decide +kernel
theorem own_d4_30 : decode method_4_code 30 = .ok (.aload_n 0, 1) := by decide +kernel
theorem own_d4_31 : decode method_4_code 31 = .ok (.iconst 3, 1) := by decide +kernel
theorem own_d4_32 : decode method_4_code 32 = .ok (.laload, 1) := by decide +kernel
theorem own_d4_33 : decode method_4_code 33 = .ok (.aload_n 1, 1) := by decide +kernel
theorem own_d4_34 : decode method_4_code 34 = .ok (.iconst 3, 1) := by decide +kernel
theorem own_d4_35 : decode method_4_code 35 = .ok (.laload, 1) := by decide +kernel
theorem own_d4_36 : decode method_4_code 36 = .ok (.lcmp, 1) := by decide +kernel
theorem own_d4_37 : decode method_4_code 37 = .ok (.ifCond .ne 51, 3) := by decide +kernel
theorem own_d4_40 : decode method_4_code 40 = .ok (.aload_n 0, 1) := by decide +kernel
theorem own_d4_41 : decode method_4_code 41 = .ok (.iconst 4, 1) := by decide +kernel
theorem own_d4_42 : decode method_4_code 42 = .ok (.laload, 1) := by decide +kernel
theorem own_d4_43 : decode method_4_code 43 = .ok (.aload_n 1, 1) := by decide +kernel
theorem own_d4_44 : decode method_4_code 44 = .ok (.iconst 4, 1) := by decide +kernel
theorem own_d4_45 : decode method_4_code 45 = .ok (.laload, 1) := by decide +kernel
theorem own_d4_46 : decode method_4_code 46 = .ok (.lcmp, 1) := by decide +kernel
theorem own_d4_47 : decode method_4_code 47 = .ok (.ifCond .ne 41, 3) := by decide +kernel
theorem own_d4_50 : decode method_4_code 50 = .ok (.aload_n 0, 1) := by decide +kernel
theorem own_d4_51 : decode method_4_code 51 = .ok (.iconst 5, 1) := by decide +kernel
theorem own_d4_52 : decode method_4_code 52 = .ok (.laload, 1) := by decide +kernel
theorem own_d4_53 : decode method_4_code 53 = .ok (.aload_n 1, 1) := by decide +kernel
theorem own_d4_54 : decode method_4_code 54 = .ok (.iconst 5, 1) := by decide +kernel
theorem own_d4_55 : decode method_4_code 55 = .ok (.laload, 1) := by decide +kernel
theorem own_d4_56 : decode method_4_code 56 = .ok (.lcmp, 1) := by decide +kernel
theorem own_d4_57 : decode method_4_code 57 = .ok (.ifCond .ne 31, 3) := by decide +kernel
theorem own_d4_60 : decode method_4_code 60 = .ok (.aload_n 0, 1) := by decide +kernel
theorem own_d4_61 : decode method_4_code 61 = .ok (.bipush 6, 2) := by decide +kernel
theorem own_d4_63 : decode method_4_code 63 = .ok (.laload, 1) := by decide +kernel
theorem own_d4_64 : decode method_4_code 64 = .ok (.aload_n 1, 1) := by decide +kernel
theorem own_d4_65 : decode method_4_code 65 = .ok (.bipush 6, 2) := by decide +kernel
theorem own_d4_67 : decode method_4_code 67 = .ok (.laload, 1) := by decide +kernel
theorem own_d4_68 : decode method_4_code 68 = .ok (.lcmp, 1) := by decide +kernel
theorem own_d4_69 : decode method_4_code 69 = .ok (.ifCond .ne 19, 3) := by decide +kernel
theorem own_d4_72 : decode method_4_code 72 = .ok (.aload_n 0, 1) := by decide +kernel
theorem own_d4_73 : decode method_4_code 73 = .ok (.bipush 7, 2) := by decide +kernel
theorem own_d4_75 : decode method_4_code 75 = .ok (.laload, 1) := by decide +kernel
theorem own_d4_76 : decode method_4_code 76 = .ok (.aload_n 1, 1) := by decide +kernel
theorem own_d4_77 : decode method_4_code 77 = .ok (.bipush 7, 2) := by decide +kernel
theorem own_d4_79 : decode method_4_code 79 = .ok (.laload, 1) := by decide +kernel
theorem own_d4_80 : decode method_4_code 80 = .ok (.lcmp, 1) := by decide +kernel
theorem own_d4_81 : decode method_4_code 81 = .ok (.ifCond .ne 7, 3) := by decide +kernel
theorem own_d4_84 : decode method_4_code 84 = .ok (.iconst 1, 1) := by decide +kernel
theorem own_d4_85 : decode method_4_code 85 = .ok (.goto 4, 3) := by decide +kernel
theorem own_d4_89 : decode method_4_code 89 = .ok (.ireturn, 1) := by decide +kernel
set_option maxRecDepth 65536 in
set_option maxHeartbeats 40000000 in
theorem own_m_same (l : Launch) (Z : State) (a0 : Array Value) (hw : ∀ d ∈ tables_1, d.before a0 Z = true) (a : Addr) (b : Addr) (h0 : Heap) (n0 : Nat) (hn0 : n0 ≤ h0.size) (x0 x1 x2 x3 x4 x5 x6 x7 : Int64) (A : own_JA Z h0 a [x0, x1, x2, x3, x4, x5, x6, x7]) (B : own_JA Z h0 b [x0, x1, x2, x3, x4, x5, x6, x7]) : own_Met l Z n0 (⟨"com/example/stablemate/stablemate/SliceHeapsAddPinLaw", "same", "([J[J)Z"⟩ : MethodName) method_4_code 2 (some .boolean) [] ({ frames := 0, cells := 0, slots := 0, locals := 0 } : Room) #[(.ref a), (.ref b)] h0 (fun v h => v = some (.int 1) ∧ h0 = h) := by
  refine own_body (plainFor_of_name own_pn_com_example_stablemate_stablemate_SliceHeapsAddPinLaw) hn0 (own_ef_same a b) ?_
  intro p e s m below meth c T C X
  refine own_aloadN C X own_d4_0 rfl rfl (pc' := 1) rfl ?_
  refine own_iconst C X own_d4_1 (v := 0) (by decide) (pc' := 2) rfl ?_
  refine own_laload C X own_d4_2 A (by decide) (i := 0) rfl (pc' := 3) rfl ?_
  refine own_aloadN C X own_d4_3 rfl rfl (pc' := 4) rfl ?_
  refine own_iconst C X own_d4_4 (v := 0) (by decide) (pc' := 5) rfl ?_
  refine own_laload C X own_d4_5 B (by decide) (i := 0) rfl (pc' := 6) rfl ?_
  refine own_lcmp_ne C X own_d4_6 own_d4_7 (pcT := 88) (pc' := 10) (by decide) (by decide) rfl (fun hc6 => absurd hc6 (not_not_intro rfl)) (fun hc6 => ?_)
  refine own_aloadN C X own_d4_10 rfl rfl (pc' := 11) rfl ?_
  refine own_iconst C X own_d4_11 (v := 1) (by decide) (pc' := 12) rfl ?_
  refine own_laload C X own_d4_12 A (by decide) (i := 1) rfl (pc' := 13) rfl ?_
  refine own_aloadN C X own_d4_13 rfl rfl (pc' := 14) rfl ?_
  refine own_iconst C X own_d4_14 (v := 1) (by decide) (pc' := 15) rfl ?_
  refine own_laload C X own_d4_15 B (by decide) (i := 1) rfl (pc' := 16) rfl ?_
  refine own_lcmp_ne C X own_d4_16 own_d4_17 (pcT := 88) (pc' := 20) (by decide) (by decide) rfl (fun hc16 => absurd hc16 (not_not_intro rfl)) (fun hc16 => ?_)
  refine own_aloadN C X own_d4_20 rfl rfl (pc' := 21) rfl ?_
  refine own_iconst C X own_d4_21 (v := 2) (by decide) (pc' := 22) rfl ?_
  refine own_laload C X own_d4_22 A (by decide) (i := 2) rfl (pc' := 23) rfl ?_
  refine own_aloadN C X own_d4_23 rfl rfl (pc' := 24) rfl ?_
  refine own_iconst C X own_d4_24 (v := 2) (by decide) (pc' := 25) rfl ?_
  refine own_laload C X own_d4_25 B (by decide) (i := 2) rfl (pc' := 26) rfl ?_
  refine own_lcmp_ne C X own_d4_26 own_d4_27 (pcT := 88) (pc' := 30) (by decide) (by decide) rfl (fun hc26 => absurd hc26 (not_not_intro rfl)) (fun hc26 => ?_)
  refine own_aloadN C X own_d4_30 rfl rfl (pc' := 31) rfl ?_
  refine own_iconst C X own_d4_31 (v := 3) (by decide) (pc' := 32) rfl ?_
  refine own_laload C X own_d4_32 A (by decide) (i := 3) rfl (pc' := 33) rfl ?_
  refine own_aloadN C X own_d4_33 rfl rfl (pc' := 34) rfl ?_
  refine own_iconst C X own_d4_34 (v := 3) (by decide) (pc' := 35) rfl ?_
  refine own_laload C X own_d4_35 B (by decide) (i := 3) rfl (pc' := 36) rfl ?_
  refine own_lcmp_ne C X own_d4_36 own_d4_37 (pcT := 88) (pc' := 40) (by decide) (by decide) rfl (fun hc36 => absurd hc36 (not_not_intro rfl)) (fun hc36 => ?_)
  refine own_aloadN C X own_d4_40 rfl rfl (pc' := 41) rfl ?_
  refine own_iconst C X own_d4_41 (v := 4) (by decide) (pc' := 42) rfl ?_
  refine own_laload C X own_d4_42 A (by decide) (i := 4) rfl (pc' := 43) rfl ?_
  refine own_aloadN C X own_d4_43 rfl rfl (pc' := 44) rfl ?_
  refine own_iconst C X own_d4_44 (v := 4) (by decide) (pc' := 45) rfl ?_
  refine own_laload C X own_d4_45 B (by decide) (i := 4) rfl (pc' := 46) rfl ?_
  refine own_lcmp_ne C X own_d4_46 own_d4_47 (pcT := 88) (pc' := 50) (by decide) (by decide) rfl (fun hc46 => absurd hc46 (not_not_intro rfl)) (fun hc46 => ?_)
  refine own_aloadN C X own_d4_50 rfl rfl (pc' := 51) rfl ?_
  refine own_iconst C X own_d4_51 (v := 5) (by decide) (pc' := 52) rfl ?_
  refine own_laload C X own_d4_52 A (by decide) (i := 5) rfl (pc' := 53) rfl ?_
  refine own_aloadN C X own_d4_53 rfl rfl (pc' := 54) rfl ?_
  refine own_iconst C X own_d4_54 (v := 5) (by decide) (pc' := 55) rfl ?_
  refine own_laload C X own_d4_55 B (by decide) (i := 5) rfl (pc' := 56) rfl ?_
  refine own_lcmp_ne C X own_d4_56 own_d4_57 (pcT := 88) (pc' := 60) (by decide) (by decide) rfl (fun hc56 => absurd hc56 (not_not_intro rfl)) (fun hc56 => ?_)
  refine own_aloadN C X own_d4_60 rfl rfl (pc' := 61) rfl ?_
  refine own_bipush C X own_d4_61 (v := 6) (by decide) (pc' := 63) rfl ?_
  refine own_laload C X own_d4_63 A (by decide) (i := 6) rfl (pc' := 64) rfl ?_
  refine own_aloadN C X own_d4_64 rfl rfl (pc' := 65) rfl ?_
  refine own_bipush C X own_d4_65 (v := 6) (by decide) (pc' := 67) rfl ?_
  refine own_laload C X own_d4_67 B (by decide) (i := 6) rfl (pc' := 68) rfl ?_
  refine own_lcmp_ne C X own_d4_68 own_d4_69 (pcT := 88) (pc' := 72) (by decide) (by decide) rfl (fun hc68 => absurd hc68 (not_not_intro rfl)) (fun hc68 => ?_)
  refine own_aloadN C X own_d4_72 rfl rfl (pc' := 73) rfl ?_
  refine own_bipush C X own_d4_73 (v := 7) (by decide) (pc' := 75) rfl ?_
  refine own_laload C X own_d4_75 A (by decide) (i := 7) rfl (pc' := 76) rfl ?_
  refine own_aloadN C X own_d4_76 rfl rfl (pc' := 77) rfl ?_
  refine own_bipush C X own_d4_77 (v := 7) (by decide) (pc' := 79) rfl ?_
  refine own_laload C X own_d4_79 B (by decide) (i := 7) rfl (pc' := 80) rfl ?_
  refine own_lcmp_ne C X own_d4_80 own_d4_81 (pcT := 88) (pc' := 84) (by decide) (by decide) rfl (fun hc80 => absurd hc80 (not_not_intro rfl)) (fun hc80 => ?_)
  refine own_iconst C X own_d4_84 (v := 1) (by decide) (pc' := 85) rfl ?_
  refine own_goto C X own_d4_85 (pc' := 89) (by decide) (by decide) ?_
  exact own_ireturn_z C X own_d4_89 (Nat.le_of_ble_eq_true rfl) (Nat.le_of_ble_eq_true rfl) (⟨rfl, rfl⟩)
theorem own_ef_law (q0 : Int64) (q1 : Int64) (q2 : Int64) (q3 : Int64) (q4 : Int64) (i5 : Int32) (m : MethodId) : entryFrame m #[(.long q0), (.long q1), (.long q2), (.long q3), (.long q4), (.int i5)] maxLocals = mkF m 0 #[.val (.long q0), .second, .val (.long q1), .second, .val (.long q2), .second, .val (.long q3), .second, .val (.long q4), .second, .val (.int i5), .unset, .unset, .unset, .unset, .unset, .unset, .unset, .unset, .unset, .unset, .unset, .unset, .unset, .unset, .unset, .unset, .unset, .unset, .unset, .unset, .unset, .unset] [] := by first | (simp [entryFrame, mkF, argsToLocals, Value.category, maxLocals]; done) | rfl
theorem own_pd_2762 : parseMethodDescriptor "(JJ)J" = some ⟨[.long, .long], some .long⟩ := by decide +kernel
theorem own_pd_11984 : parseMethodDescriptor "(JJJJJJIIJ)[J" = some ⟨[.long, .long, .long, .long, .long, .long, .int, .int, .long], some (.array .long)⟩ := by decide +kernel
theorem own_pd_5832 : parseMethodDescriptor "([JIIJ)V" = some ⟨[(.array .long), .int, .int, .long], none⟩ := by decide +kernel
theorem own_pd_5060 : parseMethodDescriptor "([J[J)Z" = some ⟨[(.array .long), (.array .long)], some .boolean⟩ := by decide +kernel
set_option maxRecDepth 65536 in
set_option maxHeartbeats 40000000 in
theorem own_m_law (l : Launch) (Z : State) (a0 : Array Value) (hw : ∀ d ∈ tables_1, d.before a0 Z = true) (ws : List Jvm.Cond) (q0 : Int64) (q1 : Int64) (q2 : Int64) (q3 : Int64) (q4 : Int64) (i5 : Int32) (h0 : Heap) (n0 : Nat) (hn0 : n0 ≤ h0.size)  : own_Met l Z n0 x code maxLocals ret ws room_1 #[(.long q0), (.long q1), (.long q2), (.long q3), (.long q4), (.int i5)] h0 (fun v h => v = some (.int 1)) := by
  refine own_body (plainFor_of_name own_pn_com_example_stablemate_stablemate_SliceHeapsAddPinLaw) hn0 (own_ef_law q0 q1 q2 q3 q4 i5) ?_
  intro p e s m below meth c T C X
  refine own_iload C X at_0 rfl (pc' := 2) rfl ?_
  refine own_ldcI C X at_2 (hw _ (List.mem_of_getElem? (i := 0) rfl)) (pc' := 4) rfl ?_
  refine own_iand C X at_4 rfl (pc' := 5) rfl ?_
  refine own_bipush C X at_5 (v := 7) (by decide) (pc' := 7) rfl ?_
  obtain ⟨sz, e_sz⟩ : ∃ z : Int32, ((i5 &&& (2147483647 : Int32)) % (7 : Int32)) = z := ⟨_, rfl⟩
  refine own_irem C X at_7 (by decide) e_sz (pc' := 8) rfl ?_
  refine own_istore C X at_8 (L' := #[.val (.long q0), .second, .val (.long q1), .second, .val (.long q2), .second, .val (.long q3), .second, .val (.long q4), .second, .val (.int i5), .val (.int sz), .unset, .unset, .unset, .unset, .unset, .unset, .unset, .unset, .unset, .unset, .unset, .unset, .unset, .unset, .unset, .unset, .unset, .unset, .unset, .unset, .unset]) rfl (pc' := 10) rfl ?_
  refine own_iload C X at_10 rfl (pc' := 12) rfl ?_
  refine own_bipush C X at_12 (v := 8) (by decide) (pc' := 14) rfl ?_
  refine own_iushr C X at_14 rfl (pc' := 15) rfl ?_
  refine own_iconst C X at_15 (v := 1) (by decide) (pc' := 16) rfl ?_
  obtain ⟨off, e_off⟩ : ∃ z : Int32, (((i5.toUInt32 >>> ((8 : Int32) &&& 31).toUInt32).toInt32) &&& (1 : Int32)) = z := ⟨_, rfl⟩
  refine own_iand C X at_16 e_off (pc' := 17) rfl ?_
  refine own_istore C X at_17 (L' := #[.val (.long q0), .second, .val (.long q1), .second, .val (.long q2), .second, .val (.long q3), .second, .val (.long q4), .second, .val (.int i5), .val (.int sz), .val (.int off), .unset, .unset, .unset, .unset, .unset, .unset, .unset, .unset, .unset, .unset, .unset, .unset, .unset, .unset, .unset, .unset, .unset, .unset, .unset, .unset]) rfl (pc' := 19) rfl ?_
  refine own_lloadN C X at_19 rfl (pc' := 20) rfl ?_
  refine own_lstore C X at_20 (L' := #[.val (.long q0), .second, .val (.long q1), .second, .val (.long q2), .second, .val (.long q3), .second, .val (.long q4), .second, .val (.int i5), .val (.int sz), .val (.int off), .val (.long q0), .second, .unset, .unset, .unset, .unset, .unset, .unset, .unset, .unset, .unset, .unset, .unset, .unset, .unset, .unset, .unset, .unset, .unset, .unset]) rfl (pc' := 22) rfl ?_
  refine own_lloadN C X at_22 rfl (pc' := 23) rfl ?_
  refine own_lloadN C X at_23 rfl (pc' := 24) rfl ?_
  refine own_callS C X at_24 (own_m_min l Z a0 hw q0 q1 _ n0 (own_big C X)) (hw _ (List.mem_of_getElem? (i := 1) rfl)) (hw _ (List.mem_of_getElem? (i := 2) rfl)) (hw _ (List.mem_of_getElem? (i := 3) rfl)) (hw _ (List.mem_of_getElem? (i := 4) rfl)) (by decide) own_pd_2762 rfl rfl (Nat.le_of_ble_eq_true rfl) (Nat.le_of_ble_eq_true rfl) (Nat.le_of_ble_eq_true rfl) (Nat.le_of_ble_eq_true rfl) (av := [(.long q0), (.long q1)]) (S := []) rfl (pc' := 27) rfl ?_
  intro T h v X hQ
  obtain ⟨rfl, rfl⟩ := hQ
  show own_Go p e below n0 (own_Fin room_1 s (fun v h => v = some (.int 1))) (T.setTop (mkF m 27 #[.val (.long q0), .second, .val (.long q1), .second, .val (.long q2), .second, .val (.long q3), .second, .val (.long q4), .second, .val (.int i5), .val (.int sz), .val (.int off), .val (.long q0), .second, .unset, .unset, .unset, .unset, .unset, .unset, .unset, .unset, .unset, .unset, .unset, .unset, .unset, .unset, .unset, .unset, .unset, .unset] [(.long (own_min q0 q1))]))
  obtain ⟨v1, e_v1⟩ : ∃ z : Int64, (own_min q0 q1) = z := ⟨_, rfl⟩
  rw [e_v1]
  show own_Go p e below n0 (own_Fin room_1 s (fun v h => v = some (.int 1))) (T.setTop (mkF m 27 #[.val (.long q0), .second, .val (.long q1), .second, .val (.long q2), .second, .val (.long q3), .second, .val (.long q4), .second, .val (.int i5), .val (.int sz), .val (.int off), .val (.long q0), .second, .unset, .unset, .unset, .unset, .unset, .unset, .unset, .unset, .unset, .unset, .unset, .unset, .unset, .unset, .unset, .unset, .unset, .unset] [(.long v1)]))
  have l_v1 := own_minle _ _ _ e_v1
  refine own_lstore C X at_27 (L' := #[.val (.long q0), .second, .val (.long q1), .second, .val (.long q2), .second, .val (.long q3), .second, .val (.long q4), .second, .val (.int i5), .val (.int sz), .val (.int off), .val (.long q0), .second, .val (.long v1), .second, .unset, .unset, .unset, .unset, .unset, .unset, .unset, .unset, .unset, .unset, .unset, .unset, .unset, .unset, .unset, .unset]) rfl (pc' := 29) rfl ?_
  refine own_lloadN C X at_29 rfl (pc' := 30) rfl ?_
  refine own_lload C X at_30 rfl (pc' := 32) rfl ?_
  refine own_callS C X at_32 (own_m_min l Z a0 hw q0 q2 _ n0 (own_big C X)) (hw _ (List.mem_of_getElem? (i := 1) rfl)) (hw _ (List.mem_of_getElem? (i := 2) rfl)) (hw _ (List.mem_of_getElem? (i := 3) rfl)) (hw _ (List.mem_of_getElem? (i := 4) rfl)) (by decide) own_pd_2762 rfl rfl (Nat.le_of_ble_eq_true rfl) (Nat.le_of_ble_eq_true rfl) (Nat.le_of_ble_eq_true rfl) (Nat.le_of_ble_eq_true rfl) (av := [(.long q0), (.long q2)]) (S := []) rfl (pc' := 35) rfl ?_
  intro T h v X hQ
  obtain ⟨rfl, rfl⟩ := hQ
  show own_Go p e below n0 (own_Fin room_1 s (fun v h => v = some (.int 1))) (T.setTop (mkF m 35 #[.val (.long q0), .second, .val (.long q1), .second, .val (.long q2), .second, .val (.long q3), .second, .val (.long q4), .second, .val (.int i5), .val (.int sz), .val (.int off), .val (.long q0), .second, .val (.long v1), .second, .unset, .unset, .unset, .unset, .unset, .unset, .unset, .unset, .unset, .unset, .unset, .unset, .unset, .unset, .unset, .unset] [(.long (own_min q0 q2))]))
  obtain ⟨v2, e_v2⟩ : ∃ z : Int64, (own_min q0 q2) = z := ⟨_, rfl⟩
  rw [e_v2]
  show own_Go p e below n0 (own_Fin room_1 s (fun v h => v = some (.int 1))) (T.setTop (mkF m 35 #[.val (.long q0), .second, .val (.long q1), .second, .val (.long q2), .second, .val (.long q3), .second, .val (.long q4), .second, .val (.int i5), .val (.int sz), .val (.int off), .val (.long q0), .second, .val (.long v1), .second, .unset, .unset, .unset, .unset, .unset, .unset, .unset, .unset, .unset, .unset, .unset, .unset, .unset, .unset, .unset, .unset] [(.long v2)]))
  have l_v2 := own_minle _ _ _ e_v2
  refine own_lstore C X at_35 (L' := #[.val (.long q0), .second, .val (.long q1), .second, .val (.long q2), .second, .val (.long q3), .second, .val (.long q4), .second, .val (.int i5), .val (.int sz), .val (.int off), .val (.long q0), .second, .val (.long v1), .second, .val (.long v2), .second, .unset, .unset, .unset, .unset, .unset, .unset, .unset, .unset, .unset, .unset, .unset, .unset, .unset, .unset]) rfl (pc' := 37) rfl ?_
  refine own_lload C X at_37 rfl (pc' := 39) rfl ?_
  refine own_lload C X at_39 rfl (pc' := 41) rfl ?_
  refine own_callS C X at_41 (own_m_min l Z a0 hw v1 q3 _ n0 (own_big C X)) (hw _ (List.mem_of_getElem? (i := 1) rfl)) (hw _ (List.mem_of_getElem? (i := 2) rfl)) (hw _ (List.mem_of_getElem? (i := 3) rfl)) (hw _ (List.mem_of_getElem? (i := 4) rfl)) (by decide) own_pd_2762 rfl rfl (Nat.le_of_ble_eq_true rfl) (Nat.le_of_ble_eq_true rfl) (Nat.le_of_ble_eq_true rfl) (Nat.le_of_ble_eq_true rfl) (av := [(.long v1), (.long q3)]) (S := []) rfl (pc' := 44) rfl ?_
  intro T h v X hQ
  obtain ⟨rfl, rfl⟩ := hQ
  show own_Go p e below n0 (own_Fin room_1 s (fun v h => v = some (.int 1))) (T.setTop (mkF m 44 #[.val (.long q0), .second, .val (.long q1), .second, .val (.long q2), .second, .val (.long q3), .second, .val (.long q4), .second, .val (.int i5), .val (.int sz), .val (.int off), .val (.long q0), .second, .val (.long v1), .second, .val (.long v2), .second, .unset, .unset, .unset, .unset, .unset, .unset, .unset, .unset, .unset, .unset, .unset, .unset, .unset, .unset] [(.long (own_min v1 q3))]))
  obtain ⟨v3, e_v3⟩ : ∃ z : Int64, (own_min v1 q3) = z := ⟨_, rfl⟩
  rw [e_v3]
  show own_Go p e below n0 (own_Fin room_1 s (fun v h => v = some (.int 1))) (T.setTop (mkF m 44 #[.val (.long q0), .second, .val (.long q1), .second, .val (.long q2), .second, .val (.long q3), .second, .val (.long q4), .second, .val (.int i5), .val (.int sz), .val (.int off), .val (.long q0), .second, .val (.long v1), .second, .val (.long v2), .second, .unset, .unset, .unset, .unset, .unset, .unset, .unset, .unset, .unset, .unset, .unset, .unset, .unset, .unset] [(.long v3)]))
  refine own_lstore C X at_44 (L' := #[.val (.long q0), .second, .val (.long q1), .second, .val (.long q2), .second, .val (.long q3), .second, .val (.long q4), .second, .val (.int i5), .val (.int sz), .val (.int off), .val (.long q0), .second, .val (.long v1), .second, .val (.long v2), .second, .val (.long v3), .second, .unset, .unset, .unset, .unset, .unset, .unset, .unset, .unset, .unset, .unset, .unset, .unset]) rfl (pc' := 46) rfl ?_
  refine own_lload C X at_46 rfl (pc' := 48) rfl ?_
  refine own_lload C X at_48 rfl (pc' := 50) rfl ?_
  refine own_callS C X at_50 (own_m_min l Z a0 hw v1 q2 _ n0 (own_big C X)) (hw _ (List.mem_of_getElem? (i := 1) rfl)) (hw _ (List.mem_of_getElem? (i := 2) rfl)) (hw _ (List.mem_of_getElem? (i := 3) rfl)) (hw _ (List.mem_of_getElem? (i := 4) rfl)) (by decide) own_pd_2762 rfl rfl (Nat.le_of_ble_eq_true rfl) (Nat.le_of_ble_eq_true rfl) (Nat.le_of_ble_eq_true rfl) (Nat.le_of_ble_eq_true rfl) (av := [(.long v1), (.long q2)]) (S := []) rfl (pc' := 53) rfl ?_
  intro T h v X hQ
  obtain ⟨rfl, rfl⟩ := hQ
  show own_Go p e below n0 (own_Fin room_1 s (fun v h => v = some (.int 1))) (T.setTop (mkF m 53 #[.val (.long q0), .second, .val (.long q1), .second, .val (.long q2), .second, .val (.long q3), .second, .val (.long q4), .second, .val (.int i5), .val (.int sz), .val (.int off), .val (.long q0), .second, .val (.long v1), .second, .val (.long v2), .second, .val (.long v3), .second, .unset, .unset, .unset, .unset, .unset, .unset, .unset, .unset, .unset, .unset, .unset, .unset] [(.long (own_min v1 q2))]))
  obtain ⟨v4, e_v4⟩ : ∃ z : Int64, (own_min v1 q2) = z := ⟨_, rfl⟩
  rw [e_v4]
  show own_Go p e below n0 (own_Fin room_1 s (fun v h => v = some (.int 1))) (T.setTop (mkF m 53 #[.val (.long q0), .second, .val (.long q1), .second, .val (.long q2), .second, .val (.long q3), .second, .val (.long q4), .second, .val (.int i5), .val (.int sz), .val (.int off), .val (.long q0), .second, .val (.long v1), .second, .val (.long v2), .second, .val (.long v3), .second, .unset, .unset, .unset, .unset, .unset, .unset, .unset, .unset, .unset, .unset, .unset, .unset] [(.long v4)]))
  refine own_lstore C X at_53 (L' := #[.val (.long q0), .second, .val (.long q1), .second, .val (.long q2), .second, .val (.long q3), .second, .val (.long q4), .second, .val (.int i5), .val (.int sz), .val (.int off), .val (.long q0), .second, .val (.long v1), .second, .val (.long v2), .second, .val (.long v3), .second, .val (.long v4), .second, .unset, .unset, .unset, .unset, .unset, .unset, .unset, .unset, .unset, .unset]) rfl (pc' := 55) rfl ?_
  refine own_lload C X at_55 rfl (pc' := 57) rfl ?_
  refine own_lload C X at_57 rfl (pc' := 59) rfl ?_
  refine own_callS C X at_59 (own_m_min l Z a0 hw v2 q3 _ n0 (own_big C X)) (hw _ (List.mem_of_getElem? (i := 1) rfl)) (hw _ (List.mem_of_getElem? (i := 2) rfl)) (hw _ (List.mem_of_getElem? (i := 3) rfl)) (hw _ (List.mem_of_getElem? (i := 4) rfl)) (by decide) own_pd_2762 rfl rfl (Nat.le_of_ble_eq_true rfl) (Nat.le_of_ble_eq_true rfl) (Nat.le_of_ble_eq_true rfl) (Nat.le_of_ble_eq_true rfl) (av := [(.long v2), (.long q3)]) (S := []) rfl (pc' := 62) rfl ?_
  intro T h v X hQ
  obtain ⟨rfl, rfl⟩ := hQ
  show own_Go p e below n0 (own_Fin room_1 s (fun v h => v = some (.int 1))) (T.setTop (mkF m 62 #[.val (.long q0), .second, .val (.long q1), .second, .val (.long q2), .second, .val (.long q3), .second, .val (.long q4), .second, .val (.int i5), .val (.int sz), .val (.int off), .val (.long q0), .second, .val (.long v1), .second, .val (.long v2), .second, .val (.long v3), .second, .val (.long v4), .second, .unset, .unset, .unset, .unset, .unset, .unset, .unset, .unset, .unset, .unset] [(.long (own_min v2 q3))]))
  obtain ⟨v5, e_v5⟩ : ∃ z : Int64, (own_min v2 q3) = z := ⟨_, rfl⟩
  rw [e_v5]
  show own_Go p e below n0 (own_Fin room_1 s (fun v h => v = some (.int 1))) (T.setTop (mkF m 62 #[.val (.long q0), .second, .val (.long q1), .second, .val (.long q2), .second, .val (.long q3), .second, .val (.long q4), .second, .val (.int i5), .val (.int sz), .val (.int off), .val (.long q0), .second, .val (.long v1), .second, .val (.long v2), .second, .val (.long v3), .second, .val (.long v4), .second, .unset, .unset, .unset, .unset, .unset, .unset, .unset, .unset, .unset, .unset] [(.long v5)]))
  refine own_lstore C X at_62 (L' := #[.val (.long q0), .second, .val (.long q1), .second, .val (.long q2), .second, .val (.long q3), .second, .val (.long q4), .second, .val (.int i5), .val (.int sz), .val (.int off), .val (.long q0), .second, .val (.long v1), .second, .val (.long v2), .second, .val (.long v3), .second, .val (.long v4), .second, .val (.long v5), .second, .unset, .unset, .unset, .unset, .unset, .unset, .unset, .unset]) rfl (pc' := 64) rfl ?_
  refine own_lload C X at_64 rfl (pc' := 66) rfl ?_
  refine own_ldc2L C X at_66 (hw _ (List.mem_of_getElem? (i := 5) rfl)) (pc' := 69) rfl ?_
  obtain ⟨fill, e_fill⟩ : ∃ z : Int64, (q4 ^^^ (-1 : Int64)) = z := ⟨_, rfl⟩
  refine own_lxor C X at_69 e_fill (pc' := 70) rfl ?_
  refine own_lstore C X at_70 (L' := #[.val (.long q0), .second, .val (.long q1), .second, .val (.long q2), .second, .val (.long q3), .second, .val (.long q4), .second, .val (.int i5), .val (.int sz), .val (.int off), .val (.long q0), .second, .val (.long v1), .second, .val (.long v2), .second, .val (.long v3), .second, .val (.long v4), .second, .val (.long v5), .second, .val (.long fill), .second, .unset, .unset, .unset, .unset, .unset, .unset]) rfl (pc' := 72) rfl ?_
  rcases own_szv i5 sz e_sz with rfl | rfl | rfl | rfl | rfl | rfl | rfl
  · rcases own_of _ off e_off with rfl | rfl
    · refine own_lload C X at_72 rfl (pc' := 74) rfl ?_
      refine own_lload C X at_74 rfl (pc' := 76) rfl ?_
      refine own_lload C X at_76 rfl (pc' := 78) rfl ?_
      refine own_lload C X at_78 rfl (pc' := 80) rfl ?_
      refine own_lload C X at_80 rfl (pc' := 82) rfl ?_
      refine own_lload C X at_82 rfl (pc' := 84) rfl ?_
      refine own_iload C X at_84 rfl (pc' := 86) rfl ?_
      refine own_iload C X at_86 rfl (pc' := 88) rfl ?_
      refine own_lload C X at_88 rfl (pc' := 90) rfl ?_
      have hbg := own_big C X
      refine own_callS C X at_90 (own_m_b00 l Z a0 hw q0 v1 v2 v3 v4 v5 fill _ n0 hbg) (hw _ (List.mem_of_getElem? (i := 6) rfl)) (hw _ (List.mem_of_getElem? (i := 7) rfl)) (hw _ (List.mem_of_getElem? (i := 8) rfl)) (hw _ (List.mem_of_getElem? (i := 9) rfl)) (by decide) own_pd_11984 rfl rfl (Nat.le_of_ble_eq_true rfl) (Nat.le_of_ble_eq_true rfl) (Nat.le_of_ble_eq_true rfl) (Nat.le_of_ble_eq_true rfl) (av := [(.long q0), (.long v1), (.long v2), (.long v3), (.long v4), (.long v5), (.int (0 : Int32)), (.int (0 : Int32)), (.long fill)]) (S := []) rfl (pc' := 93) rfl ?_
      intro T h v X hQ
      obtain ⟨b1, rfl, gq_b1, K_, A_b1⟩ := hQ
      have ge_b1 : n0 ≤ b1 := Nat.le_trans hbg gq_b1
      show own_Go p e below n0 (own_Fin room_1 s (fun v h => v = some (.int 1))) (T.setTop (mkF m 93 #[.val (.long q0), .second, .val (.long q1), .second, .val (.long q2), .second, .val (.long q3), .second, .val (.long q4), .second, .val (.int i5), .val (.int (0 : Int32)), .val (.int (0 : Int32)), .val (.long q0), .second, .val (.long v1), .second, .val (.long v2), .second, .val (.long v3), .second, .val (.long v4), .second, .val (.long v5), .second, .val (.long fill), .second, .unset, .unset, .unset, .unset, .unset, .unset] [(.ref b1)]))
      refine own_astore C X at_93 rfl (L' := #[.val (.long q0), .second, .val (.long q1), .second, .val (.long q2), .second, .val (.long q3), .second, .val (.long q4), .second, .val (.int i5), .val (.int (0 : Int32)), .val (.int (0 : Int32)), .val (.long q0), .second, .val (.long v1), .second, .val (.long v2), .second, .val (.long v3), .second, .val (.long v4), .second, .val (.long v5), .second, .val (.long fill), .second, .val (.ref b1), .unset, .unset, .unset, .unset, .unset]) rfl (pc' := 95) rfl ?_
      refine own_lload C X at_95 rfl (pc' := 97) rfl ?_
      refine own_lload C X at_97 rfl (pc' := 99) rfl ?_
      refine own_lload C X at_99 rfl (pc' := 101) rfl ?_
      refine own_lload C X at_101 rfl (pc' := 103) rfl ?_
      refine own_lload C X at_103 rfl (pc' := 105) rfl ?_
      refine own_lload C X at_105 rfl (pc' := 107) rfl ?_
      refine own_iload C X at_107 rfl (pc' := 109) rfl ?_
      refine own_iload C X at_109 rfl (pc' := 111) rfl ?_
      refine own_lload C X at_111 rfl (pc' := 113) rfl ?_
      have hbg := own_big C X
      refine own_callS C X at_113 (own_m_b00 l Z a0 hw q0 v1 v2 v3 v4 v5 fill _ n0 hbg) (hw _ (List.mem_of_getElem? (i := 6) rfl)) (hw _ (List.mem_of_getElem? (i := 7) rfl)) (hw _ (List.mem_of_getElem? (i := 8) rfl)) (hw _ (List.mem_of_getElem? (i := 9) rfl)) (by decide) own_pd_11984 rfl rfl (Nat.le_of_ble_eq_true rfl) (Nat.le_of_ble_eq_true rfl) (Nat.le_of_ble_eq_true rfl) (Nat.le_of_ble_eq_true rfl) (av := [(.long q0), (.long v1), (.long v2), (.long v3), (.long v4), (.long v5), (.int (0 : Int32)), (.int (0 : Int32)), (.long fill)]) (S := []) rfl (pc' := 116) rfl ?_
      intro T h v X hQ
      obtain ⟨b2, rfl, gq_b2, K_, A_b2⟩ := hQ
      have ne_b1_b2 : b1 ≠ b2 := Nat.ne_of_lt (Nat.lt_of_lt_of_le A_b1.lt gq_b2)
      have ge_b2 : n0 ≤ b2 := Nat.le_trans hbg gq_b2
      have A_b1 := A_b1.keep K_ nin0
      show own_Go p e below n0 (own_Fin room_1 s (fun v h => v = some (.int 1))) (T.setTop (mkF m 116 #[.val (.long q0), .second, .val (.long q1), .second, .val (.long q2), .second, .val (.long q3), .second, .val (.long q4), .second, .val (.int i5), .val (.int (0 : Int32)), .val (.int (0 : Int32)), .val (.long q0), .second, .val (.long v1), .second, .val (.long v2), .second, .val (.long v3), .second, .val (.long v4), .second, .val (.long v5), .second, .val (.long fill), .second, .val (.ref b1), .unset, .unset, .unset, .unset, .unset] [(.ref b2)]))
      refine own_astore C X at_116 rfl (L' := #[.val (.long q0), .second, .val (.long q1), .second, .val (.long q2), .second, .val (.long q3), .second, .val (.long q4), .second, .val (.int i5), .val (.int (0 : Int32)), .val (.int (0 : Int32)), .val (.long q0), .second, .val (.long v1), .second, .val (.long v2), .second, .val (.long v3), .second, .val (.long v4), .second, .val (.long v5), .second, .val (.long fill), .second, .val (.ref b1), .val (.ref b2), .unset, .unset, .unset, .unset]) rfl (pc' := 118) rfl ?_
      refine own_iload C X at_118 rfl (pc' := 120) rfl ?_
      refine own_istore C X at_120 (L' := #[.val (.long q0), .second, .val (.long q1), .second, .val (.long q2), .second, .val (.long q3), .second, .val (.long q4), .second, .val (.int i5), .val (.int (0 : Int32)), .val (.int (0 : Int32)), .val (.long q0), .second, .val (.long v1), .second, .val (.long v2), .second, .val (.long v3), .second, .val (.long v4), .second, .val (.long v5), .second, .val (.long fill), .second, .val (.ref b1), .val (.ref b2), .val (.int (0 : Int32)), .unset, .unset, .unset]) rfl (pc' := 122) rfl ?_
      refine own_iload C X at_122 rfl (pc' := 124) rfl ?_
      refine own_if_ne C X at_124 (pcT := 137) (pc' := 127) (by decide) (by decide) rfl (fun hc124 => absurd hc124 (by decide)) (fun hc124 => ?_)
      refine own_aload C X at_127 rfl rfl (pc' := 129) rfl ?_
      refine own_iload C X at_129 rfl (pc' := 131) rfl ?_
      refine own_lload C X at_131 rfl (pc' := 133) rfl ?_
      refine own_lastore C X at_133 A_b2 (by decide) (i := 0) (Nat.le_of_ble_eq_true rfl) ge_b2 (pc' := 134) rfl ?_
      intro T h X K_ A_b2_
      have A_b2 : own_JA Z h b2 [q4, fill, fill, fill, fill, fill, fill, fill] := A_b2_
      have A_b1 := A_b1.keep K_ (ninS ne_b1_b2 nin0)
      refine own_goto C X at_134 (pc' := 291) (by decide) (by decide) ?_
      refine own_aload C X at_291 rfl rfl (pc' := 293) rfl ?_
      refine own_iload C X at_293 rfl (pc' := 295) rfl ?_
      refine own_iload C X at_295 rfl (pc' := 297) rfl ?_
      refine own_lload C X at_297 rfl (pc' := 299) rfl ?_
      refine own_callS C X at_299 (own_m_add000 l Z a0 hw b1 q4 _ n0 (own_big C X) fill fill fill fill fill fill fill fill A_b1 ge_b1 ) (hw _ (List.mem_of_getElem? (i := 11) rfl)) (hw _ (List.mem_of_getElem? (i := 12) rfl)) (hw _ (List.mem_of_getElem? (i := 13) rfl)) (hw _ (List.mem_of_getElem? (i := 14) rfl)) (by decide) own_pd_5832 rfl rfl (Nat.le_of_ble_eq_true rfl) (Nat.le_of_ble_eq_true rfl) (Nat.le_of_ble_eq_true rfl) (Nat.le_of_ble_eq_true rfl) (av := [(.ref b1), (.int (0 : Int32)), (.int (0 : Int32)), (.long q4)]) (S := []) rfl (pc' := 302) rfl ?_
      intro T h v X hQ
      obtain ⟨rfl, K_, A_b1⟩ := hQ
      have A_b2 := A_b2.keep K_ (ninS (Ne.symm ne_b1_b2) nin0)
      show own_Go p e below n0 (own_Fin room_1 s (fun v h => v = some (.int 1))) (T.setTop (mkF m 302 #[.val (.long q0), .second, .val (.long q1), .second, .val (.long q2), .second, .val (.long q3), .second, .val (.long q4), .second, .val (.int i5), .val (.int (0 : Int32)), .val (.int (0 : Int32)), .val (.long q0), .second, .val (.long v1), .second, .val (.long v2), .second, .val (.long v3), .second, .val (.long v4), .second, .val (.long v5), .second, .val (.long fill), .second, .val (.ref b1), .val (.ref b2), .val (.int (0 : Int32)), .unset, .unset, .unset] []))
      refine own_aload C X at_302 rfl rfl (pc' := 304) rfl ?_
      refine own_aload C X at_304 rfl rfl (pc' := 306) rfl ?_
      refine own_callS C X at_306 (own_m_same l Z a0 hw b1 b2 _ n0 (own_big C X) q4 fill fill fill fill fill fill fill A_b1 A_b2) (hw _ (List.mem_of_getElem? (i := 15) rfl)) (hw _ (List.mem_of_getElem? (i := 16) rfl)) (hw _ (List.mem_of_getElem? (i := 8) rfl)) (hw _ (List.mem_of_getElem? (i := 17) rfl)) (by decide) own_pd_5060 rfl rfl (Nat.le_of_ble_eq_true rfl) (Nat.le_of_ble_eq_true rfl) (Nat.le_of_ble_eq_true rfl) (Nat.le_of_ble_eq_true rfl) (av := [(.ref b1), (.ref b2)]) (S := []) rfl (pc' := 309) rfl ?_
      intro T h v X hQ
      obtain ⟨rfl, rfl⟩ := hQ
      show own_Go p e below n0 (own_Fin room_1 s (fun v h => v = some (.int 1))) (T.setTop (mkF m 309 #[.val (.long q0), .second, .val (.long q1), .second, .val (.long q2), .second, .val (.long q3), .second, .val (.long q4), .second, .val (.int i5), .val (.int (0 : Int32)), .val (.int (0 : Int32)), .val (.long q0), .second, .val (.long v1), .second, .val (.long v2), .second, .val (.long v3), .second, .val (.long v4), .second, .val (.long v5), .second, .val (.long fill), .second, .val (.ref b1), .val (.ref b2), .val (.int (0 : Int32)), .unset, .unset, .unset] [(.int (1 : Int32))]))
      exact own_ireturn_z C X at_309 (Nat.le_of_ble_eq_true rfl) (Nat.le_of_ble_eq_true rfl) (rfl)
    · refine own_lload C X at_72 rfl (pc' := 74) rfl ?_
      refine own_lload C X at_74 rfl (pc' := 76) rfl ?_
      refine own_lload C X at_76 rfl (pc' := 78) rfl ?_
      refine own_lload C X at_78 rfl (pc' := 80) rfl ?_
      refine own_lload C X at_80 rfl (pc' := 82) rfl ?_
      refine own_lload C X at_82 rfl (pc' := 84) rfl ?_
      refine own_iload C X at_84 rfl (pc' := 86) rfl ?_
      refine own_iload C X at_86 rfl (pc' := 88) rfl ?_
      refine own_lload C X at_88 rfl (pc' := 90) rfl ?_
      have hbg := own_big C X
      refine own_callS C X at_90 (own_m_b01 l Z a0 hw q0 v1 v2 v3 v4 v5 fill _ n0 hbg) (hw _ (List.mem_of_getElem? (i := 6) rfl)) (hw _ (List.mem_of_getElem? (i := 7) rfl)) (hw _ (List.mem_of_getElem? (i := 8) rfl)) (hw _ (List.mem_of_getElem? (i := 9) rfl)) (by decide) own_pd_11984 rfl rfl (Nat.le_of_ble_eq_true rfl) (Nat.le_of_ble_eq_true rfl) (Nat.le_of_ble_eq_true rfl) (Nat.le_of_ble_eq_true rfl) (av := [(.long q0), (.long v1), (.long v2), (.long v3), (.long v4), (.long v5), (.int (0 : Int32)), (.int (1 : Int32)), (.long fill)]) (S := []) rfl (pc' := 93) rfl ?_
      intro T h v X hQ
      obtain ⟨b1, rfl, gq_b1, K_, A_b1⟩ := hQ
      have ge_b1 : n0 ≤ b1 := Nat.le_trans hbg gq_b1
      show own_Go p e below n0 (own_Fin room_1 s (fun v h => v = some (.int 1))) (T.setTop (mkF m 93 #[.val (.long q0), .second, .val (.long q1), .second, .val (.long q2), .second, .val (.long q3), .second, .val (.long q4), .second, .val (.int i5), .val (.int (0 : Int32)), .val (.int (1 : Int32)), .val (.long q0), .second, .val (.long v1), .second, .val (.long v2), .second, .val (.long v3), .second, .val (.long v4), .second, .val (.long v5), .second, .val (.long fill), .second, .unset, .unset, .unset, .unset, .unset, .unset] [(.ref b1)]))
      refine own_astore C X at_93 rfl (L' := #[.val (.long q0), .second, .val (.long q1), .second, .val (.long q2), .second, .val (.long q3), .second, .val (.long q4), .second, .val (.int i5), .val (.int (0 : Int32)), .val (.int (1 : Int32)), .val (.long q0), .second, .val (.long v1), .second, .val (.long v2), .second, .val (.long v3), .second, .val (.long v4), .second, .val (.long v5), .second, .val (.long fill), .second, .val (.ref b1), .unset, .unset, .unset, .unset, .unset]) rfl (pc' := 95) rfl ?_
      refine own_lload C X at_95 rfl (pc' := 97) rfl ?_
      refine own_lload C X at_97 rfl (pc' := 99) rfl ?_
      refine own_lload C X at_99 rfl (pc' := 101) rfl ?_
      refine own_lload C X at_101 rfl (pc' := 103) rfl ?_
      refine own_lload C X at_103 rfl (pc' := 105) rfl ?_
      refine own_lload C X at_105 rfl (pc' := 107) rfl ?_
      refine own_iload C X at_107 rfl (pc' := 109) rfl ?_
      refine own_iload C X at_109 rfl (pc' := 111) rfl ?_
      refine own_lload C X at_111 rfl (pc' := 113) rfl ?_
      have hbg := own_big C X
      refine own_callS C X at_113 (own_m_b01 l Z a0 hw q0 v1 v2 v3 v4 v5 fill _ n0 hbg) (hw _ (List.mem_of_getElem? (i := 6) rfl)) (hw _ (List.mem_of_getElem? (i := 7) rfl)) (hw _ (List.mem_of_getElem? (i := 8) rfl)) (hw _ (List.mem_of_getElem? (i := 9) rfl)) (by decide) own_pd_11984 rfl rfl (Nat.le_of_ble_eq_true rfl) (Nat.le_of_ble_eq_true rfl) (Nat.le_of_ble_eq_true rfl) (Nat.le_of_ble_eq_true rfl) (av := [(.long q0), (.long v1), (.long v2), (.long v3), (.long v4), (.long v5), (.int (0 : Int32)), (.int (1 : Int32)), (.long fill)]) (S := []) rfl (pc' := 116) rfl ?_
      intro T h v X hQ
      obtain ⟨b2, rfl, gq_b2, K_, A_b2⟩ := hQ
      have ne_b1_b2 : b1 ≠ b2 := Nat.ne_of_lt (Nat.lt_of_lt_of_le A_b1.lt gq_b2)
      have ge_b2 : n0 ≤ b2 := Nat.le_trans hbg gq_b2
      have A_b1 := A_b1.keep K_ nin0
      show own_Go p e below n0 (own_Fin room_1 s (fun v h => v = some (.int 1))) (T.setTop (mkF m 116 #[.val (.long q0), .second, .val (.long q1), .second, .val (.long q2), .second, .val (.long q3), .second, .val (.long q4), .second, .val (.int i5), .val (.int (0 : Int32)), .val (.int (1 : Int32)), .val (.long q0), .second, .val (.long v1), .second, .val (.long v2), .second, .val (.long v3), .second, .val (.long v4), .second, .val (.long v5), .second, .val (.long fill), .second, .val (.ref b1), .unset, .unset, .unset, .unset, .unset] [(.ref b2)]))
      refine own_astore C X at_116 rfl (L' := #[.val (.long q0), .second, .val (.long q1), .second, .val (.long q2), .second, .val (.long q3), .second, .val (.long q4), .second, .val (.int i5), .val (.int (0 : Int32)), .val (.int (1 : Int32)), .val (.long q0), .second, .val (.long v1), .second, .val (.long v2), .second, .val (.long v3), .second, .val (.long v4), .second, .val (.long v5), .second, .val (.long fill), .second, .val (.ref b1), .val (.ref b2), .unset, .unset, .unset, .unset]) rfl (pc' := 118) rfl ?_
      refine own_iload C X at_118 rfl (pc' := 120) rfl ?_
      refine own_istore C X at_120 (L' := #[.val (.long q0), .second, .val (.long q1), .second, .val (.long q2), .second, .val (.long q3), .second, .val (.long q4), .second, .val (.int i5), .val (.int (0 : Int32)), .val (.int (1 : Int32)), .val (.long q0), .second, .val (.long v1), .second, .val (.long v2), .second, .val (.long v3), .second, .val (.long v4), .second, .val (.long v5), .second, .val (.long fill), .second, .val (.ref b1), .val (.ref b2), .val (.int (0 : Int32)), .unset, .unset, .unset]) rfl (pc' := 122) rfl ?_
      refine own_iload C X at_122 rfl (pc' := 124) rfl ?_
      refine own_if_ne C X at_124 (pcT := 137) (pc' := 127) (by decide) (by decide) rfl (fun hc124 => absurd hc124 (by decide)) (fun hc124 => ?_)
      refine own_aload C X at_127 rfl rfl (pc' := 129) rfl ?_
      refine own_iload C X at_129 rfl (pc' := 131) rfl ?_
      refine own_lload C X at_131 rfl (pc' := 133) rfl ?_
      refine own_lastore C X at_133 A_b2 (by decide) (i := 1) (Nat.le_of_ble_eq_true rfl) ge_b2 (pc' := 134) rfl ?_
      intro T h X K_ A_b2_
      have A_b2 : own_JA Z h b2 [fill, q4, fill, fill, fill, fill, fill, fill] := A_b2_
      have A_b1 := A_b1.keep K_ (ninS ne_b1_b2 nin0)
      refine own_goto C X at_134 (pc' := 291) (by decide) (by decide) ?_
      refine own_aload C X at_291 rfl rfl (pc' := 293) rfl ?_
      refine own_iload C X at_293 rfl (pc' := 295) rfl ?_
      refine own_iload C X at_295 rfl (pc' := 297) rfl ?_
      refine own_lload C X at_297 rfl (pc' := 299) rfl ?_
      refine own_callS C X at_299 (own_m_add010 l Z a0 hw b1 q4 _ n0 (own_big C X) fill fill fill fill fill fill fill fill A_b1 ge_b1 ) (hw _ (List.mem_of_getElem? (i := 11) rfl)) (hw _ (List.mem_of_getElem? (i := 12) rfl)) (hw _ (List.mem_of_getElem? (i := 13) rfl)) (hw _ (List.mem_of_getElem? (i := 14) rfl)) (by decide) own_pd_5832 rfl rfl (Nat.le_of_ble_eq_true rfl) (Nat.le_of_ble_eq_true rfl) (Nat.le_of_ble_eq_true rfl) (Nat.le_of_ble_eq_true rfl) (av := [(.ref b1), (.int (1 : Int32)), (.int (0 : Int32)), (.long q4)]) (S := []) rfl (pc' := 302) rfl ?_
      intro T h v X hQ
      obtain ⟨rfl, K_, A_b1⟩ := hQ
      have A_b2 := A_b2.keep K_ (ninS (Ne.symm ne_b1_b2) nin0)
      show own_Go p e below n0 (own_Fin room_1 s (fun v h => v = some (.int 1))) (T.setTop (mkF m 302 #[.val (.long q0), .second, .val (.long q1), .second, .val (.long q2), .second, .val (.long q3), .second, .val (.long q4), .second, .val (.int i5), .val (.int (0 : Int32)), .val (.int (1 : Int32)), .val (.long q0), .second, .val (.long v1), .second, .val (.long v2), .second, .val (.long v3), .second, .val (.long v4), .second, .val (.long v5), .second, .val (.long fill), .second, .val (.ref b1), .val (.ref b2), .val (.int (0 : Int32)), .unset, .unset, .unset] []))
      refine own_aload C X at_302 rfl rfl (pc' := 304) rfl ?_
      refine own_aload C X at_304 rfl rfl (pc' := 306) rfl ?_
      refine own_callS C X at_306 (own_m_same l Z a0 hw b1 b2 _ n0 (own_big C X) fill q4 fill fill fill fill fill fill A_b1 A_b2) (hw _ (List.mem_of_getElem? (i := 15) rfl)) (hw _ (List.mem_of_getElem? (i := 16) rfl)) (hw _ (List.mem_of_getElem? (i := 8) rfl)) (hw _ (List.mem_of_getElem? (i := 17) rfl)) (by decide) own_pd_5060 rfl rfl (Nat.le_of_ble_eq_true rfl) (Nat.le_of_ble_eq_true rfl) (Nat.le_of_ble_eq_true rfl) (Nat.le_of_ble_eq_true rfl) (av := [(.ref b1), (.ref b2)]) (S := []) rfl (pc' := 309) rfl ?_
      intro T h v X hQ
      obtain ⟨rfl, rfl⟩ := hQ
      show own_Go p e below n0 (own_Fin room_1 s (fun v h => v = some (.int 1))) (T.setTop (mkF m 309 #[.val (.long q0), .second, .val (.long q1), .second, .val (.long q2), .second, .val (.long q3), .second, .val (.long q4), .second, .val (.int i5), .val (.int (0 : Int32)), .val (.int (1 : Int32)), .val (.long q0), .second, .val (.long v1), .second, .val (.long v2), .second, .val (.long v3), .second, .val (.long v4), .second, .val (.long v5), .second, .val (.long fill), .second, .val (.ref b1), .val (.ref b2), .val (.int (0 : Int32)), .unset, .unset, .unset] [(.int (1 : Int32))]))
      exact own_ireturn_z C X at_309 (Nat.le_of_ble_eq_true rfl) (Nat.le_of_ble_eq_true rfl) (rfl)
  · rcases own_of _ off e_off with rfl | rfl
    · refine own_lload C X at_72 rfl (pc' := 74) rfl ?_
      refine own_lload C X at_74 rfl (pc' := 76) rfl ?_
      refine own_lload C X at_76 rfl (pc' := 78) rfl ?_
      refine own_lload C X at_78 rfl (pc' := 80) rfl ?_
      refine own_lload C X at_80 rfl (pc' := 82) rfl ?_
      refine own_lload C X at_82 rfl (pc' := 84) rfl ?_
      refine own_iload C X at_84 rfl (pc' := 86) rfl ?_
      refine own_iload C X at_86 rfl (pc' := 88) rfl ?_
      refine own_lload C X at_88 rfl (pc' := 90) rfl ?_
      have hbg := own_big C X
      refine own_callS C X at_90 (own_m_b10 l Z a0 hw q0 v1 v2 v3 v4 v5 fill _ n0 hbg) (hw _ (List.mem_of_getElem? (i := 6) rfl)) (hw _ (List.mem_of_getElem? (i := 7) rfl)) (hw _ (List.mem_of_getElem? (i := 8) rfl)) (hw _ (List.mem_of_getElem? (i := 9) rfl)) (by decide) own_pd_11984 rfl rfl (Nat.le_of_ble_eq_true rfl) (Nat.le_of_ble_eq_true rfl) (Nat.le_of_ble_eq_true rfl) (Nat.le_of_ble_eq_true rfl) (av := [(.long q0), (.long v1), (.long v2), (.long v3), (.long v4), (.long v5), (.int (1 : Int32)), (.int (0 : Int32)), (.long fill)]) (S := []) rfl (pc' := 93) rfl ?_
      intro T h v X hQ
      obtain ⟨b1, rfl, gq_b1, K_, A_b1⟩ := hQ
      have ge_b1 : n0 ≤ b1 := Nat.le_trans hbg gq_b1
      show own_Go p e below n0 (own_Fin room_1 s (fun v h => v = some (.int 1))) (T.setTop (mkF m 93 #[.val (.long q0), .second, .val (.long q1), .second, .val (.long q2), .second, .val (.long q3), .second, .val (.long q4), .second, .val (.int i5), .val (.int (1 : Int32)), .val (.int (0 : Int32)), .val (.long q0), .second, .val (.long v1), .second, .val (.long v2), .second, .val (.long v3), .second, .val (.long v4), .second, .val (.long v5), .second, .val (.long fill), .second, .unset, .unset, .unset, .unset, .unset, .unset] [(.ref b1)]))
      refine own_astore C X at_93 rfl (L' := #[.val (.long q0), .second, .val (.long q1), .second, .val (.long q2), .second, .val (.long q3), .second, .val (.long q4), .second, .val (.int i5), .val (.int (1 : Int32)), .val (.int (0 : Int32)), .val (.long q0), .second, .val (.long v1), .second, .val (.long v2), .second, .val (.long v3), .second, .val (.long v4), .second, .val (.long v5), .second, .val (.long fill), .second, .val (.ref b1), .unset, .unset, .unset, .unset, .unset]) rfl (pc' := 95) rfl ?_
      refine own_lload C X at_95 rfl (pc' := 97) rfl ?_
      refine own_lload C X at_97 rfl (pc' := 99) rfl ?_
      refine own_lload C X at_99 rfl (pc' := 101) rfl ?_
      refine own_lload C X at_101 rfl (pc' := 103) rfl ?_
      refine own_lload C X at_103 rfl (pc' := 105) rfl ?_
      refine own_lload C X at_105 rfl (pc' := 107) rfl ?_
      refine own_iload C X at_107 rfl (pc' := 109) rfl ?_
      refine own_iload C X at_109 rfl (pc' := 111) rfl ?_
      refine own_lload C X at_111 rfl (pc' := 113) rfl ?_
      have hbg := own_big C X
      refine own_callS C X at_113 (own_m_b10 l Z a0 hw q0 v1 v2 v3 v4 v5 fill _ n0 hbg) (hw _ (List.mem_of_getElem? (i := 6) rfl)) (hw _ (List.mem_of_getElem? (i := 7) rfl)) (hw _ (List.mem_of_getElem? (i := 8) rfl)) (hw _ (List.mem_of_getElem? (i := 9) rfl)) (by decide) own_pd_11984 rfl rfl (Nat.le_of_ble_eq_true rfl) (Nat.le_of_ble_eq_true rfl) (Nat.le_of_ble_eq_true rfl) (Nat.le_of_ble_eq_true rfl) (av := [(.long q0), (.long v1), (.long v2), (.long v3), (.long v4), (.long v5), (.int (1 : Int32)), (.int (0 : Int32)), (.long fill)]) (S := []) rfl (pc' := 116) rfl ?_
      intro T h v X hQ
      obtain ⟨b2, rfl, gq_b2, K_, A_b2⟩ := hQ
      have ne_b1_b2 : b1 ≠ b2 := Nat.ne_of_lt (Nat.lt_of_lt_of_le A_b1.lt gq_b2)
      have ge_b2 : n0 ≤ b2 := Nat.le_trans hbg gq_b2
      have A_b1 := A_b1.keep K_ nin0
      show own_Go p e below n0 (own_Fin room_1 s (fun v h => v = some (.int 1))) (T.setTop (mkF m 116 #[.val (.long q0), .second, .val (.long q1), .second, .val (.long q2), .second, .val (.long q3), .second, .val (.long q4), .second, .val (.int i5), .val (.int (1 : Int32)), .val (.int (0 : Int32)), .val (.long q0), .second, .val (.long v1), .second, .val (.long v2), .second, .val (.long v3), .second, .val (.long v4), .second, .val (.long v5), .second, .val (.long fill), .second, .val (.ref b1), .unset, .unset, .unset, .unset, .unset] [(.ref b2)]))
      refine own_astore C X at_116 rfl (L' := #[.val (.long q0), .second, .val (.long q1), .second, .val (.long q2), .second, .val (.long q3), .second, .val (.long q4), .second, .val (.int i5), .val (.int (1 : Int32)), .val (.int (0 : Int32)), .val (.long q0), .second, .val (.long v1), .second, .val (.long v2), .second, .val (.long v3), .second, .val (.long v4), .second, .val (.long v5), .second, .val (.long fill), .second, .val (.ref b1), .val (.ref b2), .unset, .unset, .unset, .unset]) rfl (pc' := 118) rfl ?_
      refine own_iload C X at_118 rfl (pc' := 120) rfl ?_
      refine own_istore C X at_120 (L' := #[.val (.long q0), .second, .val (.long q1), .second, .val (.long q2), .second, .val (.long q3), .second, .val (.long q4), .second, .val (.int i5), .val (.int (1 : Int32)), .val (.int (0 : Int32)), .val (.long q0), .second, .val (.long v1), .second, .val (.long v2), .second, .val (.long v3), .second, .val (.long v4), .second, .val (.long v5), .second, .val (.long fill), .second, .val (.ref b1), .val (.ref b2), .val (.int (1 : Int32)), .unset, .unset, .unset]) rfl (pc' := 122) rfl ?_
      refine own_iload C X at_122 rfl (pc' := 124) rfl ?_
      refine own_if_ne C X at_124 (pcT := 137) (pc' := 127) (by decide) (by decide) rfl (fun hc124 => ?_) (fun hc124 => absurd hc124 (by decide))
      refine own_iload C X at_137 rfl (pc' := 139) rfl ?_
      refine own_iconst C X at_139 (v := 2) (by decide) (pc' := 140) rfl ?_
      refine own_icmp_gt C X at_140 (pcT := 184) (pc' := 143) (by decide) (by decide) rfl (fun hc140 => absurd hc140 (by decide)) (fun hc140 => ?_)
      refine own_lload C X at_143 rfl (pc' := 145) rfl ?_
      refine own_lload C X at_145 rfl (pc' := 147) rfl ?_
      refine own_lcmp_ge C X at_147 at_148 (pcT := 171) (pc' := 151) (by decide) (by decide) rfl (fun hc147 => ?_) (fun hc147 => ?_)
      · refine own_aload C X at_171 rfl rfl (pc' := 173) rfl ?_
        refine own_iload C X at_173 rfl (pc' := 175) rfl ?_
        refine own_iload C X at_175 rfl (pc' := 177) rfl ?_
        refine own_iadd C X at_177 (z := 1) (by decide) (pc' := 178) rfl ?_
        refine own_lload C X at_178 rfl (pc' := 180) rfl ?_
        refine own_lastore C X at_180 A_b2 (by decide) (i := 1) (Nat.le_of_ble_eq_true rfl) ge_b2 (pc' := 181) rfl ?_
        intro T h X K_ A_b2_
        have A_b2 : own_JA Z h b2 [q0, q4, fill, fill, fill, fill, fill, fill] := A_b2_
        have A_b1 := A_b1.keep K_ (ninS ne_b1_b2 nin0)
        refine own_goto C X at_181 (pc' := 291) (by decide) (by decide) ?_
        refine own_aload C X at_291 rfl rfl (pc' := 293) rfl ?_
        refine own_iload C X at_293 rfl (pc' := 295) rfl ?_
        refine own_iload C X at_295 rfl (pc' := 297) rfl ?_
        refine own_lload C X at_297 rfl (pc' := 299) rfl ?_
        refine own_callS C X at_299 (own_m_add100 l Z a0 hw b1 q4 _ n0 (own_big C X) q0 fill fill fill fill fill fill fill A_b1 ge_b1 hc147) (hw _ (List.mem_of_getElem? (i := 11) rfl)) (hw _ (List.mem_of_getElem? (i := 12) rfl)) (hw _ (List.mem_of_getElem? (i := 13) rfl)) (hw _ (List.mem_of_getElem? (i := 14) rfl)) (by decide) own_pd_5832 rfl rfl (Nat.le_of_ble_eq_true rfl) (Nat.le_of_ble_eq_true rfl) (Nat.le_of_ble_eq_true rfl) (Nat.le_of_ble_eq_true rfl) (av := [(.ref b1), (.int (0 : Int32)), (.int (1 : Int32)), (.long q4)]) (S := []) rfl (pc' := 302) rfl ?_
        intro T h v X hQ
        obtain ⟨rfl, K_, A_b1⟩ := hQ
        have A_b2 := A_b2.keep K_ (ninS (Ne.symm ne_b1_b2) nin0)
        show own_Go p e below n0 (own_Fin room_1 s (fun v h => v = some (.int 1))) (T.setTop (mkF m 302 #[.val (.long q0), .second, .val (.long q1), .second, .val (.long q2), .second, .val (.long q3), .second, .val (.long q4), .second, .val (.int i5), .val (.int (1 : Int32)), .val (.int (0 : Int32)), .val (.long q0), .second, .val (.long v1), .second, .val (.long v2), .second, .val (.long v3), .second, .val (.long v4), .second, .val (.long v5), .second, .val (.long fill), .second, .val (.ref b1), .val (.ref b2), .val (.int (1 : Int32)), .unset, .unset, .unset] []))
        refine own_aload C X at_302 rfl rfl (pc' := 304) rfl ?_
        refine own_aload C X at_304 rfl rfl (pc' := 306) rfl ?_
        refine own_callS C X at_306 (own_m_same l Z a0 hw b1 b2 _ n0 (own_big C X) q0 q4 fill fill fill fill fill fill A_b1 A_b2) (hw _ (List.mem_of_getElem? (i := 15) rfl)) (hw _ (List.mem_of_getElem? (i := 16) rfl)) (hw _ (List.mem_of_getElem? (i := 8) rfl)) (hw _ (List.mem_of_getElem? (i := 17) rfl)) (by decide) own_pd_5060 rfl rfl (Nat.le_of_ble_eq_true rfl) (Nat.le_of_ble_eq_true rfl) (Nat.le_of_ble_eq_true rfl) (Nat.le_of_ble_eq_true rfl) (av := [(.ref b1), (.ref b2)]) (S := []) rfl (pc' := 309) rfl ?_
        intro T h v X hQ
        obtain ⟨rfl, rfl⟩ := hQ
        show own_Go p e below n0 (own_Fin room_1 s (fun v h => v = some (.int 1))) (T.setTop (mkF m 309 #[.val (.long q0), .second, .val (.long q1), .second, .val (.long q2), .second, .val (.long q3), .second, .val (.long q4), .second, .val (.int i5), .val (.int (1 : Int32)), .val (.int (0 : Int32)), .val (.long q0), .second, .val (.long v1), .second, .val (.long v2), .second, .val (.long v3), .second, .val (.long v4), .second, .val (.long v5), .second, .val (.long fill), .second, .val (.ref b1), .val (.ref b2), .val (.int (1 : Int32)), .unset, .unset, .unset] [(.int (1 : Int32))]))
        exact own_ireturn_z C X at_309 (Nat.le_of_ble_eq_true rfl) (Nat.le_of_ble_eq_true rfl) (rfl)
      · refine own_aload C X at_151 rfl rfl (pc' := 153) rfl ?_
        refine own_iload C X at_153 rfl (pc' := 155) rfl ?_
        refine own_lload C X at_155 rfl (pc' := 157) rfl ?_
        refine own_lastore C X at_157 A_b2 (by decide) (i := 0) (Nat.le_of_ble_eq_true rfl) ge_b2 (pc' := 158) rfl ?_
        intro T h X K_ A_b2_
        have A_b2 : own_JA Z h b2 [q4, fill, fill, fill, fill, fill, fill, fill] := A_b2_
        have A_b1 := A_b1.keep K_ (ninS ne_b1_b2 nin0)
        refine own_aload C X at_158 rfl rfl (pc' := 160) rfl ?_
        refine own_iload C X at_160 rfl (pc' := 162) rfl ?_
        refine own_iload C X at_162 rfl (pc' := 164) rfl ?_
        refine own_iadd C X at_164 (z := 1) (by decide) (pc' := 165) rfl ?_
        refine own_lload C X at_165 rfl (pc' := 167) rfl ?_
        refine own_lastore C X at_167 A_b2 (by decide) (i := 1) (Nat.le_of_ble_eq_true rfl) ge_b2 (pc' := 168) rfl ?_
        intro T h X K_ A_b2_
        have A_b2 : own_JA Z h b2 [q4, q0, fill, fill, fill, fill, fill, fill] := A_b2_
        have A_b1 := A_b1.keep K_ (ninS ne_b1_b2 nin0)
        refine own_goto C X at_168 (pc' := 291) (by decide) (by decide) ?_
        refine own_aload C X at_291 rfl rfl (pc' := 293) rfl ?_
        refine own_iload C X at_293 rfl (pc' := 295) rfl ?_
        refine own_iload C X at_295 rfl (pc' := 297) rfl ?_
        refine own_lload C X at_297 rfl (pc' := 299) rfl ?_
        refine own_callS C X at_299 (own_m_add101 l Z a0 hw b1 q4 _ n0 (own_big C X) q0 fill fill fill fill fill fill fill A_b1 ge_b1 hc147) (hw _ (List.mem_of_getElem? (i := 11) rfl)) (hw _ (List.mem_of_getElem? (i := 12) rfl)) (hw _ (List.mem_of_getElem? (i := 13) rfl)) (hw _ (List.mem_of_getElem? (i := 14) rfl)) (by decide) own_pd_5832 rfl rfl (Nat.le_of_ble_eq_true rfl) (Nat.le_of_ble_eq_true rfl) (Nat.le_of_ble_eq_true rfl) (Nat.le_of_ble_eq_true rfl) (av := [(.ref b1), (.int (0 : Int32)), (.int (1 : Int32)), (.long q4)]) (S := []) rfl (pc' := 302) rfl ?_
        intro T h v X hQ
        obtain ⟨rfl, K_, A_b1⟩ := hQ
        have A_b2 := A_b2.keep K_ (ninS (Ne.symm ne_b1_b2) nin0)
        show own_Go p e below n0 (own_Fin room_1 s (fun v h => v = some (.int 1))) (T.setTop (mkF m 302 #[.val (.long q0), .second, .val (.long q1), .second, .val (.long q2), .second, .val (.long q3), .second, .val (.long q4), .second, .val (.int i5), .val (.int (1 : Int32)), .val (.int (0 : Int32)), .val (.long q0), .second, .val (.long v1), .second, .val (.long v2), .second, .val (.long v3), .second, .val (.long v4), .second, .val (.long v5), .second, .val (.long fill), .second, .val (.ref b1), .val (.ref b2), .val (.int (1 : Int32)), .unset, .unset, .unset] []))
        refine own_aload C X at_302 rfl rfl (pc' := 304) rfl ?_
        refine own_aload C X at_304 rfl rfl (pc' := 306) rfl ?_
        refine own_callS C X at_306 (own_m_same l Z a0 hw b1 b2 _ n0 (own_big C X) q4 q0 fill fill fill fill fill fill A_b1 A_b2) (hw _ (List.mem_of_getElem? (i := 15) rfl)) (hw _ (List.mem_of_getElem? (i := 16) rfl)) (hw _ (List.mem_of_getElem? (i := 8) rfl)) (hw _ (List.mem_of_getElem? (i := 17) rfl)) (by decide) own_pd_5060 rfl rfl (Nat.le_of_ble_eq_true rfl) (Nat.le_of_ble_eq_true rfl) (Nat.le_of_ble_eq_true rfl) (Nat.le_of_ble_eq_true rfl) (av := [(.ref b1), (.ref b2)]) (S := []) rfl (pc' := 309) rfl ?_
        intro T h v X hQ
        obtain ⟨rfl, rfl⟩ := hQ
        show own_Go p e below n0 (own_Fin room_1 s (fun v h => v = some (.int 1))) (T.setTop (mkF m 309 #[.val (.long q0), .second, .val (.long q1), .second, .val (.long q2), .second, .val (.long q3), .second, .val (.long q4), .second, .val (.int i5), .val (.int (1 : Int32)), .val (.int (0 : Int32)), .val (.long q0), .second, .val (.long v1), .second, .val (.long v2), .second, .val (.long v3), .second, .val (.long v4), .second, .val (.long v5), .second, .val (.long fill), .second, .val (.ref b1), .val (.ref b2), .val (.int (1 : Int32)), .unset, .unset, .unset] [(.int (1 : Int32))]))
        exact own_ireturn_z C X at_309 (Nat.le_of_ble_eq_true rfl) (Nat.le_of_ble_eq_true rfl) (rfl)
    · refine own_lload C X at_72 rfl (pc' := 74) rfl ?_
      refine own_lload C X at_74 rfl (pc' := 76) rfl ?_
      refine own_lload C X at_76 rfl (pc' := 78) rfl ?_
      refine own_lload C X at_78 rfl (pc' := 80) rfl ?_
      refine own_lload C X at_80 rfl (pc' := 82) rfl ?_
      refine own_lload C X at_82 rfl (pc' := 84) rfl ?_
      refine own_iload C X at_84 rfl (pc' := 86) rfl ?_
      refine own_iload C X at_86 rfl (pc' := 88) rfl ?_
      refine own_lload C X at_88 rfl (pc' := 90) rfl ?_
      have hbg := own_big C X
      refine own_callS C X at_90 (own_m_b11 l Z a0 hw q0 v1 v2 v3 v4 v5 fill _ n0 hbg) (hw _ (List.mem_of_getElem? (i := 6) rfl)) (hw _ (List.mem_of_getElem? (i := 7) rfl)) (hw _ (List.mem_of_getElem? (i := 8) rfl)) (hw _ (List.mem_of_getElem? (i := 9) rfl)) (by decide) own_pd_11984 rfl rfl (Nat.le_of_ble_eq_true rfl) (Nat.le_of_ble_eq_true rfl) (Nat.le_of_ble_eq_true rfl) (Nat.le_of_ble_eq_true rfl) (av := [(.long q0), (.long v1), (.long v2), (.long v3), (.long v4), (.long v5), (.int (1 : Int32)), (.int (1 : Int32)), (.long fill)]) (S := []) rfl (pc' := 93) rfl ?_
      intro T h v X hQ
      obtain ⟨b1, rfl, gq_b1, K_, A_b1⟩ := hQ
      have ge_b1 : n0 ≤ b1 := Nat.le_trans hbg gq_b1
      show own_Go p e below n0 (own_Fin room_1 s (fun v h => v = some (.int 1))) (T.setTop (mkF m 93 #[.val (.long q0), .second, .val (.long q1), .second, .val (.long q2), .second, .val (.long q3), .second, .val (.long q4), .second, .val (.int i5), .val (.int (1 : Int32)), .val (.int (1 : Int32)), .val (.long q0), .second, .val (.long v1), .second, .val (.long v2), .second, .val (.long v3), .second, .val (.long v4), .second, .val (.long v5), .second, .val (.long fill), .second, .unset, .unset, .unset, .unset, .unset, .unset] [(.ref b1)]))
      refine own_astore C X at_93 rfl (L' := #[.val (.long q0), .second, .val (.long q1), .second, .val (.long q2), .second, .val (.long q3), .second, .val (.long q4), .second, .val (.int i5), .val (.int (1 : Int32)), .val (.int (1 : Int32)), .val (.long q0), .second, .val (.long v1), .second, .val (.long v2), .second, .val (.long v3), .second, .val (.long v4), .second, .val (.long v5), .second, .val (.long fill), .second, .val (.ref b1), .unset, .unset, .unset, .unset, .unset]) rfl (pc' := 95) rfl ?_
      refine own_lload C X at_95 rfl (pc' := 97) rfl ?_
      refine own_lload C X at_97 rfl (pc' := 99) rfl ?_
      refine own_lload C X at_99 rfl (pc' := 101) rfl ?_
      refine own_lload C X at_101 rfl (pc' := 103) rfl ?_
      refine own_lload C X at_103 rfl (pc' := 105) rfl ?_
      refine own_lload C X at_105 rfl (pc' := 107) rfl ?_
      refine own_iload C X at_107 rfl (pc' := 109) rfl ?_
      refine own_iload C X at_109 rfl (pc' := 111) rfl ?_
      refine own_lload C X at_111 rfl (pc' := 113) rfl ?_
      have hbg := own_big C X
      refine own_callS C X at_113 (own_m_b11 l Z a0 hw q0 v1 v2 v3 v4 v5 fill _ n0 hbg) (hw _ (List.mem_of_getElem? (i := 6) rfl)) (hw _ (List.mem_of_getElem? (i := 7) rfl)) (hw _ (List.mem_of_getElem? (i := 8) rfl)) (hw _ (List.mem_of_getElem? (i := 9) rfl)) (by decide) own_pd_11984 rfl rfl (Nat.le_of_ble_eq_true rfl) (Nat.le_of_ble_eq_true rfl) (Nat.le_of_ble_eq_true rfl) (Nat.le_of_ble_eq_true rfl) (av := [(.long q0), (.long v1), (.long v2), (.long v3), (.long v4), (.long v5), (.int (1 : Int32)), (.int (1 : Int32)), (.long fill)]) (S := []) rfl (pc' := 116) rfl ?_
      intro T h v X hQ
      obtain ⟨b2, rfl, gq_b2, K_, A_b2⟩ := hQ
      have ne_b1_b2 : b1 ≠ b2 := Nat.ne_of_lt (Nat.lt_of_lt_of_le A_b1.lt gq_b2)
      have ge_b2 : n0 ≤ b2 := Nat.le_trans hbg gq_b2
      have A_b1 := A_b1.keep K_ nin0
      show own_Go p e below n0 (own_Fin room_1 s (fun v h => v = some (.int 1))) (T.setTop (mkF m 116 #[.val (.long q0), .second, .val (.long q1), .second, .val (.long q2), .second, .val (.long q3), .second, .val (.long q4), .second, .val (.int i5), .val (.int (1 : Int32)), .val (.int (1 : Int32)), .val (.long q0), .second, .val (.long v1), .second, .val (.long v2), .second, .val (.long v3), .second, .val (.long v4), .second, .val (.long v5), .second, .val (.long fill), .second, .val (.ref b1), .unset, .unset, .unset, .unset, .unset] [(.ref b2)]))
      refine own_astore C X at_116 rfl (L' := #[.val (.long q0), .second, .val (.long q1), .second, .val (.long q2), .second, .val (.long q3), .second, .val (.long q4), .second, .val (.int i5), .val (.int (1 : Int32)), .val (.int (1 : Int32)), .val (.long q0), .second, .val (.long v1), .second, .val (.long v2), .second, .val (.long v3), .second, .val (.long v4), .second, .val (.long v5), .second, .val (.long fill), .second, .val (.ref b1), .val (.ref b2), .unset, .unset, .unset, .unset]) rfl (pc' := 118) rfl ?_
      refine own_iload C X at_118 rfl (pc' := 120) rfl ?_
      refine own_istore C X at_120 (L' := #[.val (.long q0), .second, .val (.long q1), .second, .val (.long q2), .second, .val (.long q3), .second, .val (.long q4), .second, .val (.int i5), .val (.int (1 : Int32)), .val (.int (1 : Int32)), .val (.long q0), .second, .val (.long v1), .second, .val (.long v2), .second, .val (.long v3), .second, .val (.long v4), .second, .val (.long v5), .second, .val (.long fill), .second, .val (.ref b1), .val (.ref b2), .val (.int (1 : Int32)), .unset, .unset, .unset]) rfl (pc' := 122) rfl ?_
      refine own_iload C X at_122 rfl (pc' := 124) rfl ?_
      refine own_if_ne C X at_124 (pcT := 137) (pc' := 127) (by decide) (by decide) rfl (fun hc124 => ?_) (fun hc124 => absurd hc124 (by decide))
      refine own_iload C X at_137 rfl (pc' := 139) rfl ?_
      refine own_iconst C X at_139 (v := 2) (by decide) (pc' := 140) rfl ?_
      refine own_icmp_gt C X at_140 (pcT := 184) (pc' := 143) (by decide) (by decide) rfl (fun hc140 => absurd hc140 (by decide)) (fun hc140 => ?_)
      refine own_lload C X at_143 rfl (pc' := 145) rfl ?_
      refine own_lload C X at_145 rfl (pc' := 147) rfl ?_
      refine own_lcmp_ge C X at_147 at_148 (pcT := 171) (pc' := 151) (by decide) (by decide) rfl (fun hc147 => ?_) (fun hc147 => ?_)
      · refine own_aload C X at_171 rfl rfl (pc' := 173) rfl ?_
        refine own_iload C X at_173 rfl (pc' := 175) rfl ?_
        refine own_iload C X at_175 rfl (pc' := 177) rfl ?_
        refine own_iadd C X at_177 (z := 2) (by decide) (pc' := 178) rfl ?_
        refine own_lload C X at_178 rfl (pc' := 180) rfl ?_
        refine own_lastore C X at_180 A_b2 (by decide) (i := 2) (Nat.le_of_ble_eq_true rfl) ge_b2 (pc' := 181) rfl ?_
        intro T h X K_ A_b2_
        have A_b2 : own_JA Z h b2 [fill, q0, q4, fill, fill, fill, fill, fill] := A_b2_
        have A_b1 := A_b1.keep K_ (ninS ne_b1_b2 nin0)
        refine own_goto C X at_181 (pc' := 291) (by decide) (by decide) ?_
        refine own_aload C X at_291 rfl rfl (pc' := 293) rfl ?_
        refine own_iload C X at_293 rfl (pc' := 295) rfl ?_
        refine own_iload C X at_295 rfl (pc' := 297) rfl ?_
        refine own_lload C X at_297 rfl (pc' := 299) rfl ?_
        refine own_callS C X at_299 (own_m_add110 l Z a0 hw b1 q4 _ n0 (own_big C X) fill q0 fill fill fill fill fill fill A_b1 ge_b1 hc147) (hw _ (List.mem_of_getElem? (i := 11) rfl)) (hw _ (List.mem_of_getElem? (i := 12) rfl)) (hw _ (List.mem_of_getElem? (i := 13) rfl)) (hw _ (List.mem_of_getElem? (i := 14) rfl)) (by decide) own_pd_5832 rfl rfl (Nat.le_of_ble_eq_true rfl) (Nat.le_of_ble_eq_true rfl) (Nat.le_of_ble_eq_true rfl) (Nat.le_of_ble_eq_true rfl) (av := [(.ref b1), (.int (1 : Int32)), (.int (1 : Int32)), (.long q4)]) (S := []) rfl (pc' := 302) rfl ?_
        intro T h v X hQ
        obtain ⟨rfl, K_, A_b1⟩ := hQ
        have A_b2 := A_b2.keep K_ (ninS (Ne.symm ne_b1_b2) nin0)
        show own_Go p e below n0 (own_Fin room_1 s (fun v h => v = some (.int 1))) (T.setTop (mkF m 302 #[.val (.long q0), .second, .val (.long q1), .second, .val (.long q2), .second, .val (.long q3), .second, .val (.long q4), .second, .val (.int i5), .val (.int (1 : Int32)), .val (.int (1 : Int32)), .val (.long q0), .second, .val (.long v1), .second, .val (.long v2), .second, .val (.long v3), .second, .val (.long v4), .second, .val (.long v5), .second, .val (.long fill), .second, .val (.ref b1), .val (.ref b2), .val (.int (1 : Int32)), .unset, .unset, .unset] []))
        refine own_aload C X at_302 rfl rfl (pc' := 304) rfl ?_
        refine own_aload C X at_304 rfl rfl (pc' := 306) rfl ?_
        refine own_callS C X at_306 (own_m_same l Z a0 hw b1 b2 _ n0 (own_big C X) fill q0 q4 fill fill fill fill fill A_b1 A_b2) (hw _ (List.mem_of_getElem? (i := 15) rfl)) (hw _ (List.mem_of_getElem? (i := 16) rfl)) (hw _ (List.mem_of_getElem? (i := 8) rfl)) (hw _ (List.mem_of_getElem? (i := 17) rfl)) (by decide) own_pd_5060 rfl rfl (Nat.le_of_ble_eq_true rfl) (Nat.le_of_ble_eq_true rfl) (Nat.le_of_ble_eq_true rfl) (Nat.le_of_ble_eq_true rfl) (av := [(.ref b1), (.ref b2)]) (S := []) rfl (pc' := 309) rfl ?_
        intro T h v X hQ
        obtain ⟨rfl, rfl⟩ := hQ
        show own_Go p e below n0 (own_Fin room_1 s (fun v h => v = some (.int 1))) (T.setTop (mkF m 309 #[.val (.long q0), .second, .val (.long q1), .second, .val (.long q2), .second, .val (.long q3), .second, .val (.long q4), .second, .val (.int i5), .val (.int (1 : Int32)), .val (.int (1 : Int32)), .val (.long q0), .second, .val (.long v1), .second, .val (.long v2), .second, .val (.long v3), .second, .val (.long v4), .second, .val (.long v5), .second, .val (.long fill), .second, .val (.ref b1), .val (.ref b2), .val (.int (1 : Int32)), .unset, .unset, .unset] [(.int (1 : Int32))]))
        exact own_ireturn_z C X at_309 (Nat.le_of_ble_eq_true rfl) (Nat.le_of_ble_eq_true rfl) (rfl)
      · refine own_aload C X at_151 rfl rfl (pc' := 153) rfl ?_
        refine own_iload C X at_153 rfl (pc' := 155) rfl ?_
        refine own_lload C X at_155 rfl (pc' := 157) rfl ?_
        refine own_lastore C X at_157 A_b2 (by decide) (i := 1) (Nat.le_of_ble_eq_true rfl) ge_b2 (pc' := 158) rfl ?_
        intro T h X K_ A_b2_
        have A_b2 : own_JA Z h b2 [fill, q4, fill, fill, fill, fill, fill, fill] := A_b2_
        have A_b1 := A_b1.keep K_ (ninS ne_b1_b2 nin0)
        refine own_aload C X at_158 rfl rfl (pc' := 160) rfl ?_
        refine own_iload C X at_160 rfl (pc' := 162) rfl ?_
        refine own_iload C X at_162 rfl (pc' := 164) rfl ?_
        refine own_iadd C X at_164 (z := 2) (by decide) (pc' := 165) rfl ?_
        refine own_lload C X at_165 rfl (pc' := 167) rfl ?_
        refine own_lastore C X at_167 A_b2 (by decide) (i := 2) (Nat.le_of_ble_eq_true rfl) ge_b2 (pc' := 168) rfl ?_
        intro T h X K_ A_b2_
        have A_b2 : own_JA Z h b2 [fill, q4, q0, fill, fill, fill, fill, fill] := A_b2_
        have A_b1 := A_b1.keep K_ (ninS ne_b1_b2 nin0)
        refine own_goto C X at_168 (pc' := 291) (by decide) (by decide) ?_
        refine own_aload C X at_291 rfl rfl (pc' := 293) rfl ?_
        refine own_iload C X at_293 rfl (pc' := 295) rfl ?_
        refine own_iload C X at_295 rfl (pc' := 297) rfl ?_
        refine own_lload C X at_297 rfl (pc' := 299) rfl ?_
        refine own_callS C X at_299 (own_m_add111 l Z a0 hw b1 q4 _ n0 (own_big C X) fill q0 fill fill fill fill fill fill A_b1 ge_b1 hc147) (hw _ (List.mem_of_getElem? (i := 11) rfl)) (hw _ (List.mem_of_getElem? (i := 12) rfl)) (hw _ (List.mem_of_getElem? (i := 13) rfl)) (hw _ (List.mem_of_getElem? (i := 14) rfl)) (by decide) own_pd_5832 rfl rfl (Nat.le_of_ble_eq_true rfl) (Nat.le_of_ble_eq_true rfl) (Nat.le_of_ble_eq_true rfl) (Nat.le_of_ble_eq_true rfl) (av := [(.ref b1), (.int (1 : Int32)), (.int (1 : Int32)), (.long q4)]) (S := []) rfl (pc' := 302) rfl ?_
        intro T h v X hQ
        obtain ⟨rfl, K_, A_b1⟩ := hQ
        have A_b2 := A_b2.keep K_ (ninS (Ne.symm ne_b1_b2) nin0)
        show own_Go p e below n0 (own_Fin room_1 s (fun v h => v = some (.int 1))) (T.setTop (mkF m 302 #[.val (.long q0), .second, .val (.long q1), .second, .val (.long q2), .second, .val (.long q3), .second, .val (.long q4), .second, .val (.int i5), .val (.int (1 : Int32)), .val (.int (1 : Int32)), .val (.long q0), .second, .val (.long v1), .second, .val (.long v2), .second, .val (.long v3), .second, .val (.long v4), .second, .val (.long v5), .second, .val (.long fill), .second, .val (.ref b1), .val (.ref b2), .val (.int (1 : Int32)), .unset, .unset, .unset] []))
        refine own_aload C X at_302 rfl rfl (pc' := 304) rfl ?_
        refine own_aload C X at_304 rfl rfl (pc' := 306) rfl ?_
        refine own_callS C X at_306 (own_m_same l Z a0 hw b1 b2 _ n0 (own_big C X) fill q4 q0 fill fill fill fill fill A_b1 A_b2) (hw _ (List.mem_of_getElem? (i := 15) rfl)) (hw _ (List.mem_of_getElem? (i := 16) rfl)) (hw _ (List.mem_of_getElem? (i := 8) rfl)) (hw _ (List.mem_of_getElem? (i := 17) rfl)) (by decide) own_pd_5060 rfl rfl (Nat.le_of_ble_eq_true rfl) (Nat.le_of_ble_eq_true rfl) (Nat.le_of_ble_eq_true rfl) (Nat.le_of_ble_eq_true rfl) (av := [(.ref b1), (.ref b2)]) (S := []) rfl (pc' := 309) rfl ?_
        intro T h v X hQ
        obtain ⟨rfl, rfl⟩ := hQ
        show own_Go p e below n0 (own_Fin room_1 s (fun v h => v = some (.int 1))) (T.setTop (mkF m 309 #[.val (.long q0), .second, .val (.long q1), .second, .val (.long q2), .second, .val (.long q3), .second, .val (.long q4), .second, .val (.int i5), .val (.int (1 : Int32)), .val (.int (1 : Int32)), .val (.long q0), .second, .val (.long v1), .second, .val (.long v2), .second, .val (.long v3), .second, .val (.long v4), .second, .val (.long v5), .second, .val (.long fill), .second, .val (.ref b1), .val (.ref b2), .val (.int (1 : Int32)), .unset, .unset, .unset] [(.int (1 : Int32))]))
        exact own_ireturn_z C X at_309 (Nat.le_of_ble_eq_true rfl) (Nat.le_of_ble_eq_true rfl) (rfl)
  · rcases own_of _ off e_off with rfl | rfl
    · refine own_lload C X at_72 rfl (pc' := 74) rfl ?_
      refine own_lload C X at_74 rfl (pc' := 76) rfl ?_
      refine own_lload C X at_76 rfl (pc' := 78) rfl ?_
      refine own_lload C X at_78 rfl (pc' := 80) rfl ?_
      refine own_lload C X at_80 rfl (pc' := 82) rfl ?_
      refine own_lload C X at_82 rfl (pc' := 84) rfl ?_
      refine own_iload C X at_84 rfl (pc' := 86) rfl ?_
      refine own_iload C X at_86 rfl (pc' := 88) rfl ?_
      refine own_lload C X at_88 rfl (pc' := 90) rfl ?_
      have hbg := own_big C X
      refine own_callS C X at_90 (own_m_b20 l Z a0 hw q0 v1 v2 v3 v4 v5 fill _ n0 hbg) (hw _ (List.mem_of_getElem? (i := 6) rfl)) (hw _ (List.mem_of_getElem? (i := 7) rfl)) (hw _ (List.mem_of_getElem? (i := 8) rfl)) (hw _ (List.mem_of_getElem? (i := 9) rfl)) (by decide) own_pd_11984 rfl rfl (Nat.le_of_ble_eq_true rfl) (Nat.le_of_ble_eq_true rfl) (Nat.le_of_ble_eq_true rfl) (Nat.le_of_ble_eq_true rfl) (av := [(.long q0), (.long v1), (.long v2), (.long v3), (.long v4), (.long v5), (.int (2 : Int32)), (.int (0 : Int32)), (.long fill)]) (S := []) rfl (pc' := 93) rfl ?_
      intro T h v X hQ
      obtain ⟨b1, rfl, gq_b1, K_, A_b1⟩ := hQ
      have ge_b1 : n0 ≤ b1 := Nat.le_trans hbg gq_b1
      show own_Go p e below n0 (own_Fin room_1 s (fun v h => v = some (.int 1))) (T.setTop (mkF m 93 #[.val (.long q0), .second, .val (.long q1), .second, .val (.long q2), .second, .val (.long q3), .second, .val (.long q4), .second, .val (.int i5), .val (.int (2 : Int32)), .val (.int (0 : Int32)), .val (.long q0), .second, .val (.long v1), .second, .val (.long v2), .second, .val (.long v3), .second, .val (.long v4), .second, .val (.long v5), .second, .val (.long fill), .second, .unset, .unset, .unset, .unset, .unset, .unset] [(.ref b1)]))
      refine own_astore C X at_93 rfl (L' := #[.val (.long q0), .second, .val (.long q1), .second, .val (.long q2), .second, .val (.long q3), .second, .val (.long q4), .second, .val (.int i5), .val (.int (2 : Int32)), .val (.int (0 : Int32)), .val (.long q0), .second, .val (.long v1), .second, .val (.long v2), .second, .val (.long v3), .second, .val (.long v4), .second, .val (.long v5), .second, .val (.long fill), .second, .val (.ref b1), .unset, .unset, .unset, .unset, .unset]) rfl (pc' := 95) rfl ?_
      refine own_lload C X at_95 rfl (pc' := 97) rfl ?_
      refine own_lload C X at_97 rfl (pc' := 99) rfl ?_
      refine own_lload C X at_99 rfl (pc' := 101) rfl ?_
      refine own_lload C X at_101 rfl (pc' := 103) rfl ?_
      refine own_lload C X at_103 rfl (pc' := 105) rfl ?_
      refine own_lload C X at_105 rfl (pc' := 107) rfl ?_
      refine own_iload C X at_107 rfl (pc' := 109) rfl ?_
      refine own_iload C X at_109 rfl (pc' := 111) rfl ?_
      refine own_lload C X at_111 rfl (pc' := 113) rfl ?_
      have hbg := own_big C X
      refine own_callS C X at_113 (own_m_b20 l Z a0 hw q0 v1 v2 v3 v4 v5 fill _ n0 hbg) (hw _ (List.mem_of_getElem? (i := 6) rfl)) (hw _ (List.mem_of_getElem? (i := 7) rfl)) (hw _ (List.mem_of_getElem? (i := 8) rfl)) (hw _ (List.mem_of_getElem? (i := 9) rfl)) (by decide) own_pd_11984 rfl rfl (Nat.le_of_ble_eq_true rfl) (Nat.le_of_ble_eq_true rfl) (Nat.le_of_ble_eq_true rfl) (Nat.le_of_ble_eq_true rfl) (av := [(.long q0), (.long v1), (.long v2), (.long v3), (.long v4), (.long v5), (.int (2 : Int32)), (.int (0 : Int32)), (.long fill)]) (S := []) rfl (pc' := 116) rfl ?_
      intro T h v X hQ
      obtain ⟨b2, rfl, gq_b2, K_, A_b2⟩ := hQ
      have ne_b1_b2 : b1 ≠ b2 := Nat.ne_of_lt (Nat.lt_of_lt_of_le A_b1.lt gq_b2)
      have ge_b2 : n0 ≤ b2 := Nat.le_trans hbg gq_b2
      have A_b1 := A_b1.keep K_ nin0
      show own_Go p e below n0 (own_Fin room_1 s (fun v h => v = some (.int 1))) (T.setTop (mkF m 116 #[.val (.long q0), .second, .val (.long q1), .second, .val (.long q2), .second, .val (.long q3), .second, .val (.long q4), .second, .val (.int i5), .val (.int (2 : Int32)), .val (.int (0 : Int32)), .val (.long q0), .second, .val (.long v1), .second, .val (.long v2), .second, .val (.long v3), .second, .val (.long v4), .second, .val (.long v5), .second, .val (.long fill), .second, .val (.ref b1), .unset, .unset, .unset, .unset, .unset] [(.ref b2)]))
      refine own_astore C X at_116 rfl (L' := #[.val (.long q0), .second, .val (.long q1), .second, .val (.long q2), .second, .val (.long q3), .second, .val (.long q4), .second, .val (.int i5), .val (.int (2 : Int32)), .val (.int (0 : Int32)), .val (.long q0), .second, .val (.long v1), .second, .val (.long v2), .second, .val (.long v3), .second, .val (.long v4), .second, .val (.long v5), .second, .val (.long fill), .second, .val (.ref b1), .val (.ref b2), .unset, .unset, .unset, .unset]) rfl (pc' := 118) rfl ?_
      refine own_iload C X at_118 rfl (pc' := 120) rfl ?_
      refine own_istore C X at_120 (L' := #[.val (.long q0), .second, .val (.long q1), .second, .val (.long q2), .second, .val (.long q3), .second, .val (.long q4), .second, .val (.int i5), .val (.int (2 : Int32)), .val (.int (0 : Int32)), .val (.long q0), .second, .val (.long v1), .second, .val (.long v2), .second, .val (.long v3), .second, .val (.long v4), .second, .val (.long v5), .second, .val (.long fill), .second, .val (.ref b1), .val (.ref b2), .val (.int (2 : Int32)), .unset, .unset, .unset]) rfl (pc' := 122) rfl ?_
      refine own_iload C X at_122 rfl (pc' := 124) rfl ?_
      refine own_if_ne C X at_124 (pcT := 137) (pc' := 127) (by decide) (by decide) rfl (fun hc124 => ?_) (fun hc124 => absurd hc124 (by decide))
      refine own_iload C X at_137 rfl (pc' := 139) rfl ?_
      refine own_iconst C X at_139 (v := 2) (by decide) (pc' := 140) rfl ?_
      refine own_icmp_gt C X at_140 (pcT := 184) (pc' := 143) (by decide) (by decide) rfl (fun hc140 => absurd hc140 (by decide)) (fun hc140 => ?_)
      refine own_lload C X at_143 rfl (pc' := 145) rfl ?_
      refine own_lload C X at_145 rfl (pc' := 147) rfl ?_
      refine own_lcmp_ge C X at_147 at_148 (pcT := 171) (pc' := 151) (by decide) (by decide) rfl (fun hc147 => ?_) (fun hc147 => ?_)
      · refine own_aload C X at_171 rfl rfl (pc' := 173) rfl ?_
        refine own_iload C X at_173 rfl (pc' := 175) rfl ?_
        refine own_iload C X at_175 rfl (pc' := 177) rfl ?_
        refine own_iadd C X at_177 (z := 2) (by decide) (pc' := 178) rfl ?_
        refine own_lload C X at_178 rfl (pc' := 180) rfl ?_
        refine own_lastore C X at_180 A_b2 (by decide) (i := 2) (Nat.le_of_ble_eq_true rfl) ge_b2 (pc' := 181) rfl ?_
        intro T h X K_ A_b2_
        have A_b2 : own_JA Z h b2 [q0, v1, q4, fill, fill, fill, fill, fill] := A_b2_
        have A_b1 := A_b1.keep K_ (ninS ne_b1_b2 nin0)
        refine own_goto C X at_181 (pc' := 291) (by decide) (by decide) ?_
        refine own_aload C X at_291 rfl rfl (pc' := 293) rfl ?_
        refine own_iload C X at_293 rfl (pc' := 295) rfl ?_
        refine own_iload C X at_295 rfl (pc' := 297) rfl ?_
        refine own_lload C X at_297 rfl (pc' := 299) rfl ?_
        refine own_callS C X at_299 (own_m_add200 l Z a0 hw b1 q4 _ n0 (own_big C X) q0 v1 fill fill fill fill fill fill A_b1 ge_b1 hc147) (hw _ (List.mem_of_getElem? (i := 11) rfl)) (hw _ (List.mem_of_getElem? (i := 12) rfl)) (hw _ (List.mem_of_getElem? (i := 13) rfl)) (hw _ (List.mem_of_getElem? (i := 14) rfl)) (by decide) own_pd_5832 rfl rfl (Nat.le_of_ble_eq_true rfl) (Nat.le_of_ble_eq_true rfl) (Nat.le_of_ble_eq_true rfl) (Nat.le_of_ble_eq_true rfl) (av := [(.ref b1), (.int (0 : Int32)), (.int (2 : Int32)), (.long q4)]) (S := []) rfl (pc' := 302) rfl ?_
        intro T h v X hQ
        obtain ⟨rfl, K_, A_b1⟩ := hQ
        have A_b2 := A_b2.keep K_ (ninS (Ne.symm ne_b1_b2) nin0)
        show own_Go p e below n0 (own_Fin room_1 s (fun v h => v = some (.int 1))) (T.setTop (mkF m 302 #[.val (.long q0), .second, .val (.long q1), .second, .val (.long q2), .second, .val (.long q3), .second, .val (.long q4), .second, .val (.int i5), .val (.int (2 : Int32)), .val (.int (0 : Int32)), .val (.long q0), .second, .val (.long v1), .second, .val (.long v2), .second, .val (.long v3), .second, .val (.long v4), .second, .val (.long v5), .second, .val (.long fill), .second, .val (.ref b1), .val (.ref b2), .val (.int (2 : Int32)), .unset, .unset, .unset] []))
        refine own_aload C X at_302 rfl rfl (pc' := 304) rfl ?_
        refine own_aload C X at_304 rfl rfl (pc' := 306) rfl ?_
        refine own_callS C X at_306 (own_m_same l Z a0 hw b1 b2 _ n0 (own_big C X) q0 v1 q4 fill fill fill fill fill A_b1 A_b2) (hw _ (List.mem_of_getElem? (i := 15) rfl)) (hw _ (List.mem_of_getElem? (i := 16) rfl)) (hw _ (List.mem_of_getElem? (i := 8) rfl)) (hw _ (List.mem_of_getElem? (i := 17) rfl)) (by decide) own_pd_5060 rfl rfl (Nat.le_of_ble_eq_true rfl) (Nat.le_of_ble_eq_true rfl) (Nat.le_of_ble_eq_true rfl) (Nat.le_of_ble_eq_true rfl) (av := [(.ref b1), (.ref b2)]) (S := []) rfl (pc' := 309) rfl ?_
        intro T h v X hQ
        obtain ⟨rfl, rfl⟩ := hQ
        show own_Go p e below n0 (own_Fin room_1 s (fun v h => v = some (.int 1))) (T.setTop (mkF m 309 #[.val (.long q0), .second, .val (.long q1), .second, .val (.long q2), .second, .val (.long q3), .second, .val (.long q4), .second, .val (.int i5), .val (.int (2 : Int32)), .val (.int (0 : Int32)), .val (.long q0), .second, .val (.long v1), .second, .val (.long v2), .second, .val (.long v3), .second, .val (.long v4), .second, .val (.long v5), .second, .val (.long fill), .second, .val (.ref b1), .val (.ref b2), .val (.int (2 : Int32)), .unset, .unset, .unset] [(.int (1 : Int32))]))
        exact own_ireturn_z C X at_309 (Nat.le_of_ble_eq_true rfl) (Nat.le_of_ble_eq_true rfl) (rfl)
      · refine own_aload C X at_151 rfl rfl (pc' := 153) rfl ?_
        refine own_iload C X at_153 rfl (pc' := 155) rfl ?_
        refine own_lload C X at_155 rfl (pc' := 157) rfl ?_
        refine own_lastore C X at_157 A_b2 (by decide) (i := 0) (Nat.le_of_ble_eq_true rfl) ge_b2 (pc' := 158) rfl ?_
        intro T h X K_ A_b2_
        have A_b2 : own_JA Z h b2 [q4, v1, fill, fill, fill, fill, fill, fill] := A_b2_
        have A_b1 := A_b1.keep K_ (ninS ne_b1_b2 nin0)
        refine own_aload C X at_158 rfl rfl (pc' := 160) rfl ?_
        refine own_iload C X at_160 rfl (pc' := 162) rfl ?_
        refine own_iload C X at_162 rfl (pc' := 164) rfl ?_
        refine own_iadd C X at_164 (z := 2) (by decide) (pc' := 165) rfl ?_
        refine own_lload C X at_165 rfl (pc' := 167) rfl ?_
        refine own_lastore C X at_167 A_b2 (by decide) (i := 2) (Nat.le_of_ble_eq_true rfl) ge_b2 (pc' := 168) rfl ?_
        intro T h X K_ A_b2_
        have A_b2 : own_JA Z h b2 [q4, v1, q0, fill, fill, fill, fill, fill] := A_b2_
        have A_b1 := A_b1.keep K_ (ninS ne_b1_b2 nin0)
        refine own_goto C X at_168 (pc' := 291) (by decide) (by decide) ?_
        refine own_aload C X at_291 rfl rfl (pc' := 293) rfl ?_
        refine own_iload C X at_293 rfl (pc' := 295) rfl ?_
        refine own_iload C X at_295 rfl (pc' := 297) rfl ?_
        refine own_lload C X at_297 rfl (pc' := 299) rfl ?_
        refine own_callS C X at_299 (own_m_add201 l Z a0 hw b1 q4 _ n0 (own_big C X) q0 v1 fill fill fill fill fill fill A_b1 ge_b1 hc147) (hw _ (List.mem_of_getElem? (i := 11) rfl)) (hw _ (List.mem_of_getElem? (i := 12) rfl)) (hw _ (List.mem_of_getElem? (i := 13) rfl)) (hw _ (List.mem_of_getElem? (i := 14) rfl)) (by decide) own_pd_5832 rfl rfl (Nat.le_of_ble_eq_true rfl) (Nat.le_of_ble_eq_true rfl) (Nat.le_of_ble_eq_true rfl) (Nat.le_of_ble_eq_true rfl) (av := [(.ref b1), (.int (0 : Int32)), (.int (2 : Int32)), (.long q4)]) (S := []) rfl (pc' := 302) rfl ?_
        intro T h v X hQ
        obtain ⟨rfl, K_, A_b1⟩ := hQ
        have A_b2 := A_b2.keep K_ (ninS (Ne.symm ne_b1_b2) nin0)
        show own_Go p e below n0 (own_Fin room_1 s (fun v h => v = some (.int 1))) (T.setTop (mkF m 302 #[.val (.long q0), .second, .val (.long q1), .second, .val (.long q2), .second, .val (.long q3), .second, .val (.long q4), .second, .val (.int i5), .val (.int (2 : Int32)), .val (.int (0 : Int32)), .val (.long q0), .second, .val (.long v1), .second, .val (.long v2), .second, .val (.long v3), .second, .val (.long v4), .second, .val (.long v5), .second, .val (.long fill), .second, .val (.ref b1), .val (.ref b2), .val (.int (2 : Int32)), .unset, .unset, .unset] []))
        refine own_aload C X at_302 rfl rfl (pc' := 304) rfl ?_
        refine own_aload C X at_304 rfl rfl (pc' := 306) rfl ?_
        refine own_callS C X at_306 (own_m_same l Z a0 hw b1 b2 _ n0 (own_big C X) q4 v1 q0 fill fill fill fill fill A_b1 A_b2) (hw _ (List.mem_of_getElem? (i := 15) rfl)) (hw _ (List.mem_of_getElem? (i := 16) rfl)) (hw _ (List.mem_of_getElem? (i := 8) rfl)) (hw _ (List.mem_of_getElem? (i := 17) rfl)) (by decide) own_pd_5060 rfl rfl (Nat.le_of_ble_eq_true rfl) (Nat.le_of_ble_eq_true rfl) (Nat.le_of_ble_eq_true rfl) (Nat.le_of_ble_eq_true rfl) (av := [(.ref b1), (.ref b2)]) (S := []) rfl (pc' := 309) rfl ?_
        intro T h v X hQ
        obtain ⟨rfl, rfl⟩ := hQ
        show own_Go p e below n0 (own_Fin room_1 s (fun v h => v = some (.int 1))) (T.setTop (mkF m 309 #[.val (.long q0), .second, .val (.long q1), .second, .val (.long q2), .second, .val (.long q3), .second, .val (.long q4), .second, .val (.int i5), .val (.int (2 : Int32)), .val (.int (0 : Int32)), .val (.long q0), .second, .val (.long v1), .second, .val (.long v2), .second, .val (.long v3), .second, .val (.long v4), .second, .val (.long v5), .second, .val (.long fill), .second, .val (.ref b1), .val (.ref b2), .val (.int (2 : Int32)), .unset, .unset, .unset] [(.int (1 : Int32))]))
        exact own_ireturn_z C X at_309 (Nat.le_of_ble_eq_true rfl) (Nat.le_of_ble_eq_true rfl) (rfl)
    · refine own_lload C X at_72 rfl (pc' := 74) rfl ?_
      refine own_lload C X at_74 rfl (pc' := 76) rfl ?_
      refine own_lload C X at_76 rfl (pc' := 78) rfl ?_
      refine own_lload C X at_78 rfl (pc' := 80) rfl ?_
      refine own_lload C X at_80 rfl (pc' := 82) rfl ?_
      refine own_lload C X at_82 rfl (pc' := 84) rfl ?_
      refine own_iload C X at_84 rfl (pc' := 86) rfl ?_
      refine own_iload C X at_86 rfl (pc' := 88) rfl ?_
      refine own_lload C X at_88 rfl (pc' := 90) rfl ?_
      have hbg := own_big C X
      refine own_callS C X at_90 (own_m_b21 l Z a0 hw q0 v1 v2 v3 v4 v5 fill _ n0 hbg) (hw _ (List.mem_of_getElem? (i := 6) rfl)) (hw _ (List.mem_of_getElem? (i := 7) rfl)) (hw _ (List.mem_of_getElem? (i := 8) rfl)) (hw _ (List.mem_of_getElem? (i := 9) rfl)) (by decide) own_pd_11984 rfl rfl (Nat.le_of_ble_eq_true rfl) (Nat.le_of_ble_eq_true rfl) (Nat.le_of_ble_eq_true rfl) (Nat.le_of_ble_eq_true rfl) (av := [(.long q0), (.long v1), (.long v2), (.long v3), (.long v4), (.long v5), (.int (2 : Int32)), (.int (1 : Int32)), (.long fill)]) (S := []) rfl (pc' := 93) rfl ?_
      intro T h v X hQ
      obtain ⟨b1, rfl, gq_b1, K_, A_b1⟩ := hQ
      have ge_b1 : n0 ≤ b1 := Nat.le_trans hbg gq_b1
      show own_Go p e below n0 (own_Fin room_1 s (fun v h => v = some (.int 1))) (T.setTop (mkF m 93 #[.val (.long q0), .second, .val (.long q1), .second, .val (.long q2), .second, .val (.long q3), .second, .val (.long q4), .second, .val (.int i5), .val (.int (2 : Int32)), .val (.int (1 : Int32)), .val (.long q0), .second, .val (.long v1), .second, .val (.long v2), .second, .val (.long v3), .second, .val (.long v4), .second, .val (.long v5), .second, .val (.long fill), .second, .unset, .unset, .unset, .unset, .unset, .unset] [(.ref b1)]))
      refine own_astore C X at_93 rfl (L' := #[.val (.long q0), .second, .val (.long q1), .second, .val (.long q2), .second, .val (.long q3), .second, .val (.long q4), .second, .val (.int i5), .val (.int (2 : Int32)), .val (.int (1 : Int32)), .val (.long q0), .second, .val (.long v1), .second, .val (.long v2), .second, .val (.long v3), .second, .val (.long v4), .second, .val (.long v5), .second, .val (.long fill), .second, .val (.ref b1), .unset, .unset, .unset, .unset, .unset]) rfl (pc' := 95) rfl ?_
      refine own_lload C X at_95 rfl (pc' := 97) rfl ?_
      refine own_lload C X at_97 rfl (pc' := 99) rfl ?_
      refine own_lload C X at_99 rfl (pc' := 101) rfl ?_
      refine own_lload C X at_101 rfl (pc' := 103) rfl ?_
      refine own_lload C X at_103 rfl (pc' := 105) rfl ?_
      refine own_lload C X at_105 rfl (pc' := 107) rfl ?_
      refine own_iload C X at_107 rfl (pc' := 109) rfl ?_
      refine own_iload C X at_109 rfl (pc' := 111) rfl ?_
      refine own_lload C X at_111 rfl (pc' := 113) rfl ?_
      have hbg := own_big C X
      refine own_callS C X at_113 (own_m_b21 l Z a0 hw q0 v1 v2 v3 v4 v5 fill _ n0 hbg) (hw _ (List.mem_of_getElem? (i := 6) rfl)) (hw _ (List.mem_of_getElem? (i := 7) rfl)) (hw _ (List.mem_of_getElem? (i := 8) rfl)) (hw _ (List.mem_of_getElem? (i := 9) rfl)) (by decide) own_pd_11984 rfl rfl (Nat.le_of_ble_eq_true rfl) (Nat.le_of_ble_eq_true rfl) (Nat.le_of_ble_eq_true rfl) (Nat.le_of_ble_eq_true rfl) (av := [(.long q0), (.long v1), (.long v2), (.long v3), (.long v4), (.long v5), (.int (2 : Int32)), (.int (1 : Int32)), (.long fill)]) (S := []) rfl (pc' := 116) rfl ?_
      intro T h v X hQ
      obtain ⟨b2, rfl, gq_b2, K_, A_b2⟩ := hQ
      have ne_b1_b2 : b1 ≠ b2 := Nat.ne_of_lt (Nat.lt_of_lt_of_le A_b1.lt gq_b2)
      have ge_b2 : n0 ≤ b2 := Nat.le_trans hbg gq_b2
      have A_b1 := A_b1.keep K_ nin0
      show own_Go p e below n0 (own_Fin room_1 s (fun v h => v = some (.int 1))) (T.setTop (mkF m 116 #[.val (.long q0), .second, .val (.long q1), .second, .val (.long q2), .second, .val (.long q3), .second, .val (.long q4), .second, .val (.int i5), .val (.int (2 : Int32)), .val (.int (1 : Int32)), .val (.long q0), .second, .val (.long v1), .second, .val (.long v2), .second, .val (.long v3), .second, .val (.long v4), .second, .val (.long v5), .second, .val (.long fill), .second, .val (.ref b1), .unset, .unset, .unset, .unset, .unset] [(.ref b2)]))
      refine own_astore C X at_116 rfl (L' := #[.val (.long q0), .second, .val (.long q1), .second, .val (.long q2), .second, .val (.long q3), .second, .val (.long q4), .second, .val (.int i5), .val (.int (2 : Int32)), .val (.int (1 : Int32)), .val (.long q0), .second, .val (.long v1), .second, .val (.long v2), .second, .val (.long v3), .second, .val (.long v4), .second, .val (.long v5), .second, .val (.long fill), .second, .val (.ref b1), .val (.ref b2), .unset, .unset, .unset, .unset]) rfl (pc' := 118) rfl ?_
      refine own_iload C X at_118 rfl (pc' := 120) rfl ?_
      refine own_istore C X at_120 (L' := #[.val (.long q0), .second, .val (.long q1), .second, .val (.long q2), .second, .val (.long q3), .second, .val (.long q4), .second, .val (.int i5), .val (.int (2 : Int32)), .val (.int (1 : Int32)), .val (.long q0), .second, .val (.long v1), .second, .val (.long v2), .second, .val (.long v3), .second, .val (.long v4), .second, .val (.long v5), .second, .val (.long fill), .second, .val (.ref b1), .val (.ref b2), .val (.int (2 : Int32)), .unset, .unset, .unset]) rfl (pc' := 122) rfl ?_
      refine own_iload C X at_122 rfl (pc' := 124) rfl ?_
      refine own_if_ne C X at_124 (pcT := 137) (pc' := 127) (by decide) (by decide) rfl (fun hc124 => ?_) (fun hc124 => absurd hc124 (by decide))
      refine own_iload C X at_137 rfl (pc' := 139) rfl ?_
      refine own_iconst C X at_139 (v := 2) (by decide) (pc' := 140) rfl ?_
      refine own_icmp_gt C X at_140 (pcT := 184) (pc' := 143) (by decide) (by decide) rfl (fun hc140 => absurd hc140 (by decide)) (fun hc140 => ?_)
      refine own_lload C X at_143 rfl (pc' := 145) rfl ?_
      refine own_lload C X at_145 rfl (pc' := 147) rfl ?_
      refine own_lcmp_ge C X at_147 at_148 (pcT := 171) (pc' := 151) (by decide) (by decide) rfl (fun hc147 => ?_) (fun hc147 => ?_)
      · refine own_aload C X at_171 rfl rfl (pc' := 173) rfl ?_
        refine own_iload C X at_173 rfl (pc' := 175) rfl ?_
        refine own_iload C X at_175 rfl (pc' := 177) rfl ?_
        refine own_iadd C X at_177 (z := 3) (by decide) (pc' := 178) rfl ?_
        refine own_lload C X at_178 rfl (pc' := 180) rfl ?_
        refine own_lastore C X at_180 A_b2 (by decide) (i := 3) (Nat.le_of_ble_eq_true rfl) ge_b2 (pc' := 181) rfl ?_
        intro T h X K_ A_b2_
        have A_b2 : own_JA Z h b2 [fill, q0, v1, q4, fill, fill, fill, fill] := A_b2_
        have A_b1 := A_b1.keep K_ (ninS ne_b1_b2 nin0)
        refine own_goto C X at_181 (pc' := 291) (by decide) (by decide) ?_
        refine own_aload C X at_291 rfl rfl (pc' := 293) rfl ?_
        refine own_iload C X at_293 rfl (pc' := 295) rfl ?_
        refine own_iload C X at_295 rfl (pc' := 297) rfl ?_
        refine own_lload C X at_297 rfl (pc' := 299) rfl ?_
        refine own_callS C X at_299 (own_m_add210 l Z a0 hw b1 q4 _ n0 (own_big C X) fill q0 v1 fill fill fill fill fill A_b1 ge_b1 hc147) (hw _ (List.mem_of_getElem? (i := 11) rfl)) (hw _ (List.mem_of_getElem? (i := 12) rfl)) (hw _ (List.mem_of_getElem? (i := 13) rfl)) (hw _ (List.mem_of_getElem? (i := 14) rfl)) (by decide) own_pd_5832 rfl rfl (Nat.le_of_ble_eq_true rfl) (Nat.le_of_ble_eq_true rfl) (Nat.le_of_ble_eq_true rfl) (Nat.le_of_ble_eq_true rfl) (av := [(.ref b1), (.int (1 : Int32)), (.int (2 : Int32)), (.long q4)]) (S := []) rfl (pc' := 302) rfl ?_
        intro T h v X hQ
        obtain ⟨rfl, K_, A_b1⟩ := hQ
        have A_b2 := A_b2.keep K_ (ninS (Ne.symm ne_b1_b2) nin0)
        show own_Go p e below n0 (own_Fin room_1 s (fun v h => v = some (.int 1))) (T.setTop (mkF m 302 #[.val (.long q0), .second, .val (.long q1), .second, .val (.long q2), .second, .val (.long q3), .second, .val (.long q4), .second, .val (.int i5), .val (.int (2 : Int32)), .val (.int (1 : Int32)), .val (.long q0), .second, .val (.long v1), .second, .val (.long v2), .second, .val (.long v3), .second, .val (.long v4), .second, .val (.long v5), .second, .val (.long fill), .second, .val (.ref b1), .val (.ref b2), .val (.int (2 : Int32)), .unset, .unset, .unset] []))
        refine own_aload C X at_302 rfl rfl (pc' := 304) rfl ?_
        refine own_aload C X at_304 rfl rfl (pc' := 306) rfl ?_
        refine own_callS C X at_306 (own_m_same l Z a0 hw b1 b2 _ n0 (own_big C X) fill q0 v1 q4 fill fill fill fill A_b1 A_b2) (hw _ (List.mem_of_getElem? (i := 15) rfl)) (hw _ (List.mem_of_getElem? (i := 16) rfl)) (hw _ (List.mem_of_getElem? (i := 8) rfl)) (hw _ (List.mem_of_getElem? (i := 17) rfl)) (by decide) own_pd_5060 rfl rfl (Nat.le_of_ble_eq_true rfl) (Nat.le_of_ble_eq_true rfl) (Nat.le_of_ble_eq_true rfl) (Nat.le_of_ble_eq_true rfl) (av := [(.ref b1), (.ref b2)]) (S := []) rfl (pc' := 309) rfl ?_
        intro T h v X hQ
        obtain ⟨rfl, rfl⟩ := hQ
        show own_Go p e below n0 (own_Fin room_1 s (fun v h => v = some (.int 1))) (T.setTop (mkF m 309 #[.val (.long q0), .second, .val (.long q1), .second, .val (.long q2), .second, .val (.long q3), .second, .val (.long q4), .second, .val (.int i5), .val (.int (2 : Int32)), .val (.int (1 : Int32)), .val (.long q0), .second, .val (.long v1), .second, .val (.long v2), .second, .val (.long v3), .second, .val (.long v4), .second, .val (.long v5), .second, .val (.long fill), .second, .val (.ref b1), .val (.ref b2), .val (.int (2 : Int32)), .unset, .unset, .unset] [(.int (1 : Int32))]))
        exact own_ireturn_z C X at_309 (Nat.le_of_ble_eq_true rfl) (Nat.le_of_ble_eq_true rfl) (rfl)
      · refine own_aload C X at_151 rfl rfl (pc' := 153) rfl ?_
        refine own_iload C X at_153 rfl (pc' := 155) rfl ?_
        refine own_lload C X at_155 rfl (pc' := 157) rfl ?_
        refine own_lastore C X at_157 A_b2 (by decide) (i := 1) (Nat.le_of_ble_eq_true rfl) ge_b2 (pc' := 158) rfl ?_
        intro T h X K_ A_b2_
        have A_b2 : own_JA Z h b2 [fill, q4, v1, fill, fill, fill, fill, fill] := A_b2_
        have A_b1 := A_b1.keep K_ (ninS ne_b1_b2 nin0)
        refine own_aload C X at_158 rfl rfl (pc' := 160) rfl ?_
        refine own_iload C X at_160 rfl (pc' := 162) rfl ?_
        refine own_iload C X at_162 rfl (pc' := 164) rfl ?_
        refine own_iadd C X at_164 (z := 3) (by decide) (pc' := 165) rfl ?_
        refine own_lload C X at_165 rfl (pc' := 167) rfl ?_
        refine own_lastore C X at_167 A_b2 (by decide) (i := 3) (Nat.le_of_ble_eq_true rfl) ge_b2 (pc' := 168) rfl ?_
        intro T h X K_ A_b2_
        have A_b2 : own_JA Z h b2 [fill, q4, v1, q0, fill, fill, fill, fill] := A_b2_
        have A_b1 := A_b1.keep K_ (ninS ne_b1_b2 nin0)
        refine own_goto C X at_168 (pc' := 291) (by decide) (by decide) ?_
        refine own_aload C X at_291 rfl rfl (pc' := 293) rfl ?_
        refine own_iload C X at_293 rfl (pc' := 295) rfl ?_
        refine own_iload C X at_295 rfl (pc' := 297) rfl ?_
        refine own_lload C X at_297 rfl (pc' := 299) rfl ?_
        refine own_callS C X at_299 (own_m_add211 l Z a0 hw b1 q4 _ n0 (own_big C X) fill q0 v1 fill fill fill fill fill A_b1 ge_b1 hc147) (hw _ (List.mem_of_getElem? (i := 11) rfl)) (hw _ (List.mem_of_getElem? (i := 12) rfl)) (hw _ (List.mem_of_getElem? (i := 13) rfl)) (hw _ (List.mem_of_getElem? (i := 14) rfl)) (by decide) own_pd_5832 rfl rfl (Nat.le_of_ble_eq_true rfl) (Nat.le_of_ble_eq_true rfl) (Nat.le_of_ble_eq_true rfl) (Nat.le_of_ble_eq_true rfl) (av := [(.ref b1), (.int (1 : Int32)), (.int (2 : Int32)), (.long q4)]) (S := []) rfl (pc' := 302) rfl ?_
        intro T h v X hQ
        obtain ⟨rfl, K_, A_b1⟩ := hQ
        have A_b2 := A_b2.keep K_ (ninS (Ne.symm ne_b1_b2) nin0)
        show own_Go p e below n0 (own_Fin room_1 s (fun v h => v = some (.int 1))) (T.setTop (mkF m 302 #[.val (.long q0), .second, .val (.long q1), .second, .val (.long q2), .second, .val (.long q3), .second, .val (.long q4), .second, .val (.int i5), .val (.int (2 : Int32)), .val (.int (1 : Int32)), .val (.long q0), .second, .val (.long v1), .second, .val (.long v2), .second, .val (.long v3), .second, .val (.long v4), .second, .val (.long v5), .second, .val (.long fill), .second, .val (.ref b1), .val (.ref b2), .val (.int (2 : Int32)), .unset, .unset, .unset] []))
        refine own_aload C X at_302 rfl rfl (pc' := 304) rfl ?_
        refine own_aload C X at_304 rfl rfl (pc' := 306) rfl ?_
        refine own_callS C X at_306 (own_m_same l Z a0 hw b1 b2 _ n0 (own_big C X) fill q4 v1 q0 fill fill fill fill A_b1 A_b2) (hw _ (List.mem_of_getElem? (i := 15) rfl)) (hw _ (List.mem_of_getElem? (i := 16) rfl)) (hw _ (List.mem_of_getElem? (i := 8) rfl)) (hw _ (List.mem_of_getElem? (i := 17) rfl)) (by decide) own_pd_5060 rfl rfl (Nat.le_of_ble_eq_true rfl) (Nat.le_of_ble_eq_true rfl) (Nat.le_of_ble_eq_true rfl) (Nat.le_of_ble_eq_true rfl) (av := [(.ref b1), (.ref b2)]) (S := []) rfl (pc' := 309) rfl ?_
        intro T h v X hQ
        obtain ⟨rfl, rfl⟩ := hQ
        show own_Go p e below n0 (own_Fin room_1 s (fun v h => v = some (.int 1))) (T.setTop (mkF m 309 #[.val (.long q0), .second, .val (.long q1), .second, .val (.long q2), .second, .val (.long q3), .second, .val (.long q4), .second, .val (.int i5), .val (.int (2 : Int32)), .val (.int (1 : Int32)), .val (.long q0), .second, .val (.long v1), .second, .val (.long v2), .second, .val (.long v3), .second, .val (.long v4), .second, .val (.long v5), .second, .val (.long fill), .second, .val (.ref b1), .val (.ref b2), .val (.int (2 : Int32)), .unset, .unset, .unset] [(.int (1 : Int32))]))
        exact own_ireturn_z C X at_309 (Nat.le_of_ble_eq_true rfl) (Nat.le_of_ble_eq_true rfl) (rfl)
  · rcases own_of _ off e_off with rfl | rfl
    · refine own_lload C X at_72 rfl (pc' := 74) rfl ?_
      refine own_lload C X at_74 rfl (pc' := 76) rfl ?_
      refine own_lload C X at_76 rfl (pc' := 78) rfl ?_
      refine own_lload C X at_78 rfl (pc' := 80) rfl ?_
      refine own_lload C X at_80 rfl (pc' := 82) rfl ?_
      refine own_lload C X at_82 rfl (pc' := 84) rfl ?_
      refine own_iload C X at_84 rfl (pc' := 86) rfl ?_
      refine own_iload C X at_86 rfl (pc' := 88) rfl ?_
      refine own_lload C X at_88 rfl (pc' := 90) rfl ?_
      have hbg := own_big C X
      refine own_callS C X at_90 (own_m_b30 l Z a0 hw q0 v1 v2 v3 v4 v5 fill _ n0 hbg) (hw _ (List.mem_of_getElem? (i := 6) rfl)) (hw _ (List.mem_of_getElem? (i := 7) rfl)) (hw _ (List.mem_of_getElem? (i := 8) rfl)) (hw _ (List.mem_of_getElem? (i := 9) rfl)) (by decide) own_pd_11984 rfl rfl (Nat.le_of_ble_eq_true rfl) (Nat.le_of_ble_eq_true rfl) (Nat.le_of_ble_eq_true rfl) (Nat.le_of_ble_eq_true rfl) (av := [(.long q0), (.long v1), (.long v2), (.long v3), (.long v4), (.long v5), (.int (3 : Int32)), (.int (0 : Int32)), (.long fill)]) (S := []) rfl (pc' := 93) rfl ?_
      intro T h v X hQ
      obtain ⟨b1, rfl, gq_b1, K_, A_b1⟩ := hQ
      have ge_b1 : n0 ≤ b1 := Nat.le_trans hbg gq_b1
      show own_Go p e below n0 (own_Fin room_1 s (fun v h => v = some (.int 1))) (T.setTop (mkF m 93 #[.val (.long q0), .second, .val (.long q1), .second, .val (.long q2), .second, .val (.long q3), .second, .val (.long q4), .second, .val (.int i5), .val (.int (3 : Int32)), .val (.int (0 : Int32)), .val (.long q0), .second, .val (.long v1), .second, .val (.long v2), .second, .val (.long v3), .second, .val (.long v4), .second, .val (.long v5), .second, .val (.long fill), .second, .unset, .unset, .unset, .unset, .unset, .unset] [(.ref b1)]))
      refine own_astore C X at_93 rfl (L' := #[.val (.long q0), .second, .val (.long q1), .second, .val (.long q2), .second, .val (.long q3), .second, .val (.long q4), .second, .val (.int i5), .val (.int (3 : Int32)), .val (.int (0 : Int32)), .val (.long q0), .second, .val (.long v1), .second, .val (.long v2), .second, .val (.long v3), .second, .val (.long v4), .second, .val (.long v5), .second, .val (.long fill), .second, .val (.ref b1), .unset, .unset, .unset, .unset, .unset]) rfl (pc' := 95) rfl ?_
      refine own_lload C X at_95 rfl (pc' := 97) rfl ?_
      refine own_lload C X at_97 rfl (pc' := 99) rfl ?_
      refine own_lload C X at_99 rfl (pc' := 101) rfl ?_
      refine own_lload C X at_101 rfl (pc' := 103) rfl ?_
      refine own_lload C X at_103 rfl (pc' := 105) rfl ?_
      refine own_lload C X at_105 rfl (pc' := 107) rfl ?_
      refine own_iload C X at_107 rfl (pc' := 109) rfl ?_
      refine own_iload C X at_109 rfl (pc' := 111) rfl ?_
      refine own_lload C X at_111 rfl (pc' := 113) rfl ?_
      have hbg := own_big C X
      refine own_callS C X at_113 (own_m_b30 l Z a0 hw q0 v1 v2 v3 v4 v5 fill _ n0 hbg) (hw _ (List.mem_of_getElem? (i := 6) rfl)) (hw _ (List.mem_of_getElem? (i := 7) rfl)) (hw _ (List.mem_of_getElem? (i := 8) rfl)) (hw _ (List.mem_of_getElem? (i := 9) rfl)) (by decide) own_pd_11984 rfl rfl (Nat.le_of_ble_eq_true rfl) (Nat.le_of_ble_eq_true rfl) (Nat.le_of_ble_eq_true rfl) (Nat.le_of_ble_eq_true rfl) (av := [(.long q0), (.long v1), (.long v2), (.long v3), (.long v4), (.long v5), (.int (3 : Int32)), (.int (0 : Int32)), (.long fill)]) (S := []) rfl (pc' := 116) rfl ?_
      intro T h v X hQ
      obtain ⟨b2, rfl, gq_b2, K_, A_b2⟩ := hQ
      have ne_b1_b2 : b1 ≠ b2 := Nat.ne_of_lt (Nat.lt_of_lt_of_le A_b1.lt gq_b2)
      have ge_b2 : n0 ≤ b2 := Nat.le_trans hbg gq_b2
      have A_b1 := A_b1.keep K_ nin0
      show own_Go p e below n0 (own_Fin room_1 s (fun v h => v = some (.int 1))) (T.setTop (mkF m 116 #[.val (.long q0), .second, .val (.long q1), .second, .val (.long q2), .second, .val (.long q3), .second, .val (.long q4), .second, .val (.int i5), .val (.int (3 : Int32)), .val (.int (0 : Int32)), .val (.long q0), .second, .val (.long v1), .second, .val (.long v2), .second, .val (.long v3), .second, .val (.long v4), .second, .val (.long v5), .second, .val (.long fill), .second, .val (.ref b1), .unset, .unset, .unset, .unset, .unset] [(.ref b2)]))
      refine own_astore C X at_116 rfl (L' := #[.val (.long q0), .second, .val (.long q1), .second, .val (.long q2), .second, .val (.long q3), .second, .val (.long q4), .second, .val (.int i5), .val (.int (3 : Int32)), .val (.int (0 : Int32)), .val (.long q0), .second, .val (.long v1), .second, .val (.long v2), .second, .val (.long v3), .second, .val (.long v4), .second, .val (.long v5), .second, .val (.long fill), .second, .val (.ref b1), .val (.ref b2), .unset, .unset, .unset, .unset]) rfl (pc' := 118) rfl ?_
      refine own_iload C X at_118 rfl (pc' := 120) rfl ?_
      refine own_istore C X at_120 (L' := #[.val (.long q0), .second, .val (.long q1), .second, .val (.long q2), .second, .val (.long q3), .second, .val (.long q4), .second, .val (.int i5), .val (.int (3 : Int32)), .val (.int (0 : Int32)), .val (.long q0), .second, .val (.long v1), .second, .val (.long v2), .second, .val (.long v3), .second, .val (.long v4), .second, .val (.long v5), .second, .val (.long fill), .second, .val (.ref b1), .val (.ref b2), .val (.int (3 : Int32)), .unset, .unset, .unset]) rfl (pc' := 122) rfl ?_
      refine own_iload C X at_122 rfl (pc' := 124) rfl ?_
      refine own_if_ne C X at_124 (pcT := 137) (pc' := 127) (by decide) (by decide) rfl (fun hc124 => ?_) (fun hc124 => absurd hc124 (by decide))
      refine own_iload C X at_137 rfl (pc' := 139) rfl ?_
      refine own_iconst C X at_139 (v := 2) (by decide) (pc' := 140) rfl ?_
      refine own_icmp_gt C X at_140 (pcT := 184) (pc' := 143) (by decide) (by decide) rfl (fun hc140 => ?_) (fun hc140 => absurd hc140 (by decide))
      refine own_iload C X at_184 rfl (pc' := 186) rfl ?_
      refine own_iconst C X at_186 (v := 4) (by decide) (pc' := 187) rfl ?_
      refine own_icmp_gt C X at_187 (pcT := 194) (pc' := 190) (by decide) (by decide) rfl (fun hc187 => absurd hc187 (by decide)) (fun hc187 => ?_)
      refine own_iconst C X at_190 (v := 1) (by decide) (pc' := 191) rfl ?_
      refine own_goto C X at_191 (pc' := 195) (by decide) (by decide) ?_
      refine own_istore C X at_195 (L' := #[.val (.long q0), .second, .val (.long q1), .second, .val (.long q2), .second, .val (.long q3), .second, .val (.long q4), .second, .val (.int i5), .val (.int (3 : Int32)), .val (.int (0 : Int32)), .val (.long q0), .second, .val (.long v1), .second, .val (.long v2), .second, .val (.long v3), .second, .val (.long v4), .second, .val (.long v5), .second, .val (.long fill), .second, .val (.ref b1), .val (.ref b2), .val (.int (3 : Int32)), .val (.int (1 : Int32)), .unset, .unset]) rfl (pc' := 197) rfl ?_
      refine own_iload C X at_197 rfl (pc' := 199) rfl ?_
      refine own_iconst C X at_199 (v := 1) (by decide) (pc' := 200) rfl ?_
      refine own_icmp_ne C X at_200 (pcT := 208) (pc' := 203) (by decide) (by decide) rfl (fun hc200 => absurd hc200 (by decide)) (fun hc200 => ?_)
      refine own_lload C X at_203 rfl (pc' := 205) rfl ?_
      refine own_goto C X at_205 (pc' := 210) (by decide) (by decide) ?_
      refine own_lstore C X at_210 (L' := #[.val (.long q0), .second, .val (.long q1), .second, .val (.long q2), .second, .val (.long q3), .second, .val (.long q4), .second, .val (.int i5), .val (.int (3 : Int32)), .val (.int (0 : Int32)), .val (.long q0), .second, .val (.long v1), .second, .val (.long v2), .second, .val (.long v3), .second, .val (.long v4), .second, .val (.long v5), .second, .val (.long fill), .second, .val (.ref b1), .val (.ref b2), .val (.int (3 : Int32)), .val (.int (1 : Int32)), .val (.long v1), .second]) rfl (pc' := 212) rfl ?_
      refine own_lload C X at_212 rfl (pc' := 214) rfl ?_
      refine own_lload C X at_214 rfl (pc' := 216) rfl ?_
      refine own_lcmp_ge C X at_216 at_217 (pcT := 250) (pc' := 220) (by decide) (by decide) rfl (fun hc216 => ?_) (fun hc216 => ?_)
      · refine own_lload C X at_250 rfl (pc' := 252) rfl ?_
        refine own_lload C X at_252 rfl (pc' := 254) rfl ?_
        refine own_lcmp_ge C X at_254 at_255 (pcT := 281) (pc' := 258) (by decide) (by decide) rfl (fun hc254 => ?_) (fun hc254 => ?_)
        · refine own_aload C X at_281 rfl rfl (pc' := 283) rfl ?_
          refine own_iload C X at_283 rfl (pc' := 285) rfl ?_
          refine own_iload C X at_285 rfl (pc' := 287) rfl ?_
          refine own_iadd C X at_287 (z := 3) (by decide) (pc' := 288) rfl ?_
          refine own_lload C X at_288 rfl (pc' := 290) rfl ?_
          refine own_lastore C X at_290 A_b2 (by decide) (i := 3) (Nat.le_of_ble_eq_true rfl) ge_b2 (pc' := 291) rfl ?_
          intro T h X K_ A_b2_
          have A_b2 : own_JA Z h b2 [q0, v1, v2, q4, fill, fill, fill, fill] := A_b2_
          have A_b1 := A_b1.keep K_ (ninS ne_b1_b2 nin0)
          refine own_aload C X at_291 rfl rfl (pc' := 293) rfl ?_
          refine own_iload C X at_293 rfl (pc' := 295) rfl ?_
          refine own_iload C X at_295 rfl (pc' := 297) rfl ?_
          refine own_lload C X at_297 rfl (pc' := 299) rfl ?_
          refine own_callS C X at_299 (own_m_add300 l Z a0 hw b1 q4 _ n0 (own_big C X) q0 v1 v2 fill fill fill fill fill A_b1 ge_b1 hc254) (hw _ (List.mem_of_getElem? (i := 11) rfl)) (hw _ (List.mem_of_getElem? (i := 12) rfl)) (hw _ (List.mem_of_getElem? (i := 13) rfl)) (hw _ (List.mem_of_getElem? (i := 14) rfl)) (by decide) own_pd_5832 rfl rfl (Nat.le_of_ble_eq_true rfl) (Nat.le_of_ble_eq_true rfl) (Nat.le_of_ble_eq_true rfl) (Nat.le_of_ble_eq_true rfl) (av := [(.ref b1), (.int (0 : Int32)), (.int (3 : Int32)), (.long q4)]) (S := []) rfl (pc' := 302) rfl ?_
          intro T h v X hQ
          obtain ⟨rfl, K_, A_b1⟩ := hQ
          have A_b2 := A_b2.keep K_ (ninS (Ne.symm ne_b1_b2) nin0)
          show own_Go p e below n0 (own_Fin room_1 s (fun v h => v = some (.int 1))) (T.setTop (mkF m 302 #[.val (.long q0), .second, .val (.long q1), .second, .val (.long q2), .second, .val (.long q3), .second, .val (.long q4), .second, .val (.int i5), .val (.int (3 : Int32)), .val (.int (0 : Int32)), .val (.long q0), .second, .val (.long v1), .second, .val (.long v2), .second, .val (.long v3), .second, .val (.long v4), .second, .val (.long v5), .second, .val (.long fill), .second, .val (.ref b1), .val (.ref b2), .val (.int (3 : Int32)), .val (.int (1 : Int32)), .val (.long v1), .second] []))
          refine own_aload C X at_302 rfl rfl (pc' := 304) rfl ?_
          refine own_aload C X at_304 rfl rfl (pc' := 306) rfl ?_
          refine own_callS C X at_306 (own_m_same l Z a0 hw b1 b2 _ n0 (own_big C X) q0 v1 v2 q4 fill fill fill fill A_b1 A_b2) (hw _ (List.mem_of_getElem? (i := 15) rfl)) (hw _ (List.mem_of_getElem? (i := 16) rfl)) (hw _ (List.mem_of_getElem? (i := 8) rfl)) (hw _ (List.mem_of_getElem? (i := 17) rfl)) (by decide) own_pd_5060 rfl rfl (Nat.le_of_ble_eq_true rfl) (Nat.le_of_ble_eq_true rfl) (Nat.le_of_ble_eq_true rfl) (Nat.le_of_ble_eq_true rfl) (av := [(.ref b1), (.ref b2)]) (S := []) rfl (pc' := 309) rfl ?_
          intro T h v X hQ
          obtain ⟨rfl, rfl⟩ := hQ
          show own_Go p e below n0 (own_Fin room_1 s (fun v h => v = some (.int 1))) (T.setTop (mkF m 309 #[.val (.long q0), .second, .val (.long q1), .second, .val (.long q2), .second, .val (.long q3), .second, .val (.long q4), .second, .val (.int i5), .val (.int (3 : Int32)), .val (.int (0 : Int32)), .val (.long q0), .second, .val (.long v1), .second, .val (.long v2), .second, .val (.long v3), .second, .val (.long v4), .second, .val (.long v5), .second, .val (.long fill), .second, .val (.ref b1), .val (.ref b2), .val (.int (3 : Int32)), .val (.int (1 : Int32)), .val (.long v1), .second] [(.int (1 : Int32))]))
          exact own_ireturn_z C X at_309 (Nat.le_of_ble_eq_true rfl) (Nat.le_of_ble_eq_true rfl) (rfl)
        · refine own_aload C X at_258 rfl rfl (pc' := 260) rfl ?_
          refine own_iload C X at_260 rfl (pc' := 262) rfl ?_
          refine own_iload C X at_262 rfl (pc' := 264) rfl ?_
          refine own_iadd C X at_264 (z := 1) (by decide) (pc' := 265) rfl ?_
          refine own_lload C X at_265 rfl (pc' := 267) rfl ?_
          refine own_lastore C X at_267 A_b2 (by decide) (i := 1) (Nat.le_of_ble_eq_true rfl) ge_b2 (pc' := 268) rfl ?_
          intro T h X K_ A_b2_
          have A_b2 : own_JA Z h b2 [q0, q4, v2, fill, fill, fill, fill, fill] := A_b2_
          have A_b1 := A_b1.keep K_ (ninS ne_b1_b2 nin0)
          refine own_aload C X at_268 rfl rfl (pc' := 270) rfl ?_
          refine own_iload C X at_270 rfl (pc' := 272) rfl ?_
          refine own_iload C X at_272 rfl (pc' := 274) rfl ?_
          refine own_iadd C X at_274 (z := 3) (by decide) (pc' := 275) rfl ?_
          refine own_lload C X at_275 rfl (pc' := 277) rfl ?_
          refine own_lastore C X at_277 A_b2 (by decide) (i := 3) (Nat.le_of_ble_eq_true rfl) ge_b2 (pc' := 278) rfl ?_
          intro T h X K_ A_b2_
          have A_b2 : own_JA Z h b2 [q0, q4, v2, v1, fill, fill, fill, fill] := A_b2_
          have A_b1 := A_b1.keep K_ (ninS ne_b1_b2 nin0)
          refine own_goto C X at_278 (pc' := 291) (by decide) (by decide) ?_
          refine own_aload C X at_291 rfl rfl (pc' := 293) rfl ?_
          refine own_iload C X at_293 rfl (pc' := 295) rfl ?_
          refine own_iload C X at_295 rfl (pc' := 297) rfl ?_
          refine own_lload C X at_297 rfl (pc' := 299) rfl ?_
          refine own_callS C X at_299 (own_m_add301 l Z a0 hw b1 q4 _ n0 (own_big C X) q0 v1 v2 fill fill fill fill fill A_b1 ge_b1 hc254 hc216) (hw _ (List.mem_of_getElem? (i := 11) rfl)) (hw _ (List.mem_of_getElem? (i := 12) rfl)) (hw _ (List.mem_of_getElem? (i := 13) rfl)) (hw _ (List.mem_of_getElem? (i := 14) rfl)) (by decide) own_pd_5832 rfl rfl (Nat.le_of_ble_eq_true rfl) (Nat.le_of_ble_eq_true rfl) (Nat.le_of_ble_eq_true rfl) (Nat.le_of_ble_eq_true rfl) (av := [(.ref b1), (.int (0 : Int32)), (.int (3 : Int32)), (.long q4)]) (S := []) rfl (pc' := 302) rfl ?_
          intro T h v X hQ
          obtain ⟨rfl, K_, A_b1⟩ := hQ
          have A_b2 := A_b2.keep K_ (ninS (Ne.symm ne_b1_b2) nin0)
          show own_Go p e below n0 (own_Fin room_1 s (fun v h => v = some (.int 1))) (T.setTop (mkF m 302 #[.val (.long q0), .second, .val (.long q1), .second, .val (.long q2), .second, .val (.long q3), .second, .val (.long q4), .second, .val (.int i5), .val (.int (3 : Int32)), .val (.int (0 : Int32)), .val (.long q0), .second, .val (.long v1), .second, .val (.long v2), .second, .val (.long v3), .second, .val (.long v4), .second, .val (.long v5), .second, .val (.long fill), .second, .val (.ref b1), .val (.ref b2), .val (.int (3 : Int32)), .val (.int (1 : Int32)), .val (.long v1), .second] []))
          refine own_aload C X at_302 rfl rfl (pc' := 304) rfl ?_
          refine own_aload C X at_304 rfl rfl (pc' := 306) rfl ?_
          refine own_callS C X at_306 (own_m_same l Z a0 hw b1 b2 _ n0 (own_big C X) q0 q4 v2 v1 fill fill fill fill A_b1 A_b2) (hw _ (List.mem_of_getElem? (i := 15) rfl)) (hw _ (List.mem_of_getElem? (i := 16) rfl)) (hw _ (List.mem_of_getElem? (i := 8) rfl)) (hw _ (List.mem_of_getElem? (i := 17) rfl)) (by decide) own_pd_5060 rfl rfl (Nat.le_of_ble_eq_true rfl) (Nat.le_of_ble_eq_true rfl) (Nat.le_of_ble_eq_true rfl) (Nat.le_of_ble_eq_true rfl) (av := [(.ref b1), (.ref b2)]) (S := []) rfl (pc' := 309) rfl ?_
          intro T h v X hQ
          obtain ⟨rfl, rfl⟩ := hQ
          show own_Go p e below n0 (own_Fin room_1 s (fun v h => v = some (.int 1))) (T.setTop (mkF m 309 #[.val (.long q0), .second, .val (.long q1), .second, .val (.long q2), .second, .val (.long q3), .second, .val (.long q4), .second, .val (.int i5), .val (.int (3 : Int32)), .val (.int (0 : Int32)), .val (.long q0), .second, .val (.long v1), .second, .val (.long v2), .second, .val (.long v3), .second, .val (.long v4), .second, .val (.long v5), .second, .val (.long fill), .second, .val (.ref b1), .val (.ref b2), .val (.int (3 : Int32)), .val (.int (1 : Int32)), .val (.long v1), .second] [(.int (1 : Int32))]))
          exact own_ireturn_z C X at_309 (Nat.le_of_ble_eq_true rfl) (Nat.le_of_ble_eq_true rfl) (rfl)
      · refine own_aload C X at_220 rfl rfl (pc' := 222) rfl ?_
        refine own_iload C X at_222 rfl (pc' := 224) rfl ?_
        refine own_lload C X at_224 rfl (pc' := 226) rfl ?_
        refine own_lastore C X at_226 A_b2 (by decide) (i := 0) (Nat.le_of_ble_eq_true rfl) ge_b2 (pc' := 227) rfl ?_
        intro T h X K_ A_b2_
        have A_b2 : own_JA Z h b2 [q4, v1, v2, fill, fill, fill, fill, fill] := A_b2_
        have A_b1 := A_b1.keep K_ (ninS ne_b1_b2 nin0)
        refine own_aload C X at_227 rfl rfl (pc' := 229) rfl ?_
        refine own_iload C X at_229 rfl (pc' := 231) rfl ?_
        refine own_iload C X at_231 rfl (pc' := 233) rfl ?_
        refine own_iadd C X at_233 (z := 1) (by decide) (pc' := 234) rfl ?_
        refine own_lload C X at_234 rfl (pc' := 236) rfl ?_
        refine own_lastore C X at_236 A_b2 (by decide) (i := 1) (Nat.le_of_ble_eq_true rfl) ge_b2 (pc' := 237) rfl ?_
        intro T h X K_ A_b2_
        have A_b2 : own_JA Z h b2 [q4, q0, v2, fill, fill, fill, fill, fill] := A_b2_
        have A_b1 := A_b1.keep K_ (ninS ne_b1_b2 nin0)
        refine own_aload C X at_237 rfl rfl (pc' := 239) rfl ?_
        refine own_iload C X at_239 rfl (pc' := 241) rfl ?_
        refine own_iload C X at_241 rfl (pc' := 243) rfl ?_
        refine own_iadd C X at_243 (z := 3) (by decide) (pc' := 244) rfl ?_
        refine own_lload C X at_244 rfl (pc' := 246) rfl ?_
        refine own_lastore C X at_246 A_b2 (by decide) (i := 3) (Nat.le_of_ble_eq_true rfl) ge_b2 (pc' := 247) rfl ?_
        intro T h X K_ A_b2_
        have A_b2 : own_JA Z h b2 [q4, q0, v2, v1, fill, fill, fill, fill] := A_b2_
        have A_b1 := A_b1.keep K_ (ninS ne_b1_b2 nin0)
        refine own_goto C X at_247 (pc' := 291) (by decide) (by decide) ?_
        refine own_aload C X at_291 rfl rfl (pc' := 293) rfl ?_
        refine own_iload C X at_293 rfl (pc' := 295) rfl ?_
        refine own_iload C X at_295 rfl (pc' := 297) rfl ?_
        refine own_lload C X at_297 rfl (pc' := 299) rfl ?_
        refine own_callS C X at_299 (own_m_add302 l Z a0 hw b1 q4 _ n0 (own_big C X) q0 v1 v2 fill fill fill fill fill A_b1 ge_b1 (own_ltt _ _ _ l_v1 hc216) hc216) (hw _ (List.mem_of_getElem? (i := 11) rfl)) (hw _ (List.mem_of_getElem? (i := 12) rfl)) (hw _ (List.mem_of_getElem? (i := 13) rfl)) (hw _ (List.mem_of_getElem? (i := 14) rfl)) (by decide) own_pd_5832 rfl rfl (Nat.le_of_ble_eq_true rfl) (Nat.le_of_ble_eq_true rfl) (Nat.le_of_ble_eq_true rfl) (Nat.le_of_ble_eq_true rfl) (av := [(.ref b1), (.int (0 : Int32)), (.int (3 : Int32)), (.long q4)]) (S := []) rfl (pc' := 302) rfl ?_
        intro T h v X hQ
        obtain ⟨rfl, K_, A_b1⟩ := hQ
        have A_b2 := A_b2.keep K_ (ninS (Ne.symm ne_b1_b2) nin0)
        show own_Go p e below n0 (own_Fin room_1 s (fun v h => v = some (.int 1))) (T.setTop (mkF m 302 #[.val (.long q0), .second, .val (.long q1), .second, .val (.long q2), .second, .val (.long q3), .second, .val (.long q4), .second, .val (.int i5), .val (.int (3 : Int32)), .val (.int (0 : Int32)), .val (.long q0), .second, .val (.long v1), .second, .val (.long v2), .second, .val (.long v3), .second, .val (.long v4), .second, .val (.long v5), .second, .val (.long fill), .second, .val (.ref b1), .val (.ref b2), .val (.int (3 : Int32)), .val (.int (1 : Int32)), .val (.long v1), .second] []))
        refine own_aload C X at_302 rfl rfl (pc' := 304) rfl ?_
        refine own_aload C X at_304 rfl rfl (pc' := 306) rfl ?_
        refine own_callS C X at_306 (own_m_same l Z a0 hw b1 b2 _ n0 (own_big C X) q4 q0 v2 v1 fill fill fill fill A_b1 A_b2) (hw _ (List.mem_of_getElem? (i := 15) rfl)) (hw _ (List.mem_of_getElem? (i := 16) rfl)) (hw _ (List.mem_of_getElem? (i := 8) rfl)) (hw _ (List.mem_of_getElem? (i := 17) rfl)) (by decide) own_pd_5060 rfl rfl (Nat.le_of_ble_eq_true rfl) (Nat.le_of_ble_eq_true rfl) (Nat.le_of_ble_eq_true rfl) (Nat.le_of_ble_eq_true rfl) (av := [(.ref b1), (.ref b2)]) (S := []) rfl (pc' := 309) rfl ?_
        intro T h v X hQ
        obtain ⟨rfl, rfl⟩ := hQ
        show own_Go p e below n0 (own_Fin room_1 s (fun v h => v = some (.int 1))) (T.setTop (mkF m 309 #[.val (.long q0), .second, .val (.long q1), .second, .val (.long q2), .second, .val (.long q3), .second, .val (.long q4), .second, .val (.int i5), .val (.int (3 : Int32)), .val (.int (0 : Int32)), .val (.long q0), .second, .val (.long v1), .second, .val (.long v2), .second, .val (.long v3), .second, .val (.long v4), .second, .val (.long v5), .second, .val (.long fill), .second, .val (.ref b1), .val (.ref b2), .val (.int (3 : Int32)), .val (.int (1 : Int32)), .val (.long v1), .second] [(.int (1 : Int32))]))
        exact own_ireturn_z C X at_309 (Nat.le_of_ble_eq_true rfl) (Nat.le_of_ble_eq_true rfl) (rfl)
    · refine own_lload C X at_72 rfl (pc' := 74) rfl ?_
      refine own_lload C X at_74 rfl (pc' := 76) rfl ?_
      refine own_lload C X at_76 rfl (pc' := 78) rfl ?_
      refine own_lload C X at_78 rfl (pc' := 80) rfl ?_
      refine own_lload C X at_80 rfl (pc' := 82) rfl ?_
      refine own_lload C X at_82 rfl (pc' := 84) rfl ?_
      refine own_iload C X at_84 rfl (pc' := 86) rfl ?_
      refine own_iload C X at_86 rfl (pc' := 88) rfl ?_
      refine own_lload C X at_88 rfl (pc' := 90) rfl ?_
      have hbg := own_big C X
      refine own_callS C X at_90 (own_m_b31 l Z a0 hw q0 v1 v2 v3 v4 v5 fill _ n0 hbg) (hw _ (List.mem_of_getElem? (i := 6) rfl)) (hw _ (List.mem_of_getElem? (i := 7) rfl)) (hw _ (List.mem_of_getElem? (i := 8) rfl)) (hw _ (List.mem_of_getElem? (i := 9) rfl)) (by decide) own_pd_11984 rfl rfl (Nat.le_of_ble_eq_true rfl) (Nat.le_of_ble_eq_true rfl) (Nat.le_of_ble_eq_true rfl) (Nat.le_of_ble_eq_true rfl) (av := [(.long q0), (.long v1), (.long v2), (.long v3), (.long v4), (.long v5), (.int (3 : Int32)), (.int (1 : Int32)), (.long fill)]) (S := []) rfl (pc' := 93) rfl ?_
      intro T h v X hQ
      obtain ⟨b1, rfl, gq_b1, K_, A_b1⟩ := hQ
      have ge_b1 : n0 ≤ b1 := Nat.le_trans hbg gq_b1
      show own_Go p e below n0 (own_Fin room_1 s (fun v h => v = some (.int 1))) (T.setTop (mkF m 93 #[.val (.long q0), .second, .val (.long q1), .second, .val (.long q2), .second, .val (.long q3), .second, .val (.long q4), .second, .val (.int i5), .val (.int (3 : Int32)), .val (.int (1 : Int32)), .val (.long q0), .second, .val (.long v1), .second, .val (.long v2), .second, .val (.long v3), .second, .val (.long v4), .second, .val (.long v5), .second, .val (.long fill), .second, .unset, .unset, .unset, .unset, .unset, .unset] [(.ref b1)]))
      refine own_astore C X at_93 rfl (L' := #[.val (.long q0), .second, .val (.long q1), .second, .val (.long q2), .second, .val (.long q3), .second, .val (.long q4), .second, .val (.int i5), .val (.int (3 : Int32)), .val (.int (1 : Int32)), .val (.long q0), .second, .val (.long v1), .second, .val (.long v2), .second, .val (.long v3), .second, .val (.long v4), .second, .val (.long v5), .second, .val (.long fill), .second, .val (.ref b1), .unset, .unset, .unset, .unset, .unset]) rfl (pc' := 95) rfl ?_
      refine own_lload C X at_95 rfl (pc' := 97) rfl ?_
      refine own_lload C X at_97 rfl (pc' := 99) rfl ?_
      refine own_lload C X at_99 rfl (pc' := 101) rfl ?_
      refine own_lload C X at_101 rfl (pc' := 103) rfl ?_
      refine own_lload C X at_103 rfl (pc' := 105) rfl ?_
      refine own_lload C X at_105 rfl (pc' := 107) rfl ?_
      refine own_iload C X at_107 rfl (pc' := 109) rfl ?_
      refine own_iload C X at_109 rfl (pc' := 111) rfl ?_
      refine own_lload C X at_111 rfl (pc' := 113) rfl ?_
      have hbg := own_big C X
      refine own_callS C X at_113 (own_m_b31 l Z a0 hw q0 v1 v2 v3 v4 v5 fill _ n0 hbg) (hw _ (List.mem_of_getElem? (i := 6) rfl)) (hw _ (List.mem_of_getElem? (i := 7) rfl)) (hw _ (List.mem_of_getElem? (i := 8) rfl)) (hw _ (List.mem_of_getElem? (i := 9) rfl)) (by decide) own_pd_11984 rfl rfl (Nat.le_of_ble_eq_true rfl) (Nat.le_of_ble_eq_true rfl) (Nat.le_of_ble_eq_true rfl) (Nat.le_of_ble_eq_true rfl) (av := [(.long q0), (.long v1), (.long v2), (.long v3), (.long v4), (.long v5), (.int (3 : Int32)), (.int (1 : Int32)), (.long fill)]) (S := []) rfl (pc' := 116) rfl ?_
      intro T h v X hQ
      obtain ⟨b2, rfl, gq_b2, K_, A_b2⟩ := hQ
      have ne_b1_b2 : b1 ≠ b2 := Nat.ne_of_lt (Nat.lt_of_lt_of_le A_b1.lt gq_b2)
      have ge_b2 : n0 ≤ b2 := Nat.le_trans hbg gq_b2
      have A_b1 := A_b1.keep K_ nin0
      show own_Go p e below n0 (own_Fin room_1 s (fun v h => v = some (.int 1))) (T.setTop (mkF m 116 #[.val (.long q0), .second, .val (.long q1), .second, .val (.long q2), .second, .val (.long q3), .second, .val (.long q4), .second, .val (.int i5), .val (.int (3 : Int32)), .val (.int (1 : Int32)), .val (.long q0), .second, .val (.long v1), .second, .val (.long v2), .second, .val (.long v3), .second, .val (.long v4), .second, .val (.long v5), .second, .val (.long fill), .second, .val (.ref b1), .unset, .unset, .unset, .unset, .unset] [(.ref b2)]))
      refine own_astore C X at_116 rfl (L' := #[.val (.long q0), .second, .val (.long q1), .second, .val (.long q2), .second, .val (.long q3), .second, .val (.long q4), .second, .val (.int i5), .val (.int (3 : Int32)), .val (.int (1 : Int32)), .val (.long q0), .second, .val (.long v1), .second, .val (.long v2), .second, .val (.long v3), .second, .val (.long v4), .second, .val (.long v5), .second, .val (.long fill), .second, .val (.ref b1), .val (.ref b2), .unset, .unset, .unset, .unset]) rfl (pc' := 118) rfl ?_
      refine own_iload C X at_118 rfl (pc' := 120) rfl ?_
      refine own_istore C X at_120 (L' := #[.val (.long q0), .second, .val (.long q1), .second, .val (.long q2), .second, .val (.long q3), .second, .val (.long q4), .second, .val (.int i5), .val (.int (3 : Int32)), .val (.int (1 : Int32)), .val (.long q0), .second, .val (.long v1), .second, .val (.long v2), .second, .val (.long v3), .second, .val (.long v4), .second, .val (.long v5), .second, .val (.long fill), .second, .val (.ref b1), .val (.ref b2), .val (.int (3 : Int32)), .unset, .unset, .unset]) rfl (pc' := 122) rfl ?_
      refine own_iload C X at_122 rfl (pc' := 124) rfl ?_
      refine own_if_ne C X at_124 (pcT := 137) (pc' := 127) (by decide) (by decide) rfl (fun hc124 => ?_) (fun hc124 => absurd hc124 (by decide))
      refine own_iload C X at_137 rfl (pc' := 139) rfl ?_
      refine own_iconst C X at_139 (v := 2) (by decide) (pc' := 140) rfl ?_
      refine own_icmp_gt C X at_140 (pcT := 184) (pc' := 143) (by decide) (by decide) rfl (fun hc140 => ?_) (fun hc140 => absurd hc140 (by decide))
      refine own_iload C X at_184 rfl (pc' := 186) rfl ?_
      refine own_iconst C X at_186 (v := 4) (by decide) (pc' := 187) rfl ?_
      refine own_icmp_gt C X at_187 (pcT := 194) (pc' := 190) (by decide) (by decide) rfl (fun hc187 => absurd hc187 (by decide)) (fun hc187 => ?_)
      refine own_iconst C X at_190 (v := 1) (by decide) (pc' := 191) rfl ?_
      refine own_goto C X at_191 (pc' := 195) (by decide) (by decide) ?_
      refine own_istore C X at_195 (L' := #[.val (.long q0), .second, .val (.long q1), .second, .val (.long q2), .second, .val (.long q3), .second, .val (.long q4), .second, .val (.int i5), .val (.int (3 : Int32)), .val (.int (1 : Int32)), .val (.long q0), .second, .val (.long v1), .second, .val (.long v2), .second, .val (.long v3), .second, .val (.long v4), .second, .val (.long v5), .second, .val (.long fill), .second, .val (.ref b1), .val (.ref b2), .val (.int (3 : Int32)), .val (.int (1 : Int32)), .unset, .unset]) rfl (pc' := 197) rfl ?_
      refine own_iload C X at_197 rfl (pc' := 199) rfl ?_
      refine own_iconst C X at_199 (v := 1) (by decide) (pc' := 200) rfl ?_
      refine own_icmp_ne C X at_200 (pcT := 208) (pc' := 203) (by decide) (by decide) rfl (fun hc200 => absurd hc200 (by decide)) (fun hc200 => ?_)
      refine own_lload C X at_203 rfl (pc' := 205) rfl ?_
      refine own_goto C X at_205 (pc' := 210) (by decide) (by decide) ?_
      refine own_lstore C X at_210 (L' := #[.val (.long q0), .second, .val (.long q1), .second, .val (.long q2), .second, .val (.long q3), .second, .val (.long q4), .second, .val (.int i5), .val (.int (3 : Int32)), .val (.int (1 : Int32)), .val (.long q0), .second, .val (.long v1), .second, .val (.long v2), .second, .val (.long v3), .second, .val (.long v4), .second, .val (.long v5), .second, .val (.long fill), .second, .val (.ref b1), .val (.ref b2), .val (.int (3 : Int32)), .val (.int (1 : Int32)), .val (.long v1), .second]) rfl (pc' := 212) rfl ?_
      refine own_lload C X at_212 rfl (pc' := 214) rfl ?_
      refine own_lload C X at_214 rfl (pc' := 216) rfl ?_
      refine own_lcmp_ge C X at_216 at_217 (pcT := 250) (pc' := 220) (by decide) (by decide) rfl (fun hc216 => ?_) (fun hc216 => ?_)
      · refine own_lload C X at_250 rfl (pc' := 252) rfl ?_
        refine own_lload C X at_252 rfl (pc' := 254) rfl ?_
        refine own_lcmp_ge C X at_254 at_255 (pcT := 281) (pc' := 258) (by decide) (by decide) rfl (fun hc254 => ?_) (fun hc254 => ?_)
        · refine own_aload C X at_281 rfl rfl (pc' := 283) rfl ?_
          refine own_iload C X at_283 rfl (pc' := 285) rfl ?_
          refine own_iload C X at_285 rfl (pc' := 287) rfl ?_
          refine own_iadd C X at_287 (z := 4) (by decide) (pc' := 288) rfl ?_
          refine own_lload C X at_288 rfl (pc' := 290) rfl ?_
          refine own_lastore C X at_290 A_b2 (by decide) (i := 4) (Nat.le_of_ble_eq_true rfl) ge_b2 (pc' := 291) rfl ?_
          intro T h X K_ A_b2_
          have A_b2 : own_JA Z h b2 [fill, q0, v1, v2, q4, fill, fill, fill] := A_b2_
          have A_b1 := A_b1.keep K_ (ninS ne_b1_b2 nin0)
          refine own_aload C X at_291 rfl rfl (pc' := 293) rfl ?_
          refine own_iload C X at_293 rfl (pc' := 295) rfl ?_
          refine own_iload C X at_295 rfl (pc' := 297) rfl ?_
          refine own_lload C X at_297 rfl (pc' := 299) rfl ?_
          refine own_callS C X at_299 (own_m_add310 l Z a0 hw b1 q4 _ n0 (own_big C X) fill q0 v1 v2 fill fill fill fill A_b1 ge_b1 hc254) (hw _ (List.mem_of_getElem? (i := 11) rfl)) (hw _ (List.mem_of_getElem? (i := 12) rfl)) (hw _ (List.mem_of_getElem? (i := 13) rfl)) (hw _ (List.mem_of_getElem? (i := 14) rfl)) (by decide) own_pd_5832 rfl rfl (Nat.le_of_ble_eq_true rfl) (Nat.le_of_ble_eq_true rfl) (Nat.le_of_ble_eq_true rfl) (Nat.le_of_ble_eq_true rfl) (av := [(.ref b1), (.int (1 : Int32)), (.int (3 : Int32)), (.long q4)]) (S := []) rfl (pc' := 302) rfl ?_
          intro T h v X hQ
          obtain ⟨rfl, K_, A_b1⟩ := hQ
          have A_b2 := A_b2.keep K_ (ninS (Ne.symm ne_b1_b2) nin0)
          show own_Go p e below n0 (own_Fin room_1 s (fun v h => v = some (.int 1))) (T.setTop (mkF m 302 #[.val (.long q0), .second, .val (.long q1), .second, .val (.long q2), .second, .val (.long q3), .second, .val (.long q4), .second, .val (.int i5), .val (.int (3 : Int32)), .val (.int (1 : Int32)), .val (.long q0), .second, .val (.long v1), .second, .val (.long v2), .second, .val (.long v3), .second, .val (.long v4), .second, .val (.long v5), .second, .val (.long fill), .second, .val (.ref b1), .val (.ref b2), .val (.int (3 : Int32)), .val (.int (1 : Int32)), .val (.long v1), .second] []))
          refine own_aload C X at_302 rfl rfl (pc' := 304) rfl ?_
          refine own_aload C X at_304 rfl rfl (pc' := 306) rfl ?_
          refine own_callS C X at_306 (own_m_same l Z a0 hw b1 b2 _ n0 (own_big C X) fill q0 v1 v2 q4 fill fill fill A_b1 A_b2) (hw _ (List.mem_of_getElem? (i := 15) rfl)) (hw _ (List.mem_of_getElem? (i := 16) rfl)) (hw _ (List.mem_of_getElem? (i := 8) rfl)) (hw _ (List.mem_of_getElem? (i := 17) rfl)) (by decide) own_pd_5060 rfl rfl (Nat.le_of_ble_eq_true rfl) (Nat.le_of_ble_eq_true rfl) (Nat.le_of_ble_eq_true rfl) (Nat.le_of_ble_eq_true rfl) (av := [(.ref b1), (.ref b2)]) (S := []) rfl (pc' := 309) rfl ?_
          intro T h v X hQ
          obtain ⟨rfl, rfl⟩ := hQ
          show own_Go p e below n0 (own_Fin room_1 s (fun v h => v = some (.int 1))) (T.setTop (mkF m 309 #[.val (.long q0), .second, .val (.long q1), .second, .val (.long q2), .second, .val (.long q3), .second, .val (.long q4), .second, .val (.int i5), .val (.int (3 : Int32)), .val (.int (1 : Int32)), .val (.long q0), .second, .val (.long v1), .second, .val (.long v2), .second, .val (.long v3), .second, .val (.long v4), .second, .val (.long v5), .second, .val (.long fill), .second, .val (.ref b1), .val (.ref b2), .val (.int (3 : Int32)), .val (.int (1 : Int32)), .val (.long v1), .second] [(.int (1 : Int32))]))
          exact own_ireturn_z C X at_309 (Nat.le_of_ble_eq_true rfl) (Nat.le_of_ble_eq_true rfl) (rfl)
        · refine own_aload C X at_258 rfl rfl (pc' := 260) rfl ?_
          refine own_iload C X at_260 rfl (pc' := 262) rfl ?_
          refine own_iload C X at_262 rfl (pc' := 264) rfl ?_
          refine own_iadd C X at_264 (z := 2) (by decide) (pc' := 265) rfl ?_
          refine own_lload C X at_265 rfl (pc' := 267) rfl ?_
          refine own_lastore C X at_267 A_b2 (by decide) (i := 2) (Nat.le_of_ble_eq_true rfl) ge_b2 (pc' := 268) rfl ?_
          intro T h X K_ A_b2_
          have A_b2 : own_JA Z h b2 [fill, q0, q4, v2, fill, fill, fill, fill] := A_b2_
          have A_b1 := A_b1.keep K_ (ninS ne_b1_b2 nin0)
          refine own_aload C X at_268 rfl rfl (pc' := 270) rfl ?_
          refine own_iload C X at_270 rfl (pc' := 272) rfl ?_
          refine own_iload C X at_272 rfl (pc' := 274) rfl ?_
          refine own_iadd C X at_274 (z := 4) (by decide) (pc' := 275) rfl ?_
          refine own_lload C X at_275 rfl (pc' := 277) rfl ?_
          refine own_lastore C X at_277 A_b2 (by decide) (i := 4) (Nat.le_of_ble_eq_true rfl) ge_b2 (pc' := 278) rfl ?_
          intro T h X K_ A_b2_
          have A_b2 : own_JA Z h b2 [fill, q0, q4, v2, v1, fill, fill, fill] := A_b2_
          have A_b1 := A_b1.keep K_ (ninS ne_b1_b2 nin0)
          refine own_goto C X at_278 (pc' := 291) (by decide) (by decide) ?_
          refine own_aload C X at_291 rfl rfl (pc' := 293) rfl ?_
          refine own_iload C X at_293 rfl (pc' := 295) rfl ?_
          refine own_iload C X at_295 rfl (pc' := 297) rfl ?_
          refine own_lload C X at_297 rfl (pc' := 299) rfl ?_
          refine own_callS C X at_299 (own_m_add311 l Z a0 hw b1 q4 _ n0 (own_big C X) fill q0 v1 v2 fill fill fill fill A_b1 ge_b1 hc254 hc216) (hw _ (List.mem_of_getElem? (i := 11) rfl)) (hw _ (List.mem_of_getElem? (i := 12) rfl)) (hw _ (List.mem_of_getElem? (i := 13) rfl)) (hw _ (List.mem_of_getElem? (i := 14) rfl)) (by decide) own_pd_5832 rfl rfl (Nat.le_of_ble_eq_true rfl) (Nat.le_of_ble_eq_true rfl) (Nat.le_of_ble_eq_true rfl) (Nat.le_of_ble_eq_true rfl) (av := [(.ref b1), (.int (1 : Int32)), (.int (3 : Int32)), (.long q4)]) (S := []) rfl (pc' := 302) rfl ?_
          intro T h v X hQ
          obtain ⟨rfl, K_, A_b1⟩ := hQ
          have A_b2 := A_b2.keep K_ (ninS (Ne.symm ne_b1_b2) nin0)
          show own_Go p e below n0 (own_Fin room_1 s (fun v h => v = some (.int 1))) (T.setTop (mkF m 302 #[.val (.long q0), .second, .val (.long q1), .second, .val (.long q2), .second, .val (.long q3), .second, .val (.long q4), .second, .val (.int i5), .val (.int (3 : Int32)), .val (.int (1 : Int32)), .val (.long q0), .second, .val (.long v1), .second, .val (.long v2), .second, .val (.long v3), .second, .val (.long v4), .second, .val (.long v5), .second, .val (.long fill), .second, .val (.ref b1), .val (.ref b2), .val (.int (3 : Int32)), .val (.int (1 : Int32)), .val (.long v1), .second] []))
          refine own_aload C X at_302 rfl rfl (pc' := 304) rfl ?_
          refine own_aload C X at_304 rfl rfl (pc' := 306) rfl ?_
          refine own_callS C X at_306 (own_m_same l Z a0 hw b1 b2 _ n0 (own_big C X) fill q0 q4 v2 v1 fill fill fill A_b1 A_b2) (hw _ (List.mem_of_getElem? (i := 15) rfl)) (hw _ (List.mem_of_getElem? (i := 16) rfl)) (hw _ (List.mem_of_getElem? (i := 8) rfl)) (hw _ (List.mem_of_getElem? (i := 17) rfl)) (by decide) own_pd_5060 rfl rfl (Nat.le_of_ble_eq_true rfl) (Nat.le_of_ble_eq_true rfl) (Nat.le_of_ble_eq_true rfl) (Nat.le_of_ble_eq_true rfl) (av := [(.ref b1), (.ref b2)]) (S := []) rfl (pc' := 309) rfl ?_
          intro T h v X hQ
          obtain ⟨rfl, rfl⟩ := hQ
          show own_Go p e below n0 (own_Fin room_1 s (fun v h => v = some (.int 1))) (T.setTop (mkF m 309 #[.val (.long q0), .second, .val (.long q1), .second, .val (.long q2), .second, .val (.long q3), .second, .val (.long q4), .second, .val (.int i5), .val (.int (3 : Int32)), .val (.int (1 : Int32)), .val (.long q0), .second, .val (.long v1), .second, .val (.long v2), .second, .val (.long v3), .second, .val (.long v4), .second, .val (.long v5), .second, .val (.long fill), .second, .val (.ref b1), .val (.ref b2), .val (.int (3 : Int32)), .val (.int (1 : Int32)), .val (.long v1), .second] [(.int (1 : Int32))]))
          exact own_ireturn_z C X at_309 (Nat.le_of_ble_eq_true rfl) (Nat.le_of_ble_eq_true rfl) (rfl)
      · refine own_aload C X at_220 rfl rfl (pc' := 222) rfl ?_
        refine own_iload C X at_222 rfl (pc' := 224) rfl ?_
        refine own_lload C X at_224 rfl (pc' := 226) rfl ?_
        refine own_lastore C X at_226 A_b2 (by decide) (i := 1) (Nat.le_of_ble_eq_true rfl) ge_b2 (pc' := 227) rfl ?_
        intro T h X K_ A_b2_
        have A_b2 : own_JA Z h b2 [fill, q4, v1, v2, fill, fill, fill, fill] := A_b2_
        have A_b1 := A_b1.keep K_ (ninS ne_b1_b2 nin0)
        refine own_aload C X at_227 rfl rfl (pc' := 229) rfl ?_
        refine own_iload C X at_229 rfl (pc' := 231) rfl ?_
        refine own_iload C X at_231 rfl (pc' := 233) rfl ?_
        refine own_iadd C X at_233 (z := 2) (by decide) (pc' := 234) rfl ?_
        refine own_lload C X at_234 rfl (pc' := 236) rfl ?_
        refine own_lastore C X at_236 A_b2 (by decide) (i := 2) (Nat.le_of_ble_eq_true rfl) ge_b2 (pc' := 237) rfl ?_
        intro T h X K_ A_b2_
        have A_b2 : own_JA Z h b2 [fill, q4, q0, v2, fill, fill, fill, fill] := A_b2_
        have A_b1 := A_b1.keep K_ (ninS ne_b1_b2 nin0)
        refine own_aload C X at_237 rfl rfl (pc' := 239) rfl ?_
        refine own_iload C X at_239 rfl (pc' := 241) rfl ?_
        refine own_iload C X at_241 rfl (pc' := 243) rfl ?_
        refine own_iadd C X at_243 (z := 4) (by decide) (pc' := 244) rfl ?_
        refine own_lload C X at_244 rfl (pc' := 246) rfl ?_
        refine own_lastore C X at_246 A_b2 (by decide) (i := 4) (Nat.le_of_ble_eq_true rfl) ge_b2 (pc' := 247) rfl ?_
        intro T h X K_ A_b2_
        have A_b2 : own_JA Z h b2 [fill, q4, q0, v2, v1, fill, fill, fill] := A_b2_
        have A_b1 := A_b1.keep K_ (ninS ne_b1_b2 nin0)
        refine own_goto C X at_247 (pc' := 291) (by decide) (by decide) ?_
        refine own_aload C X at_291 rfl rfl (pc' := 293) rfl ?_
        refine own_iload C X at_293 rfl (pc' := 295) rfl ?_
        refine own_iload C X at_295 rfl (pc' := 297) rfl ?_
        refine own_lload C X at_297 rfl (pc' := 299) rfl ?_
        refine own_callS C X at_299 (own_m_add312 l Z a0 hw b1 q4 _ n0 (own_big C X) fill q0 v1 v2 fill fill fill fill A_b1 ge_b1 (own_ltt _ _ _ l_v1 hc216) hc216) (hw _ (List.mem_of_getElem? (i := 11) rfl)) (hw _ (List.mem_of_getElem? (i := 12) rfl)) (hw _ (List.mem_of_getElem? (i := 13) rfl)) (hw _ (List.mem_of_getElem? (i := 14) rfl)) (by decide) own_pd_5832 rfl rfl (Nat.le_of_ble_eq_true rfl) (Nat.le_of_ble_eq_true rfl) (Nat.le_of_ble_eq_true rfl) (Nat.le_of_ble_eq_true rfl) (av := [(.ref b1), (.int (1 : Int32)), (.int (3 : Int32)), (.long q4)]) (S := []) rfl (pc' := 302) rfl ?_
        intro T h v X hQ
        obtain ⟨rfl, K_, A_b1⟩ := hQ
        have A_b2 := A_b2.keep K_ (ninS (Ne.symm ne_b1_b2) nin0)
        show own_Go p e below n0 (own_Fin room_1 s (fun v h => v = some (.int 1))) (T.setTop (mkF m 302 #[.val (.long q0), .second, .val (.long q1), .second, .val (.long q2), .second, .val (.long q3), .second, .val (.long q4), .second, .val (.int i5), .val (.int (3 : Int32)), .val (.int (1 : Int32)), .val (.long q0), .second, .val (.long v1), .second, .val (.long v2), .second, .val (.long v3), .second, .val (.long v4), .second, .val (.long v5), .second, .val (.long fill), .second, .val (.ref b1), .val (.ref b2), .val (.int (3 : Int32)), .val (.int (1 : Int32)), .val (.long v1), .second] []))
        refine own_aload C X at_302 rfl rfl (pc' := 304) rfl ?_
        refine own_aload C X at_304 rfl rfl (pc' := 306) rfl ?_
        refine own_callS C X at_306 (own_m_same l Z a0 hw b1 b2 _ n0 (own_big C X) fill q4 q0 v2 v1 fill fill fill A_b1 A_b2) (hw _ (List.mem_of_getElem? (i := 15) rfl)) (hw _ (List.mem_of_getElem? (i := 16) rfl)) (hw _ (List.mem_of_getElem? (i := 8) rfl)) (hw _ (List.mem_of_getElem? (i := 17) rfl)) (by decide) own_pd_5060 rfl rfl (Nat.le_of_ble_eq_true rfl) (Nat.le_of_ble_eq_true rfl) (Nat.le_of_ble_eq_true rfl) (Nat.le_of_ble_eq_true rfl) (av := [(.ref b1), (.ref b2)]) (S := []) rfl (pc' := 309) rfl ?_
        intro T h v X hQ
        obtain ⟨rfl, rfl⟩ := hQ
        show own_Go p e below n0 (own_Fin room_1 s (fun v h => v = some (.int 1))) (T.setTop (mkF m 309 #[.val (.long q0), .second, .val (.long q1), .second, .val (.long q2), .second, .val (.long q3), .second, .val (.long q4), .second, .val (.int i5), .val (.int (3 : Int32)), .val (.int (1 : Int32)), .val (.long q0), .second, .val (.long v1), .second, .val (.long v2), .second, .val (.long v3), .second, .val (.long v4), .second, .val (.long v5), .second, .val (.long fill), .second, .val (.ref b1), .val (.ref b2), .val (.int (3 : Int32)), .val (.int (1 : Int32)), .val (.long v1), .second] [(.int (1 : Int32))]))
        exact own_ireturn_z C X at_309 (Nat.le_of_ble_eq_true rfl) (Nat.le_of_ble_eq_true rfl) (rfl)
  · rcases own_of _ off e_off with rfl | rfl
    · refine own_lload C X at_72 rfl (pc' := 74) rfl ?_
      refine own_lload C X at_74 rfl (pc' := 76) rfl ?_
      refine own_lload C X at_76 rfl (pc' := 78) rfl ?_
      refine own_lload C X at_78 rfl (pc' := 80) rfl ?_
      refine own_lload C X at_80 rfl (pc' := 82) rfl ?_
      refine own_lload C X at_82 rfl (pc' := 84) rfl ?_
      refine own_iload C X at_84 rfl (pc' := 86) rfl ?_
      refine own_iload C X at_86 rfl (pc' := 88) rfl ?_
      refine own_lload C X at_88 rfl (pc' := 90) rfl ?_
      have hbg := own_big C X
      refine own_callS C X at_90 (own_m_b40 l Z a0 hw q0 v1 v2 v3 v4 v5 fill _ n0 hbg) (hw _ (List.mem_of_getElem? (i := 6) rfl)) (hw _ (List.mem_of_getElem? (i := 7) rfl)) (hw _ (List.mem_of_getElem? (i := 8) rfl)) (hw _ (List.mem_of_getElem? (i := 9) rfl)) (by decide) own_pd_11984 rfl rfl (Nat.le_of_ble_eq_true rfl) (Nat.le_of_ble_eq_true rfl) (Nat.le_of_ble_eq_true rfl) (Nat.le_of_ble_eq_true rfl) (av := [(.long q0), (.long v1), (.long v2), (.long v3), (.long v4), (.long v5), (.int (4 : Int32)), (.int (0 : Int32)), (.long fill)]) (S := []) rfl (pc' := 93) rfl ?_
      intro T h v X hQ
      obtain ⟨b1, rfl, gq_b1, K_, A_b1⟩ := hQ
      have ge_b1 : n0 ≤ b1 := Nat.le_trans hbg gq_b1
      show own_Go p e below n0 (own_Fin room_1 s (fun v h => v = some (.int 1))) (T.setTop (mkF m 93 #[.val (.long q0), .second, .val (.long q1), .second, .val (.long q2), .second, .val (.long q3), .second, .val (.long q4), .second, .val (.int i5), .val (.int (4 : Int32)), .val (.int (0 : Int32)), .val (.long q0), .second, .val (.long v1), .second, .val (.long v2), .second, .val (.long v3), .second, .val (.long v4), .second, .val (.long v5), .second, .val (.long fill), .second, .unset, .unset, .unset, .unset, .unset, .unset] [(.ref b1)]))
      refine own_astore C X at_93 rfl (L' := #[.val (.long q0), .second, .val (.long q1), .second, .val (.long q2), .second, .val (.long q3), .second, .val (.long q4), .second, .val (.int i5), .val (.int (4 : Int32)), .val (.int (0 : Int32)), .val (.long q0), .second, .val (.long v1), .second, .val (.long v2), .second, .val (.long v3), .second, .val (.long v4), .second, .val (.long v5), .second, .val (.long fill), .second, .val (.ref b1), .unset, .unset, .unset, .unset, .unset]) rfl (pc' := 95) rfl ?_
      refine own_lload C X at_95 rfl (pc' := 97) rfl ?_
      refine own_lload C X at_97 rfl (pc' := 99) rfl ?_
      refine own_lload C X at_99 rfl (pc' := 101) rfl ?_
      refine own_lload C X at_101 rfl (pc' := 103) rfl ?_
      refine own_lload C X at_103 rfl (pc' := 105) rfl ?_
      refine own_lload C X at_105 rfl (pc' := 107) rfl ?_
      refine own_iload C X at_107 rfl (pc' := 109) rfl ?_
      refine own_iload C X at_109 rfl (pc' := 111) rfl ?_
      refine own_lload C X at_111 rfl (pc' := 113) rfl ?_
      have hbg := own_big C X
      refine own_callS C X at_113 (own_m_b40 l Z a0 hw q0 v1 v2 v3 v4 v5 fill _ n0 hbg) (hw _ (List.mem_of_getElem? (i := 6) rfl)) (hw _ (List.mem_of_getElem? (i := 7) rfl)) (hw _ (List.mem_of_getElem? (i := 8) rfl)) (hw _ (List.mem_of_getElem? (i := 9) rfl)) (by decide) own_pd_11984 rfl rfl (Nat.le_of_ble_eq_true rfl) (Nat.le_of_ble_eq_true rfl) (Nat.le_of_ble_eq_true rfl) (Nat.le_of_ble_eq_true rfl) (av := [(.long q0), (.long v1), (.long v2), (.long v3), (.long v4), (.long v5), (.int (4 : Int32)), (.int (0 : Int32)), (.long fill)]) (S := []) rfl (pc' := 116) rfl ?_
      intro T h v X hQ
      obtain ⟨b2, rfl, gq_b2, K_, A_b2⟩ := hQ
      have ne_b1_b2 : b1 ≠ b2 := Nat.ne_of_lt (Nat.lt_of_lt_of_le A_b1.lt gq_b2)
      have ge_b2 : n0 ≤ b2 := Nat.le_trans hbg gq_b2
      have A_b1 := A_b1.keep K_ nin0
      show own_Go p e below n0 (own_Fin room_1 s (fun v h => v = some (.int 1))) (T.setTop (mkF m 116 #[.val (.long q0), .second, .val (.long q1), .second, .val (.long q2), .second, .val (.long q3), .second, .val (.long q4), .second, .val (.int i5), .val (.int (4 : Int32)), .val (.int (0 : Int32)), .val (.long q0), .second, .val (.long v1), .second, .val (.long v2), .second, .val (.long v3), .second, .val (.long v4), .second, .val (.long v5), .second, .val (.long fill), .second, .val (.ref b1), .unset, .unset, .unset, .unset, .unset] [(.ref b2)]))
      refine own_astore C X at_116 rfl (L' := #[.val (.long q0), .second, .val (.long q1), .second, .val (.long q2), .second, .val (.long q3), .second, .val (.long q4), .second, .val (.int i5), .val (.int (4 : Int32)), .val (.int (0 : Int32)), .val (.long q0), .second, .val (.long v1), .second, .val (.long v2), .second, .val (.long v3), .second, .val (.long v4), .second, .val (.long v5), .second, .val (.long fill), .second, .val (.ref b1), .val (.ref b2), .unset, .unset, .unset, .unset]) rfl (pc' := 118) rfl ?_
      refine own_iload C X at_118 rfl (pc' := 120) rfl ?_
      refine own_istore C X at_120 (L' := #[.val (.long q0), .second, .val (.long q1), .second, .val (.long q2), .second, .val (.long q3), .second, .val (.long q4), .second, .val (.int i5), .val (.int (4 : Int32)), .val (.int (0 : Int32)), .val (.long q0), .second, .val (.long v1), .second, .val (.long v2), .second, .val (.long v3), .second, .val (.long v4), .second, .val (.long v5), .second, .val (.long fill), .second, .val (.ref b1), .val (.ref b2), .val (.int (4 : Int32)), .unset, .unset, .unset]) rfl (pc' := 122) rfl ?_
      refine own_iload C X at_122 rfl (pc' := 124) rfl ?_
      refine own_if_ne C X at_124 (pcT := 137) (pc' := 127) (by decide) (by decide) rfl (fun hc124 => ?_) (fun hc124 => absurd hc124 (by decide))
      refine own_iload C X at_137 rfl (pc' := 139) rfl ?_
      refine own_iconst C X at_139 (v := 2) (by decide) (pc' := 140) rfl ?_
      refine own_icmp_gt C X at_140 (pcT := 184) (pc' := 143) (by decide) (by decide) rfl (fun hc140 => ?_) (fun hc140 => absurd hc140 (by decide))
      refine own_iload C X at_184 rfl (pc' := 186) rfl ?_
      refine own_iconst C X at_186 (v := 4) (by decide) (pc' := 187) rfl ?_
      refine own_icmp_gt C X at_187 (pcT := 194) (pc' := 190) (by decide) (by decide) rfl (fun hc187 => absurd hc187 (by decide)) (fun hc187 => ?_)
      refine own_iconst C X at_190 (v := 1) (by decide) (pc' := 191) rfl ?_
      refine own_goto C X at_191 (pc' := 195) (by decide) (by decide) ?_
      refine own_istore C X at_195 (L' := #[.val (.long q0), .second, .val (.long q1), .second, .val (.long q2), .second, .val (.long q3), .second, .val (.long q4), .second, .val (.int i5), .val (.int (4 : Int32)), .val (.int (0 : Int32)), .val (.long q0), .second, .val (.long v1), .second, .val (.long v2), .second, .val (.long v3), .second, .val (.long v4), .second, .val (.long v5), .second, .val (.long fill), .second, .val (.ref b1), .val (.ref b2), .val (.int (4 : Int32)), .val (.int (1 : Int32)), .unset, .unset]) rfl (pc' := 197) rfl ?_
      refine own_iload C X at_197 rfl (pc' := 199) rfl ?_
      refine own_iconst C X at_199 (v := 1) (by decide) (pc' := 200) rfl ?_
      refine own_icmp_ne C X at_200 (pcT := 208) (pc' := 203) (by decide) (by decide) rfl (fun hc200 => absurd hc200 (by decide)) (fun hc200 => ?_)
      refine own_lload C X at_203 rfl (pc' := 205) rfl ?_
      refine own_goto C X at_205 (pc' := 210) (by decide) (by decide) ?_
      refine own_lstore C X at_210 (L' := #[.val (.long q0), .second, .val (.long q1), .second, .val (.long q2), .second, .val (.long q3), .second, .val (.long q4), .second, .val (.int i5), .val (.int (4 : Int32)), .val (.int (0 : Int32)), .val (.long q0), .second, .val (.long v1), .second, .val (.long v2), .second, .val (.long v3), .second, .val (.long v4), .second, .val (.long v5), .second, .val (.long fill), .second, .val (.ref b1), .val (.ref b2), .val (.int (4 : Int32)), .val (.int (1 : Int32)), .val (.long v1), .second]) rfl (pc' := 212) rfl ?_
      refine own_lload C X at_212 rfl (pc' := 214) rfl ?_
      refine own_lload C X at_214 rfl (pc' := 216) rfl ?_
      refine own_lcmp_ge C X at_216 at_217 (pcT := 250) (pc' := 220) (by decide) (by decide) rfl (fun hc216 => ?_) (fun hc216 => ?_)
      · refine own_lload C X at_250 rfl (pc' := 252) rfl ?_
        refine own_lload C X at_252 rfl (pc' := 254) rfl ?_
        refine own_lcmp_ge C X at_254 at_255 (pcT := 281) (pc' := 258) (by decide) (by decide) rfl (fun hc254 => ?_) (fun hc254 => ?_)
        · refine own_aload C X at_281 rfl rfl (pc' := 283) rfl ?_
          refine own_iload C X at_283 rfl (pc' := 285) rfl ?_
          refine own_iload C X at_285 rfl (pc' := 287) rfl ?_
          refine own_iadd C X at_287 (z := 4) (by decide) (pc' := 288) rfl ?_
          refine own_lload C X at_288 rfl (pc' := 290) rfl ?_
          refine own_lastore C X at_290 A_b2 (by decide) (i := 4) (Nat.le_of_ble_eq_true rfl) ge_b2 (pc' := 291) rfl ?_
          intro T h X K_ A_b2_
          have A_b2 : own_JA Z h b2 [q0, v1, v2, v3, q4, fill, fill, fill] := A_b2_
          have A_b1 := A_b1.keep K_ (ninS ne_b1_b2 nin0)
          refine own_aload C X at_291 rfl rfl (pc' := 293) rfl ?_
          refine own_iload C X at_293 rfl (pc' := 295) rfl ?_
          refine own_iload C X at_295 rfl (pc' := 297) rfl ?_
          refine own_lload C X at_297 rfl (pc' := 299) rfl ?_
          refine own_callS C X at_299 (own_m_add400 l Z a0 hw b1 q4 _ n0 (own_big C X) q0 v1 v2 v3 fill fill fill fill A_b1 ge_b1 hc254) (hw _ (List.mem_of_getElem? (i := 11) rfl)) (hw _ (List.mem_of_getElem? (i := 12) rfl)) (hw _ (List.mem_of_getElem? (i := 13) rfl)) (hw _ (List.mem_of_getElem? (i := 14) rfl)) (by decide) own_pd_5832 rfl rfl (Nat.le_of_ble_eq_true rfl) (Nat.le_of_ble_eq_true rfl) (Nat.le_of_ble_eq_true rfl) (Nat.le_of_ble_eq_true rfl) (av := [(.ref b1), (.int (0 : Int32)), (.int (4 : Int32)), (.long q4)]) (S := []) rfl (pc' := 302) rfl ?_
          intro T h v X hQ
          obtain ⟨rfl, K_, A_b1⟩ := hQ
          have A_b2 := A_b2.keep K_ (ninS (Ne.symm ne_b1_b2) nin0)
          show own_Go p e below n0 (own_Fin room_1 s (fun v h => v = some (.int 1))) (T.setTop (mkF m 302 #[.val (.long q0), .second, .val (.long q1), .second, .val (.long q2), .second, .val (.long q3), .second, .val (.long q4), .second, .val (.int i5), .val (.int (4 : Int32)), .val (.int (0 : Int32)), .val (.long q0), .second, .val (.long v1), .second, .val (.long v2), .second, .val (.long v3), .second, .val (.long v4), .second, .val (.long v5), .second, .val (.long fill), .second, .val (.ref b1), .val (.ref b2), .val (.int (4 : Int32)), .val (.int (1 : Int32)), .val (.long v1), .second] []))
          refine own_aload C X at_302 rfl rfl (pc' := 304) rfl ?_
          refine own_aload C X at_304 rfl rfl (pc' := 306) rfl ?_
          refine own_callS C X at_306 (own_m_same l Z a0 hw b1 b2 _ n0 (own_big C X) q0 v1 v2 v3 q4 fill fill fill A_b1 A_b2) (hw _ (List.mem_of_getElem? (i := 15) rfl)) (hw _ (List.mem_of_getElem? (i := 16) rfl)) (hw _ (List.mem_of_getElem? (i := 8) rfl)) (hw _ (List.mem_of_getElem? (i := 17) rfl)) (by decide) own_pd_5060 rfl rfl (Nat.le_of_ble_eq_true rfl) (Nat.le_of_ble_eq_true rfl) (Nat.le_of_ble_eq_true rfl) (Nat.le_of_ble_eq_true rfl) (av := [(.ref b1), (.ref b2)]) (S := []) rfl (pc' := 309) rfl ?_
          intro T h v X hQ
          obtain ⟨rfl, rfl⟩ := hQ
          show own_Go p e below n0 (own_Fin room_1 s (fun v h => v = some (.int 1))) (T.setTop (mkF m 309 #[.val (.long q0), .second, .val (.long q1), .second, .val (.long q2), .second, .val (.long q3), .second, .val (.long q4), .second, .val (.int i5), .val (.int (4 : Int32)), .val (.int (0 : Int32)), .val (.long q0), .second, .val (.long v1), .second, .val (.long v2), .second, .val (.long v3), .second, .val (.long v4), .second, .val (.long v5), .second, .val (.long fill), .second, .val (.ref b1), .val (.ref b2), .val (.int (4 : Int32)), .val (.int (1 : Int32)), .val (.long v1), .second] [(.int (1 : Int32))]))
          exact own_ireturn_z C X at_309 (Nat.le_of_ble_eq_true rfl) (Nat.le_of_ble_eq_true rfl) (rfl)
        · refine own_aload C X at_258 rfl rfl (pc' := 260) rfl ?_
          refine own_iload C X at_260 rfl (pc' := 262) rfl ?_
          refine own_iload C X at_262 rfl (pc' := 264) rfl ?_
          refine own_iadd C X at_264 (z := 1) (by decide) (pc' := 265) rfl ?_
          refine own_lload C X at_265 rfl (pc' := 267) rfl ?_
          refine own_lastore C X at_267 A_b2 (by decide) (i := 1) (Nat.le_of_ble_eq_true rfl) ge_b2 (pc' := 268) rfl ?_
          intro T h X K_ A_b2_
          have A_b2 : own_JA Z h b2 [q0, q4, v2, v3, fill, fill, fill, fill] := A_b2_
          have A_b1 := A_b1.keep K_ (ninS ne_b1_b2 nin0)
          refine own_aload C X at_268 rfl rfl (pc' := 270) rfl ?_
          refine own_iload C X at_270 rfl (pc' := 272) rfl ?_
          refine own_iload C X at_272 rfl (pc' := 274) rfl ?_
          refine own_iadd C X at_274 (z := 4) (by decide) (pc' := 275) rfl ?_
          refine own_lload C X at_275 rfl (pc' := 277) rfl ?_
          refine own_lastore C X at_277 A_b2 (by decide) (i := 4) (Nat.le_of_ble_eq_true rfl) ge_b2 (pc' := 278) rfl ?_
          intro T h X K_ A_b2_
          have A_b2 : own_JA Z h b2 [q0, q4, v2, v3, v1, fill, fill, fill] := A_b2_
          have A_b1 := A_b1.keep K_ (ninS ne_b1_b2 nin0)
          refine own_goto C X at_278 (pc' := 291) (by decide) (by decide) ?_
          refine own_aload C X at_291 rfl rfl (pc' := 293) rfl ?_
          refine own_iload C X at_293 rfl (pc' := 295) rfl ?_
          refine own_iload C X at_295 rfl (pc' := 297) rfl ?_
          refine own_lload C X at_297 rfl (pc' := 299) rfl ?_
          refine own_callS C X at_299 (own_m_add401 l Z a0 hw b1 q4 _ n0 (own_big C X) q0 v1 v2 v3 fill fill fill fill A_b1 ge_b1 hc254 hc216) (hw _ (List.mem_of_getElem? (i := 11) rfl)) (hw _ (List.mem_of_getElem? (i := 12) rfl)) (hw _ (List.mem_of_getElem? (i := 13) rfl)) (hw _ (List.mem_of_getElem? (i := 14) rfl)) (by decide) own_pd_5832 rfl rfl (Nat.le_of_ble_eq_true rfl) (Nat.le_of_ble_eq_true rfl) (Nat.le_of_ble_eq_true rfl) (Nat.le_of_ble_eq_true rfl) (av := [(.ref b1), (.int (0 : Int32)), (.int (4 : Int32)), (.long q4)]) (S := []) rfl (pc' := 302) rfl ?_
          intro T h v X hQ
          obtain ⟨rfl, K_, A_b1⟩ := hQ
          have A_b2 := A_b2.keep K_ (ninS (Ne.symm ne_b1_b2) nin0)
          show own_Go p e below n0 (own_Fin room_1 s (fun v h => v = some (.int 1))) (T.setTop (mkF m 302 #[.val (.long q0), .second, .val (.long q1), .second, .val (.long q2), .second, .val (.long q3), .second, .val (.long q4), .second, .val (.int i5), .val (.int (4 : Int32)), .val (.int (0 : Int32)), .val (.long q0), .second, .val (.long v1), .second, .val (.long v2), .second, .val (.long v3), .second, .val (.long v4), .second, .val (.long v5), .second, .val (.long fill), .second, .val (.ref b1), .val (.ref b2), .val (.int (4 : Int32)), .val (.int (1 : Int32)), .val (.long v1), .second] []))
          refine own_aload C X at_302 rfl rfl (pc' := 304) rfl ?_
          refine own_aload C X at_304 rfl rfl (pc' := 306) rfl ?_
          refine own_callS C X at_306 (own_m_same l Z a0 hw b1 b2 _ n0 (own_big C X) q0 q4 v2 v3 v1 fill fill fill A_b1 A_b2) (hw _ (List.mem_of_getElem? (i := 15) rfl)) (hw _ (List.mem_of_getElem? (i := 16) rfl)) (hw _ (List.mem_of_getElem? (i := 8) rfl)) (hw _ (List.mem_of_getElem? (i := 17) rfl)) (by decide) own_pd_5060 rfl rfl (Nat.le_of_ble_eq_true rfl) (Nat.le_of_ble_eq_true rfl) (Nat.le_of_ble_eq_true rfl) (Nat.le_of_ble_eq_true rfl) (av := [(.ref b1), (.ref b2)]) (S := []) rfl (pc' := 309) rfl ?_
          intro T h v X hQ
          obtain ⟨rfl, rfl⟩ := hQ
          show own_Go p e below n0 (own_Fin room_1 s (fun v h => v = some (.int 1))) (T.setTop (mkF m 309 #[.val (.long q0), .second, .val (.long q1), .second, .val (.long q2), .second, .val (.long q3), .second, .val (.long q4), .second, .val (.int i5), .val (.int (4 : Int32)), .val (.int (0 : Int32)), .val (.long q0), .second, .val (.long v1), .second, .val (.long v2), .second, .val (.long v3), .second, .val (.long v4), .second, .val (.long v5), .second, .val (.long fill), .second, .val (.ref b1), .val (.ref b2), .val (.int (4 : Int32)), .val (.int (1 : Int32)), .val (.long v1), .second] [(.int (1 : Int32))]))
          exact own_ireturn_z C X at_309 (Nat.le_of_ble_eq_true rfl) (Nat.le_of_ble_eq_true rfl) (rfl)
      · refine own_aload C X at_220 rfl rfl (pc' := 222) rfl ?_
        refine own_iload C X at_222 rfl (pc' := 224) rfl ?_
        refine own_lload C X at_224 rfl (pc' := 226) rfl ?_
        refine own_lastore C X at_226 A_b2 (by decide) (i := 0) (Nat.le_of_ble_eq_true rfl) ge_b2 (pc' := 227) rfl ?_
        intro T h X K_ A_b2_
        have A_b2 : own_JA Z h b2 [q4, v1, v2, v3, fill, fill, fill, fill] := A_b2_
        have A_b1 := A_b1.keep K_ (ninS ne_b1_b2 nin0)
        refine own_aload C X at_227 rfl rfl (pc' := 229) rfl ?_
        refine own_iload C X at_229 rfl (pc' := 231) rfl ?_
        refine own_iload C X at_231 rfl (pc' := 233) rfl ?_
        refine own_iadd C X at_233 (z := 1) (by decide) (pc' := 234) rfl ?_
        refine own_lload C X at_234 rfl (pc' := 236) rfl ?_
        refine own_lastore C X at_236 A_b2 (by decide) (i := 1) (Nat.le_of_ble_eq_true rfl) ge_b2 (pc' := 237) rfl ?_
        intro T h X K_ A_b2_
        have A_b2 : own_JA Z h b2 [q4, q0, v2, v3, fill, fill, fill, fill] := A_b2_
        have A_b1 := A_b1.keep K_ (ninS ne_b1_b2 nin0)
        refine own_aload C X at_237 rfl rfl (pc' := 239) rfl ?_
        refine own_iload C X at_239 rfl (pc' := 241) rfl ?_
        refine own_iload C X at_241 rfl (pc' := 243) rfl ?_
        refine own_iadd C X at_243 (z := 4) (by decide) (pc' := 244) rfl ?_
        refine own_lload C X at_244 rfl (pc' := 246) rfl ?_
        refine own_lastore C X at_246 A_b2 (by decide) (i := 4) (Nat.le_of_ble_eq_true rfl) ge_b2 (pc' := 247) rfl ?_
        intro T h X K_ A_b2_
        have A_b2 : own_JA Z h b2 [q4, q0, v2, v3, v1, fill, fill, fill] := A_b2_
        have A_b1 := A_b1.keep K_ (ninS ne_b1_b2 nin0)
        refine own_goto C X at_247 (pc' := 291) (by decide) (by decide) ?_
        refine own_aload C X at_291 rfl rfl (pc' := 293) rfl ?_
        refine own_iload C X at_293 rfl (pc' := 295) rfl ?_
        refine own_iload C X at_295 rfl (pc' := 297) rfl ?_
        refine own_lload C X at_297 rfl (pc' := 299) rfl ?_
        refine own_callS C X at_299 (own_m_add402 l Z a0 hw b1 q4 _ n0 (own_big C X) q0 v1 v2 v3 fill fill fill fill A_b1 ge_b1 (own_ltt _ _ _ l_v1 hc216) hc216) (hw _ (List.mem_of_getElem? (i := 11) rfl)) (hw _ (List.mem_of_getElem? (i := 12) rfl)) (hw _ (List.mem_of_getElem? (i := 13) rfl)) (hw _ (List.mem_of_getElem? (i := 14) rfl)) (by decide) own_pd_5832 rfl rfl (Nat.le_of_ble_eq_true rfl) (Nat.le_of_ble_eq_true rfl) (Nat.le_of_ble_eq_true rfl) (Nat.le_of_ble_eq_true rfl) (av := [(.ref b1), (.int (0 : Int32)), (.int (4 : Int32)), (.long q4)]) (S := []) rfl (pc' := 302) rfl ?_
        intro T h v X hQ
        obtain ⟨rfl, K_, A_b1⟩ := hQ
        have A_b2 := A_b2.keep K_ (ninS (Ne.symm ne_b1_b2) nin0)
        show own_Go p e below n0 (own_Fin room_1 s (fun v h => v = some (.int 1))) (T.setTop (mkF m 302 #[.val (.long q0), .second, .val (.long q1), .second, .val (.long q2), .second, .val (.long q3), .second, .val (.long q4), .second, .val (.int i5), .val (.int (4 : Int32)), .val (.int (0 : Int32)), .val (.long q0), .second, .val (.long v1), .second, .val (.long v2), .second, .val (.long v3), .second, .val (.long v4), .second, .val (.long v5), .second, .val (.long fill), .second, .val (.ref b1), .val (.ref b2), .val (.int (4 : Int32)), .val (.int (1 : Int32)), .val (.long v1), .second] []))
        refine own_aload C X at_302 rfl rfl (pc' := 304) rfl ?_
        refine own_aload C X at_304 rfl rfl (pc' := 306) rfl ?_
        refine own_callS C X at_306 (own_m_same l Z a0 hw b1 b2 _ n0 (own_big C X) q4 q0 v2 v3 v1 fill fill fill A_b1 A_b2) (hw _ (List.mem_of_getElem? (i := 15) rfl)) (hw _ (List.mem_of_getElem? (i := 16) rfl)) (hw _ (List.mem_of_getElem? (i := 8) rfl)) (hw _ (List.mem_of_getElem? (i := 17) rfl)) (by decide) own_pd_5060 rfl rfl (Nat.le_of_ble_eq_true rfl) (Nat.le_of_ble_eq_true rfl) (Nat.le_of_ble_eq_true rfl) (Nat.le_of_ble_eq_true rfl) (av := [(.ref b1), (.ref b2)]) (S := []) rfl (pc' := 309) rfl ?_
        intro T h v X hQ
        obtain ⟨rfl, rfl⟩ := hQ
        show own_Go p e below n0 (own_Fin room_1 s (fun v h => v = some (.int 1))) (T.setTop (mkF m 309 #[.val (.long q0), .second, .val (.long q1), .second, .val (.long q2), .second, .val (.long q3), .second, .val (.long q4), .second, .val (.int i5), .val (.int (4 : Int32)), .val (.int (0 : Int32)), .val (.long q0), .second, .val (.long v1), .second, .val (.long v2), .second, .val (.long v3), .second, .val (.long v4), .second, .val (.long v5), .second, .val (.long fill), .second, .val (.ref b1), .val (.ref b2), .val (.int (4 : Int32)), .val (.int (1 : Int32)), .val (.long v1), .second] [(.int (1 : Int32))]))
        exact own_ireturn_z C X at_309 (Nat.le_of_ble_eq_true rfl) (Nat.le_of_ble_eq_true rfl) (rfl)
    · refine own_lload C X at_72 rfl (pc' := 74) rfl ?_
      refine own_lload C X at_74 rfl (pc' := 76) rfl ?_
      refine own_lload C X at_76 rfl (pc' := 78) rfl ?_
      refine own_lload C X at_78 rfl (pc' := 80) rfl ?_
      refine own_lload C X at_80 rfl (pc' := 82) rfl ?_
      refine own_lload C X at_82 rfl (pc' := 84) rfl ?_
      refine own_iload C X at_84 rfl (pc' := 86) rfl ?_
      refine own_iload C X at_86 rfl (pc' := 88) rfl ?_
      refine own_lload C X at_88 rfl (pc' := 90) rfl ?_
      have hbg := own_big C X
      refine own_callS C X at_90 (own_m_b41 l Z a0 hw q0 v1 v2 v3 v4 v5 fill _ n0 hbg) (hw _ (List.mem_of_getElem? (i := 6) rfl)) (hw _ (List.mem_of_getElem? (i := 7) rfl)) (hw _ (List.mem_of_getElem? (i := 8) rfl)) (hw _ (List.mem_of_getElem? (i := 9) rfl)) (by decide) own_pd_11984 rfl rfl (Nat.le_of_ble_eq_true rfl) (Nat.le_of_ble_eq_true rfl) (Nat.le_of_ble_eq_true rfl) (Nat.le_of_ble_eq_true rfl) (av := [(.long q0), (.long v1), (.long v2), (.long v3), (.long v4), (.long v5), (.int (4 : Int32)), (.int (1 : Int32)), (.long fill)]) (S := []) rfl (pc' := 93) rfl ?_
      intro T h v X hQ
      obtain ⟨b1, rfl, gq_b1, K_, A_b1⟩ := hQ
      have ge_b1 : n0 ≤ b1 := Nat.le_trans hbg gq_b1
      show own_Go p e below n0 (own_Fin room_1 s (fun v h => v = some (.int 1))) (T.setTop (mkF m 93 #[.val (.long q0), .second, .val (.long q1), .second, .val (.long q2), .second, .val (.long q3), .second, .val (.long q4), .second, .val (.int i5), .val (.int (4 : Int32)), .val (.int (1 : Int32)), .val (.long q0), .second, .val (.long v1), .second, .val (.long v2), .second, .val (.long v3), .second, .val (.long v4), .second, .val (.long v5), .second, .val (.long fill), .second, .unset, .unset, .unset, .unset, .unset, .unset] [(.ref b1)]))
      refine own_astore C X at_93 rfl (L' := #[.val (.long q0), .second, .val (.long q1), .second, .val (.long q2), .second, .val (.long q3), .second, .val (.long q4), .second, .val (.int i5), .val (.int (4 : Int32)), .val (.int (1 : Int32)), .val (.long q0), .second, .val (.long v1), .second, .val (.long v2), .second, .val (.long v3), .second, .val (.long v4), .second, .val (.long v5), .second, .val (.long fill), .second, .val (.ref b1), .unset, .unset, .unset, .unset, .unset]) rfl (pc' := 95) rfl ?_
      refine own_lload C X at_95 rfl (pc' := 97) rfl ?_
      refine own_lload C X at_97 rfl (pc' := 99) rfl ?_
      refine own_lload C X at_99 rfl (pc' := 101) rfl ?_
      refine own_lload C X at_101 rfl (pc' := 103) rfl ?_
      refine own_lload C X at_103 rfl (pc' := 105) rfl ?_
      refine own_lload C X at_105 rfl (pc' := 107) rfl ?_
      refine own_iload C X at_107 rfl (pc' := 109) rfl ?_
      refine own_iload C X at_109 rfl (pc' := 111) rfl ?_
      refine own_lload C X at_111 rfl (pc' := 113) rfl ?_
      have hbg := own_big C X
      refine own_callS C X at_113 (own_m_b41 l Z a0 hw q0 v1 v2 v3 v4 v5 fill _ n0 hbg) (hw _ (List.mem_of_getElem? (i := 6) rfl)) (hw _ (List.mem_of_getElem? (i := 7) rfl)) (hw _ (List.mem_of_getElem? (i := 8) rfl)) (hw _ (List.mem_of_getElem? (i := 9) rfl)) (by decide) own_pd_11984 rfl rfl (Nat.le_of_ble_eq_true rfl) (Nat.le_of_ble_eq_true rfl) (Nat.le_of_ble_eq_true rfl) (Nat.le_of_ble_eq_true rfl) (av := [(.long q0), (.long v1), (.long v2), (.long v3), (.long v4), (.long v5), (.int (4 : Int32)), (.int (1 : Int32)), (.long fill)]) (S := []) rfl (pc' := 116) rfl ?_
      intro T h v X hQ
      obtain ⟨b2, rfl, gq_b2, K_, A_b2⟩ := hQ
      have ne_b1_b2 : b1 ≠ b2 := Nat.ne_of_lt (Nat.lt_of_lt_of_le A_b1.lt gq_b2)
      have ge_b2 : n0 ≤ b2 := Nat.le_trans hbg gq_b2
      have A_b1 := A_b1.keep K_ nin0
      show own_Go p e below n0 (own_Fin room_1 s (fun v h => v = some (.int 1))) (T.setTop (mkF m 116 #[.val (.long q0), .second, .val (.long q1), .second, .val (.long q2), .second, .val (.long q3), .second, .val (.long q4), .second, .val (.int i5), .val (.int (4 : Int32)), .val (.int (1 : Int32)), .val (.long q0), .second, .val (.long v1), .second, .val (.long v2), .second, .val (.long v3), .second, .val (.long v4), .second, .val (.long v5), .second, .val (.long fill), .second, .val (.ref b1), .unset, .unset, .unset, .unset, .unset] [(.ref b2)]))
      refine own_astore C X at_116 rfl (L' := #[.val (.long q0), .second, .val (.long q1), .second, .val (.long q2), .second, .val (.long q3), .second, .val (.long q4), .second, .val (.int i5), .val (.int (4 : Int32)), .val (.int (1 : Int32)), .val (.long q0), .second, .val (.long v1), .second, .val (.long v2), .second, .val (.long v3), .second, .val (.long v4), .second, .val (.long v5), .second, .val (.long fill), .second, .val (.ref b1), .val (.ref b2), .unset, .unset, .unset, .unset]) rfl (pc' := 118) rfl ?_
      refine own_iload C X at_118 rfl (pc' := 120) rfl ?_
      refine own_istore C X at_120 (L' := #[.val (.long q0), .second, .val (.long q1), .second, .val (.long q2), .second, .val (.long q3), .second, .val (.long q4), .second, .val (.int i5), .val (.int (4 : Int32)), .val (.int (1 : Int32)), .val (.long q0), .second, .val (.long v1), .second, .val (.long v2), .second, .val (.long v3), .second, .val (.long v4), .second, .val (.long v5), .second, .val (.long fill), .second, .val (.ref b1), .val (.ref b2), .val (.int (4 : Int32)), .unset, .unset, .unset]) rfl (pc' := 122) rfl ?_
      refine own_iload C X at_122 rfl (pc' := 124) rfl ?_
      refine own_if_ne C X at_124 (pcT := 137) (pc' := 127) (by decide) (by decide) rfl (fun hc124 => ?_) (fun hc124 => absurd hc124 (by decide))
      refine own_iload C X at_137 rfl (pc' := 139) rfl ?_
      refine own_iconst C X at_139 (v := 2) (by decide) (pc' := 140) rfl ?_
      refine own_icmp_gt C X at_140 (pcT := 184) (pc' := 143) (by decide) (by decide) rfl (fun hc140 => ?_) (fun hc140 => absurd hc140 (by decide))
      refine own_iload C X at_184 rfl (pc' := 186) rfl ?_
      refine own_iconst C X at_186 (v := 4) (by decide) (pc' := 187) rfl ?_
      refine own_icmp_gt C X at_187 (pcT := 194) (pc' := 190) (by decide) (by decide) rfl (fun hc187 => absurd hc187 (by decide)) (fun hc187 => ?_)
      refine own_iconst C X at_190 (v := 1) (by decide) (pc' := 191) rfl ?_
      refine own_goto C X at_191 (pc' := 195) (by decide) (by decide) ?_
      refine own_istore C X at_195 (L' := #[.val (.long q0), .second, .val (.long q1), .second, .val (.long q2), .second, .val (.long q3), .second, .val (.long q4), .second, .val (.int i5), .val (.int (4 : Int32)), .val (.int (1 : Int32)), .val (.long q0), .second, .val (.long v1), .second, .val (.long v2), .second, .val (.long v3), .second, .val (.long v4), .second, .val (.long v5), .second, .val (.long fill), .second, .val (.ref b1), .val (.ref b2), .val (.int (4 : Int32)), .val (.int (1 : Int32)), .unset, .unset]) rfl (pc' := 197) rfl ?_
      refine own_iload C X at_197 rfl (pc' := 199) rfl ?_
      refine own_iconst C X at_199 (v := 1) (by decide) (pc' := 200) rfl ?_
      refine own_icmp_ne C X at_200 (pcT := 208) (pc' := 203) (by decide) (by decide) rfl (fun hc200 => absurd hc200 (by decide)) (fun hc200 => ?_)
      refine own_lload C X at_203 rfl (pc' := 205) rfl ?_
      refine own_goto C X at_205 (pc' := 210) (by decide) (by decide) ?_
      refine own_lstore C X at_210 (L' := #[.val (.long q0), .second, .val (.long q1), .second, .val (.long q2), .second, .val (.long q3), .second, .val (.long q4), .second, .val (.int i5), .val (.int (4 : Int32)), .val (.int (1 : Int32)), .val (.long q0), .second, .val (.long v1), .second, .val (.long v2), .second, .val (.long v3), .second, .val (.long v4), .second, .val (.long v5), .second, .val (.long fill), .second, .val (.ref b1), .val (.ref b2), .val (.int (4 : Int32)), .val (.int (1 : Int32)), .val (.long v1), .second]) rfl (pc' := 212) rfl ?_
      refine own_lload C X at_212 rfl (pc' := 214) rfl ?_
      refine own_lload C X at_214 rfl (pc' := 216) rfl ?_
      refine own_lcmp_ge C X at_216 at_217 (pcT := 250) (pc' := 220) (by decide) (by decide) rfl (fun hc216 => ?_) (fun hc216 => ?_)
      · refine own_lload C X at_250 rfl (pc' := 252) rfl ?_
        refine own_lload C X at_252 rfl (pc' := 254) rfl ?_
        refine own_lcmp_ge C X at_254 at_255 (pcT := 281) (pc' := 258) (by decide) (by decide) rfl (fun hc254 => ?_) (fun hc254 => ?_)
        · refine own_aload C X at_281 rfl rfl (pc' := 283) rfl ?_
          refine own_iload C X at_283 rfl (pc' := 285) rfl ?_
          refine own_iload C X at_285 rfl (pc' := 287) rfl ?_
          refine own_iadd C X at_287 (z := 5) (by decide) (pc' := 288) rfl ?_
          refine own_lload C X at_288 rfl (pc' := 290) rfl ?_
          refine own_lastore C X at_290 A_b2 (by decide) (i := 5) (Nat.le_of_ble_eq_true rfl) ge_b2 (pc' := 291) rfl ?_
          intro T h X K_ A_b2_
          have A_b2 : own_JA Z h b2 [fill, q0, v1, v2, v3, q4, fill, fill] := A_b2_
          have A_b1 := A_b1.keep K_ (ninS ne_b1_b2 nin0)
          refine own_aload C X at_291 rfl rfl (pc' := 293) rfl ?_
          refine own_iload C X at_293 rfl (pc' := 295) rfl ?_
          refine own_iload C X at_295 rfl (pc' := 297) rfl ?_
          refine own_lload C X at_297 rfl (pc' := 299) rfl ?_
          refine own_callS C X at_299 (own_m_add410 l Z a0 hw b1 q4 _ n0 (own_big C X) fill q0 v1 v2 v3 fill fill fill A_b1 ge_b1 hc254) (hw _ (List.mem_of_getElem? (i := 11) rfl)) (hw _ (List.mem_of_getElem? (i := 12) rfl)) (hw _ (List.mem_of_getElem? (i := 13) rfl)) (hw _ (List.mem_of_getElem? (i := 14) rfl)) (by decide) own_pd_5832 rfl rfl (Nat.le_of_ble_eq_true rfl) (Nat.le_of_ble_eq_true rfl) (Nat.le_of_ble_eq_true rfl) (Nat.le_of_ble_eq_true rfl) (av := [(.ref b1), (.int (1 : Int32)), (.int (4 : Int32)), (.long q4)]) (S := []) rfl (pc' := 302) rfl ?_
          intro T h v X hQ
          obtain ⟨rfl, K_, A_b1⟩ := hQ
          have A_b2 := A_b2.keep K_ (ninS (Ne.symm ne_b1_b2) nin0)
          show own_Go p e below n0 (own_Fin room_1 s (fun v h => v = some (.int 1))) (T.setTop (mkF m 302 #[.val (.long q0), .second, .val (.long q1), .second, .val (.long q2), .second, .val (.long q3), .second, .val (.long q4), .second, .val (.int i5), .val (.int (4 : Int32)), .val (.int (1 : Int32)), .val (.long q0), .second, .val (.long v1), .second, .val (.long v2), .second, .val (.long v3), .second, .val (.long v4), .second, .val (.long v5), .second, .val (.long fill), .second, .val (.ref b1), .val (.ref b2), .val (.int (4 : Int32)), .val (.int (1 : Int32)), .val (.long v1), .second] []))
          refine own_aload C X at_302 rfl rfl (pc' := 304) rfl ?_
          refine own_aload C X at_304 rfl rfl (pc' := 306) rfl ?_
          refine own_callS C X at_306 (own_m_same l Z a0 hw b1 b2 _ n0 (own_big C X) fill q0 v1 v2 v3 q4 fill fill A_b1 A_b2) (hw _ (List.mem_of_getElem? (i := 15) rfl)) (hw _ (List.mem_of_getElem? (i := 16) rfl)) (hw _ (List.mem_of_getElem? (i := 8) rfl)) (hw _ (List.mem_of_getElem? (i := 17) rfl)) (by decide) own_pd_5060 rfl rfl (Nat.le_of_ble_eq_true rfl) (Nat.le_of_ble_eq_true rfl) (Nat.le_of_ble_eq_true rfl) (Nat.le_of_ble_eq_true rfl) (av := [(.ref b1), (.ref b2)]) (S := []) rfl (pc' := 309) rfl ?_
          intro T h v X hQ
          obtain ⟨rfl, rfl⟩ := hQ
          show own_Go p e below n0 (own_Fin room_1 s (fun v h => v = some (.int 1))) (T.setTop (mkF m 309 #[.val (.long q0), .second, .val (.long q1), .second, .val (.long q2), .second, .val (.long q3), .second, .val (.long q4), .second, .val (.int i5), .val (.int (4 : Int32)), .val (.int (1 : Int32)), .val (.long q0), .second, .val (.long v1), .second, .val (.long v2), .second, .val (.long v3), .second, .val (.long v4), .second, .val (.long v5), .second, .val (.long fill), .second, .val (.ref b1), .val (.ref b2), .val (.int (4 : Int32)), .val (.int (1 : Int32)), .val (.long v1), .second] [(.int (1 : Int32))]))
          exact own_ireturn_z C X at_309 (Nat.le_of_ble_eq_true rfl) (Nat.le_of_ble_eq_true rfl) (rfl)
        · refine own_aload C X at_258 rfl rfl (pc' := 260) rfl ?_
          refine own_iload C X at_260 rfl (pc' := 262) rfl ?_
          refine own_iload C X at_262 rfl (pc' := 264) rfl ?_
          refine own_iadd C X at_264 (z := 2) (by decide) (pc' := 265) rfl ?_
          refine own_lload C X at_265 rfl (pc' := 267) rfl ?_
          refine own_lastore C X at_267 A_b2 (by decide) (i := 2) (Nat.le_of_ble_eq_true rfl) ge_b2 (pc' := 268) rfl ?_
          intro T h X K_ A_b2_
          have A_b2 : own_JA Z h b2 [fill, q0, q4, v2, v3, fill, fill, fill] := A_b2_
          have A_b1 := A_b1.keep K_ (ninS ne_b1_b2 nin0)
          refine own_aload C X at_268 rfl rfl (pc' := 270) rfl ?_
          refine own_iload C X at_270 rfl (pc' := 272) rfl ?_
          refine own_iload C X at_272 rfl (pc' := 274) rfl ?_
          refine own_iadd C X at_274 (z := 5) (by decide) (pc' := 275) rfl ?_
          refine own_lload C X at_275 rfl (pc' := 277) rfl ?_
          refine own_lastore C X at_277 A_b2 (by decide) (i := 5) (Nat.le_of_ble_eq_true rfl) ge_b2 (pc' := 278) rfl ?_
          intro T h X K_ A_b2_
          have A_b2 : own_JA Z h b2 [fill, q0, q4, v2, v3, v1, fill, fill] := A_b2_
          have A_b1 := A_b1.keep K_ (ninS ne_b1_b2 nin0)
          refine own_goto C X at_278 (pc' := 291) (by decide) (by decide) ?_
          refine own_aload C X at_291 rfl rfl (pc' := 293) rfl ?_
          refine own_iload C X at_293 rfl (pc' := 295) rfl ?_
          refine own_iload C X at_295 rfl (pc' := 297) rfl ?_
          refine own_lload C X at_297 rfl (pc' := 299) rfl ?_
          refine own_callS C X at_299 (own_m_add411 l Z a0 hw b1 q4 _ n0 (own_big C X) fill q0 v1 v2 v3 fill fill fill A_b1 ge_b1 hc254 hc216) (hw _ (List.mem_of_getElem? (i := 11) rfl)) (hw _ (List.mem_of_getElem? (i := 12) rfl)) (hw _ (List.mem_of_getElem? (i := 13) rfl)) (hw _ (List.mem_of_getElem? (i := 14) rfl)) (by decide) own_pd_5832 rfl rfl (Nat.le_of_ble_eq_true rfl) (Nat.le_of_ble_eq_true rfl) (Nat.le_of_ble_eq_true rfl) (Nat.le_of_ble_eq_true rfl) (av := [(.ref b1), (.int (1 : Int32)), (.int (4 : Int32)), (.long q4)]) (S := []) rfl (pc' := 302) rfl ?_
          intro T h v X hQ
          obtain ⟨rfl, K_, A_b1⟩ := hQ
          have A_b2 := A_b2.keep K_ (ninS (Ne.symm ne_b1_b2) nin0)
          show own_Go p e below n0 (own_Fin room_1 s (fun v h => v = some (.int 1))) (T.setTop (mkF m 302 #[.val (.long q0), .second, .val (.long q1), .second, .val (.long q2), .second, .val (.long q3), .second, .val (.long q4), .second, .val (.int i5), .val (.int (4 : Int32)), .val (.int (1 : Int32)), .val (.long q0), .second, .val (.long v1), .second, .val (.long v2), .second, .val (.long v3), .second, .val (.long v4), .second, .val (.long v5), .second, .val (.long fill), .second, .val (.ref b1), .val (.ref b2), .val (.int (4 : Int32)), .val (.int (1 : Int32)), .val (.long v1), .second] []))
          refine own_aload C X at_302 rfl rfl (pc' := 304) rfl ?_
          refine own_aload C X at_304 rfl rfl (pc' := 306) rfl ?_
          refine own_callS C X at_306 (own_m_same l Z a0 hw b1 b2 _ n0 (own_big C X) fill q0 q4 v2 v3 v1 fill fill A_b1 A_b2) (hw _ (List.mem_of_getElem? (i := 15) rfl)) (hw _ (List.mem_of_getElem? (i := 16) rfl)) (hw _ (List.mem_of_getElem? (i := 8) rfl)) (hw _ (List.mem_of_getElem? (i := 17) rfl)) (by decide) own_pd_5060 rfl rfl (Nat.le_of_ble_eq_true rfl) (Nat.le_of_ble_eq_true rfl) (Nat.le_of_ble_eq_true rfl) (Nat.le_of_ble_eq_true rfl) (av := [(.ref b1), (.ref b2)]) (S := []) rfl (pc' := 309) rfl ?_
          intro T h v X hQ
          obtain ⟨rfl, rfl⟩ := hQ
          show own_Go p e below n0 (own_Fin room_1 s (fun v h => v = some (.int 1))) (T.setTop (mkF m 309 #[.val (.long q0), .second, .val (.long q1), .second, .val (.long q2), .second, .val (.long q3), .second, .val (.long q4), .second, .val (.int i5), .val (.int (4 : Int32)), .val (.int (1 : Int32)), .val (.long q0), .second, .val (.long v1), .second, .val (.long v2), .second, .val (.long v3), .second, .val (.long v4), .second, .val (.long v5), .second, .val (.long fill), .second, .val (.ref b1), .val (.ref b2), .val (.int (4 : Int32)), .val (.int (1 : Int32)), .val (.long v1), .second] [(.int (1 : Int32))]))
          exact own_ireturn_z C X at_309 (Nat.le_of_ble_eq_true rfl) (Nat.le_of_ble_eq_true rfl) (rfl)
      · refine own_aload C X at_220 rfl rfl (pc' := 222) rfl ?_
        refine own_iload C X at_222 rfl (pc' := 224) rfl ?_
        refine own_lload C X at_224 rfl (pc' := 226) rfl ?_
        refine own_lastore C X at_226 A_b2 (by decide) (i := 1) (Nat.le_of_ble_eq_true rfl) ge_b2 (pc' := 227) rfl ?_
        intro T h X K_ A_b2_
        have A_b2 : own_JA Z h b2 [fill, q4, v1, v2, v3, fill, fill, fill] := A_b2_
        have A_b1 := A_b1.keep K_ (ninS ne_b1_b2 nin0)
        refine own_aload C X at_227 rfl rfl (pc' := 229) rfl ?_
        refine own_iload C X at_229 rfl (pc' := 231) rfl ?_
        refine own_iload C X at_231 rfl (pc' := 233) rfl ?_
        refine own_iadd C X at_233 (z := 2) (by decide) (pc' := 234) rfl ?_
        refine own_lload C X at_234 rfl (pc' := 236) rfl ?_
        refine own_lastore C X at_236 A_b2 (by decide) (i := 2) (Nat.le_of_ble_eq_true rfl) ge_b2 (pc' := 237) rfl ?_
        intro T h X K_ A_b2_
        have A_b2 : own_JA Z h b2 [fill, q4, q0, v2, v3, fill, fill, fill] := A_b2_
        have A_b1 := A_b1.keep K_ (ninS ne_b1_b2 nin0)
        refine own_aload C X at_237 rfl rfl (pc' := 239) rfl ?_
        refine own_iload C X at_239 rfl (pc' := 241) rfl ?_
        refine own_iload C X at_241 rfl (pc' := 243) rfl ?_
        refine own_iadd C X at_243 (z := 5) (by decide) (pc' := 244) rfl ?_
        refine own_lload C X at_244 rfl (pc' := 246) rfl ?_
        refine own_lastore C X at_246 A_b2 (by decide) (i := 5) (Nat.le_of_ble_eq_true rfl) ge_b2 (pc' := 247) rfl ?_
        intro T h X K_ A_b2_
        have A_b2 : own_JA Z h b2 [fill, q4, q0, v2, v3, v1, fill, fill] := A_b2_
        have A_b1 := A_b1.keep K_ (ninS ne_b1_b2 nin0)
        refine own_goto C X at_247 (pc' := 291) (by decide) (by decide) ?_
        refine own_aload C X at_291 rfl rfl (pc' := 293) rfl ?_
        refine own_iload C X at_293 rfl (pc' := 295) rfl ?_
        refine own_iload C X at_295 rfl (pc' := 297) rfl ?_
        refine own_lload C X at_297 rfl (pc' := 299) rfl ?_
        refine own_callS C X at_299 (own_m_add412 l Z a0 hw b1 q4 _ n0 (own_big C X) fill q0 v1 v2 v3 fill fill fill A_b1 ge_b1 (own_ltt _ _ _ l_v1 hc216) hc216) (hw _ (List.mem_of_getElem? (i := 11) rfl)) (hw _ (List.mem_of_getElem? (i := 12) rfl)) (hw _ (List.mem_of_getElem? (i := 13) rfl)) (hw _ (List.mem_of_getElem? (i := 14) rfl)) (by decide) own_pd_5832 rfl rfl (Nat.le_of_ble_eq_true rfl) (Nat.le_of_ble_eq_true rfl) (Nat.le_of_ble_eq_true rfl) (Nat.le_of_ble_eq_true rfl) (av := [(.ref b1), (.int (1 : Int32)), (.int (4 : Int32)), (.long q4)]) (S := []) rfl (pc' := 302) rfl ?_
        intro T h v X hQ
        obtain ⟨rfl, K_, A_b1⟩ := hQ
        have A_b2 := A_b2.keep K_ (ninS (Ne.symm ne_b1_b2) nin0)
        show own_Go p e below n0 (own_Fin room_1 s (fun v h => v = some (.int 1))) (T.setTop (mkF m 302 #[.val (.long q0), .second, .val (.long q1), .second, .val (.long q2), .second, .val (.long q3), .second, .val (.long q4), .second, .val (.int i5), .val (.int (4 : Int32)), .val (.int (1 : Int32)), .val (.long q0), .second, .val (.long v1), .second, .val (.long v2), .second, .val (.long v3), .second, .val (.long v4), .second, .val (.long v5), .second, .val (.long fill), .second, .val (.ref b1), .val (.ref b2), .val (.int (4 : Int32)), .val (.int (1 : Int32)), .val (.long v1), .second] []))
        refine own_aload C X at_302 rfl rfl (pc' := 304) rfl ?_
        refine own_aload C X at_304 rfl rfl (pc' := 306) rfl ?_
        refine own_callS C X at_306 (own_m_same l Z a0 hw b1 b2 _ n0 (own_big C X) fill q4 q0 v2 v3 v1 fill fill A_b1 A_b2) (hw _ (List.mem_of_getElem? (i := 15) rfl)) (hw _ (List.mem_of_getElem? (i := 16) rfl)) (hw _ (List.mem_of_getElem? (i := 8) rfl)) (hw _ (List.mem_of_getElem? (i := 17) rfl)) (by decide) own_pd_5060 rfl rfl (Nat.le_of_ble_eq_true rfl) (Nat.le_of_ble_eq_true rfl) (Nat.le_of_ble_eq_true rfl) (Nat.le_of_ble_eq_true rfl) (av := [(.ref b1), (.ref b2)]) (S := []) rfl (pc' := 309) rfl ?_
        intro T h v X hQ
        obtain ⟨rfl, rfl⟩ := hQ
        show own_Go p e below n0 (own_Fin room_1 s (fun v h => v = some (.int 1))) (T.setTop (mkF m 309 #[.val (.long q0), .second, .val (.long q1), .second, .val (.long q2), .second, .val (.long q3), .second, .val (.long q4), .second, .val (.int i5), .val (.int (4 : Int32)), .val (.int (1 : Int32)), .val (.long q0), .second, .val (.long v1), .second, .val (.long v2), .second, .val (.long v3), .second, .val (.long v4), .second, .val (.long v5), .second, .val (.long fill), .second, .val (.ref b1), .val (.ref b2), .val (.int (4 : Int32)), .val (.int (1 : Int32)), .val (.long v1), .second] [(.int (1 : Int32))]))
        exact own_ireturn_z C X at_309 (Nat.le_of_ble_eq_true rfl) (Nat.le_of_ble_eq_true rfl) (rfl)
  · rcases own_of _ off e_off with rfl | rfl
    · refine own_lload C X at_72 rfl (pc' := 74) rfl ?_
      refine own_lload C X at_74 rfl (pc' := 76) rfl ?_
      refine own_lload C X at_76 rfl (pc' := 78) rfl ?_
      refine own_lload C X at_78 rfl (pc' := 80) rfl ?_
      refine own_lload C X at_80 rfl (pc' := 82) rfl ?_
      refine own_lload C X at_82 rfl (pc' := 84) rfl ?_
      refine own_iload C X at_84 rfl (pc' := 86) rfl ?_
      refine own_iload C X at_86 rfl (pc' := 88) rfl ?_
      refine own_lload C X at_88 rfl (pc' := 90) rfl ?_
      have hbg := own_big C X
      refine own_callS C X at_90 (own_m_b50 l Z a0 hw q0 v1 v2 v3 v4 v5 fill _ n0 hbg) (hw _ (List.mem_of_getElem? (i := 6) rfl)) (hw _ (List.mem_of_getElem? (i := 7) rfl)) (hw _ (List.mem_of_getElem? (i := 8) rfl)) (hw _ (List.mem_of_getElem? (i := 9) rfl)) (by decide) own_pd_11984 rfl rfl (Nat.le_of_ble_eq_true rfl) (Nat.le_of_ble_eq_true rfl) (Nat.le_of_ble_eq_true rfl) (Nat.le_of_ble_eq_true rfl) (av := [(.long q0), (.long v1), (.long v2), (.long v3), (.long v4), (.long v5), (.int (5 : Int32)), (.int (0 : Int32)), (.long fill)]) (S := []) rfl (pc' := 93) rfl ?_
      intro T h v X hQ
      obtain ⟨b1, rfl, gq_b1, K_, A_b1⟩ := hQ
      have ge_b1 : n0 ≤ b1 := Nat.le_trans hbg gq_b1
      show own_Go p e below n0 (own_Fin room_1 s (fun v h => v = some (.int 1))) (T.setTop (mkF m 93 #[.val (.long q0), .second, .val (.long q1), .second, .val (.long q2), .second, .val (.long q3), .second, .val (.long q4), .second, .val (.int i5), .val (.int (5 : Int32)), .val (.int (0 : Int32)), .val (.long q0), .second, .val (.long v1), .second, .val (.long v2), .second, .val (.long v3), .second, .val (.long v4), .second, .val (.long v5), .second, .val (.long fill), .second, .unset, .unset, .unset, .unset, .unset, .unset] [(.ref b1)]))
      refine own_astore C X at_93 rfl (L' := #[.val (.long q0), .second, .val (.long q1), .second, .val (.long q2), .second, .val (.long q3), .second, .val (.long q4), .second, .val (.int i5), .val (.int (5 : Int32)), .val (.int (0 : Int32)), .val (.long q0), .second, .val (.long v1), .second, .val (.long v2), .second, .val (.long v3), .second, .val (.long v4), .second, .val (.long v5), .second, .val (.long fill), .second, .val (.ref b1), .unset, .unset, .unset, .unset, .unset]) rfl (pc' := 95) rfl ?_
      refine own_lload C X at_95 rfl (pc' := 97) rfl ?_
      refine own_lload C X at_97 rfl (pc' := 99) rfl ?_
      refine own_lload C X at_99 rfl (pc' := 101) rfl ?_
      refine own_lload C X at_101 rfl (pc' := 103) rfl ?_
      refine own_lload C X at_103 rfl (pc' := 105) rfl ?_
      refine own_lload C X at_105 rfl (pc' := 107) rfl ?_
      refine own_iload C X at_107 rfl (pc' := 109) rfl ?_
      refine own_iload C X at_109 rfl (pc' := 111) rfl ?_
      refine own_lload C X at_111 rfl (pc' := 113) rfl ?_
      have hbg := own_big C X
      refine own_callS C X at_113 (own_m_b50 l Z a0 hw q0 v1 v2 v3 v4 v5 fill _ n0 hbg) (hw _ (List.mem_of_getElem? (i := 6) rfl)) (hw _ (List.mem_of_getElem? (i := 7) rfl)) (hw _ (List.mem_of_getElem? (i := 8) rfl)) (hw _ (List.mem_of_getElem? (i := 9) rfl)) (by decide) own_pd_11984 rfl rfl (Nat.le_of_ble_eq_true rfl) (Nat.le_of_ble_eq_true rfl) (Nat.le_of_ble_eq_true rfl) (Nat.le_of_ble_eq_true rfl) (av := [(.long q0), (.long v1), (.long v2), (.long v3), (.long v4), (.long v5), (.int (5 : Int32)), (.int (0 : Int32)), (.long fill)]) (S := []) rfl (pc' := 116) rfl ?_
      intro T h v X hQ
      obtain ⟨b2, rfl, gq_b2, K_, A_b2⟩ := hQ
      have ne_b1_b2 : b1 ≠ b2 := Nat.ne_of_lt (Nat.lt_of_lt_of_le A_b1.lt gq_b2)
      have ge_b2 : n0 ≤ b2 := Nat.le_trans hbg gq_b2
      have A_b1 := A_b1.keep K_ nin0
      show own_Go p e below n0 (own_Fin room_1 s (fun v h => v = some (.int 1))) (T.setTop (mkF m 116 #[.val (.long q0), .second, .val (.long q1), .second, .val (.long q2), .second, .val (.long q3), .second, .val (.long q4), .second, .val (.int i5), .val (.int (5 : Int32)), .val (.int (0 : Int32)), .val (.long q0), .second, .val (.long v1), .second, .val (.long v2), .second, .val (.long v3), .second, .val (.long v4), .second, .val (.long v5), .second, .val (.long fill), .second, .val (.ref b1), .unset, .unset, .unset, .unset, .unset] [(.ref b2)]))
      refine own_astore C X at_116 rfl (L' := #[.val (.long q0), .second, .val (.long q1), .second, .val (.long q2), .second, .val (.long q3), .second, .val (.long q4), .second, .val (.int i5), .val (.int (5 : Int32)), .val (.int (0 : Int32)), .val (.long q0), .second, .val (.long v1), .second, .val (.long v2), .second, .val (.long v3), .second, .val (.long v4), .second, .val (.long v5), .second, .val (.long fill), .second, .val (.ref b1), .val (.ref b2), .unset, .unset, .unset, .unset]) rfl (pc' := 118) rfl ?_
      refine own_iload C X at_118 rfl (pc' := 120) rfl ?_
      refine own_istore C X at_120 (L' := #[.val (.long q0), .second, .val (.long q1), .second, .val (.long q2), .second, .val (.long q3), .second, .val (.long q4), .second, .val (.int i5), .val (.int (5 : Int32)), .val (.int (0 : Int32)), .val (.long q0), .second, .val (.long v1), .second, .val (.long v2), .second, .val (.long v3), .second, .val (.long v4), .second, .val (.long v5), .second, .val (.long fill), .second, .val (.ref b1), .val (.ref b2), .val (.int (5 : Int32)), .unset, .unset, .unset]) rfl (pc' := 122) rfl ?_
      refine own_iload C X at_122 rfl (pc' := 124) rfl ?_
      refine own_if_ne C X at_124 (pcT := 137) (pc' := 127) (by decide) (by decide) rfl (fun hc124 => ?_) (fun hc124 => absurd hc124 (by decide))
      refine own_iload C X at_137 rfl (pc' := 139) rfl ?_
      refine own_iconst C X at_139 (v := 2) (by decide) (pc' := 140) rfl ?_
      refine own_icmp_gt C X at_140 (pcT := 184) (pc' := 143) (by decide) (by decide) rfl (fun hc140 => ?_) (fun hc140 => absurd hc140 (by decide))
      refine own_iload C X at_184 rfl (pc' := 186) rfl ?_
      refine own_iconst C X at_186 (v := 4) (by decide) (pc' := 187) rfl ?_
      refine own_icmp_gt C X at_187 (pcT := 194) (pc' := 190) (by decide) (by decide) rfl (fun hc187 => ?_) (fun hc187 => absurd hc187 (by decide))
      refine own_iconst C X at_194 (v := 2) (by decide) (pc' := 195) rfl ?_
      refine own_istore C X at_195 (L' := #[.val (.long q0), .second, .val (.long q1), .second, .val (.long q2), .second, .val (.long q3), .second, .val (.long q4), .second, .val (.int i5), .val (.int (5 : Int32)), .val (.int (0 : Int32)), .val (.long q0), .second, .val (.long v1), .second, .val (.long v2), .second, .val (.long v3), .second, .val (.long v4), .second, .val (.long v5), .second, .val (.long fill), .second, .val (.ref b1), .val (.ref b2), .val (.int (5 : Int32)), .val (.int (2 : Int32)), .unset, .unset]) rfl (pc' := 197) rfl ?_
      refine own_iload C X at_197 rfl (pc' := 199) rfl ?_
      refine own_iconst C X at_199 (v := 1) (by decide) (pc' := 200) rfl ?_
      refine own_icmp_ne C X at_200 (pcT := 208) (pc' := 203) (by decide) (by decide) rfl (fun hc200 => ?_) (fun hc200 => absurd hc200 (by decide))
      refine own_lload C X at_208 rfl (pc' := 210) rfl ?_
      refine own_lstore C X at_210 (L' := #[.val (.long q0), .second, .val (.long q1), .second, .val (.long q2), .second, .val (.long q3), .second, .val (.long q4), .second, .val (.int i5), .val (.int (5 : Int32)), .val (.int (0 : Int32)), .val (.long q0), .second, .val (.long v1), .second, .val (.long v2), .second, .val (.long v3), .second, .val (.long v4), .second, .val (.long v5), .second, .val (.long fill), .second, .val (.ref b1), .val (.ref b2), .val (.int (5 : Int32)), .val (.int (2 : Int32)), .val (.long v2), .second]) rfl (pc' := 212) rfl ?_
      refine own_lload C X at_212 rfl (pc' := 214) rfl ?_
      refine own_lload C X at_214 rfl (pc' := 216) rfl ?_
      refine own_lcmp_ge C X at_216 at_217 (pcT := 250) (pc' := 220) (by decide) (by decide) rfl (fun hc216 => ?_) (fun hc216 => ?_)
      · refine own_lload C X at_250 rfl (pc' := 252) rfl ?_
        refine own_lload C X at_252 rfl (pc' := 254) rfl ?_
        refine own_lcmp_ge C X at_254 at_255 (pcT := 281) (pc' := 258) (by decide) (by decide) rfl (fun hc254 => ?_) (fun hc254 => ?_)
        · refine own_aload C X at_281 rfl rfl (pc' := 283) rfl ?_
          refine own_iload C X at_283 rfl (pc' := 285) rfl ?_
          refine own_iload C X at_285 rfl (pc' := 287) rfl ?_
          refine own_iadd C X at_287 (z := 5) (by decide) (pc' := 288) rfl ?_
          refine own_lload C X at_288 rfl (pc' := 290) rfl ?_
          refine own_lastore C X at_290 A_b2 (by decide) (i := 5) (Nat.le_of_ble_eq_true rfl) ge_b2 (pc' := 291) rfl ?_
          intro T h X K_ A_b2_
          have A_b2 : own_JA Z h b2 [q0, v1, v2, v3, v4, q4, fill, fill] := A_b2_
          have A_b1 := A_b1.keep K_ (ninS ne_b1_b2 nin0)
          refine own_aload C X at_291 rfl rfl (pc' := 293) rfl ?_
          refine own_iload C X at_293 rfl (pc' := 295) rfl ?_
          refine own_iload C X at_295 rfl (pc' := 297) rfl ?_
          refine own_lload C X at_297 rfl (pc' := 299) rfl ?_
          refine own_callS C X at_299 (own_m_add500 l Z a0 hw b1 q4 _ n0 (own_big C X) q0 v1 v2 v3 v4 fill fill fill A_b1 ge_b1 hc254) (hw _ (List.mem_of_getElem? (i := 11) rfl)) (hw _ (List.mem_of_getElem? (i := 12) rfl)) (hw _ (List.mem_of_getElem? (i := 13) rfl)) (hw _ (List.mem_of_getElem? (i := 14) rfl)) (by decide) own_pd_5832 rfl rfl (Nat.le_of_ble_eq_true rfl) (Nat.le_of_ble_eq_true rfl) (Nat.le_of_ble_eq_true rfl) (Nat.le_of_ble_eq_true rfl) (av := [(.ref b1), (.int (0 : Int32)), (.int (5 : Int32)), (.long q4)]) (S := []) rfl (pc' := 302) rfl ?_
          intro T h v X hQ
          obtain ⟨rfl, K_, A_b1⟩ := hQ
          have A_b2 := A_b2.keep K_ (ninS (Ne.symm ne_b1_b2) nin0)
          show own_Go p e below n0 (own_Fin room_1 s (fun v h => v = some (.int 1))) (T.setTop (mkF m 302 #[.val (.long q0), .second, .val (.long q1), .second, .val (.long q2), .second, .val (.long q3), .second, .val (.long q4), .second, .val (.int i5), .val (.int (5 : Int32)), .val (.int (0 : Int32)), .val (.long q0), .second, .val (.long v1), .second, .val (.long v2), .second, .val (.long v3), .second, .val (.long v4), .second, .val (.long v5), .second, .val (.long fill), .second, .val (.ref b1), .val (.ref b2), .val (.int (5 : Int32)), .val (.int (2 : Int32)), .val (.long v2), .second] []))
          refine own_aload C X at_302 rfl rfl (pc' := 304) rfl ?_
          refine own_aload C X at_304 rfl rfl (pc' := 306) rfl ?_
          refine own_callS C X at_306 (own_m_same l Z a0 hw b1 b2 _ n0 (own_big C X) q0 v1 v2 v3 v4 q4 fill fill A_b1 A_b2) (hw _ (List.mem_of_getElem? (i := 15) rfl)) (hw _ (List.mem_of_getElem? (i := 16) rfl)) (hw _ (List.mem_of_getElem? (i := 8) rfl)) (hw _ (List.mem_of_getElem? (i := 17) rfl)) (by decide) own_pd_5060 rfl rfl (Nat.le_of_ble_eq_true rfl) (Nat.le_of_ble_eq_true rfl) (Nat.le_of_ble_eq_true rfl) (Nat.le_of_ble_eq_true rfl) (av := [(.ref b1), (.ref b2)]) (S := []) rfl (pc' := 309) rfl ?_
          intro T h v X hQ
          obtain ⟨rfl, rfl⟩ := hQ
          show own_Go p e below n0 (own_Fin room_1 s (fun v h => v = some (.int 1))) (T.setTop (mkF m 309 #[.val (.long q0), .second, .val (.long q1), .second, .val (.long q2), .second, .val (.long q3), .second, .val (.long q4), .second, .val (.int i5), .val (.int (5 : Int32)), .val (.int (0 : Int32)), .val (.long q0), .second, .val (.long v1), .second, .val (.long v2), .second, .val (.long v3), .second, .val (.long v4), .second, .val (.long v5), .second, .val (.long fill), .second, .val (.ref b1), .val (.ref b2), .val (.int (5 : Int32)), .val (.int (2 : Int32)), .val (.long v2), .second] [(.int (1 : Int32))]))
          exact own_ireturn_z C X at_309 (Nat.le_of_ble_eq_true rfl) (Nat.le_of_ble_eq_true rfl) (rfl)
        · refine own_aload C X at_258 rfl rfl (pc' := 260) rfl ?_
          refine own_iload C X at_260 rfl (pc' := 262) rfl ?_
          refine own_iload C X at_262 rfl (pc' := 264) rfl ?_
          refine own_iadd C X at_264 (z := 2) (by decide) (pc' := 265) rfl ?_
          refine own_lload C X at_265 rfl (pc' := 267) rfl ?_
          refine own_lastore C X at_267 A_b2 (by decide) (i := 2) (Nat.le_of_ble_eq_true rfl) ge_b2 (pc' := 268) rfl ?_
          intro T h X K_ A_b2_
          have A_b2 : own_JA Z h b2 [q0, v1, q4, v3, v4, fill, fill, fill] := A_b2_
          have A_b1 := A_b1.keep K_ (ninS ne_b1_b2 nin0)
          refine own_aload C X at_268 rfl rfl (pc' := 270) rfl ?_
          refine own_iload C X at_270 rfl (pc' := 272) rfl ?_
          refine own_iload C X at_272 rfl (pc' := 274) rfl ?_
          refine own_iadd C X at_274 (z := 5) (by decide) (pc' := 275) rfl ?_
          refine own_lload C X at_275 rfl (pc' := 277) rfl ?_
          refine own_lastore C X at_277 A_b2 (by decide) (i := 5) (Nat.le_of_ble_eq_true rfl) ge_b2 (pc' := 278) rfl ?_
          intro T h X K_ A_b2_
          have A_b2 : own_JA Z h b2 [q0, v1, q4, v3, v4, v2, fill, fill] := A_b2_
          have A_b1 := A_b1.keep K_ (ninS ne_b1_b2 nin0)
          refine own_goto C X at_278 (pc' := 291) (by decide) (by decide) ?_
          refine own_aload C X at_291 rfl rfl (pc' := 293) rfl ?_
          refine own_iload C X at_293 rfl (pc' := 295) rfl ?_
          refine own_iload C X at_295 rfl (pc' := 297) rfl ?_
          refine own_lload C X at_297 rfl (pc' := 299) rfl ?_
          refine own_callS C X at_299 (own_m_add501 l Z a0 hw b1 q4 _ n0 (own_big C X) q0 v1 v2 v3 v4 fill fill fill A_b1 ge_b1 hc254 hc216) (hw _ (List.mem_of_getElem? (i := 11) rfl)) (hw _ (List.mem_of_getElem? (i := 12) rfl)) (hw _ (List.mem_of_getElem? (i := 13) rfl)) (hw _ (List.mem_of_getElem? (i := 14) rfl)) (by decide) own_pd_5832 rfl rfl (Nat.le_of_ble_eq_true rfl) (Nat.le_of_ble_eq_true rfl) (Nat.le_of_ble_eq_true rfl) (Nat.le_of_ble_eq_true rfl) (av := [(.ref b1), (.int (0 : Int32)), (.int (5 : Int32)), (.long q4)]) (S := []) rfl (pc' := 302) rfl ?_
          intro T h v X hQ
          obtain ⟨rfl, K_, A_b1⟩ := hQ
          have A_b2 := A_b2.keep K_ (ninS (Ne.symm ne_b1_b2) nin0)
          show own_Go p e below n0 (own_Fin room_1 s (fun v h => v = some (.int 1))) (T.setTop (mkF m 302 #[.val (.long q0), .second, .val (.long q1), .second, .val (.long q2), .second, .val (.long q3), .second, .val (.long q4), .second, .val (.int i5), .val (.int (5 : Int32)), .val (.int (0 : Int32)), .val (.long q0), .second, .val (.long v1), .second, .val (.long v2), .second, .val (.long v3), .second, .val (.long v4), .second, .val (.long v5), .second, .val (.long fill), .second, .val (.ref b1), .val (.ref b2), .val (.int (5 : Int32)), .val (.int (2 : Int32)), .val (.long v2), .second] []))
          refine own_aload C X at_302 rfl rfl (pc' := 304) rfl ?_
          refine own_aload C X at_304 rfl rfl (pc' := 306) rfl ?_
          refine own_callS C X at_306 (own_m_same l Z a0 hw b1 b2 _ n0 (own_big C X) q0 v1 q4 v3 v4 v2 fill fill A_b1 A_b2) (hw _ (List.mem_of_getElem? (i := 15) rfl)) (hw _ (List.mem_of_getElem? (i := 16) rfl)) (hw _ (List.mem_of_getElem? (i := 8) rfl)) (hw _ (List.mem_of_getElem? (i := 17) rfl)) (by decide) own_pd_5060 rfl rfl (Nat.le_of_ble_eq_true rfl) (Nat.le_of_ble_eq_true rfl) (Nat.le_of_ble_eq_true rfl) (Nat.le_of_ble_eq_true rfl) (av := [(.ref b1), (.ref b2)]) (S := []) rfl (pc' := 309) rfl ?_
          intro T h v X hQ
          obtain ⟨rfl, rfl⟩ := hQ
          show own_Go p e below n0 (own_Fin room_1 s (fun v h => v = some (.int 1))) (T.setTop (mkF m 309 #[.val (.long q0), .second, .val (.long q1), .second, .val (.long q2), .second, .val (.long q3), .second, .val (.long q4), .second, .val (.int i5), .val (.int (5 : Int32)), .val (.int (0 : Int32)), .val (.long q0), .second, .val (.long v1), .second, .val (.long v2), .second, .val (.long v3), .second, .val (.long v4), .second, .val (.long v5), .second, .val (.long fill), .second, .val (.ref b1), .val (.ref b2), .val (.int (5 : Int32)), .val (.int (2 : Int32)), .val (.long v2), .second] [(.int (1 : Int32))]))
          exact own_ireturn_z C X at_309 (Nat.le_of_ble_eq_true rfl) (Nat.le_of_ble_eq_true rfl) (rfl)
      · refine own_aload C X at_220 rfl rfl (pc' := 222) rfl ?_
        refine own_iload C X at_222 rfl (pc' := 224) rfl ?_
        refine own_lload C X at_224 rfl (pc' := 226) rfl ?_
        refine own_lastore C X at_226 A_b2 (by decide) (i := 0) (Nat.le_of_ble_eq_true rfl) ge_b2 (pc' := 227) rfl ?_
        intro T h X K_ A_b2_
        have A_b2 : own_JA Z h b2 [q4, v1, v2, v3, v4, fill, fill, fill] := A_b2_
        have A_b1 := A_b1.keep K_ (ninS ne_b1_b2 nin0)
        refine own_aload C X at_227 rfl rfl (pc' := 229) rfl ?_
        refine own_iload C X at_229 rfl (pc' := 231) rfl ?_
        refine own_iload C X at_231 rfl (pc' := 233) rfl ?_
        refine own_iadd C X at_233 (z := 2) (by decide) (pc' := 234) rfl ?_
        refine own_lload C X at_234 rfl (pc' := 236) rfl ?_
        refine own_lastore C X at_236 A_b2 (by decide) (i := 2) (Nat.le_of_ble_eq_true rfl) ge_b2 (pc' := 237) rfl ?_
        intro T h X K_ A_b2_
        have A_b2 : own_JA Z h b2 [q4, v1, q0, v3, v4, fill, fill, fill] := A_b2_
        have A_b1 := A_b1.keep K_ (ninS ne_b1_b2 nin0)
        refine own_aload C X at_237 rfl rfl (pc' := 239) rfl ?_
        refine own_iload C X at_239 rfl (pc' := 241) rfl ?_
        refine own_iload C X at_241 rfl (pc' := 243) rfl ?_
        refine own_iadd C X at_243 (z := 5) (by decide) (pc' := 244) rfl ?_
        refine own_lload C X at_244 rfl (pc' := 246) rfl ?_
        refine own_lastore C X at_246 A_b2 (by decide) (i := 5) (Nat.le_of_ble_eq_true rfl) ge_b2 (pc' := 247) rfl ?_
        intro T h X K_ A_b2_
        have A_b2 : own_JA Z h b2 [q4, v1, q0, v3, v4, v2, fill, fill] := A_b2_
        have A_b1 := A_b1.keep K_ (ninS ne_b1_b2 nin0)
        refine own_goto C X at_247 (pc' := 291) (by decide) (by decide) ?_
        refine own_aload C X at_291 rfl rfl (pc' := 293) rfl ?_
        refine own_iload C X at_293 rfl (pc' := 295) rfl ?_
        refine own_iload C X at_295 rfl (pc' := 297) rfl ?_
        refine own_lload C X at_297 rfl (pc' := 299) rfl ?_
        refine own_callS C X at_299 (own_m_add502 l Z a0 hw b1 q4 _ n0 (own_big C X) q0 v1 v2 v3 v4 fill fill fill A_b1 ge_b1 (own_ltt _ _ _ l_v2 hc216) hc216) (hw _ (List.mem_of_getElem? (i := 11) rfl)) (hw _ (List.mem_of_getElem? (i := 12) rfl)) (hw _ (List.mem_of_getElem? (i := 13) rfl)) (hw _ (List.mem_of_getElem? (i := 14) rfl)) (by decide) own_pd_5832 rfl rfl (Nat.le_of_ble_eq_true rfl) (Nat.le_of_ble_eq_true rfl) (Nat.le_of_ble_eq_true rfl) (Nat.le_of_ble_eq_true rfl) (av := [(.ref b1), (.int (0 : Int32)), (.int (5 : Int32)), (.long q4)]) (S := []) rfl (pc' := 302) rfl ?_
        intro T h v X hQ
        obtain ⟨rfl, K_, A_b1⟩ := hQ
        have A_b2 := A_b2.keep K_ (ninS (Ne.symm ne_b1_b2) nin0)
        show own_Go p e below n0 (own_Fin room_1 s (fun v h => v = some (.int 1))) (T.setTop (mkF m 302 #[.val (.long q0), .second, .val (.long q1), .second, .val (.long q2), .second, .val (.long q3), .second, .val (.long q4), .second, .val (.int i5), .val (.int (5 : Int32)), .val (.int (0 : Int32)), .val (.long q0), .second, .val (.long v1), .second, .val (.long v2), .second, .val (.long v3), .second, .val (.long v4), .second, .val (.long v5), .second, .val (.long fill), .second, .val (.ref b1), .val (.ref b2), .val (.int (5 : Int32)), .val (.int (2 : Int32)), .val (.long v2), .second] []))
        refine own_aload C X at_302 rfl rfl (pc' := 304) rfl ?_
        refine own_aload C X at_304 rfl rfl (pc' := 306) rfl ?_
        refine own_callS C X at_306 (own_m_same l Z a0 hw b1 b2 _ n0 (own_big C X) q4 v1 q0 v3 v4 v2 fill fill A_b1 A_b2) (hw _ (List.mem_of_getElem? (i := 15) rfl)) (hw _ (List.mem_of_getElem? (i := 16) rfl)) (hw _ (List.mem_of_getElem? (i := 8) rfl)) (hw _ (List.mem_of_getElem? (i := 17) rfl)) (by decide) own_pd_5060 rfl rfl (Nat.le_of_ble_eq_true rfl) (Nat.le_of_ble_eq_true rfl) (Nat.le_of_ble_eq_true rfl) (Nat.le_of_ble_eq_true rfl) (av := [(.ref b1), (.ref b2)]) (S := []) rfl (pc' := 309) rfl ?_
        intro T h v X hQ
        obtain ⟨rfl, rfl⟩ := hQ
        show own_Go p e below n0 (own_Fin room_1 s (fun v h => v = some (.int 1))) (T.setTop (mkF m 309 #[.val (.long q0), .second, .val (.long q1), .second, .val (.long q2), .second, .val (.long q3), .second, .val (.long q4), .second, .val (.int i5), .val (.int (5 : Int32)), .val (.int (0 : Int32)), .val (.long q0), .second, .val (.long v1), .second, .val (.long v2), .second, .val (.long v3), .second, .val (.long v4), .second, .val (.long v5), .second, .val (.long fill), .second, .val (.ref b1), .val (.ref b2), .val (.int (5 : Int32)), .val (.int (2 : Int32)), .val (.long v2), .second] [(.int (1 : Int32))]))
        exact own_ireturn_z C X at_309 (Nat.le_of_ble_eq_true rfl) (Nat.le_of_ble_eq_true rfl) (rfl)
    · refine own_lload C X at_72 rfl (pc' := 74) rfl ?_
      refine own_lload C X at_74 rfl (pc' := 76) rfl ?_
      refine own_lload C X at_76 rfl (pc' := 78) rfl ?_
      refine own_lload C X at_78 rfl (pc' := 80) rfl ?_
      refine own_lload C X at_80 rfl (pc' := 82) rfl ?_
      refine own_lload C X at_82 rfl (pc' := 84) rfl ?_
      refine own_iload C X at_84 rfl (pc' := 86) rfl ?_
      refine own_iload C X at_86 rfl (pc' := 88) rfl ?_
      refine own_lload C X at_88 rfl (pc' := 90) rfl ?_
      have hbg := own_big C X
      refine own_callS C X at_90 (own_m_b51 l Z a0 hw q0 v1 v2 v3 v4 v5 fill _ n0 hbg) (hw _ (List.mem_of_getElem? (i := 6) rfl)) (hw _ (List.mem_of_getElem? (i := 7) rfl)) (hw _ (List.mem_of_getElem? (i := 8) rfl)) (hw _ (List.mem_of_getElem? (i := 9) rfl)) (by decide) own_pd_11984 rfl rfl (Nat.le_of_ble_eq_true rfl) (Nat.le_of_ble_eq_true rfl) (Nat.le_of_ble_eq_true rfl) (Nat.le_of_ble_eq_true rfl) (av := [(.long q0), (.long v1), (.long v2), (.long v3), (.long v4), (.long v5), (.int (5 : Int32)), (.int (1 : Int32)), (.long fill)]) (S := []) rfl (pc' := 93) rfl ?_
      intro T h v X hQ
      obtain ⟨b1, rfl, gq_b1, K_, A_b1⟩ := hQ
      have ge_b1 : n0 ≤ b1 := Nat.le_trans hbg gq_b1
      show own_Go p e below n0 (own_Fin room_1 s (fun v h => v = some (.int 1))) (T.setTop (mkF m 93 #[.val (.long q0), .second, .val (.long q1), .second, .val (.long q2), .second, .val (.long q3), .second, .val (.long q4), .second, .val (.int i5), .val (.int (5 : Int32)), .val (.int (1 : Int32)), .val (.long q0), .second, .val (.long v1), .second, .val (.long v2), .second, .val (.long v3), .second, .val (.long v4), .second, .val (.long v5), .second, .val (.long fill), .second, .unset, .unset, .unset, .unset, .unset, .unset] [(.ref b1)]))
      refine own_astore C X at_93 rfl (L' := #[.val (.long q0), .second, .val (.long q1), .second, .val (.long q2), .second, .val (.long q3), .second, .val (.long q4), .second, .val (.int i5), .val (.int (5 : Int32)), .val (.int (1 : Int32)), .val (.long q0), .second, .val (.long v1), .second, .val (.long v2), .second, .val (.long v3), .second, .val (.long v4), .second, .val (.long v5), .second, .val (.long fill), .second, .val (.ref b1), .unset, .unset, .unset, .unset, .unset]) rfl (pc' := 95) rfl ?_
      refine own_lload C X at_95 rfl (pc' := 97) rfl ?_
      refine own_lload C X at_97 rfl (pc' := 99) rfl ?_
      refine own_lload C X at_99 rfl (pc' := 101) rfl ?_
      refine own_lload C X at_101 rfl (pc' := 103) rfl ?_
      refine own_lload C X at_103 rfl (pc' := 105) rfl ?_
      refine own_lload C X at_105 rfl (pc' := 107) rfl ?_
      refine own_iload C X at_107 rfl (pc' := 109) rfl ?_
      refine own_iload C X at_109 rfl (pc' := 111) rfl ?_
      refine own_lload C X at_111 rfl (pc' := 113) rfl ?_
      have hbg := own_big C X
      refine own_callS C X at_113 (own_m_b51 l Z a0 hw q0 v1 v2 v3 v4 v5 fill _ n0 hbg) (hw _ (List.mem_of_getElem? (i := 6) rfl)) (hw _ (List.mem_of_getElem? (i := 7) rfl)) (hw _ (List.mem_of_getElem? (i := 8) rfl)) (hw _ (List.mem_of_getElem? (i := 9) rfl)) (by decide) own_pd_11984 rfl rfl (Nat.le_of_ble_eq_true rfl) (Nat.le_of_ble_eq_true rfl) (Nat.le_of_ble_eq_true rfl) (Nat.le_of_ble_eq_true rfl) (av := [(.long q0), (.long v1), (.long v2), (.long v3), (.long v4), (.long v5), (.int (5 : Int32)), (.int (1 : Int32)), (.long fill)]) (S := []) rfl (pc' := 116) rfl ?_
      intro T h v X hQ
      obtain ⟨b2, rfl, gq_b2, K_, A_b2⟩ := hQ
      have ne_b1_b2 : b1 ≠ b2 := Nat.ne_of_lt (Nat.lt_of_lt_of_le A_b1.lt gq_b2)
      have ge_b2 : n0 ≤ b2 := Nat.le_trans hbg gq_b2
      have A_b1 := A_b1.keep K_ nin0
      show own_Go p e below n0 (own_Fin room_1 s (fun v h => v = some (.int 1))) (T.setTop (mkF m 116 #[.val (.long q0), .second, .val (.long q1), .second, .val (.long q2), .second, .val (.long q3), .second, .val (.long q4), .second, .val (.int i5), .val (.int (5 : Int32)), .val (.int (1 : Int32)), .val (.long q0), .second, .val (.long v1), .second, .val (.long v2), .second, .val (.long v3), .second, .val (.long v4), .second, .val (.long v5), .second, .val (.long fill), .second, .val (.ref b1), .unset, .unset, .unset, .unset, .unset] [(.ref b2)]))
      refine own_astore C X at_116 rfl (L' := #[.val (.long q0), .second, .val (.long q1), .second, .val (.long q2), .second, .val (.long q3), .second, .val (.long q4), .second, .val (.int i5), .val (.int (5 : Int32)), .val (.int (1 : Int32)), .val (.long q0), .second, .val (.long v1), .second, .val (.long v2), .second, .val (.long v3), .second, .val (.long v4), .second, .val (.long v5), .second, .val (.long fill), .second, .val (.ref b1), .val (.ref b2), .unset, .unset, .unset, .unset]) rfl (pc' := 118) rfl ?_
      refine own_iload C X at_118 rfl (pc' := 120) rfl ?_
      refine own_istore C X at_120 (L' := #[.val (.long q0), .second, .val (.long q1), .second, .val (.long q2), .second, .val (.long q3), .second, .val (.long q4), .second, .val (.int i5), .val (.int (5 : Int32)), .val (.int (1 : Int32)), .val (.long q0), .second, .val (.long v1), .second, .val (.long v2), .second, .val (.long v3), .second, .val (.long v4), .second, .val (.long v5), .second, .val (.long fill), .second, .val (.ref b1), .val (.ref b2), .val (.int (5 : Int32)), .unset, .unset, .unset]) rfl (pc' := 122) rfl ?_
      refine own_iload C X at_122 rfl (pc' := 124) rfl ?_
      refine own_if_ne C X at_124 (pcT := 137) (pc' := 127) (by decide) (by decide) rfl (fun hc124 => ?_) (fun hc124 => absurd hc124 (by decide))
      refine own_iload C X at_137 rfl (pc' := 139) rfl ?_
      refine own_iconst C X at_139 (v := 2) (by decide) (pc' := 140) rfl ?_
      refine own_icmp_gt C X at_140 (pcT := 184) (pc' := 143) (by decide) (by decide) rfl (fun hc140 => ?_) (fun hc140 => absurd hc140 (by decide))
      refine own_iload C X at_184 rfl (pc' := 186) rfl ?_
      refine own_iconst C X at_186 (v := 4) (by decide) (pc' := 187) rfl ?_
      refine own_icmp_gt C X at_187 (pcT := 194) (pc' := 190) (by decide) (by decide) rfl (fun hc187 => ?_) (fun hc187 => absurd hc187 (by decide))
      refine own_iconst C X at_194 (v := 2) (by decide) (pc' := 195) rfl ?_
      refine own_istore C X at_195 (L' := #[.val (.long q0), .second, .val (.long q1), .second, .val (.long q2), .second, .val (.long q3), .second, .val (.long q4), .second, .val (.int i5), .val (.int (5 : Int32)), .val (.int (1 : Int32)), .val (.long q0), .second, .val (.long v1), .second, .val (.long v2), .second, .val (.long v3), .second, .val (.long v4), .second, .val (.long v5), .second, .val (.long fill), .second, .val (.ref b1), .val (.ref b2), .val (.int (5 : Int32)), .val (.int (2 : Int32)), .unset, .unset]) rfl (pc' := 197) rfl ?_
      refine own_iload C X at_197 rfl (pc' := 199) rfl ?_
      refine own_iconst C X at_199 (v := 1) (by decide) (pc' := 200) rfl ?_
      refine own_icmp_ne C X at_200 (pcT := 208) (pc' := 203) (by decide) (by decide) rfl (fun hc200 => ?_) (fun hc200 => absurd hc200 (by decide))
      refine own_lload C X at_208 rfl (pc' := 210) rfl ?_
      refine own_lstore C X at_210 (L' := #[.val (.long q0), .second, .val (.long q1), .second, .val (.long q2), .second, .val (.long q3), .second, .val (.long q4), .second, .val (.int i5), .val (.int (5 : Int32)), .val (.int (1 : Int32)), .val (.long q0), .second, .val (.long v1), .second, .val (.long v2), .second, .val (.long v3), .second, .val (.long v4), .second, .val (.long v5), .second, .val (.long fill), .second, .val (.ref b1), .val (.ref b2), .val (.int (5 : Int32)), .val (.int (2 : Int32)), .val (.long v2), .second]) rfl (pc' := 212) rfl ?_
      refine own_lload C X at_212 rfl (pc' := 214) rfl ?_
      refine own_lload C X at_214 rfl (pc' := 216) rfl ?_
      refine own_lcmp_ge C X at_216 at_217 (pcT := 250) (pc' := 220) (by decide) (by decide) rfl (fun hc216 => ?_) (fun hc216 => ?_)
      · refine own_lload C X at_250 rfl (pc' := 252) rfl ?_
        refine own_lload C X at_252 rfl (pc' := 254) rfl ?_
        refine own_lcmp_ge C X at_254 at_255 (pcT := 281) (pc' := 258) (by decide) (by decide) rfl (fun hc254 => ?_) (fun hc254 => ?_)
        · refine own_aload C X at_281 rfl rfl (pc' := 283) rfl ?_
          refine own_iload C X at_283 rfl (pc' := 285) rfl ?_
          refine own_iload C X at_285 rfl (pc' := 287) rfl ?_
          refine own_iadd C X at_287 (z := 6) (by decide) (pc' := 288) rfl ?_
          refine own_lload C X at_288 rfl (pc' := 290) rfl ?_
          refine own_lastore C X at_290 A_b2 (by decide) (i := 6) (Nat.le_of_ble_eq_true rfl) ge_b2 (pc' := 291) rfl ?_
          intro T h X K_ A_b2_
          have A_b2 : own_JA Z h b2 [fill, q0, v1, v2, v3, v4, q4, fill] := A_b2_
          have A_b1 := A_b1.keep K_ (ninS ne_b1_b2 nin0)
          refine own_aload C X at_291 rfl rfl (pc' := 293) rfl ?_
          refine own_iload C X at_293 rfl (pc' := 295) rfl ?_
          refine own_iload C X at_295 rfl (pc' := 297) rfl ?_
          refine own_lload C X at_297 rfl (pc' := 299) rfl ?_
          refine own_callS C X at_299 (own_m_add510 l Z a0 hw b1 q4 _ n0 (own_big C X) fill q0 v1 v2 v3 v4 fill fill A_b1 ge_b1 hc254) (hw _ (List.mem_of_getElem? (i := 11) rfl)) (hw _ (List.mem_of_getElem? (i := 12) rfl)) (hw _ (List.mem_of_getElem? (i := 13) rfl)) (hw _ (List.mem_of_getElem? (i := 14) rfl)) (by decide) own_pd_5832 rfl rfl (Nat.le_of_ble_eq_true rfl) (Nat.le_of_ble_eq_true rfl) (Nat.le_of_ble_eq_true rfl) (Nat.le_of_ble_eq_true rfl) (av := [(.ref b1), (.int (1 : Int32)), (.int (5 : Int32)), (.long q4)]) (S := []) rfl (pc' := 302) rfl ?_
          intro T h v X hQ
          obtain ⟨rfl, K_, A_b1⟩ := hQ
          have A_b2 := A_b2.keep K_ (ninS (Ne.symm ne_b1_b2) nin0)
          show own_Go p e below n0 (own_Fin room_1 s (fun v h => v = some (.int 1))) (T.setTop (mkF m 302 #[.val (.long q0), .second, .val (.long q1), .second, .val (.long q2), .second, .val (.long q3), .second, .val (.long q4), .second, .val (.int i5), .val (.int (5 : Int32)), .val (.int (1 : Int32)), .val (.long q0), .second, .val (.long v1), .second, .val (.long v2), .second, .val (.long v3), .second, .val (.long v4), .second, .val (.long v5), .second, .val (.long fill), .second, .val (.ref b1), .val (.ref b2), .val (.int (5 : Int32)), .val (.int (2 : Int32)), .val (.long v2), .second] []))
          refine own_aload C X at_302 rfl rfl (pc' := 304) rfl ?_
          refine own_aload C X at_304 rfl rfl (pc' := 306) rfl ?_
          refine own_callS C X at_306 (own_m_same l Z a0 hw b1 b2 _ n0 (own_big C X) fill q0 v1 v2 v3 v4 q4 fill A_b1 A_b2) (hw _ (List.mem_of_getElem? (i := 15) rfl)) (hw _ (List.mem_of_getElem? (i := 16) rfl)) (hw _ (List.mem_of_getElem? (i := 8) rfl)) (hw _ (List.mem_of_getElem? (i := 17) rfl)) (by decide) own_pd_5060 rfl rfl (Nat.le_of_ble_eq_true rfl) (Nat.le_of_ble_eq_true rfl) (Nat.le_of_ble_eq_true rfl) (Nat.le_of_ble_eq_true rfl) (av := [(.ref b1), (.ref b2)]) (S := []) rfl (pc' := 309) rfl ?_
          intro T h v X hQ
          obtain ⟨rfl, rfl⟩ := hQ
          show own_Go p e below n0 (own_Fin room_1 s (fun v h => v = some (.int 1))) (T.setTop (mkF m 309 #[.val (.long q0), .second, .val (.long q1), .second, .val (.long q2), .second, .val (.long q3), .second, .val (.long q4), .second, .val (.int i5), .val (.int (5 : Int32)), .val (.int (1 : Int32)), .val (.long q0), .second, .val (.long v1), .second, .val (.long v2), .second, .val (.long v3), .second, .val (.long v4), .second, .val (.long v5), .second, .val (.long fill), .second, .val (.ref b1), .val (.ref b2), .val (.int (5 : Int32)), .val (.int (2 : Int32)), .val (.long v2), .second] [(.int (1 : Int32))]))
          exact own_ireturn_z C X at_309 (Nat.le_of_ble_eq_true rfl) (Nat.le_of_ble_eq_true rfl) (rfl)
        · refine own_aload C X at_258 rfl rfl (pc' := 260) rfl ?_
          refine own_iload C X at_260 rfl (pc' := 262) rfl ?_
          refine own_iload C X at_262 rfl (pc' := 264) rfl ?_
          refine own_iadd C X at_264 (z := 3) (by decide) (pc' := 265) rfl ?_
          refine own_lload C X at_265 rfl (pc' := 267) rfl ?_
          refine own_lastore C X at_267 A_b2 (by decide) (i := 3) (Nat.le_of_ble_eq_true rfl) ge_b2 (pc' := 268) rfl ?_
          intro T h X K_ A_b2_
          have A_b2 : own_JA Z h b2 [fill, q0, v1, q4, v3, v4, fill, fill] := A_b2_
          have A_b1 := A_b1.keep K_ (ninS ne_b1_b2 nin0)
          refine own_aload C X at_268 rfl rfl (pc' := 270) rfl ?_
          refine own_iload C X at_270 rfl (pc' := 272) rfl ?_
          refine own_iload C X at_272 rfl (pc' := 274) rfl ?_
          refine own_iadd C X at_274 (z := 6) (by decide) (pc' := 275) rfl ?_
          refine own_lload C X at_275 rfl (pc' := 277) rfl ?_
          refine own_lastore C X at_277 A_b2 (by decide) (i := 6) (Nat.le_of_ble_eq_true rfl) ge_b2 (pc' := 278) rfl ?_
          intro T h X K_ A_b2_
          have A_b2 : own_JA Z h b2 [fill, q0, v1, q4, v3, v4, v2, fill] := A_b2_
          have A_b1 := A_b1.keep K_ (ninS ne_b1_b2 nin0)
          refine own_goto C X at_278 (pc' := 291) (by decide) (by decide) ?_
          refine own_aload C X at_291 rfl rfl (pc' := 293) rfl ?_
          refine own_iload C X at_293 rfl (pc' := 295) rfl ?_
          refine own_iload C X at_295 rfl (pc' := 297) rfl ?_
          refine own_lload C X at_297 rfl (pc' := 299) rfl ?_
          refine own_callS C X at_299 (own_m_add511 l Z a0 hw b1 q4 _ n0 (own_big C X) fill q0 v1 v2 v3 v4 fill fill A_b1 ge_b1 hc254 hc216) (hw _ (List.mem_of_getElem? (i := 11) rfl)) (hw _ (List.mem_of_getElem? (i := 12) rfl)) (hw _ (List.mem_of_getElem? (i := 13) rfl)) (hw _ (List.mem_of_getElem? (i := 14) rfl)) (by decide) own_pd_5832 rfl rfl (Nat.le_of_ble_eq_true rfl) (Nat.le_of_ble_eq_true rfl) (Nat.le_of_ble_eq_true rfl) (Nat.le_of_ble_eq_true rfl) (av := [(.ref b1), (.int (1 : Int32)), (.int (5 : Int32)), (.long q4)]) (S := []) rfl (pc' := 302) rfl ?_
          intro T h v X hQ
          obtain ⟨rfl, K_, A_b1⟩ := hQ
          have A_b2 := A_b2.keep K_ (ninS (Ne.symm ne_b1_b2) nin0)
          show own_Go p e below n0 (own_Fin room_1 s (fun v h => v = some (.int 1))) (T.setTop (mkF m 302 #[.val (.long q0), .second, .val (.long q1), .second, .val (.long q2), .second, .val (.long q3), .second, .val (.long q4), .second, .val (.int i5), .val (.int (5 : Int32)), .val (.int (1 : Int32)), .val (.long q0), .second, .val (.long v1), .second, .val (.long v2), .second, .val (.long v3), .second, .val (.long v4), .second, .val (.long v5), .second, .val (.long fill), .second, .val (.ref b1), .val (.ref b2), .val (.int (5 : Int32)), .val (.int (2 : Int32)), .val (.long v2), .second] []))
          refine own_aload C X at_302 rfl rfl (pc' := 304) rfl ?_
          refine own_aload C X at_304 rfl rfl (pc' := 306) rfl ?_
          refine own_callS C X at_306 (own_m_same l Z a0 hw b1 b2 _ n0 (own_big C X) fill q0 v1 q4 v3 v4 v2 fill A_b1 A_b2) (hw _ (List.mem_of_getElem? (i := 15) rfl)) (hw _ (List.mem_of_getElem? (i := 16) rfl)) (hw _ (List.mem_of_getElem? (i := 8) rfl)) (hw _ (List.mem_of_getElem? (i := 17) rfl)) (by decide) own_pd_5060 rfl rfl (Nat.le_of_ble_eq_true rfl) (Nat.le_of_ble_eq_true rfl) (Nat.le_of_ble_eq_true rfl) (Nat.le_of_ble_eq_true rfl) (av := [(.ref b1), (.ref b2)]) (S := []) rfl (pc' := 309) rfl ?_
          intro T h v X hQ
          obtain ⟨rfl, rfl⟩ := hQ
          show own_Go p e below n0 (own_Fin room_1 s (fun v h => v = some (.int 1))) (T.setTop (mkF m 309 #[.val (.long q0), .second, .val (.long q1), .second, .val (.long q2), .second, .val (.long q3), .second, .val (.long q4), .second, .val (.int i5), .val (.int (5 : Int32)), .val (.int (1 : Int32)), .val (.long q0), .second, .val (.long v1), .second, .val (.long v2), .second, .val (.long v3), .second, .val (.long v4), .second, .val (.long v5), .second, .val (.long fill), .second, .val (.ref b1), .val (.ref b2), .val (.int (5 : Int32)), .val (.int (2 : Int32)), .val (.long v2), .second] [(.int (1 : Int32))]))
          exact own_ireturn_z C X at_309 (Nat.le_of_ble_eq_true rfl) (Nat.le_of_ble_eq_true rfl) (rfl)
      · refine own_aload C X at_220 rfl rfl (pc' := 222) rfl ?_
        refine own_iload C X at_222 rfl (pc' := 224) rfl ?_
        refine own_lload C X at_224 rfl (pc' := 226) rfl ?_
        refine own_lastore C X at_226 A_b2 (by decide) (i := 1) (Nat.le_of_ble_eq_true rfl) ge_b2 (pc' := 227) rfl ?_
        intro T h X K_ A_b2_
        have A_b2 : own_JA Z h b2 [fill, q4, v1, v2, v3, v4, fill, fill] := A_b2_
        have A_b1 := A_b1.keep K_ (ninS ne_b1_b2 nin0)
        refine own_aload C X at_227 rfl rfl (pc' := 229) rfl ?_
        refine own_iload C X at_229 rfl (pc' := 231) rfl ?_
        refine own_iload C X at_231 rfl (pc' := 233) rfl ?_
        refine own_iadd C X at_233 (z := 3) (by decide) (pc' := 234) rfl ?_
        refine own_lload C X at_234 rfl (pc' := 236) rfl ?_
        refine own_lastore C X at_236 A_b2 (by decide) (i := 3) (Nat.le_of_ble_eq_true rfl) ge_b2 (pc' := 237) rfl ?_
        intro T h X K_ A_b2_
        have A_b2 : own_JA Z h b2 [fill, q4, v1, q0, v3, v4, fill, fill] := A_b2_
        have A_b1 := A_b1.keep K_ (ninS ne_b1_b2 nin0)
        refine own_aload C X at_237 rfl rfl (pc' := 239) rfl ?_
        refine own_iload C X at_239 rfl (pc' := 241) rfl ?_
        refine own_iload C X at_241 rfl (pc' := 243) rfl ?_
        refine own_iadd C X at_243 (z := 6) (by decide) (pc' := 244) rfl ?_
        refine own_lload C X at_244 rfl (pc' := 246) rfl ?_
        refine own_lastore C X at_246 A_b2 (by decide) (i := 6) (Nat.le_of_ble_eq_true rfl) ge_b2 (pc' := 247) rfl ?_
        intro T h X K_ A_b2_
        have A_b2 : own_JA Z h b2 [fill, q4, v1, q0, v3, v4, v2, fill] := A_b2_
        have A_b1 := A_b1.keep K_ (ninS ne_b1_b2 nin0)
        refine own_goto C X at_247 (pc' := 291) (by decide) (by decide) ?_
        refine own_aload C X at_291 rfl rfl (pc' := 293) rfl ?_
        refine own_iload C X at_293 rfl (pc' := 295) rfl ?_
        refine own_iload C X at_295 rfl (pc' := 297) rfl ?_
        refine own_lload C X at_297 rfl (pc' := 299) rfl ?_
        refine own_callS C X at_299 (own_m_add512 l Z a0 hw b1 q4 _ n0 (own_big C X) fill q0 v1 v2 v3 v4 fill fill A_b1 ge_b1 (own_ltt _ _ _ l_v2 hc216) hc216) (hw _ (List.mem_of_getElem? (i := 11) rfl)) (hw _ (List.mem_of_getElem? (i := 12) rfl)) (hw _ (List.mem_of_getElem? (i := 13) rfl)) (hw _ (List.mem_of_getElem? (i := 14) rfl)) (by decide) own_pd_5832 rfl rfl (Nat.le_of_ble_eq_true rfl) (Nat.le_of_ble_eq_true rfl) (Nat.le_of_ble_eq_true rfl) (Nat.le_of_ble_eq_true rfl) (av := [(.ref b1), (.int (1 : Int32)), (.int (5 : Int32)), (.long q4)]) (S := []) rfl (pc' := 302) rfl ?_
        intro T h v X hQ
        obtain ⟨rfl, K_, A_b1⟩ := hQ
        have A_b2 := A_b2.keep K_ (ninS (Ne.symm ne_b1_b2) nin0)
        show own_Go p e below n0 (own_Fin room_1 s (fun v h => v = some (.int 1))) (T.setTop (mkF m 302 #[.val (.long q0), .second, .val (.long q1), .second, .val (.long q2), .second, .val (.long q3), .second, .val (.long q4), .second, .val (.int i5), .val (.int (5 : Int32)), .val (.int (1 : Int32)), .val (.long q0), .second, .val (.long v1), .second, .val (.long v2), .second, .val (.long v3), .second, .val (.long v4), .second, .val (.long v5), .second, .val (.long fill), .second, .val (.ref b1), .val (.ref b2), .val (.int (5 : Int32)), .val (.int (2 : Int32)), .val (.long v2), .second] []))
        refine own_aload C X at_302 rfl rfl (pc' := 304) rfl ?_
        refine own_aload C X at_304 rfl rfl (pc' := 306) rfl ?_
        refine own_callS C X at_306 (own_m_same l Z a0 hw b1 b2 _ n0 (own_big C X) fill q4 v1 q0 v3 v4 v2 fill A_b1 A_b2) (hw _ (List.mem_of_getElem? (i := 15) rfl)) (hw _ (List.mem_of_getElem? (i := 16) rfl)) (hw _ (List.mem_of_getElem? (i := 8) rfl)) (hw _ (List.mem_of_getElem? (i := 17) rfl)) (by decide) own_pd_5060 rfl rfl (Nat.le_of_ble_eq_true rfl) (Nat.le_of_ble_eq_true rfl) (Nat.le_of_ble_eq_true rfl) (Nat.le_of_ble_eq_true rfl) (av := [(.ref b1), (.ref b2)]) (S := []) rfl (pc' := 309) rfl ?_
        intro T h v X hQ
        obtain ⟨rfl, rfl⟩ := hQ
        show own_Go p e below n0 (own_Fin room_1 s (fun v h => v = some (.int 1))) (T.setTop (mkF m 309 #[.val (.long q0), .second, .val (.long q1), .second, .val (.long q2), .second, .val (.long q3), .second, .val (.long q4), .second, .val (.int i5), .val (.int (5 : Int32)), .val (.int (1 : Int32)), .val (.long q0), .second, .val (.long v1), .second, .val (.long v2), .second, .val (.long v3), .second, .val (.long v4), .second, .val (.long v5), .second, .val (.long fill), .second, .val (.ref b1), .val (.ref b2), .val (.int (5 : Int32)), .val (.int (2 : Int32)), .val (.long v2), .second] [(.int (1 : Int32))]))
        exact own_ireturn_z C X at_309 (Nat.le_of_ble_eq_true rfl) (Nat.le_of_ble_eq_true rfl) (rfl)
  · rcases own_of _ off e_off with rfl | rfl
    · refine own_lload C X at_72 rfl (pc' := 74) rfl ?_
      refine own_lload C X at_74 rfl (pc' := 76) rfl ?_
      refine own_lload C X at_76 rfl (pc' := 78) rfl ?_
      refine own_lload C X at_78 rfl (pc' := 80) rfl ?_
      refine own_lload C X at_80 rfl (pc' := 82) rfl ?_
      refine own_lload C X at_82 rfl (pc' := 84) rfl ?_
      refine own_iload C X at_84 rfl (pc' := 86) rfl ?_
      refine own_iload C X at_86 rfl (pc' := 88) rfl ?_
      refine own_lload C X at_88 rfl (pc' := 90) rfl ?_
      have hbg := own_big C X
      refine own_callS C X at_90 (own_m_b60 l Z a0 hw q0 v1 v2 v3 v4 v5 fill _ n0 hbg) (hw _ (List.mem_of_getElem? (i := 6) rfl)) (hw _ (List.mem_of_getElem? (i := 7) rfl)) (hw _ (List.mem_of_getElem? (i := 8) rfl)) (hw _ (List.mem_of_getElem? (i := 9) rfl)) (by decide) own_pd_11984 rfl rfl (Nat.le_of_ble_eq_true rfl) (Nat.le_of_ble_eq_true rfl) (Nat.le_of_ble_eq_true rfl) (Nat.le_of_ble_eq_true rfl) (av := [(.long q0), (.long v1), (.long v2), (.long v3), (.long v4), (.long v5), (.int (6 : Int32)), (.int (0 : Int32)), (.long fill)]) (S := []) rfl (pc' := 93) rfl ?_
      intro T h v X hQ
      obtain ⟨b1, rfl, gq_b1, K_, A_b1⟩ := hQ
      have ge_b1 : n0 ≤ b1 := Nat.le_trans hbg gq_b1
      show own_Go p e below n0 (own_Fin room_1 s (fun v h => v = some (.int 1))) (T.setTop (mkF m 93 #[.val (.long q0), .second, .val (.long q1), .second, .val (.long q2), .second, .val (.long q3), .second, .val (.long q4), .second, .val (.int i5), .val (.int (6 : Int32)), .val (.int (0 : Int32)), .val (.long q0), .second, .val (.long v1), .second, .val (.long v2), .second, .val (.long v3), .second, .val (.long v4), .second, .val (.long v5), .second, .val (.long fill), .second, .unset, .unset, .unset, .unset, .unset, .unset] [(.ref b1)]))
      refine own_astore C X at_93 rfl (L' := #[.val (.long q0), .second, .val (.long q1), .second, .val (.long q2), .second, .val (.long q3), .second, .val (.long q4), .second, .val (.int i5), .val (.int (6 : Int32)), .val (.int (0 : Int32)), .val (.long q0), .second, .val (.long v1), .second, .val (.long v2), .second, .val (.long v3), .second, .val (.long v4), .second, .val (.long v5), .second, .val (.long fill), .second, .val (.ref b1), .unset, .unset, .unset, .unset, .unset]) rfl (pc' := 95) rfl ?_
      refine own_lload C X at_95 rfl (pc' := 97) rfl ?_
      refine own_lload C X at_97 rfl (pc' := 99) rfl ?_
      refine own_lload C X at_99 rfl (pc' := 101) rfl ?_
      refine own_lload C X at_101 rfl (pc' := 103) rfl ?_
      refine own_lload C X at_103 rfl (pc' := 105) rfl ?_
      refine own_lload C X at_105 rfl (pc' := 107) rfl ?_
      refine own_iload C X at_107 rfl (pc' := 109) rfl ?_
      refine own_iload C X at_109 rfl (pc' := 111) rfl ?_
      refine own_lload C X at_111 rfl (pc' := 113) rfl ?_
      have hbg := own_big C X
      refine own_callS C X at_113 (own_m_b60 l Z a0 hw q0 v1 v2 v3 v4 v5 fill _ n0 hbg) (hw _ (List.mem_of_getElem? (i := 6) rfl)) (hw _ (List.mem_of_getElem? (i := 7) rfl)) (hw _ (List.mem_of_getElem? (i := 8) rfl)) (hw _ (List.mem_of_getElem? (i := 9) rfl)) (by decide) own_pd_11984 rfl rfl (Nat.le_of_ble_eq_true rfl) (Nat.le_of_ble_eq_true rfl) (Nat.le_of_ble_eq_true rfl) (Nat.le_of_ble_eq_true rfl) (av := [(.long q0), (.long v1), (.long v2), (.long v3), (.long v4), (.long v5), (.int (6 : Int32)), (.int (0 : Int32)), (.long fill)]) (S := []) rfl (pc' := 116) rfl ?_
      intro T h v X hQ
      obtain ⟨b2, rfl, gq_b2, K_, A_b2⟩ := hQ
      have ne_b1_b2 : b1 ≠ b2 := Nat.ne_of_lt (Nat.lt_of_lt_of_le A_b1.lt gq_b2)
      have ge_b2 : n0 ≤ b2 := Nat.le_trans hbg gq_b2
      have A_b1 := A_b1.keep K_ nin0
      show own_Go p e below n0 (own_Fin room_1 s (fun v h => v = some (.int 1))) (T.setTop (mkF m 116 #[.val (.long q0), .second, .val (.long q1), .second, .val (.long q2), .second, .val (.long q3), .second, .val (.long q4), .second, .val (.int i5), .val (.int (6 : Int32)), .val (.int (0 : Int32)), .val (.long q0), .second, .val (.long v1), .second, .val (.long v2), .second, .val (.long v3), .second, .val (.long v4), .second, .val (.long v5), .second, .val (.long fill), .second, .val (.ref b1), .unset, .unset, .unset, .unset, .unset] [(.ref b2)]))
      refine own_astore C X at_116 rfl (L' := #[.val (.long q0), .second, .val (.long q1), .second, .val (.long q2), .second, .val (.long q3), .second, .val (.long q4), .second, .val (.int i5), .val (.int (6 : Int32)), .val (.int (0 : Int32)), .val (.long q0), .second, .val (.long v1), .second, .val (.long v2), .second, .val (.long v3), .second, .val (.long v4), .second, .val (.long v5), .second, .val (.long fill), .second, .val (.ref b1), .val (.ref b2), .unset, .unset, .unset, .unset]) rfl (pc' := 118) rfl ?_
      refine own_iload C X at_118 rfl (pc' := 120) rfl ?_
      refine own_istore C X at_120 (L' := #[.val (.long q0), .second, .val (.long q1), .second, .val (.long q2), .second, .val (.long q3), .second, .val (.long q4), .second, .val (.int i5), .val (.int (6 : Int32)), .val (.int (0 : Int32)), .val (.long q0), .second, .val (.long v1), .second, .val (.long v2), .second, .val (.long v3), .second, .val (.long v4), .second, .val (.long v5), .second, .val (.long fill), .second, .val (.ref b1), .val (.ref b2), .val (.int (6 : Int32)), .unset, .unset, .unset]) rfl (pc' := 122) rfl ?_
      refine own_iload C X at_122 rfl (pc' := 124) rfl ?_
      refine own_if_ne C X at_124 (pcT := 137) (pc' := 127) (by decide) (by decide) rfl (fun hc124 => ?_) (fun hc124 => absurd hc124 (by decide))
      refine own_iload C X at_137 rfl (pc' := 139) rfl ?_
      refine own_iconst C X at_139 (v := 2) (by decide) (pc' := 140) rfl ?_
      refine own_icmp_gt C X at_140 (pcT := 184) (pc' := 143) (by decide) (by decide) rfl (fun hc140 => ?_) (fun hc140 => absurd hc140 (by decide))
      refine own_iload C X at_184 rfl (pc' := 186) rfl ?_
      refine own_iconst C X at_186 (v := 4) (by decide) (pc' := 187) rfl ?_
      refine own_icmp_gt C X at_187 (pcT := 194) (pc' := 190) (by decide) (by decide) rfl (fun hc187 => ?_) (fun hc187 => absurd hc187 (by decide))
      refine own_iconst C X at_194 (v := 2) (by decide) (pc' := 195) rfl ?_
      refine own_istore C X at_195 (L' := #[.val (.long q0), .second, .val (.long q1), .second, .val (.long q2), .second, .val (.long q3), .second, .val (.long q4), .second, .val (.int i5), .val (.int (6 : Int32)), .val (.int (0 : Int32)), .val (.long q0), .second, .val (.long v1), .second, .val (.long v2), .second, .val (.long v3), .second, .val (.long v4), .second, .val (.long v5), .second, .val (.long fill), .second, .val (.ref b1), .val (.ref b2), .val (.int (6 : Int32)), .val (.int (2 : Int32)), .unset, .unset]) rfl (pc' := 197) rfl ?_
      refine own_iload C X at_197 rfl (pc' := 199) rfl ?_
      refine own_iconst C X at_199 (v := 1) (by decide) (pc' := 200) rfl ?_
      refine own_icmp_ne C X at_200 (pcT := 208) (pc' := 203) (by decide) (by decide) rfl (fun hc200 => ?_) (fun hc200 => absurd hc200 (by decide))
      refine own_lload C X at_208 rfl (pc' := 210) rfl ?_
      refine own_lstore C X at_210 (L' := #[.val (.long q0), .second, .val (.long q1), .second, .val (.long q2), .second, .val (.long q3), .second, .val (.long q4), .second, .val (.int i5), .val (.int (6 : Int32)), .val (.int (0 : Int32)), .val (.long q0), .second, .val (.long v1), .second, .val (.long v2), .second, .val (.long v3), .second, .val (.long v4), .second, .val (.long v5), .second, .val (.long fill), .second, .val (.ref b1), .val (.ref b2), .val (.int (6 : Int32)), .val (.int (2 : Int32)), .val (.long v2), .second]) rfl (pc' := 212) rfl ?_
      refine own_lload C X at_212 rfl (pc' := 214) rfl ?_
      refine own_lload C X at_214 rfl (pc' := 216) rfl ?_
      refine own_lcmp_ge C X at_216 at_217 (pcT := 250) (pc' := 220) (by decide) (by decide) rfl (fun hc216 => ?_) (fun hc216 => ?_)
      · refine own_lload C X at_250 rfl (pc' := 252) rfl ?_
        refine own_lload C X at_252 rfl (pc' := 254) rfl ?_
        refine own_lcmp_ge C X at_254 at_255 (pcT := 281) (pc' := 258) (by decide) (by decide) rfl (fun hc254 => ?_) (fun hc254 => ?_)
        · refine own_aload C X at_281 rfl rfl (pc' := 283) rfl ?_
          refine own_iload C X at_283 rfl (pc' := 285) rfl ?_
          refine own_iload C X at_285 rfl (pc' := 287) rfl ?_
          refine own_iadd C X at_287 (z := 6) (by decide) (pc' := 288) rfl ?_
          refine own_lload C X at_288 rfl (pc' := 290) rfl ?_
          refine own_lastore C X at_290 A_b2 (by decide) (i := 6) (Nat.le_of_ble_eq_true rfl) ge_b2 (pc' := 291) rfl ?_
          intro T h X K_ A_b2_
          have A_b2 : own_JA Z h b2 [q0, v1, v2, v3, v4, v5, q4, fill] := A_b2_
          have A_b1 := A_b1.keep K_ (ninS ne_b1_b2 nin0)
          refine own_aload C X at_291 rfl rfl (pc' := 293) rfl ?_
          refine own_iload C X at_293 rfl (pc' := 295) rfl ?_
          refine own_iload C X at_295 rfl (pc' := 297) rfl ?_
          refine own_lload C X at_297 rfl (pc' := 299) rfl ?_
          refine own_callS C X at_299 (own_m_add600 l Z a0 hw b1 q4 _ n0 (own_big C X) q0 v1 v2 v3 v4 v5 fill fill A_b1 ge_b1 hc254) (hw _ (List.mem_of_getElem? (i := 11) rfl)) (hw _ (List.mem_of_getElem? (i := 12) rfl)) (hw _ (List.mem_of_getElem? (i := 13) rfl)) (hw _ (List.mem_of_getElem? (i := 14) rfl)) (by decide) own_pd_5832 rfl rfl (Nat.le_of_ble_eq_true rfl) (Nat.le_of_ble_eq_true rfl) (Nat.le_of_ble_eq_true rfl) (Nat.le_of_ble_eq_true rfl) (av := [(.ref b1), (.int (0 : Int32)), (.int (6 : Int32)), (.long q4)]) (S := []) rfl (pc' := 302) rfl ?_
          intro T h v X hQ
          obtain ⟨rfl, K_, A_b1⟩ := hQ
          have A_b2 := A_b2.keep K_ (ninS (Ne.symm ne_b1_b2) nin0)
          show own_Go p e below n0 (own_Fin room_1 s (fun v h => v = some (.int 1))) (T.setTop (mkF m 302 #[.val (.long q0), .second, .val (.long q1), .second, .val (.long q2), .second, .val (.long q3), .second, .val (.long q4), .second, .val (.int i5), .val (.int (6 : Int32)), .val (.int (0 : Int32)), .val (.long q0), .second, .val (.long v1), .second, .val (.long v2), .second, .val (.long v3), .second, .val (.long v4), .second, .val (.long v5), .second, .val (.long fill), .second, .val (.ref b1), .val (.ref b2), .val (.int (6 : Int32)), .val (.int (2 : Int32)), .val (.long v2), .second] []))
          refine own_aload C X at_302 rfl rfl (pc' := 304) rfl ?_
          refine own_aload C X at_304 rfl rfl (pc' := 306) rfl ?_
          refine own_callS C X at_306 (own_m_same l Z a0 hw b1 b2 _ n0 (own_big C X) q0 v1 v2 v3 v4 v5 q4 fill A_b1 A_b2) (hw _ (List.mem_of_getElem? (i := 15) rfl)) (hw _ (List.mem_of_getElem? (i := 16) rfl)) (hw _ (List.mem_of_getElem? (i := 8) rfl)) (hw _ (List.mem_of_getElem? (i := 17) rfl)) (by decide) own_pd_5060 rfl rfl (Nat.le_of_ble_eq_true rfl) (Nat.le_of_ble_eq_true rfl) (Nat.le_of_ble_eq_true rfl) (Nat.le_of_ble_eq_true rfl) (av := [(.ref b1), (.ref b2)]) (S := []) rfl (pc' := 309) rfl ?_
          intro T h v X hQ
          obtain ⟨rfl, rfl⟩ := hQ
          show own_Go p e below n0 (own_Fin room_1 s (fun v h => v = some (.int 1))) (T.setTop (mkF m 309 #[.val (.long q0), .second, .val (.long q1), .second, .val (.long q2), .second, .val (.long q3), .second, .val (.long q4), .second, .val (.int i5), .val (.int (6 : Int32)), .val (.int (0 : Int32)), .val (.long q0), .second, .val (.long v1), .second, .val (.long v2), .second, .val (.long v3), .second, .val (.long v4), .second, .val (.long v5), .second, .val (.long fill), .second, .val (.ref b1), .val (.ref b2), .val (.int (6 : Int32)), .val (.int (2 : Int32)), .val (.long v2), .second] [(.int (1 : Int32))]))
          exact own_ireturn_z C X at_309 (Nat.le_of_ble_eq_true rfl) (Nat.le_of_ble_eq_true rfl) (rfl)
        · refine own_aload C X at_258 rfl rfl (pc' := 260) rfl ?_
          refine own_iload C X at_260 rfl (pc' := 262) rfl ?_
          refine own_iload C X at_262 rfl (pc' := 264) rfl ?_
          refine own_iadd C X at_264 (z := 2) (by decide) (pc' := 265) rfl ?_
          refine own_lload C X at_265 rfl (pc' := 267) rfl ?_
          refine own_lastore C X at_267 A_b2 (by decide) (i := 2) (Nat.le_of_ble_eq_true rfl) ge_b2 (pc' := 268) rfl ?_
          intro T h X K_ A_b2_
          have A_b2 : own_JA Z h b2 [q0, v1, q4, v3, v4, v5, fill, fill] := A_b2_
          have A_b1 := A_b1.keep K_ (ninS ne_b1_b2 nin0)
          refine own_aload C X at_268 rfl rfl (pc' := 270) rfl ?_
          refine own_iload C X at_270 rfl (pc' := 272) rfl ?_
          refine own_iload C X at_272 rfl (pc' := 274) rfl ?_
          refine own_iadd C X at_274 (z := 6) (by decide) (pc' := 275) rfl ?_
          refine own_lload C X at_275 rfl (pc' := 277) rfl ?_
          refine own_lastore C X at_277 A_b2 (by decide) (i := 6) (Nat.le_of_ble_eq_true rfl) ge_b2 (pc' := 278) rfl ?_
          intro T h X K_ A_b2_
          have A_b2 : own_JA Z h b2 [q0, v1, q4, v3, v4, v5, v2, fill] := A_b2_
          have A_b1 := A_b1.keep K_ (ninS ne_b1_b2 nin0)
          refine own_goto C X at_278 (pc' := 291) (by decide) (by decide) ?_
          refine own_aload C X at_291 rfl rfl (pc' := 293) rfl ?_
          refine own_iload C X at_293 rfl (pc' := 295) rfl ?_
          refine own_iload C X at_295 rfl (pc' := 297) rfl ?_
          refine own_lload C X at_297 rfl (pc' := 299) rfl ?_
          refine own_callS C X at_299 (own_m_add601 l Z a0 hw b1 q4 _ n0 (own_big C X) q0 v1 v2 v3 v4 v5 fill fill A_b1 ge_b1 hc254 hc216) (hw _ (List.mem_of_getElem? (i := 11) rfl)) (hw _ (List.mem_of_getElem? (i := 12) rfl)) (hw _ (List.mem_of_getElem? (i := 13) rfl)) (hw _ (List.mem_of_getElem? (i := 14) rfl)) (by decide) own_pd_5832 rfl rfl (Nat.le_of_ble_eq_true rfl) (Nat.le_of_ble_eq_true rfl) (Nat.le_of_ble_eq_true rfl) (Nat.le_of_ble_eq_true rfl) (av := [(.ref b1), (.int (0 : Int32)), (.int (6 : Int32)), (.long q4)]) (S := []) rfl (pc' := 302) rfl ?_
          intro T h v X hQ
          obtain ⟨rfl, K_, A_b1⟩ := hQ
          have A_b2 := A_b2.keep K_ (ninS (Ne.symm ne_b1_b2) nin0)
          show own_Go p e below n0 (own_Fin room_1 s (fun v h => v = some (.int 1))) (T.setTop (mkF m 302 #[.val (.long q0), .second, .val (.long q1), .second, .val (.long q2), .second, .val (.long q3), .second, .val (.long q4), .second, .val (.int i5), .val (.int (6 : Int32)), .val (.int (0 : Int32)), .val (.long q0), .second, .val (.long v1), .second, .val (.long v2), .second, .val (.long v3), .second, .val (.long v4), .second, .val (.long v5), .second, .val (.long fill), .second, .val (.ref b1), .val (.ref b2), .val (.int (6 : Int32)), .val (.int (2 : Int32)), .val (.long v2), .second] []))
          refine own_aload C X at_302 rfl rfl (pc' := 304) rfl ?_
          refine own_aload C X at_304 rfl rfl (pc' := 306) rfl ?_
          refine own_callS C X at_306 (own_m_same l Z a0 hw b1 b2 _ n0 (own_big C X) q0 v1 q4 v3 v4 v5 v2 fill A_b1 A_b2) (hw _ (List.mem_of_getElem? (i := 15) rfl)) (hw _ (List.mem_of_getElem? (i := 16) rfl)) (hw _ (List.mem_of_getElem? (i := 8) rfl)) (hw _ (List.mem_of_getElem? (i := 17) rfl)) (by decide) own_pd_5060 rfl rfl (Nat.le_of_ble_eq_true rfl) (Nat.le_of_ble_eq_true rfl) (Nat.le_of_ble_eq_true rfl) (Nat.le_of_ble_eq_true rfl) (av := [(.ref b1), (.ref b2)]) (S := []) rfl (pc' := 309) rfl ?_
          intro T h v X hQ
          obtain ⟨rfl, rfl⟩ := hQ
          show own_Go p e below n0 (own_Fin room_1 s (fun v h => v = some (.int 1))) (T.setTop (mkF m 309 #[.val (.long q0), .second, .val (.long q1), .second, .val (.long q2), .second, .val (.long q3), .second, .val (.long q4), .second, .val (.int i5), .val (.int (6 : Int32)), .val (.int (0 : Int32)), .val (.long q0), .second, .val (.long v1), .second, .val (.long v2), .second, .val (.long v3), .second, .val (.long v4), .second, .val (.long v5), .second, .val (.long fill), .second, .val (.ref b1), .val (.ref b2), .val (.int (6 : Int32)), .val (.int (2 : Int32)), .val (.long v2), .second] [(.int (1 : Int32))]))
          exact own_ireturn_z C X at_309 (Nat.le_of_ble_eq_true rfl) (Nat.le_of_ble_eq_true rfl) (rfl)
      · refine own_aload C X at_220 rfl rfl (pc' := 222) rfl ?_
        refine own_iload C X at_222 rfl (pc' := 224) rfl ?_
        refine own_lload C X at_224 rfl (pc' := 226) rfl ?_
        refine own_lastore C X at_226 A_b2 (by decide) (i := 0) (Nat.le_of_ble_eq_true rfl) ge_b2 (pc' := 227) rfl ?_
        intro T h X K_ A_b2_
        have A_b2 : own_JA Z h b2 [q4, v1, v2, v3, v4, v5, fill, fill] := A_b2_
        have A_b1 := A_b1.keep K_ (ninS ne_b1_b2 nin0)
        refine own_aload C X at_227 rfl rfl (pc' := 229) rfl ?_
        refine own_iload C X at_229 rfl (pc' := 231) rfl ?_
        refine own_iload C X at_231 rfl (pc' := 233) rfl ?_
        refine own_iadd C X at_233 (z := 2) (by decide) (pc' := 234) rfl ?_
        refine own_lload C X at_234 rfl (pc' := 236) rfl ?_
        refine own_lastore C X at_236 A_b2 (by decide) (i := 2) (Nat.le_of_ble_eq_true rfl) ge_b2 (pc' := 237) rfl ?_
        intro T h X K_ A_b2_
        have A_b2 : own_JA Z h b2 [q4, v1, q0, v3, v4, v5, fill, fill] := A_b2_
        have A_b1 := A_b1.keep K_ (ninS ne_b1_b2 nin0)
        refine own_aload C X at_237 rfl rfl (pc' := 239) rfl ?_
        refine own_iload C X at_239 rfl (pc' := 241) rfl ?_
        refine own_iload C X at_241 rfl (pc' := 243) rfl ?_
        refine own_iadd C X at_243 (z := 6) (by decide) (pc' := 244) rfl ?_
        refine own_lload C X at_244 rfl (pc' := 246) rfl ?_
        refine own_lastore C X at_246 A_b2 (by decide) (i := 6) (Nat.le_of_ble_eq_true rfl) ge_b2 (pc' := 247) rfl ?_
        intro T h X K_ A_b2_
        have A_b2 : own_JA Z h b2 [q4, v1, q0, v3, v4, v5, v2, fill] := A_b2_
        have A_b1 := A_b1.keep K_ (ninS ne_b1_b2 nin0)
        refine own_goto C X at_247 (pc' := 291) (by decide) (by decide) ?_
        refine own_aload C X at_291 rfl rfl (pc' := 293) rfl ?_
        refine own_iload C X at_293 rfl (pc' := 295) rfl ?_
        refine own_iload C X at_295 rfl (pc' := 297) rfl ?_
        refine own_lload C X at_297 rfl (pc' := 299) rfl ?_
        refine own_callS C X at_299 (own_m_add602 l Z a0 hw b1 q4 _ n0 (own_big C X) q0 v1 v2 v3 v4 v5 fill fill A_b1 ge_b1 (own_ltt _ _ _ l_v2 hc216) hc216) (hw _ (List.mem_of_getElem? (i := 11) rfl)) (hw _ (List.mem_of_getElem? (i := 12) rfl)) (hw _ (List.mem_of_getElem? (i := 13) rfl)) (hw _ (List.mem_of_getElem? (i := 14) rfl)) (by decide) own_pd_5832 rfl rfl (Nat.le_of_ble_eq_true rfl) (Nat.le_of_ble_eq_true rfl) (Nat.le_of_ble_eq_true rfl) (Nat.le_of_ble_eq_true rfl) (av := [(.ref b1), (.int (0 : Int32)), (.int (6 : Int32)), (.long q4)]) (S := []) rfl (pc' := 302) rfl ?_
        intro T h v X hQ
        obtain ⟨rfl, K_, A_b1⟩ := hQ
        have A_b2 := A_b2.keep K_ (ninS (Ne.symm ne_b1_b2) nin0)
        show own_Go p e below n0 (own_Fin room_1 s (fun v h => v = some (.int 1))) (T.setTop (mkF m 302 #[.val (.long q0), .second, .val (.long q1), .second, .val (.long q2), .second, .val (.long q3), .second, .val (.long q4), .second, .val (.int i5), .val (.int (6 : Int32)), .val (.int (0 : Int32)), .val (.long q0), .second, .val (.long v1), .second, .val (.long v2), .second, .val (.long v3), .second, .val (.long v4), .second, .val (.long v5), .second, .val (.long fill), .second, .val (.ref b1), .val (.ref b2), .val (.int (6 : Int32)), .val (.int (2 : Int32)), .val (.long v2), .second] []))
        refine own_aload C X at_302 rfl rfl (pc' := 304) rfl ?_
        refine own_aload C X at_304 rfl rfl (pc' := 306) rfl ?_
        refine own_callS C X at_306 (own_m_same l Z a0 hw b1 b2 _ n0 (own_big C X) q4 v1 q0 v3 v4 v5 v2 fill A_b1 A_b2) (hw _ (List.mem_of_getElem? (i := 15) rfl)) (hw _ (List.mem_of_getElem? (i := 16) rfl)) (hw _ (List.mem_of_getElem? (i := 8) rfl)) (hw _ (List.mem_of_getElem? (i := 17) rfl)) (by decide) own_pd_5060 rfl rfl (Nat.le_of_ble_eq_true rfl) (Nat.le_of_ble_eq_true rfl) (Nat.le_of_ble_eq_true rfl) (Nat.le_of_ble_eq_true rfl) (av := [(.ref b1), (.ref b2)]) (S := []) rfl (pc' := 309) rfl ?_
        intro T h v X hQ
        obtain ⟨rfl, rfl⟩ := hQ
        show own_Go p e below n0 (own_Fin room_1 s (fun v h => v = some (.int 1))) (T.setTop (mkF m 309 #[.val (.long q0), .second, .val (.long q1), .second, .val (.long q2), .second, .val (.long q3), .second, .val (.long q4), .second, .val (.int i5), .val (.int (6 : Int32)), .val (.int (0 : Int32)), .val (.long q0), .second, .val (.long v1), .second, .val (.long v2), .second, .val (.long v3), .second, .val (.long v4), .second, .val (.long v5), .second, .val (.long fill), .second, .val (.ref b1), .val (.ref b2), .val (.int (6 : Int32)), .val (.int (2 : Int32)), .val (.long v2), .second] [(.int (1 : Int32))]))
        exact own_ireturn_z C X at_309 (Nat.le_of_ble_eq_true rfl) (Nat.le_of_ble_eq_true rfl) (rfl)
    · refine own_lload C X at_72 rfl (pc' := 74) rfl ?_
      refine own_lload C X at_74 rfl (pc' := 76) rfl ?_
      refine own_lload C X at_76 rfl (pc' := 78) rfl ?_
      refine own_lload C X at_78 rfl (pc' := 80) rfl ?_
      refine own_lload C X at_80 rfl (pc' := 82) rfl ?_
      refine own_lload C X at_82 rfl (pc' := 84) rfl ?_
      refine own_iload C X at_84 rfl (pc' := 86) rfl ?_
      refine own_iload C X at_86 rfl (pc' := 88) rfl ?_
      refine own_lload C X at_88 rfl (pc' := 90) rfl ?_
      have hbg := own_big C X
      refine own_callS C X at_90 (own_m_b61 l Z a0 hw q0 v1 v2 v3 v4 v5 fill _ n0 hbg) (hw _ (List.mem_of_getElem? (i := 6) rfl)) (hw _ (List.mem_of_getElem? (i := 7) rfl)) (hw _ (List.mem_of_getElem? (i := 8) rfl)) (hw _ (List.mem_of_getElem? (i := 9) rfl)) (by decide) own_pd_11984 rfl rfl (Nat.le_of_ble_eq_true rfl) (Nat.le_of_ble_eq_true rfl) (Nat.le_of_ble_eq_true rfl) (Nat.le_of_ble_eq_true rfl) (av := [(.long q0), (.long v1), (.long v2), (.long v3), (.long v4), (.long v5), (.int (6 : Int32)), (.int (1 : Int32)), (.long fill)]) (S := []) rfl (pc' := 93) rfl ?_
      intro T h v X hQ
      obtain ⟨b1, rfl, gq_b1, K_, A_b1⟩ := hQ
      have ge_b1 : n0 ≤ b1 := Nat.le_trans hbg gq_b1
      show own_Go p e below n0 (own_Fin room_1 s (fun v h => v = some (.int 1))) (T.setTop (mkF m 93 #[.val (.long q0), .second, .val (.long q1), .second, .val (.long q2), .second, .val (.long q3), .second, .val (.long q4), .second, .val (.int i5), .val (.int (6 : Int32)), .val (.int (1 : Int32)), .val (.long q0), .second, .val (.long v1), .second, .val (.long v2), .second, .val (.long v3), .second, .val (.long v4), .second, .val (.long v5), .second, .val (.long fill), .second, .unset, .unset, .unset, .unset, .unset, .unset] [(.ref b1)]))
      refine own_astore C X at_93 rfl (L' := #[.val (.long q0), .second, .val (.long q1), .second, .val (.long q2), .second, .val (.long q3), .second, .val (.long q4), .second, .val (.int i5), .val (.int (6 : Int32)), .val (.int (1 : Int32)), .val (.long q0), .second, .val (.long v1), .second, .val (.long v2), .second, .val (.long v3), .second, .val (.long v4), .second, .val (.long v5), .second, .val (.long fill), .second, .val (.ref b1), .unset, .unset, .unset, .unset, .unset]) rfl (pc' := 95) rfl ?_
      refine own_lload C X at_95 rfl (pc' := 97) rfl ?_
      refine own_lload C X at_97 rfl (pc' := 99) rfl ?_
      refine own_lload C X at_99 rfl (pc' := 101) rfl ?_
      refine own_lload C X at_101 rfl (pc' := 103) rfl ?_
      refine own_lload C X at_103 rfl (pc' := 105) rfl ?_
      refine own_lload C X at_105 rfl (pc' := 107) rfl ?_
      refine own_iload C X at_107 rfl (pc' := 109) rfl ?_
      refine own_iload C X at_109 rfl (pc' := 111) rfl ?_
      refine own_lload C X at_111 rfl (pc' := 113) rfl ?_
      have hbg := own_big C X
      refine own_callS C X at_113 (own_m_b61 l Z a0 hw q0 v1 v2 v3 v4 v5 fill _ n0 hbg) (hw _ (List.mem_of_getElem? (i := 6) rfl)) (hw _ (List.mem_of_getElem? (i := 7) rfl)) (hw _ (List.mem_of_getElem? (i := 8) rfl)) (hw _ (List.mem_of_getElem? (i := 9) rfl)) (by decide) own_pd_11984 rfl rfl (Nat.le_of_ble_eq_true rfl) (Nat.le_of_ble_eq_true rfl) (Nat.le_of_ble_eq_true rfl) (Nat.le_of_ble_eq_true rfl) (av := [(.long q0), (.long v1), (.long v2), (.long v3), (.long v4), (.long v5), (.int (6 : Int32)), (.int (1 : Int32)), (.long fill)]) (S := []) rfl (pc' := 116) rfl ?_
      intro T h v X hQ
      obtain ⟨b2, rfl, gq_b2, K_, A_b2⟩ := hQ
      have ne_b1_b2 : b1 ≠ b2 := Nat.ne_of_lt (Nat.lt_of_lt_of_le A_b1.lt gq_b2)
      have ge_b2 : n0 ≤ b2 := Nat.le_trans hbg gq_b2
      have A_b1 := A_b1.keep K_ nin0
      show own_Go p e below n0 (own_Fin room_1 s (fun v h => v = some (.int 1))) (T.setTop (mkF m 116 #[.val (.long q0), .second, .val (.long q1), .second, .val (.long q2), .second, .val (.long q3), .second, .val (.long q4), .second, .val (.int i5), .val (.int (6 : Int32)), .val (.int (1 : Int32)), .val (.long q0), .second, .val (.long v1), .second, .val (.long v2), .second, .val (.long v3), .second, .val (.long v4), .second, .val (.long v5), .second, .val (.long fill), .second, .val (.ref b1), .unset, .unset, .unset, .unset, .unset] [(.ref b2)]))
      refine own_astore C X at_116 rfl (L' := #[.val (.long q0), .second, .val (.long q1), .second, .val (.long q2), .second, .val (.long q3), .second, .val (.long q4), .second, .val (.int i5), .val (.int (6 : Int32)), .val (.int (1 : Int32)), .val (.long q0), .second, .val (.long v1), .second, .val (.long v2), .second, .val (.long v3), .second, .val (.long v4), .second, .val (.long v5), .second, .val (.long fill), .second, .val (.ref b1), .val (.ref b2), .unset, .unset, .unset, .unset]) rfl (pc' := 118) rfl ?_
      refine own_iload C X at_118 rfl (pc' := 120) rfl ?_
      refine own_istore C X at_120 (L' := #[.val (.long q0), .second, .val (.long q1), .second, .val (.long q2), .second, .val (.long q3), .second, .val (.long q4), .second, .val (.int i5), .val (.int (6 : Int32)), .val (.int (1 : Int32)), .val (.long q0), .second, .val (.long v1), .second, .val (.long v2), .second, .val (.long v3), .second, .val (.long v4), .second, .val (.long v5), .second, .val (.long fill), .second, .val (.ref b1), .val (.ref b2), .val (.int (6 : Int32)), .unset, .unset, .unset]) rfl (pc' := 122) rfl ?_
      refine own_iload C X at_122 rfl (pc' := 124) rfl ?_
      refine own_if_ne C X at_124 (pcT := 137) (pc' := 127) (by decide) (by decide) rfl (fun hc124 => ?_) (fun hc124 => absurd hc124 (by decide))
      refine own_iload C X at_137 rfl (pc' := 139) rfl ?_
      refine own_iconst C X at_139 (v := 2) (by decide) (pc' := 140) rfl ?_
      refine own_icmp_gt C X at_140 (pcT := 184) (pc' := 143) (by decide) (by decide) rfl (fun hc140 => ?_) (fun hc140 => absurd hc140 (by decide))
      refine own_iload C X at_184 rfl (pc' := 186) rfl ?_
      refine own_iconst C X at_186 (v := 4) (by decide) (pc' := 187) rfl ?_
      refine own_icmp_gt C X at_187 (pcT := 194) (pc' := 190) (by decide) (by decide) rfl (fun hc187 => ?_) (fun hc187 => absurd hc187 (by decide))
      refine own_iconst C X at_194 (v := 2) (by decide) (pc' := 195) rfl ?_
      refine own_istore C X at_195 (L' := #[.val (.long q0), .second, .val (.long q1), .second, .val (.long q2), .second, .val (.long q3), .second, .val (.long q4), .second, .val (.int i5), .val (.int (6 : Int32)), .val (.int (1 : Int32)), .val (.long q0), .second, .val (.long v1), .second, .val (.long v2), .second, .val (.long v3), .second, .val (.long v4), .second, .val (.long v5), .second, .val (.long fill), .second, .val (.ref b1), .val (.ref b2), .val (.int (6 : Int32)), .val (.int (2 : Int32)), .unset, .unset]) rfl (pc' := 197) rfl ?_
      refine own_iload C X at_197 rfl (pc' := 199) rfl ?_
      refine own_iconst C X at_199 (v := 1) (by decide) (pc' := 200) rfl ?_
      refine own_icmp_ne C X at_200 (pcT := 208) (pc' := 203) (by decide) (by decide) rfl (fun hc200 => ?_) (fun hc200 => absurd hc200 (by decide))
      refine own_lload C X at_208 rfl (pc' := 210) rfl ?_
      refine own_lstore C X at_210 (L' := #[.val (.long q0), .second, .val (.long q1), .second, .val (.long q2), .second, .val (.long q3), .second, .val (.long q4), .second, .val (.int i5), .val (.int (6 : Int32)), .val (.int (1 : Int32)), .val (.long q0), .second, .val (.long v1), .second, .val (.long v2), .second, .val (.long v3), .second, .val (.long v4), .second, .val (.long v5), .second, .val (.long fill), .second, .val (.ref b1), .val (.ref b2), .val (.int (6 : Int32)), .val (.int (2 : Int32)), .val (.long v2), .second]) rfl (pc' := 212) rfl ?_
      refine own_lload C X at_212 rfl (pc' := 214) rfl ?_
      refine own_lload C X at_214 rfl (pc' := 216) rfl ?_
      refine own_lcmp_ge C X at_216 at_217 (pcT := 250) (pc' := 220) (by decide) (by decide) rfl (fun hc216 => ?_) (fun hc216 => ?_)
      · refine own_lload C X at_250 rfl (pc' := 252) rfl ?_
        refine own_lload C X at_252 rfl (pc' := 254) rfl ?_
        refine own_lcmp_ge C X at_254 at_255 (pcT := 281) (pc' := 258) (by decide) (by decide) rfl (fun hc254 => ?_) (fun hc254 => ?_)
        · refine own_aload C X at_281 rfl rfl (pc' := 283) rfl ?_
          refine own_iload C X at_283 rfl (pc' := 285) rfl ?_
          refine own_iload C X at_285 rfl (pc' := 287) rfl ?_
          refine own_iadd C X at_287 (z := 7) (by decide) (pc' := 288) rfl ?_
          refine own_lload C X at_288 rfl (pc' := 290) rfl ?_
          refine own_lastore C X at_290 A_b2 (by decide) (i := 7) (Nat.le_of_ble_eq_true rfl) ge_b2 (pc' := 291) rfl ?_
          intro T h X K_ A_b2_
          have A_b2 : own_JA Z h b2 [fill, q0, v1, v2, v3, v4, v5, q4] := A_b2_
          have A_b1 := A_b1.keep K_ (ninS ne_b1_b2 nin0)
          refine own_aload C X at_291 rfl rfl (pc' := 293) rfl ?_
          refine own_iload C X at_293 rfl (pc' := 295) rfl ?_
          refine own_iload C X at_295 rfl (pc' := 297) rfl ?_
          refine own_lload C X at_297 rfl (pc' := 299) rfl ?_
          refine own_callS C X at_299 (own_m_add610 l Z a0 hw b1 q4 _ n0 (own_big C X) fill q0 v1 v2 v3 v4 v5 fill A_b1 ge_b1 hc254) (hw _ (List.mem_of_getElem? (i := 11) rfl)) (hw _ (List.mem_of_getElem? (i := 12) rfl)) (hw _ (List.mem_of_getElem? (i := 13) rfl)) (hw _ (List.mem_of_getElem? (i := 14) rfl)) (by decide) own_pd_5832 rfl rfl (Nat.le_of_ble_eq_true rfl) (Nat.le_of_ble_eq_true rfl) (Nat.le_of_ble_eq_true rfl) (Nat.le_of_ble_eq_true rfl) (av := [(.ref b1), (.int (1 : Int32)), (.int (6 : Int32)), (.long q4)]) (S := []) rfl (pc' := 302) rfl ?_
          intro T h v X hQ
          obtain ⟨rfl, K_, A_b1⟩ := hQ
          have A_b2 := A_b2.keep K_ (ninS (Ne.symm ne_b1_b2) nin0)
          show own_Go p e below n0 (own_Fin room_1 s (fun v h => v = some (.int 1))) (T.setTop (mkF m 302 #[.val (.long q0), .second, .val (.long q1), .second, .val (.long q2), .second, .val (.long q3), .second, .val (.long q4), .second, .val (.int i5), .val (.int (6 : Int32)), .val (.int (1 : Int32)), .val (.long q0), .second, .val (.long v1), .second, .val (.long v2), .second, .val (.long v3), .second, .val (.long v4), .second, .val (.long v5), .second, .val (.long fill), .second, .val (.ref b1), .val (.ref b2), .val (.int (6 : Int32)), .val (.int (2 : Int32)), .val (.long v2), .second] []))
          refine own_aload C X at_302 rfl rfl (pc' := 304) rfl ?_
          refine own_aload C X at_304 rfl rfl (pc' := 306) rfl ?_
          refine own_callS C X at_306 (own_m_same l Z a0 hw b1 b2 _ n0 (own_big C X) fill q0 v1 v2 v3 v4 v5 q4 A_b1 A_b2) (hw _ (List.mem_of_getElem? (i := 15) rfl)) (hw _ (List.mem_of_getElem? (i := 16) rfl)) (hw _ (List.mem_of_getElem? (i := 8) rfl)) (hw _ (List.mem_of_getElem? (i := 17) rfl)) (by decide) own_pd_5060 rfl rfl (Nat.le_of_ble_eq_true rfl) (Nat.le_of_ble_eq_true rfl) (Nat.le_of_ble_eq_true rfl) (Nat.le_of_ble_eq_true rfl) (av := [(.ref b1), (.ref b2)]) (S := []) rfl (pc' := 309) rfl ?_
          intro T h v X hQ
          obtain ⟨rfl, rfl⟩ := hQ
          show own_Go p e below n0 (own_Fin room_1 s (fun v h => v = some (.int 1))) (T.setTop (mkF m 309 #[.val (.long q0), .second, .val (.long q1), .second, .val (.long q2), .second, .val (.long q3), .second, .val (.long q4), .second, .val (.int i5), .val (.int (6 : Int32)), .val (.int (1 : Int32)), .val (.long q0), .second, .val (.long v1), .second, .val (.long v2), .second, .val (.long v3), .second, .val (.long v4), .second, .val (.long v5), .second, .val (.long fill), .second, .val (.ref b1), .val (.ref b2), .val (.int (6 : Int32)), .val (.int (2 : Int32)), .val (.long v2), .second] [(.int (1 : Int32))]))
          exact own_ireturn_z C X at_309 (Nat.le_of_ble_eq_true rfl) (Nat.le_of_ble_eq_true rfl) (rfl)
        · refine own_aload C X at_258 rfl rfl (pc' := 260) rfl ?_
          refine own_iload C X at_260 rfl (pc' := 262) rfl ?_
          refine own_iload C X at_262 rfl (pc' := 264) rfl ?_
          refine own_iadd C X at_264 (z := 3) (by decide) (pc' := 265) rfl ?_
          refine own_lload C X at_265 rfl (pc' := 267) rfl ?_
          refine own_lastore C X at_267 A_b2 (by decide) (i := 3) (Nat.le_of_ble_eq_true rfl) ge_b2 (pc' := 268) rfl ?_
          intro T h X K_ A_b2_
          have A_b2 : own_JA Z h b2 [fill, q0, v1, q4, v3, v4, v5, fill] := A_b2_
          have A_b1 := A_b1.keep K_ (ninS ne_b1_b2 nin0)
          refine own_aload C X at_268 rfl rfl (pc' := 270) rfl ?_
          refine own_iload C X at_270 rfl (pc' := 272) rfl ?_
          refine own_iload C X at_272 rfl (pc' := 274) rfl ?_
          refine own_iadd C X at_274 (z := 7) (by decide) (pc' := 275) rfl ?_
          refine own_lload C X at_275 rfl (pc' := 277) rfl ?_
          refine own_lastore C X at_277 A_b2 (by decide) (i := 7) (Nat.le_of_ble_eq_true rfl) ge_b2 (pc' := 278) rfl ?_
          intro T h X K_ A_b2_
          have A_b2 : own_JA Z h b2 [fill, q0, v1, q4, v3, v4, v5, v2] := A_b2_
          have A_b1 := A_b1.keep K_ (ninS ne_b1_b2 nin0)
          refine own_goto C X at_278 (pc' := 291) (by decide) (by decide) ?_
          refine own_aload C X at_291 rfl rfl (pc' := 293) rfl ?_
          refine own_iload C X at_293 rfl (pc' := 295) rfl ?_
          refine own_iload C X at_295 rfl (pc' := 297) rfl ?_
          refine own_lload C X at_297 rfl (pc' := 299) rfl ?_
          refine own_callS C X at_299 (own_m_add611 l Z a0 hw b1 q4 _ n0 (own_big C X) fill q0 v1 v2 v3 v4 v5 fill A_b1 ge_b1 hc254 hc216) (hw _ (List.mem_of_getElem? (i := 11) rfl)) (hw _ (List.mem_of_getElem? (i := 12) rfl)) (hw _ (List.mem_of_getElem? (i := 13) rfl)) (hw _ (List.mem_of_getElem? (i := 14) rfl)) (by decide) own_pd_5832 rfl rfl (Nat.le_of_ble_eq_true rfl) (Nat.le_of_ble_eq_true rfl) (Nat.le_of_ble_eq_true rfl) (Nat.le_of_ble_eq_true rfl) (av := [(.ref b1), (.int (1 : Int32)), (.int (6 : Int32)), (.long q4)]) (S := []) rfl (pc' := 302) rfl ?_
          intro T h v X hQ
          obtain ⟨rfl, K_, A_b1⟩ := hQ
          have A_b2 := A_b2.keep K_ (ninS (Ne.symm ne_b1_b2) nin0)
          show own_Go p e below n0 (own_Fin room_1 s (fun v h => v = some (.int 1))) (T.setTop (mkF m 302 #[.val (.long q0), .second, .val (.long q1), .second, .val (.long q2), .second, .val (.long q3), .second, .val (.long q4), .second, .val (.int i5), .val (.int (6 : Int32)), .val (.int (1 : Int32)), .val (.long q0), .second, .val (.long v1), .second, .val (.long v2), .second, .val (.long v3), .second, .val (.long v4), .second, .val (.long v5), .second, .val (.long fill), .second, .val (.ref b1), .val (.ref b2), .val (.int (6 : Int32)), .val (.int (2 : Int32)), .val (.long v2), .second] []))
          refine own_aload C X at_302 rfl rfl (pc' := 304) rfl ?_
          refine own_aload C X at_304 rfl rfl (pc' := 306) rfl ?_
          refine own_callS C X at_306 (own_m_same l Z a0 hw b1 b2 _ n0 (own_big C X) fill q0 v1 q4 v3 v4 v5 v2 A_b1 A_b2) (hw _ (List.mem_of_getElem? (i := 15) rfl)) (hw _ (List.mem_of_getElem? (i := 16) rfl)) (hw _ (List.mem_of_getElem? (i := 8) rfl)) (hw _ (List.mem_of_getElem? (i := 17) rfl)) (by decide) own_pd_5060 rfl rfl (Nat.le_of_ble_eq_true rfl) (Nat.le_of_ble_eq_true rfl) (Nat.le_of_ble_eq_true rfl) (Nat.le_of_ble_eq_true rfl) (av := [(.ref b1), (.ref b2)]) (S := []) rfl (pc' := 309) rfl ?_
          intro T h v X hQ
          obtain ⟨rfl, rfl⟩ := hQ
          show own_Go p e below n0 (own_Fin room_1 s (fun v h => v = some (.int 1))) (T.setTop (mkF m 309 #[.val (.long q0), .second, .val (.long q1), .second, .val (.long q2), .second, .val (.long q3), .second, .val (.long q4), .second, .val (.int i5), .val (.int (6 : Int32)), .val (.int (1 : Int32)), .val (.long q0), .second, .val (.long v1), .second, .val (.long v2), .second, .val (.long v3), .second, .val (.long v4), .second, .val (.long v5), .second, .val (.long fill), .second, .val (.ref b1), .val (.ref b2), .val (.int (6 : Int32)), .val (.int (2 : Int32)), .val (.long v2), .second] [(.int (1 : Int32))]))
          exact own_ireturn_z C X at_309 (Nat.le_of_ble_eq_true rfl) (Nat.le_of_ble_eq_true rfl) (rfl)
      · refine own_aload C X at_220 rfl rfl (pc' := 222) rfl ?_
        refine own_iload C X at_222 rfl (pc' := 224) rfl ?_
        refine own_lload C X at_224 rfl (pc' := 226) rfl ?_
        refine own_lastore C X at_226 A_b2 (by decide) (i := 1) (Nat.le_of_ble_eq_true rfl) ge_b2 (pc' := 227) rfl ?_
        intro T h X K_ A_b2_
        have A_b2 : own_JA Z h b2 [fill, q4, v1, v2, v3, v4, v5, fill] := A_b2_
        have A_b1 := A_b1.keep K_ (ninS ne_b1_b2 nin0)
        refine own_aload C X at_227 rfl rfl (pc' := 229) rfl ?_
        refine own_iload C X at_229 rfl (pc' := 231) rfl ?_
        refine own_iload C X at_231 rfl (pc' := 233) rfl ?_
        refine own_iadd C X at_233 (z := 3) (by decide) (pc' := 234) rfl ?_
        refine own_lload C X at_234 rfl (pc' := 236) rfl ?_
        refine own_lastore C X at_236 A_b2 (by decide) (i := 3) (Nat.le_of_ble_eq_true rfl) ge_b2 (pc' := 237) rfl ?_
        intro T h X K_ A_b2_
        have A_b2 : own_JA Z h b2 [fill, q4, v1, q0, v3, v4, v5, fill] := A_b2_
        have A_b1 := A_b1.keep K_ (ninS ne_b1_b2 nin0)
        refine own_aload C X at_237 rfl rfl (pc' := 239) rfl ?_
        refine own_iload C X at_239 rfl (pc' := 241) rfl ?_
        refine own_iload C X at_241 rfl (pc' := 243) rfl ?_
        refine own_iadd C X at_243 (z := 7) (by decide) (pc' := 244) rfl ?_
        refine own_lload C X at_244 rfl (pc' := 246) rfl ?_
        refine own_lastore C X at_246 A_b2 (by decide) (i := 7) (Nat.le_of_ble_eq_true rfl) ge_b2 (pc' := 247) rfl ?_
        intro T h X K_ A_b2_
        have A_b2 : own_JA Z h b2 [fill, q4, v1, q0, v3, v4, v5, v2] := A_b2_
        have A_b1 := A_b1.keep K_ (ninS ne_b1_b2 nin0)
        refine own_goto C X at_247 (pc' := 291) (by decide) (by decide) ?_
        refine own_aload C X at_291 rfl rfl (pc' := 293) rfl ?_
        refine own_iload C X at_293 rfl (pc' := 295) rfl ?_
        refine own_iload C X at_295 rfl (pc' := 297) rfl ?_
        refine own_lload C X at_297 rfl (pc' := 299) rfl ?_
        refine own_callS C X at_299 (own_m_add612 l Z a0 hw b1 q4 _ n0 (own_big C X) fill q0 v1 v2 v3 v4 v5 fill A_b1 ge_b1 (own_ltt _ _ _ l_v2 hc216) hc216) (hw _ (List.mem_of_getElem? (i := 11) rfl)) (hw _ (List.mem_of_getElem? (i := 12) rfl)) (hw _ (List.mem_of_getElem? (i := 13) rfl)) (hw _ (List.mem_of_getElem? (i := 14) rfl)) (by decide) own_pd_5832 rfl rfl (Nat.le_of_ble_eq_true rfl) (Nat.le_of_ble_eq_true rfl) (Nat.le_of_ble_eq_true rfl) (Nat.le_of_ble_eq_true rfl) (av := [(.ref b1), (.int (1 : Int32)), (.int (6 : Int32)), (.long q4)]) (S := []) rfl (pc' := 302) rfl ?_
        intro T h v X hQ
        obtain ⟨rfl, K_, A_b1⟩ := hQ
        have A_b2 := A_b2.keep K_ (ninS (Ne.symm ne_b1_b2) nin0)
        show own_Go p e below n0 (own_Fin room_1 s (fun v h => v = some (.int 1))) (T.setTop (mkF m 302 #[.val (.long q0), .second, .val (.long q1), .second, .val (.long q2), .second, .val (.long q3), .second, .val (.long q4), .second, .val (.int i5), .val (.int (6 : Int32)), .val (.int (1 : Int32)), .val (.long q0), .second, .val (.long v1), .second, .val (.long v2), .second, .val (.long v3), .second, .val (.long v4), .second, .val (.long v5), .second, .val (.long fill), .second, .val (.ref b1), .val (.ref b2), .val (.int (6 : Int32)), .val (.int (2 : Int32)), .val (.long v2), .second] []))
        refine own_aload C X at_302 rfl rfl (pc' := 304) rfl ?_
        refine own_aload C X at_304 rfl rfl (pc' := 306) rfl ?_
        refine own_callS C X at_306 (own_m_same l Z a0 hw b1 b2 _ n0 (own_big C X) fill q4 v1 q0 v3 v4 v5 v2 A_b1 A_b2) (hw _ (List.mem_of_getElem? (i := 15) rfl)) (hw _ (List.mem_of_getElem? (i := 16) rfl)) (hw _ (List.mem_of_getElem? (i := 8) rfl)) (hw _ (List.mem_of_getElem? (i := 17) rfl)) (by decide) own_pd_5060 rfl rfl (Nat.le_of_ble_eq_true rfl) (Nat.le_of_ble_eq_true rfl) (Nat.le_of_ble_eq_true rfl) (Nat.le_of_ble_eq_true rfl) (av := [(.ref b1), (.ref b2)]) (S := []) rfl (pc' := 309) rfl ?_
        intro T h v X hQ
        obtain ⟨rfl, rfl⟩ := hQ
        show own_Go p e below n0 (own_Fin room_1 s (fun v h => v = some (.int 1))) (T.setTop (mkF m 309 #[.val (.long q0), .second, .val (.long q1), .second, .val (.long q2), .second, .val (.long q3), .second, .val (.long q4), .second, .val (.int i5), .val (.int (6 : Int32)), .val (.int (1 : Int32)), .val (.long q0), .second, .val (.long v1), .second, .val (.long v2), .second, .val (.long v3), .second, .val (.long v4), .second, .val (.long v5), .second, .val (.long fill), .second, .val (.ref b1), .val (.ref b2), .val (.int (6 : Int32)), .val (.int (2 : Int32)), .val (.long v2), .second] [(.int (1 : Int32))]))
        exact own_ireturn_z C X at_309 (Nat.le_of_ble_eq_true rfl) (Nat.le_of_ble_eq_true rfl) (rfl)
set_option maxRecDepth 65536 in
set_option maxHeartbeats 40000000 in
theorem own_comes {Post : Tables → Env → Array Value → State → Outcome → State → Prop} (hpost : ∀ tb e args s v u, (limb_1_1.after args s (.returned v) u = true ∧ limb_1_2.after args s (.returned v) u = true ∧ True) → FrameEnd s (.returned v) u (Jvm.fieldLocs frame_1_writes args s ++ Jvm.arrayLocs frame_1_arrays args s ++ Jvm.staticLocs frame_1_statics s) 16 128 → Post tb e args s (.returned v) u) :
    ArmFor flags0 classFile x code maxLocals ret World_1 tables_1 room_1 Calls_1 rest_1 Pre_1 Post := by
  intro l hfl _ _ p e ha hc hk s m args below hf hA hF happ hP
  obtain ⟨hcalls, hrest, hpre⟩ := hP
  obtain ⟨-, -, -, hnamed, -, -, -, hat⟩ := (Spec.applies_iff hf).mp happ
  obtain ⟨hg, hn⟩ := and_e (Cond.before_iff.mp (show (Jvm.Cond.and given_1 narrow_1).before args s = true from hpre))
  obtain ⟨gc, g0⟩ := and_e hg
  obtain ⟨k0, g1⟩ := and_e g0
  obtain ⟨k1, g2⟩ := and_e g1
  obtain ⟨k2, g3⟩ := and_e g2
  obtain ⟨k3, g4⟩ := and_e g3
  obtain ⟨k4, g5⟩ := and_e g4
  obtain ⟨w0, w1, w2, w3, w4, w5, rfl⟩ : ∃ w0 w1 w2 w3 w4 w5 : Value, args = #[w0, w1, w2, w3, w4, w5] := by
    have hs : args.size = 6 := by simpa [Cond.value, given_1] using gc
    obtain ⟨L⟩ := args
    match L, hs with
    | [w0, w1, w2, w3, w4, w5], _ => exact ⟨w0, w1, w2, w3, w4, w5, rfl⟩
  have hw := fun d (hd : d ∈ tables_1) => atoms_spec (ws := Jvm.Cond.code x code maxLocals ret :: tables_1) hat d (List.mem_cons_of_mem _ hd)
  obtain ⟨i0, ei0⟩ := isL_v k0
  obtain rfl : w0 = (.long i0) := Option.some.inj ei0
  obtain ⟨i1, ei1⟩ := isL_v k1
  obtain rfl : w1 = (.long i1) := Option.some.inj ei1
  obtain ⟨i2, ei2⟩ := isL_v k2
  obtain rfl : w2 = (.long i2) := Option.some.inj ei2
  obtain ⟨i3, ei3⟩ := isL_v k3
  obtain rfl : w3 = (.long i3) := Option.some.inj ei3
  obtain ⟨i4, ei4⟩ := isL_v k4
  obtain rfl : w4 = (.long i4) := Option.some.inj ei4
  obtain ⟨i5, ei5⟩ := is_v g5
  obtain rfl : w5 = (.int i5) := Option.some.inj ei5
  obtain ⟨n, o, h1, h2, h3, _, L, rfl, ⟨rfl, N⟩, hq⟩ := own_m_law l s _ hw tables_1 i0 i1 i2 i3 i4 i5 s.heap s.heap.size (Nat.le_refl _)  p e ha hc hk s m _ below hf ((Spec.applies_iff_loose hf).mp happ).1 ⟨rfl, State.Warmed39.refl s, rfl⟩ trivial
  refine ⟨n, _, h1, h2, h3, hpost _ _ _ _ _ _ ⟨Cond.after_iff.mpr rfl, Cond.after_iff.mpr (eq_i res_at (Term.int_eval (1)) rfl), trivial⟩ ⟨hq.1, hq.2.1, (hq.2.2.sift fun y hy => Or.inr (N y hy)).mono (by decide) (by decide)⟩⟩
theorem main_1_1 : Claimed_1_1 := own_comes fun _ _ _ _ _ _ h hF => ⟨h.1, hF⟩
theorem main_1_2 : Claimed_1_2 := own_comes fun _ _ _ _ _ _ h hF => ⟨h.2.1, hF⟩
end Jvm.Pilot.@@N@@
namespace Jvm.Pilot.@@N@@
open Jvm Jvm.ClassFile Sem Op Lib Jvm.Free Jvm.Stand Jvm.Pilot.@@N@@.Jvm.D
/-! MADE BY PROGRAM (witnessworld.py) out of the Statement's table words and the real class files: 12 classes; the members and pool entries that the words name. The judged class is class 1, her method 1. -/
namespace start1
open Jvm.ClassFile
def u (s : String) : CpInfo := .utf8 (stringToUtf16 s)
/-- a pool by its gaps: so many unusable entries, then the entry; so many at the end -/
def gap : Nat → List CpInfo → List CpInfo
  | 0, r => r
  | n + 1, r => .unusable :: gap n r
def poolList (es : List (Nat × CpInfo)) (last : Nat) : List CpInfo := es.foldr (fun e r => gap e.1 (e.2 :: r)) (gap last [])
def pool (es : List (Nat × CpInfo)) (last : Nat) : Array CpInfo := ⟨poolList es last⟩
def fileOf (pool : Array CpInfo) (this : Nat) (attrs : Array Attribute := #[]) (ms : Array MethodInfo := #[]) (fl : Nat := 33) (sup : Nat := 0) (ifs : Array Nat := #[]) (fds : Array FieldInfo := #[]) : ClassFile where
  minorVersion := 0
  majorVersion := 65
  constantPool := pool
  accessFlags := fl
  thisClass := this
  superClass := sup
  interfaces := ifs
  fields := fds
  methods := ms
  attributes := attrs
def plain (name : String) (sup : Option ClassId) : Class where
  name := name
  kind := .ordinary
  loader := none
  accessFlags := 33
  super := sup
  interfaces := #[]
  cf := none
  fields := #[]
  methods := #[]
  instanceTypes := #[]
  staticTypes := #[]
  resolved := #[]
  callSites := []
  init := .initialized
  statics := none
  mirror := none

def pool0 : Array CpInfo := pool [(5, u "<init>"), (0, u "()V"), (1, .class_ 10), (1, u "java/lang/Object")] 113

def k0m0 : Method := { name := "<init>", desc := "()V", sig := { parameters := [], returnType := none }, accessFlags := 1, code := none }
/-- java/lang/Object -/
def k0 : Class := { plain "java/lang/Object" none with
  accessFlags := 33
  interfaces := #[]
  cf := some (fileOf pool0 8 #[] #[{ accessFlags := 1, nameIndex := 5, descriptorIndex := 6, attributes := #[] }] 33 0 #[] #[])
  fields := #[]
  methods := #[k0m0]
  instanceTypes := #[]
  staticTypes := #[]
  resolved := Array.replicate 124 none
  statics := none }

def pool1 : Array CpInfo := pool [(2, .class_ 4), (1, u "java/lang/Object"), (0, u "<init>"), (0, u "()V"), (0, .integer 2147483647), (0, .methodref 9 10), (0, .class_ 11), (0, .nameAndType 12 13), (0, u "java/lang/Math"), (0, u "min"), (0, u "(JJ)J"), (0, .long 18446744073709551615), (1, .methodref 17 18), (0, .class_ 19), (0, .nameAndType 20 21), (0, u "com/example/stablemate/stablemate/SliceHeapsAddPinLaw"), (0, u "build"), (0, u "(JJJJJJIIJ)[J"), (0, .methodref 23 24), (0, .class_ 25), (0, .nameAndType 26 27), (0, u "com/example/stablemate/stablemate/SliceHeaps"), (0, u "add"), (0, u "([JIIJ)V"), (0, .methodref 17 29), (0, .nameAndType 30 31), (0, u "same"), (0, u "([J[J)Z"), (2, u "law"), (0, u "(JJJJJI)Z")] 5

def k1m0 : Method := { name := "<init>", desc := "()V", sig := { parameters := [], returnType := none }, accessFlags := 1, code := none }
def k1c1 : Code := { maxStack := 16, maxLocals := 33, code := code, exceptionTable := #[], attributes := #[] }
def k1m1 : Method := { name := "law", desc := "(JJJJJI)Z", sig := { parameters := [.long, .long, .long, .long, .long, .int], returnType := some .boolean }, accessFlags := 9, code := some k1c1 }
def k1c2 : Code := { maxStack := 5, maxLocals := 17, code := method_3_code, exceptionTable := #[], attributes := #[] }
def k1m2 : Method := { name := "build", desc := "(JJJJJJIIJ)[J", sig := { parameters := [.long, .long, .long, .long, .long, .long, .int, .int, .long], returnType := some (.array .long) }, accessFlags := 10, code := some k1c2 }
def k1c3 : Code := { maxStack := 4, maxLocals := 2, code := method_4_code, exceptionTable := #[], attributes := #[] }
def k1m3 : Method := { name := "same", desc := "([J[J)Z", sig := { parameters := [(.array .long), (.array .long)], returnType := some .boolean }, accessFlags := 10, code := some k1c3 }
/-- com/example/stablemate/stablemate/SliceHeapsAddPinLaw -/
def k1 : Class := { plain "com/example/stablemate/stablemate/SliceHeapsAddPinLaw" (some 0) with
  accessFlags := 49
  interfaces := #[]
  cf := some (fileOf pool1 17 #[] #[{ accessFlags := 1, nameIndex := 5, descriptorIndex := 6, attributes := #[] }, { accessFlags := 9, nameIndex := 34, descriptorIndex := 35, attributes := #[] }, { accessFlags := 10, nameIndex := 20, descriptorIndex := 21, attributes := #[] }, { accessFlags := 10, nameIndex := 30, descriptorIndex := 31, attributes := #[] }] 49 2 #[] #[])
  fields := #[]
  methods := #[k1m0, k1m1, k1m2, k1m3]
  instanceTypes := #[]
  staticTypes := #[]
  resolved := Array.replicate 41 none
  statics := none }

def pool2 : Array CpInfo := pool [(1, .class_ 2), (0, u "java/lang/Math"), (1, .class_ 6), (1, u "java/lang/Object"), (0, u "<init>"), (0, u "()V"), (89, .class_ 100), (1, u "java/lang/Math$RandomNumberGeneratorHolder"), (20, u "(JJ)J"), (50, u "negativeZeroFloatBits"), (0, u "J"), (2, u "negativeZeroDoubleBits"), (24, u "min"), (43, u "$assertionsDisabled"), (0, u "Z"), (91, u "twoToTheDoubleScaleDown"), (0, u "D"), (4, u "twoToTheDoubleScaleUp"), (9, u "E"), (3, u "PI"), (2, u "TAU"), (2, u "DEGREES_TO_RADIANS"), (0, u "RADIANS_TO_DEGREES")] 94

def k2m0 : Method := { name := "<init>", desc := "()V", sig := { parameters := [], returnType := none }, accessFlags := 2, code := none }
def k2c1 : Code := { maxStack := 4, maxLocals := 4, code := jdk_29_method_70_code, exceptionTable := #[], attributes := #[] }
def k2m1 : Method := { name := "min", desc := "(JJ)J", sig := { parameters := [.long, .long], returnType := some .long }, accessFlags := 9, code := some k2c1 }
/-- java/lang/Math -/
def k2 : Class := { plain "java/lang/Math" (some 0) with
  accessFlags := 49
  interfaces := #[]
  cf := some (fileOf pool2 1 #[.nestMembers #[98]] #[{ accessFlags := 2, nameIndex := 7, descriptorIndex := 8, attributes := #[] }, { accessFlags := 9, nameIndex := 201, descriptorIndex := 121, attributes := #[] }] 49 4 #[] #[{ accessFlags := 25, nameIndex := 354, descriptorIndex := 339, attributes := #[] }, { accessFlags := 25, nameIndex := 358, descriptorIndex := 339, attributes := #[] }, { accessFlags := 25, nameIndex := 361, descriptorIndex := 339, attributes := #[] }, { accessFlags := 26, nameIndex := 364, descriptorIndex := 339, attributes := #[] }, { accessFlags := 26, nameIndex := 365, descriptorIndex := 339, attributes := #[] }, { accessFlags := 26, nameIndex := 172, descriptorIndex := 173, attributes := #[] }, { accessFlags := 26, nameIndex := 176, descriptorIndex := 173, attributes := #[] }, { accessFlags := 8, nameIndex := 344, descriptorIndex := 339, attributes := #[] }, { accessFlags := 8, nameIndex := 338, descriptorIndex := 339, attributes := #[] }, { accessFlags := 4120, nameIndex := 245, descriptorIndex := 246, attributes := #[] }])
  fields := #[{ name := "E", type := .double, accessFlags := 25, slot := 0, constantValue := 0 }, { name := "PI", type := .double, accessFlags := 25, slot := 1, constantValue := 0 }, { name := "TAU", type := .double, accessFlags := 25, slot := 2, constantValue := 0 }, { name := "DEGREES_TO_RADIANS", type := .double, accessFlags := 26, slot := 3, constantValue := 0 }, { name := "RADIANS_TO_DEGREES", type := .double, accessFlags := 26, slot := 4, constantValue := 0 }, { name := "negativeZeroFloatBits", type := .long, accessFlags := 26, slot := 5, constantValue := 0 }, { name := "negativeZeroDoubleBits", type := .long, accessFlags := 26, slot := 6, constantValue := 0 }, { name := "twoToTheDoubleScaleUp", type := .double, accessFlags := 8, slot := 7, constantValue := 0 }, { name := "twoToTheDoubleScaleDown", type := .double, accessFlags := 8, slot := 8, constantValue := 0 }, { name := "$assertionsDisabled", type := .boolean, accessFlags := 4120, slot := 9, constantValue := 0 }]
  methods := #[k2m0, k2m1]
  instanceTypes := #[]
  staticTypes := #[.double, .double, .double, .double, .double, .long, .long, .double, .double, .boolean]
  resolved := Array.replicate 460 none
  statics := none }

def pool3 : Array CpInfo := pool [(2, .class_ 4), (1, u "java/lang/Object"), (0, u "<init>"), (0, u "()V"), (26, .class_ 34), (0, u "com/example/stablemate/stablemate/SliceHeaps"), (7, u "add"), (0, u "([JIIJ)V")] 3

def k3m0 : Method := { name := "<init>", desc := "()V", sig := { parameters := [], returnType := none }, accessFlags := 2, code := none }
def k3c1 : Code := { maxStack := 6, maxLocals := 6, code := prog_40_method_3_code, exceptionTable := #[], attributes := #[] }
def k3m1 : Method := { name := "add", desc := "([JIIJ)V", sig := { parameters := [(.array .long), .int, .int, .long], returnType := none }, accessFlags := 8, code := some k3c1 }
/-- com/example/stablemate/stablemate/SliceHeaps -/
def k3 : Class := { plain "com/example/stablemate/stablemate/SliceHeaps" (some 0) with
  accessFlags := 48
  interfaces := #[]
  cf := some (fileOf pool3 33 #[] #[{ accessFlags := 2, nameIndex := 5, descriptorIndex := 6, attributes := #[] }, { accessFlags := 8, nameIndex := 42, descriptorIndex := 43, attributes := #[] }] 48 2 #[] #[])
  fields := #[]
  methods := #[k3m0, k3m1]
  instanceTypes := #[]
  staticTypes := #[]
  resolved := Array.replicate 47 none
  statics := none }

def pool4 : Array CpInfo := pool [(1, u "java/lang/Cloneable"), (0, .class_ 1), (0, u "java/lang/Object"), (0, .class_ 3)] 3

/-- java/lang/Cloneable -/
def k4 : Class := { plain "java/lang/Cloneable" (some 0) with
  accessFlags := 1537
  interfaces := #[]
  cf := some (fileOf pool4 2 #[] #[] 1537 4 #[] #[])
  fields := #[]
  methods := #[]
  instanceTypes := #[]
  staticTypes := #[]
  resolved := Array.replicate 8 none
  statics := none }

def pool5 : Array CpInfo := pool [(1, u "java/io/Serializable"), (0, .class_ 1), (0, u "java/lang/Object"), (0, .class_ 3)] 3

/-- java/io/Serializable -/
def k5 : Class := { plain "java/io/Serializable" (some 0) with
  accessFlags := 1537
  interfaces := #[]
  cf := some (fileOf pool5 2 #[] #[] 1537 4 #[] #[])
  fields := #[]
  methods := #[]
  instanceTypes := #[]
  staticTypes := #[]
  resolved := Array.replicate 8 none
  statics := none }

/-- the primitive byte -/
def k6 : Class := { plain "byte" none with kind := .primitive 'B', accessFlags := 0x411 }
/-- [B -/
def k7 : Class := { plain "[B" (some 0) with kind := .array 6 .byte, interfaces := #[4, 5], accessFlags := 1041 }

/-- the primitive int -/
def k8 : Class := { plain "int" none with kind := .primitive 'I', accessFlags := 0x411 }
/-- [I -/
def k9 : Class := { plain "[I" (some 0) with kind := .array 8 .int, interfaces := #[4, 5], accessFlags := 1041 }

/-- the primitive long -/
def k10 : Class := { plain "long" none with kind := .primitive 'J', accessFlags := 0x411 }
/-- [J -/
def k11 : Class := { plain "[J" (some 0) with kind := .array 10 .long, interfaces := #[4, 5], accessFlags := 1041 }

def heap : Heap := #[]
def classes : Array Class := #[k0, k1, k2, k3, k4, k5, k6, k7, k8, k9, k10, k11]
def interned : List (Array UInt16 × Addr) := []
def slotsUsed : Nat := 0
def theMethod : MethodId := ⟨1, 1⟩
def args0 : Array Value := #[.long 5, .long 6, .long 7, .long 8, .long 9, .int 5]
def aboutOver (below : List Frame) : State where
  vm := { classes := classes, interned := interned.toArray }
  heap := heap
  slotsUsed := slotsUsed
  threads := #[{ frames := .invoking theMethod args0 :: below }]
def below0 : List Frame := [.native { method := ⟨0, 0⟩, args := #[] }]
def about1 : State := aboutOver below0
def p0 : Program := .bare "" "" ""
def e0 : Env := launch0.env 0 0 0
theorem w_frames : about1.frames = Frame.invoking theMethod args0 :: below0 := rfl
set_option maxRecDepth 65536 in
theorem w_args : argsFit about1.vm theMethod args0 = true := by decide +kernel
set_option maxRecDepth 65536 in
theorem w_heap : heapFits about1 = true := by decide +kernel
set_option maxRecDepth 65536 in
theorem w_runnable : about1.curStatus? = some .runnable := by decide +kernel
set_option maxRecDepth 65536 in
theorem w_alone : about1.alone = true := by decide +kernel
set_option maxRecDepth 65536 in
theorem w_named : about1.methodNamed? x = some theMethod := by decide +kernel
set_option maxRecDepth 65536 in
theorem w_hears : about1.hears theMethod below0 = true := by decide +kernel
set_option maxRecDepth 65536 in
theorem w_ripe : about1.ripe theMethod args0 below0 = true := by decide +kernel
theorem w_running : about1.status = .running := rfl
set_option maxRecDepth 65536 in
theorem w_room : about1.hasRoom e0.platform room_1 = true :=
  launch0.hasRoom_least _ room_1 (by decide +kernel) (by decide +kernel) (by decide +kernel) (by decide +kernel) (by decide +kernel) (by decide +kernel)
theorem allAtoms_all (ts : List Jvm.Cond) (a : Array Jvm.Value) (st : Jvm.State) : (allAtoms ts).before a st = ts.all (fun c => c.before a st) := by
  induction ts with
  | nil => rfl
  | cons c t ih =>
    show (Jvm.Cond.and c (allAtoms t)).before a st = _
    rw [Jvm.Cond.before_and, ih, List.all_cons]
def words1 : List Jvm.Cond := Jvm.Cond.code x code maxLocals ret :: tables_1
/-- a 'code' word, met by the world's own term for the bytes: nothing is compared byte by byte -/
theorem code_word {y : MethodName} {bytes : ByteArray} {mx : Nat} {rt : Option FieldType} {a : Array Value} {s : State} {m : MethodId} {meth : Method} {c : Code} (h1 : s.methodNamed? y = some m) (h2 : s.vm.method? m = some meth) (h3 : meth.code = some c) (h4 : c.code = bytes)
    (h5 : (c.maxLocals == mx && c.exceptionTable.isEmpty && decide (c.maxStack ≤ mostOperands) && decide (meth.sig.returnType = rt) && !meth.locks && decide (parseMethodDescriptor y.desc = some meth.sig)) = true) : (Jvm.Cond.code y bytes mx rt).before a s = true := by
  simp only [Bool.and_eq_true, beq_iff_eq, Bool.not_eq_true', decide_eq_true_eq] at h5
  obtain ⟨⟨⟨⟨⟨g1, g2⟩, g3⟩, g4⟩, g5⟩, g6⟩ := h5
  simp [Cond.before, Cond.holds, Cond.value, h1, h2, h3, h4, g1, g2, g3, g4, g5, g6]
def isCode : Jvm.Cond → Bool
  | .code _ _ _ _ => true
  | _ => false
theorem all_split {L : List Jvm.Cond} {P : Jvm.Cond → Bool} (h1 : L.all (fun c => isCode c || P c) = true) (h2 : ∀ c ∈ L.filter isCode, P c = true) : L.all P = true := by
  refine List.all_eq_true.mpr fun c hc => ?_
  have h := List.all_eq_true.mp h1 c hc
  rcases Bool.eq_false_or_eq_true (isCode c) with hi | hi
  · exact h2 c (List.mem_filter.mpr ⟨hc, hi⟩)
  · simpa [hi] using h
set_option maxRecDepth 65536 in
theorem w_c0 : (Jvm.Cond.code x code maxLocals ret).before args0 about1 = true := code_word (m := ⟨1, 1⟩) (meth := k1m1) (c := k1c1) (by decide +kernel) rfl rfl rfl (by decide +kernel)
set_option maxRecDepth 65536 in
theorem w_c1 : (Jvm.Cond.code ({ cls := "java/lang/Math", name := "min", desc := "(JJ)J" } : Jvm.MethodName) jdk_29_method_70_code (4 : Nat) (Option.some Jvm.ClassFile.FieldType.long)).before args0 about1 = true := code_word (m := ⟨2, 1⟩) (meth := k2m1) (c := k2c1) (by decide +kernel) rfl rfl rfl (by decide +kernel)
set_option maxRecDepth 65536 in
theorem w_c2 : (Jvm.Cond.code ({ cls := "com/example/stablemate/stablemate/SliceHeapsAddPinLaw", name := "build", desc := "(JJJJJJIIJ)[J" } : Jvm.MethodName) method_3_code (17 : Nat) (Option.some (Jvm.ClassFile.FieldType.array Jvm.ClassFile.FieldType.long))).before args0 about1 = true := code_word (m := ⟨1, 2⟩) (meth := k1m2) (c := k1c2) (by decide +kernel) rfl rfl rfl (by decide +kernel)
set_option maxRecDepth 65536 in
theorem w_c3 : (Jvm.Cond.code ({ cls := "com/example/stablemate/stablemate/SliceHeaps", name := "add", desc := "([JIIJ)V" } : Jvm.MethodName) prog_40_method_3_code (6 : Nat) (Option.none : Option Jvm.ClassFile.FieldType)).before args0 about1 = true := code_word (m := ⟨3, 1⟩) (meth := k3m1) (c := k3c1) (by decide +kernel) rfl rfl rfl (by decide +kernel)
set_option maxRecDepth 65536 in
theorem w_c4 : (Jvm.Cond.code ({ cls := "com/example/stablemate/stablemate/SliceHeapsAddPinLaw", name := "same", desc := "([J[J)Z" } : Jvm.MethodName) method_4_code (2 : Nat) (Option.some Jvm.ClassFile.FieldType.boolean)).before args0 about1 = true := code_word (m := ⟨1, 3⟩) (meth := k1m3) (c := k1c3) (by decide +kernel) rfl rfl rfl (by decide +kernel)
def codes1 : List Jvm.Cond := [Jvm.Cond.code x code maxLocals ret, Jvm.Cond.code ({ cls := "java/lang/Math", name := "min", desc := "(JJ)J" } : Jvm.MethodName) jdk_29_method_70_code (4 : Nat) (Option.some Jvm.ClassFile.FieldType.long), Jvm.Cond.code ({ cls := "com/example/stablemate/stablemate/SliceHeapsAddPinLaw", name := "build", desc := "(JJJJJJIIJ)[J" } : Jvm.MethodName) method_3_code (17 : Nat) (Option.some (Jvm.ClassFile.FieldType.array Jvm.ClassFile.FieldType.long)), Jvm.Cond.code ({ cls := "com/example/stablemate/stablemate/SliceHeaps", name := "add", desc := "([JIIJ)V" } : Jvm.MethodName) prog_40_method_3_code (6 : Nat) (Option.none : Option Jvm.ClassFile.FieldType), Jvm.Cond.code ({ cls := "com/example/stablemate/stablemate/SliceHeapsAddPinLaw", name := "same", desc := "([J[J)Z" } : Jvm.MethodName) method_4_code (2 : Nat) (Option.some Jvm.ClassFile.FieldType.boolean)]
set_option maxRecDepth 65536 in
theorem codes_eq : words1.filter isCode = codes1 := rfl
theorem w_codes : ∀ c ∈ words1.filter isCode, c.before args0 about1 = true := by
  rw [codes_eq]
  intro c hc
  simp only [codes1, List.mem_cons, List.not_mem_nil, or_false] at hc
  rcases hc with rfl | rfl | rfl | rfl | rfl
  · exact w_c0
  · exact w_c1
  · exact w_c2
  · exact w_c3
  · exact w_c4
set_option maxRecDepth 65536 in
theorem w_t1 : words1.all (fun c => isCode c || c.before args0 about1) = true := by decide +kernel
theorem w_tables : (allAtoms (Jvm.Cond.code x code maxLocals ret :: tables_1)).before args0 about1 = true := by
  rw [allAtoms_all]
  show words1.all (fun c => c.before args0 about1) = true
  refine all_split ?_ w_codes
  rw [w_t1]
set_option maxRecDepth 65536 in
theorem w_case : (Jvm.Cond.and given_1 narrow_1).before args0 about1 = true := by decide +kernel
theorem w_applies : (headSpec (Jvm.Cond.code x code maxLocals ret :: tables_1) room_1).applies x e0.platform about1 = true :=
  (Spec.applies_iff w_frames).mpr ⟨w_running, w_runnable, w_alone, w_named, w_hears, w_ripe, w_room, w_tables⟩
theorem atStart : AtStart classFile x code maxLocals ret World_1 tables_1 room_1 Calls_1 rest_1 Pre_1 launch0 p0 e0 about1 theMethod args0 below0 :=
  ⟨lists_1, trivial, launch0.admits_env _ _ _, launch0.least_env, fairChoices_fair.cas, fairChoices_fair.clock, w_frames, w_args, w_heap, w_applies, trivial, trivial, w_case⟩
end start1
theorem witness_1 : WitnessClaimed_1 := ⟨start1.p0, start1.e0, start1.about1, start1.theMethod, start1.args0, start1.below0, start1.atStart⟩
end Jvm.Pilot.@@N@@

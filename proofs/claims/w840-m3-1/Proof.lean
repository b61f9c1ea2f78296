import JvmDerived
import JvmDerived.Pilot.@@N@@Statement
import JvmDerived.Pilot.@@N@@Code
set_option linter.unusedVariables false
set_option linter.unusedSimpArgs false
namespace Jvm.Pilot.@@N@@
open Jvm Jvm.ClassFile Sem Op Lib Jvm.Free Jvm.Stand Jvm.LawKit Jvm.RoadKit Bundle Jvm.Pilot.@@N@@.Jvm.D
section OwnKit
def own_Cx (p : Program) (s : State) (m : MethodId) (meth : Method) (c : Code) (Z : State) (n0 : Nat) (own nm : String) (bytes : ByteArray) (ml : Nat) (ret : Option FieldType) : Prop :=
  p.tables.exec = Jvm.exec ∧ c.code = bytes ∧ c.maxLocals = ml ∧ s.vm.findClass own = some m.cls ∧ meth.name = nm ∧ meth.sig.returnType = ret ∧ meth.locks = false ∧ Z.Warmed39 s.vm ∧ n0 ≤ s.heap.size
def own_St (p : Program) (l : Launch) (e : Env) (R : Room) (s : State) (m : MethodId) (args : Array Value) (below : List Frame) (meth : Method) (c : Code) (n0 : Nat) (T : State) (h : Heap) (cells slots : Nat) : Prop :=
  ∃ locs, Stand p l e R s m args below meth c T locs cells slots ∧ Fr n0 locs ∧ T.heap = h
def own_Go (p : Program) (e : Env) (below : List Frame) (n0 : Nat) (F : Option Value → State → List Loc → Prop) (S : State) : Prop :=
  ∃ t v L, Steps p.tables e below S t ∧ t.status = .running ∧ Ended t below (.returned v) ∧ Fr n0 L ∧ F v t L
def own_Fin (R : Room) (s : State) (Q : Option Value → Heap → Prop) : Option Value → State → List Loc → Prop := fun v t L => Q v t.heap ∧ FrameEnd s (.returned v) t L R.cells R.slots
abbrev own_Met (l : Launch) (Z : State) (n0 : Nat) (y : MethodName) (bytes : ByteArray) (ml : Nat) (ret : Option FieldType) (ws : List Jvm.Cond) (rm : Room) (as' : Array Value) (h0 : Heap) (Q : Option Value → Heap → Prop) : Prop :=
  MetFree l y (head1 (Jvm.Cond.code y bytes ml ret :: ws) rm) (fun a U => a = as' ∧ Z.Warmed39 U.vm ∧ U.heap = h0) (fun _ _ _ _ _ => True) (fun _ U o U' => ∃ v L, o = .returned v ∧ (Q v U'.heap ∧ Fr n0 L) ∧ FrameEnd U o U' L rm.cells rm.slots)
variable {p : Program} {l : Launch} {e : Env} {R : Room} {s : State} {m : MethodId} {args : Array Value} {below : List Frame} {meth : Method} {c : Code} {T : State} {cells slots : Nat} {Z : State} {a0 : Array Value} {h h' : Heap} {n0 : Nat} {own nm : String} {bytes : ByteArray} {ml : Nat} {ret : Option FieldType} {Q : Option Value → Heap → Prop} {F : Option Value → State → List Loc → Prop} {pc pc' pcT : Nat} {L L' : Array Slot} {S : List Value}
theorem own_st {A B : State} (k : ∀ t, Steps p.tables e below B t → Steps p.tables e below A t) (g : own_Go p e below n0 F B) : own_Go p e below n0 F A := by
  obtain ⟨t, v, L, h1, r⟩ := g; exact ⟨t, v, L, k t h1, r⟩
theorem own_big (C : own_Cx p s m meth c Z n0 own nm bytes ml ret) (X : own_St p l e R s m args below meth c n0 T h cells slots) : n0 ≤ h.size := by
  obtain ⟨locs, X, -, rfl⟩ := X; exact Nat.le_trans C.2.2.2.2.2.2.2.2 X.same.2.1
/-- a body's contract out of its run -/
theorem own_body {y : MethodName} {ws : List Jvm.Cond} {rm : Room} {as' : Array Value} {h0 : Heap} {Ls : Array Slot} (hpl : plainFor y = true) (hn : n0 ≤ h0.size) (hef : ∀ m, entryFrame m as' ml = mkF m 0 Ls [])
    (run : ∀ p e s m below meth c T, own_Cx p s m meth c Z n0 y.cls y.name bytes ml ret → own_St p l e rm s m as' below meth c n0 T h0 0 0 → own_Go p e below n0 (own_Fin rm s Q) (T.setTop (mkF m 0 Ls []))) :
    own_Met l Z n0 y bytes ml ret ws rm as' h0 Q := by
  refine MetFree.of_bodySF hpl hisR ?_
  intro p e s m args below meth c s₁ Bd hml0 hP hK
  obtain ⟨rfl, hZ, hh⟩ := hP
  have X0 : Stand p l e rm s m args below meth c s₁ [] 0 0 := Stand.of_body Bd
  have e0 : s₁.heap = h0 := by rw [← hh, Bd.state]; rfl
  obtain ⟨t, v, L, g1, g2, g3, g5, g4, g6⟩ := run p e s m below meth c s₁ ⟨Bd.exec, Bd.bytes, hml0, findClass_of_methodNamed Bd.named, (name_of_methodNamed Bd.named Bd.method).1, Bd.returns, Bd.notSynchronized, hZ, by rw [hh]; exact hn⟩ ⟨[], X0, Fr.nil n0, e0⟩
  exact ⟨t, .returned v, castTop (hef m) g1, g2, g3, v, L, rfl, ⟨g4, g5⟩, g6⟩

theorem own_iload (C : own_Cx p s m meth c Z n0 own nm bytes ml ret) (X : own_St p l e R s m args below meth c n0 T h cells slots) {k : Nat} {v : Int32} (hd : decode bytes pc = .ok (.iload k, 2)) (hl : L[k]? = some (.val (.int v))) (hp : pc + 2 = pc') (g : own_Go p e below n0 F (T.setTop (mkF m pc' L (.int v :: S)))) : own_Go p e below n0 F (T.setTop (mkF m pc L (S))) := by
  obtain ⟨locs, X, -, -⟩ := X; subst hp
  exact own_st (fun t k => XS.iload X.here C.1 rfl (hb C.2.1 hd) hl k) g
theorem own_iloadN (C : own_Cx p s m meth c Z n0 own nm bytes ml ret) (X : own_St p l e R s m args below meth c n0 T h cells slots) {k : Fin 4} {v : Int32} (hd : decode bytes pc = .ok (.iload_n k, 1)) (hl : L[k.val]? = some (.val (.int v))) (hp : pc + 1 = pc') (g : own_Go p e below n0 F (T.setTop (mkF m pc' L (.int v :: S)))) : own_Go p e below n0 F (T.setTop (mkF m pc L (S))) := by
  obtain ⟨locs, X, -, -⟩ := X; subst hp
  exact own_st (fun t k => XS.iloadN X.here C.1 rfl (hb C.2.1 hd) hl k) g
theorem own_istore (C : own_Cx p s m meth c Z n0 own nm bytes ml ret) (X : own_St p l e R s m args below meth c n0 T h cells slots) {k : Nat} {v : Int32} (hd : decode bytes pc = .ok (.istore k, 2)) (hl : storeLocals L k (.int v) = some L') (hp : pc + 2 = pc') (g : own_Go p e below n0 F (T.setTop (mkF m pc' L' (S)))) : own_Go p e below n0 F (T.setTop (mkF m pc L (.int v :: S))) := by
  obtain ⟨locs, X, -, -⟩ := X; subst hp
  exact own_st (fun t k => XS.istore X.here C.1 rfl (hb C.2.1 hd) rfl hl k) g
theorem own_istoreN (C : own_Cx p s m meth c Z n0 own nm bytes ml ret) (X : own_St p l e R s m args below meth c n0 T h cells slots) {k : Fin 4} {v : Int32} (hd : decode bytes pc = .ok (.istore_n k, 1)) (hl : storeLocals L k.val (.int v) = some L') (hp : pc + 1 = pc') (g : own_Go p e below n0 F (T.setTop (mkF m pc' L' (S)))) : own_Go p e below n0 F (T.setTop (mkF m pc L (.int v :: S))) := by
  obtain ⟨locs, X, -, -⟩ := X; subst hp
  exact own_st (fun t k => XS.istoreN X.here C.1 rfl (hb C.2.1 hd) rfl hl k) g
theorem own_lload (C : own_Cx p s m meth c Z n0 own nm bytes ml ret) (X : own_St p l e R s m args below meth c n0 T h cells slots) {k : Nat} {v : Int64} (hd : decode bytes pc = .ok (.lload k, 2)) (hl : L[k]? = some (.val (.long v))) (hp : pc + 2 = pc') (g : own_Go p e below n0 F (T.setTop (mkF m pc' L (.long v :: S)))) : own_Go p e below n0 F (T.setTop (mkF m pc L (S))) := by
  obtain ⟨locs, X, -, -⟩ := X; subst hp
  exact own_st (fun t k => XS.lload X.here C.1 rfl (hb C.2.1 hd) hl k) g
theorem own_lloadN (C : own_Cx p s m meth c Z n0 own nm bytes ml ret) (X : own_St p l e R s m args below meth c n0 T h cells slots) {k : Fin 4} {v : Int64} (hd : decode bytes pc = .ok (.lload_n k, 1)) (hl : L[k.val]? = some (.val (.long v))) (hp : pc + 1 = pc') (g : own_Go p e below n0 F (T.setTop (mkF m pc' L (.long v :: S)))) : own_Go p e below n0 F (T.setTop (mkF m pc L (S))) := by
  obtain ⟨locs, X, -, -⟩ := X; subst hp
  exact own_st (fun t k => XS.lloadN X.here C.1 rfl (hb C.2.1 hd) hl k) g
theorem own_lstore (C : own_Cx p s m meth c Z n0 own nm bytes ml ret) (X : own_St p l e R s m args below meth c n0 T h cells slots) {k : Nat} {v : Int64} (hd : decode bytes pc = .ok (.lstore k, 2)) (hl : storeLocals L k (.long v) = some L') (hp : pc + 2 = pc') (g : own_Go p e below n0 F (T.setTop (mkF m pc' L' (S)))) : own_Go p e below n0 F (T.setTop (mkF m pc L (.long v :: S))) := by
  obtain ⟨locs, X, -, -⟩ := X; subst hp
  exact own_st (fun t k => XS.lstore X.here C.1 rfl (hb C.2.1 hd) rfl hl k) g
theorem own_lstoreN (C : own_Cx p s m meth c Z n0 own nm bytes ml ret) (X : own_St p l e R s m args below meth c n0 T h cells slots) {k : Fin 4} {v : Int64} (hd : decode bytes pc = .ok (.lstore_n k, 1)) (hl : storeLocals L k.val (.long v) = some L') (hp : pc + 1 = pc') (g : own_Go p e below n0 F (T.setTop (mkF m pc' L' (S)))) : own_Go p e below n0 F (T.setTop (mkF m pc L (.long v :: S))) := by
  obtain ⟨locs, X, -, -⟩ := X; subst hp
  exact own_st (fun t k => XS.lstoreN X.here C.1 rfl (hb C.2.1 hd) rfl hl k) g
theorem own_aload (C : own_Cx p s m meth c Z n0 own nm bytes ml ret) (X : own_St p l e R s m args below meth c n0 T h cells slots) {k : Nat} {v : Value} (hd : decode bytes pc = .ok (.aload k, 2)) (hl : L[k]? = some (.val v)) (hv : v.isRef = true) (hp : pc + 2 = pc') (g : own_Go p e below n0 F (T.setTop (mkF m pc' L (v :: S)))) : own_Go p e below n0 F (T.setTop (mkF m pc L (S))) := by
  obtain ⟨locs, X, -, -⟩ := X; subst hp
  exact own_st (fun t k => XS.aload X.here C.1 rfl (hb C.2.1 hd) hl hv k) g
theorem own_aloadN (C : own_Cx p s m meth c Z n0 own nm bytes ml ret) (X : own_St p l e R s m args below meth c n0 T h cells slots) {k : Fin 4} {v : Value} (hd : decode bytes pc = .ok (.aload_n k, 1)) (hl : L[k.val]? = some (.val v)) (hv : v.isRef = true) (hp : pc + 1 = pc') (g : own_Go p e below n0 F (T.setTop (mkF m pc' L (v :: S)))) : own_Go p e below n0 F (T.setTop (mkF m pc L (S))) := by
  obtain ⟨locs, X, -, -⟩ := X; subst hp
  exact own_st (fun t k => XS.aloadN X.here C.1 rfl (hb C.2.1 hd) hl hv k) g
theorem own_astore (C : own_Cx p s m meth c Z n0 own nm bytes ml ret) (X : own_St p l e R s m args below meth c n0 T h cells slots) {k : Nat} {v : Value} (hd : decode bytes pc = .ok (.astore k, 2)) (hv : v.isRef = true) (hl : storeLocals L k v = some L') (hp : pc + 2 = pc') (g : own_Go p e below n0 F (T.setTop (mkF m pc' L' (S)))) : own_Go p e below n0 F (T.setTop (mkF m pc L (v :: S))) := by
  obtain ⟨locs, X, -, -⟩ := X; subst hp
  exact own_st (fun t k => XS.astore X.here C.1 rfl (hb C.2.1 hd) rfl hv hl k) g
theorem own_astoreN (C : own_Cx p s m meth c Z n0 own nm bytes ml ret) (X : own_St p l e R s m args below meth c n0 T h cells slots) {k : Fin 4} {v : Value} (hd : decode bytes pc = .ok (.astore_n k, 1)) (hv : v.isRef = true) (hl : storeLocals L k.val v = some L') (hp : pc + 1 = pc') (g : own_Go p e below n0 F (T.setTop (mkF m pc' L' (S)))) : own_Go p e below n0 F (T.setTop (mkF m pc L (v :: S))) := by
  obtain ⟨locs, X, -, -⟩ := X; subst hp
  exact own_st (fun t k => XS.astoreN X.here C.1 rfl (hb C.2.1 hd) rfl hv hl k) g
theorem own_iconst (C : own_Cx p s m meth c Z n0 own nm bytes ml ret) (X : own_St p l e R s m args below meth c n0 T h cells slots) {i : Int} {v : Int32} (hd : decode bytes pc = .ok (.iconst i, 1)) (hv : Int32.ofInt i = v) (hp : pc + 1 = pc') (g : own_Go p e below n0 F (T.setTop (mkF m pc' L (.int v :: S)))) : own_Go p e below n0 F (T.setTop (mkF m pc L (S))) := by
  obtain ⟨locs, X, -, -⟩ := X; subst hp hv
  exact own_st (fun t k => XS.iconst X.here C.1 rfl (hb C.2.1 hd) k) g
theorem own_bipush (C : own_Cx p s m meth c Z n0 own nm bytes ml ret) (X : own_St p l e R s m args below meth c n0 T h cells slots) {i : Int} {v : Int32} (hd : decode bytes pc = .ok (.bipush i, 2)) (hv : (Int8.ofInt i).toInt32 = v) (hp : pc + 2 = pc') (g : own_Go p e below n0 F (T.setTop (mkF m pc' L (.int v :: S)))) : own_Go p e below n0 F (T.setTop (mkF m pc L (S))) := by
  obtain ⟨locs, X, -, -⟩ := X; subst hp hv
  exact own_st (fun t k => XS.bipush X.here C.1 rfl (hb C.2.1 hd) k) g
theorem own_sipush (C : own_Cx p s m meth c Z n0 own nm bytes ml ret) (X : own_St p l e R s m args below meth c n0 T h cells slots) {i : Int} {v : Int32} (hd : decode bytes pc = .ok (.sipush i, 3)) (hv : (Int16.ofInt i).toInt32 = v) (hp : pc + 3 = pc') (g : own_Go p e below n0 F (T.setTop (mkF m pc' L (.int v :: S)))) : own_Go p e below n0 F (T.setTop (mkF m pc L (S))) := by
  obtain ⟨locs, X, -, -⟩ := X; subst hp hv
  exact own_st (fun t k => XS.sipush X.here C.1 rfl (hb C.2.1 hd) k) g
theorem own_lconst (C : own_Cx p s m meth c Z n0 own nm bytes ml ret) (X : own_St p l e R s m args below meth c n0 T h cells slots) {i : Fin 2} {v : Int64} (hd : decode bytes pc = .ok (.lconst i, 1)) (hv : Int64.ofNat i = v) (hp : pc + 1 = pc') (g : own_Go p e below n0 F (T.setTop (mkF m pc' L (.long v :: S)))) : own_Go p e below n0 F (T.setTop (mkF m pc L (S))) := by
  obtain ⟨locs, X, -, -⟩ := X; subst hp hv
  exact own_st (fun t k => XS.lconst X.here C.1 rfl (hb C.2.1 hd) k) g
theorem own_aconst_null (C : own_Cx p s m meth c Z n0 own nm bytes ml ret) (X : own_St p l e R s m args below meth c n0 T h cells slots)  (hd : decode bytes pc = .ok (.aconst_null, 1))  (hp : pc + 1 = pc') (g : own_Go p e below n0 F (T.setTop (mkF m pc' L (.null :: S)))) : own_Go p e below n0 F (T.setTop (mkF m pc L (S))) := by
  obtain ⟨locs, X, -, -⟩ := X; subst hp
  exact own_st (fun t k => XS.aconstNull X.here C.1 rfl (hb C.2.1 hd) k) g
theorem own_iadd (C : own_Cx p s m meth c Z n0 own nm bytes ml ret) (X : own_St p l e R s m args below meth c n0 T h cells slots) {x y z : Int32} (hd : decode bytes pc = .ok (.iadd, 1)) (hz : x + y = z) (hp : pc + 1 = pc') (g : own_Go p e below n0 F (T.setTop (mkF m pc' L (.int z :: S)))) : own_Go p e below n0 F (T.setTop (mkF m pc L (.int y :: .int x :: S))) := by
  obtain ⟨locs, X, -, -⟩ := X; subst hp hz
  exact own_st (fun t k => XS.iadd X.here C.1 rfl (hb C.2.1 hd) rfl k) g
theorem own_ladd (C : own_Cx p s m meth c Z n0 own nm bytes ml ret) (X : own_St p l e R s m args below meth c n0 T h cells slots) {x y z : Int64} (hd : decode bytes pc = .ok (.ladd, 1)) (hz : x + y = z) (hp : pc + 1 = pc') (g : own_Go p e below n0 F (T.setTop (mkF m pc' L (.long z :: S)))) : own_Go p e below n0 F (T.setTop (mkF m pc L (.long y :: .long x :: S))) := by
  obtain ⟨locs, X, -, -⟩ := X; subst hp hz
  exact own_st (fun t k => XS.ladd X.here C.1 rfl (hb C.2.1 hd) rfl k) g
theorem own_isub (C : own_Cx p s m meth c Z n0 own nm bytes ml ret) (X : own_St p l e R s m args below meth c n0 T h cells slots) {x y z : Int32} (hd : decode bytes pc = .ok (.isub, 1)) (hz : x - y = z) (hp : pc + 1 = pc') (g : own_Go p e below n0 F (T.setTop (mkF m pc' L (.int z :: S)))) : own_Go p e below n0 F (T.setTop (mkF m pc L (.int y :: .int x :: S))) := by
  obtain ⟨locs, X, -, -⟩ := X; subst hp hz
  exact own_st (fun t k => XS.isub X.here C.1 rfl (hb C.2.1 hd) rfl k) g
theorem own_lsub (C : own_Cx p s m meth c Z n0 own nm bytes ml ret) (X : own_St p l e R s m args below meth c n0 T h cells slots) {x y z : Int64} (hd : decode bytes pc = .ok (.lsub, 1)) (hz : x - y = z) (hp : pc + 1 = pc') (g : own_Go p e below n0 F (T.setTop (mkF m pc' L (.long z :: S)))) : own_Go p e below n0 F (T.setTop (mkF m pc L (.long y :: .long x :: S))) := by
  obtain ⟨locs, X, -, -⟩ := X; subst hp hz
  exact own_st (fun t k => XS.lsub X.here C.1 rfl (hb C.2.1 hd) rfl k) g
theorem own_imul (C : own_Cx p s m meth c Z n0 own nm bytes ml ret) (X : own_St p l e R s m args below meth c n0 T h cells slots) {x y z : Int32} (hd : decode bytes pc = .ok (.imul, 1)) (hz : x * y = z) (hp : pc + 1 = pc') (g : own_Go p e below n0 F (T.setTop (mkF m pc' L (.int z :: S)))) : own_Go p e below n0 F (T.setTop (mkF m pc L (.int y :: .int x :: S))) := by
  obtain ⟨locs, X, -, -⟩ := X; subst hp hz
  exact own_st (fun t k => XS.imul X.here C.1 rfl (hb C.2.1 hd) rfl k) g
theorem own_lmul (C : own_Cx p s m meth c Z n0 own nm bytes ml ret) (X : own_St p l e R s m args below meth c n0 T h cells slots) {x y z : Int64} (hd : decode bytes pc = .ok (.lmul, 1)) (hz : x * y = z) (hp : pc + 1 = pc') (g : own_Go p e below n0 F (T.setTop (mkF m pc' L (.long z :: S)))) : own_Go p e below n0 F (T.setTop (mkF m pc L (.long y :: .long x :: S))) := by
  obtain ⟨locs, X, -, -⟩ := X; subst hp hz
  exact own_st (fun t k => XS.lmul X.here C.1 rfl (hb C.2.1 hd) rfl k) g
theorem own_iand (C : own_Cx p s m meth c Z n0 own nm bytes ml ret) (X : own_St p l e R s m args below meth c n0 T h cells slots) {x y z : Int32} (hd : decode bytes pc = .ok (.iand, 1)) (hz : x &&& y = z) (hp : pc + 1 = pc') (g : own_Go p e below n0 F (T.setTop (mkF m pc' L (.int z :: S)))) : own_Go p e below n0 F (T.setTop (mkF m pc L (.int y :: .int x :: S))) := by
  obtain ⟨locs, X, -, -⟩ := X; subst hp hz
  exact own_st (fun t k => XS.iand X.here C.1 rfl (hb C.2.1 hd) rfl k) g
theorem own_land (C : own_Cx p s m meth c Z n0 own nm bytes ml ret) (X : own_St p l e R s m args below meth c n0 T h cells slots) {x y z : Int64} (hd : decode bytes pc = .ok (.land, 1)) (hz : x &&& y = z) (hp : pc + 1 = pc') (g : own_Go p e below n0 F (T.setTop (mkF m pc' L (.long z :: S)))) : own_Go p e below n0 F (T.setTop (mkF m pc L (.long y :: .long x :: S))) := by
  obtain ⟨locs, X, -, -⟩ := X; subst hp hz
  exact own_st (fun t k => XS.land X.here C.1 rfl (hb C.2.1 hd) rfl k) g
theorem own_ior (C : own_Cx p s m meth c Z n0 own nm bytes ml ret) (X : own_St p l e R s m args below meth c n0 T h cells slots) {x y z : Int32} (hd : decode bytes pc = .ok (.ior, 1)) (hz : x ||| y = z) (hp : pc + 1 = pc') (g : own_Go p e below n0 F (T.setTop (mkF m pc' L (.int z :: S)))) : own_Go p e below n0 F (T.setTop (mkF m pc L (.int y :: .int x :: S))) := by
  obtain ⟨locs, X, -, -⟩ := X; subst hp hz
  exact own_st (fun t k => XS.ior X.here C.1 rfl (hb C.2.1 hd) rfl k) g
theorem own_lor (C : own_Cx p s m meth c Z n0 own nm bytes ml ret) (X : own_St p l e R s m args below meth c n0 T h cells slots) {x y z : Int64} (hd : decode bytes pc = .ok (.lor, 1)) (hz : x ||| y = z) (hp : pc + 1 = pc') (g : own_Go p e below n0 F (T.setTop (mkF m pc' L (.long z :: S)))) : own_Go p e below n0 F (T.setTop (mkF m pc L (.long y :: .long x :: S))) := by
  obtain ⟨locs, X, -, -⟩ := X; subst hp hz
  exact own_st (fun t k => XS.lor X.here C.1 rfl (hb C.2.1 hd) rfl k) g
theorem own_ixor (C : own_Cx p s m meth c Z n0 own nm bytes ml ret) (X : own_St p l e R s m args below meth c n0 T h cells slots) {x y z : Int32} (hd : decode bytes pc = .ok (.ixor, 1)) (hz : x ^^^ y = z) (hp : pc + 1 = pc') (g : own_Go p e below n0 F (T.setTop (mkF m pc' L (.int z :: S)))) : own_Go p e below n0 F (T.setTop (mkF m pc L (.int y :: .int x :: S))) := by
  obtain ⟨locs, X, -, -⟩ := X; subst hp hz
  exact own_st (fun t k => XS.ixor X.here C.1 rfl (hb C.2.1 hd) rfl k) g
theorem own_lxor (C : own_Cx p s m meth c Z n0 own nm bytes ml ret) (X : own_St p l e R s m args below meth c n0 T h cells slots) {x y z : Int64} (hd : decode bytes pc = .ok (.lxor, 1)) (hz : x ^^^ y = z) (hp : pc + 1 = pc') (g : own_Go p e below n0 F (T.setTop (mkF m pc' L (.long z :: S)))) : own_Go p e below n0 F (T.setTop (mkF m pc L (.long y :: .long x :: S))) := by
  obtain ⟨locs, X, -, -⟩ := X; subst hp hz
  exact own_st (fun t k => XS.lxor X.here C.1 rfl (hb C.2.1 hd) rfl k) g
theorem own_ishl (C : own_Cx p s m meth c Z n0 own nm bytes ml ret) (X : own_St p l e R s m args below meth c n0 T h cells slots) {x y z : Int32} (hd : decode bytes pc = .ok (.ishl, 1)) (hz : x <<< (y &&& 31) = z) (hp : pc + 1 = pc') (g : own_Go p e below n0 F (T.setTop (mkF m pc' L (.int z :: S)))) : own_Go p e below n0 F (T.setTop (mkF m pc L (.int y :: .int x :: S))) := by
  obtain ⟨locs, X, -, -⟩ := X; subst hp hz
  exact own_st (fun t k => XS.ishl X.here C.1 rfl (hb C.2.1 hd) rfl k) g
theorem own_ishr (C : own_Cx p s m meth c Z n0 own nm bytes ml ret) (X : own_St p l e R s m args below meth c n0 T h cells slots) {x y z : Int32} (hd : decode bytes pc = .ok (.ishr, 1)) (hz : x >>> (y &&& 31) = z) (hp : pc + 1 = pc') (g : own_Go p e below n0 F (T.setTop (mkF m pc' L (.int z :: S)))) : own_Go p e below n0 F (T.setTop (mkF m pc L (.int y :: .int x :: S))) := by
  obtain ⟨locs, X, -, -⟩ := X; subst hp hz
  exact own_st (fun t k => XS.ishr X.here C.1 rfl (hb C.2.1 hd) rfl k) g
theorem own_iushr (C : own_Cx p s m meth c Z n0 own nm bytes ml ret) (X : own_St p l e R s m args below meth c n0 T h cells slots) {x y z : Int32} (hd : decode bytes pc = .ok (.iushr, 1)) (hz : (x.toUInt32 >>> (y &&& 31).toUInt32).toInt32 = z) (hp : pc + 1 = pc') (g : own_Go p e below n0 F (T.setTop (mkF m pc' L (.int z :: S)))) : own_Go p e below n0 F (T.setTop (mkF m pc L (.int y :: .int x :: S))) := by
  obtain ⟨locs, X, -, -⟩ := X; subst hp hz
  exact own_st (fun t k => XS.iushr X.here C.1 rfl (hb C.2.1 hd) rfl k) g
theorem own_lshl (C : own_Cx p s m meth c Z n0 own nm bytes ml ret) (X : own_St p l e R s m args below meth c n0 T h cells slots) {x z : Int64} {y : Int32} (hd : decode bytes pc = .ok (.lshl, 1)) (hz : x <<< (y &&& 0x3f).toInt64 = z) (hp : pc + 1 = pc') (g : own_Go p e below n0 F (T.setTop (mkF m pc' L (.long z :: S)))) : own_Go p e below n0 F (T.setTop (mkF m pc L (.int y :: .long x :: S))) := by
  obtain ⟨locs, X, -, -⟩ := X; subst hp hz
  exact own_st (fun t k => XS.lshl X.here C.1 rfl (hb C.2.1 hd) rfl k) g
theorem own_lshr (C : own_Cx p s m meth c Z n0 own nm bytes ml ret) (X : own_St p l e R s m args below meth c n0 T h cells slots) {x z : Int64} {y : Int32} (hd : decode bytes pc = .ok (.lshr, 1)) (hz : x >>> (y &&& 0x3f).toInt64 = z) (hp : pc + 1 = pc') (g : own_Go p e below n0 F (T.setTop (mkF m pc' L (.long z :: S)))) : own_Go p e below n0 F (T.setTop (mkF m pc L (.int y :: .long x :: S))) := by
  obtain ⟨locs, X, -, -⟩ := X; subst hp hz
  exact own_st (fun t k => XS.lshr X.here C.1 rfl (hb C.2.1 hd) rfl k) g
theorem own_lushr (C : own_Cx p s m meth c Z n0 own nm bytes ml ret) (X : own_St p l e R s m args below meth c n0 T h cells slots) {x z : Int64} {y : Int32} (hd : decode bytes pc = .ok (.lushr, 1)) (hz : (x.toUInt64 >>> (y &&& 0x3f).toInt64.toUInt64).toInt64 = z) (hp : pc + 1 = pc') (g : own_Go p e below n0 F (T.setTop (mkF m pc' L (.long z :: S)))) : own_Go p e below n0 F (T.setTop (mkF m pc L (.int y :: .long x :: S))) := by
  obtain ⟨locs, X, -, -⟩ := X; subst hp hz
  exact own_st (fun t k => XS.lushr X.here C.1 rfl (hb C.2.1 hd) rfl k) g
theorem own_idiv (C : own_Cx p s m meth c Z n0 own nm bytes ml ret) (X : own_St p l e R s m args below meth c n0 T h cells slots) {x y z : Int32} (hd : decode bytes pc = .ok (.idiv, 1)) (hy : y ≠ 0) (hz : x / y = z) (hp : pc + 1 = pc') (g : own_Go p e below n0 F (T.setTop (mkF m pc' L (.int z :: S)))) : own_Go p e below n0 F (T.setTop (mkF m pc L (.int y :: .int x :: S))) := by
  obtain ⟨locs, X, -, -⟩ := X; subst hp hz
  exact own_st (fun t k => XS.idiv X.here C.1 rfl (hb C.2.1 hd) rfl hy k) g
theorem own_irem (C : own_Cx p s m meth c Z n0 own nm bytes ml ret) (X : own_St p l e R s m args below meth c n0 T h cells slots) {x y z : Int32} (hd : decode bytes pc = .ok (.irem, 1)) (hy : y ≠ 0) (hz : x % y = z) (hp : pc + 1 = pc') (g : own_Go p e below n0 F (T.setTop (mkF m pc' L (.int z :: S)))) : own_Go p e below n0 F (T.setTop (mkF m pc L (.int y :: .int x :: S))) := by
  obtain ⟨locs, X, -, -⟩ := X; subst hp hz
  exact own_st (fun t k => iremM X C.1 rfl (hb C.2.1 hd) rfl hy k) g
theorem own_ldiv (C : own_Cx p s m meth c Z n0 own nm bytes ml ret) (X : own_St p l e R s m args below meth c n0 T h cells slots) {x y z : Int64} (hd : decode bytes pc = .ok (.ldiv, 1)) (hy : y ≠ 0) (hz : x / y = z) (hp : pc + 1 = pc') (g : own_Go p e below n0 F (T.setTop (mkF m pc' L (.long z :: S)))) : own_Go p e below n0 F (T.setTop (mkF m pc L (.long y :: .long x :: S))) := by
  obtain ⟨locs, X, -, -⟩ := X; subst hp hz
  exact own_st (fun t k => XS.ldiv X.here C.1 rfl (hb C.2.1 hd) rfl hy k) g
theorem own_lrem (C : own_Cx p s m meth c Z n0 own nm bytes ml ret) (X : own_St p l e R s m args below meth c n0 T h cells slots) {x y z : Int64} (hd : decode bytes pc = .ok (.lrem, 1)) (hy : y ≠ 0) (hz : x % y = z) (hp : pc + 1 = pc') (g : own_Go p e below n0 F (T.setTop (mkF m pc' L (.long z :: S)))) : own_Go p e below n0 F (T.setTop (mkF m pc L (.long y :: .long x :: S))) := by
  obtain ⟨locs, X, -, -⟩ := X; subst hp hz
  exact own_st (fun t k => XS.lrem X.here C.1 rfl (hb C.2.1 hd) rfl hy (by rw [lrem_mod]; exact k)) g
theorem own_ineg (C : own_Cx p s m meth c Z n0 own nm bytes ml ret) (X : own_St p l e R s m args below meth c n0 T h cells slots) {x : Int32} {z : Int32} (hd : decode bytes pc = .ok (.ineg, 1)) (hz : -x = z) (hp : pc + 1 = pc') (g : own_Go p e below n0 F (T.setTop (mkF m pc' L (.int z :: S)))) : own_Go p e below n0 F (T.setTop (mkF m pc L (.int x :: S))) := by
  obtain ⟨locs, X, -, -⟩ := X; subst hp hz
  exact own_st (fun t k => XS.ineg X.here C.1 rfl (hb C.2.1 hd) rfl k) g
theorem own_lneg (C : own_Cx p s m meth c Z n0 own nm bytes ml ret) (X : own_St p l e R s m args below meth c n0 T h cells slots) {x : Int64} {z : Int64} (hd : decode bytes pc = .ok (.lneg, 1)) (hz : -x = z) (hp : pc + 1 = pc') (g : own_Go p e below n0 F (T.setTop (mkF m pc' L (.long z :: S)))) : own_Go p e below n0 F (T.setTop (mkF m pc L (.long x :: S))) := by
  obtain ⟨locs, X, -, -⟩ := X; subst hp hz
  exact own_st (fun t k => XS.lneg X.here C.1 rfl (hb C.2.1 hd) rfl k) g
theorem own_i2l (C : own_Cx p s m meth c Z n0 own nm bytes ml ret) (X : own_St p l e R s m args below meth c n0 T h cells slots) {x : Int32} {z : Int64} (hd : decode bytes pc = .ok (.i2l, 1)) (hz : x.toInt64 = z) (hp : pc + 1 = pc') (g : own_Go p e below n0 F (T.setTop (mkF m pc' L (.long z :: S)))) : own_Go p e below n0 F (T.setTop (mkF m pc L (.int x :: S))) := by
  obtain ⟨locs, X, -, -⟩ := X; subst hp hz
  exact own_st (fun t k => XS.i2l X.here C.1 rfl (hb C.2.1 hd) rfl k) g
theorem own_l2i (C : own_Cx p s m meth c Z n0 own nm bytes ml ret) (X : own_St p l e R s m args below meth c n0 T h cells slots) {x : Int64} {z : Int32} (hd : decode bytes pc = .ok (.l2i, 1)) (hz : x.toInt32 = z) (hp : pc + 1 = pc') (g : own_Go p e below n0 F (T.setTop (mkF m pc' L (.int z :: S)))) : own_Go p e below n0 F (T.setTop (mkF m pc L (.long x :: S))) := by
  obtain ⟨locs, X, -, -⟩ := X; subst hp hz
  exact own_st (fun t k => XS.l2i X.here C.1 rfl (hb C.2.1 hd) rfl k) g
theorem own_i2b (C : own_Cx p s m meth c Z n0 own nm bytes ml ret) (X : own_St p l e R s m args below meth c n0 T h cells slots) {x : Int32} {z : Int32} (hd : decode bytes pc = .ok (.i2b, 1)) (hz : x.toInt8.toInt32 = z) (hp : pc + 1 = pc') (g : own_Go p e below n0 F (T.setTop (mkF m pc' L (.int z :: S)))) : own_Go p e below n0 F (T.setTop (mkF m pc L (.int x :: S))) := by
  obtain ⟨locs, X, -, -⟩ := X; subst hp hz
  exact own_st (fun t k => XS.i2b X.here C.1 rfl (hb C.2.1 hd) rfl k) g
theorem own_i2c (C : own_Cx p s m meth c Z n0 own nm bytes ml ret) (X : own_St p l e R s m args below meth c n0 T h cells slots) {x : Int32} {z : Int32} (hd : decode bytes pc = .ok (.i2c, 1)) (hz : x.toUInt32.toUInt16.toUInt32.toInt32 = z) (hp : pc + 1 = pc') (g : own_Go p e below n0 F (T.setTop (mkF m pc' L (.int z :: S)))) : own_Go p e below n0 F (T.setTop (mkF m pc L (.int x :: S))) := by
  obtain ⟨locs, X, -, -⟩ := X; subst hp hz
  exact own_st (fun t k => XS.i2c X.here C.1 rfl (hb C.2.1 hd) rfl k) g
theorem own_i2s (C : own_Cx p s m meth c Z n0 own nm bytes ml ret) (X : own_St p l e R s m args below meth c n0 T h cells slots) {x : Int32} {z : Int32} (hd : decode bytes pc = .ok (.i2s, 1)) (hz : x.toInt16.toInt32 = z) (hp : pc + 1 = pc') (g : own_Go p e below n0 F (T.setTop (mkF m pc' L (.int z :: S)))) : own_Go p e below n0 F (T.setTop (mkF m pc L (.int x :: S))) := by
  obtain ⟨locs, X, -, -⟩ := X; subst hp hz
  exact own_st (fun t k => XS.i2s X.here C.1 rfl (hb C.2.1 hd) rfl k) g
theorem own_iinc (C : own_Cx p s m meth c Z n0 own nm bytes ml ret) (X : own_St p l e R s m args below meth c n0 T h cells slots) {k : Nat} {i : Int} {x d z : Int32} (hd : decode bytes pc = .ok (.iinc k i, 3)) (hl : L[k]? = some (.val (.int x))) (hv : Int32.ofInt i = d) (hz : x + d = z) (hl' : storeLocals L k (.int z) = some L') (hp : pc + 3 = pc') (g : own_Go p e below n0 F (T.setTop (mkF m pc' L' (S)))) : own_Go p e below n0 F (T.setTop (mkF m pc L (S))) := by
  obtain ⟨locs, X, -, -⟩ := X; subst hp hv hz
  exact own_st (fun t k => XS.iinc X.here C.1 rfl (hb C.2.1 hd) hl hl' k) g
theorem own_dup (C : own_Cx p s m meth c Z n0 own nm bytes ml ret) (X : own_St p l e R s m args below meth c n0 T h cells slots) {v : Value} (hd : decode bytes pc = .ok (.dup, 1)) (hc : v.category = 1) (hp : pc + 1 = pc') (g : own_Go p e below n0 F (T.setTop (mkF m pc' L (v :: v :: S)))) : own_Go p e below n0 F (T.setTop (mkF m pc L (v :: S))) := by
  obtain ⟨locs, X, -, -⟩ := X; subst hp
  exact own_st (fun t k => XS.dup X.here C.1 rfl (hb C.2.1 hd) rfl hc k) g
theorem own_pop (C : own_Cx p s m meth c Z n0 own nm bytes ml ret) (X : own_St p l e R s m args below meth c n0 T h cells slots) {v : Value} (hd : decode bytes pc = .ok (.pop, 1)) (hc : v.category = 1) (hp : pc + 1 = pc') (g : own_Go p e below n0 F (T.setTop (mkF m pc' L (S)))) : own_Go p e below n0 F (T.setTop (mkF m pc L (v :: S))) := by
  obtain ⟨locs, X, -, -⟩ := X; subst hp
  exact own_st (fun t k => XS.pop X.here C.1 rfl (hb C.2.1 hd) rfl hc k) g
theorem own_dup_x1 (C : own_Cx p s m meth c Z n0 own nm bytes ml ret) (X : own_St p l e R s m args below meth c n0 T h cells slots) {v w : Value} (hd : decode bytes pc = .ok (.dup_x1, 1)) (hc : v.category = 1) (hc' : w.category = 1) (hp : pc + 1 = pc') (g : own_Go p e below n0 F (T.setTop (mkF m pc' L (v :: w :: v :: S)))) : own_Go p e below n0 F (T.setTop (mkF m pc L (v :: w :: S))) := by
  obtain ⟨locs, X, -, -⟩ := X; subst hp
  exact own_st (fun t k => XS.dupX1 X.here C.1 rfl (hb C.2.1 hd) rfl hc hc' k) g
theorem own_dup2 (C : own_Cx p s m meth c Z n0 own nm bytes ml ret) (X : own_St p l e R s m args below meth c n0 T h cells slots) {v w : Value} (hd : decode bytes pc = .ok (.dup2, 1)) (hc : v.category = 1) (hc' : w.category = 1) (hp : pc + 1 = pc') (g : own_Go p e below n0 F (T.setTop (mkF m pc' L (v :: w :: v :: w :: S)))) : own_Go p e below n0 F (T.setTop (mkF m pc L (v :: w :: S))) := by
  obtain ⟨locs, X, -, -⟩ := X; subst hp
  exact own_st (fun t k => XT.dup2 X.here C.1 rfl (hb C.2.1 hd) rfl hc hc' k) g
theorem own_dup2L (C : own_Cx p s m meth c Z n0 own nm bytes ml ret) (X : own_St p l e R s m args below meth c n0 T h cells slots) {v : Int64} (hd : decode bytes pc = .ok (.dup2, 1))  (hp : pc + 1 = pc') (g : own_Go p e below n0 F (T.setTop (mkF m pc' L (.long v :: .long v :: S)))) : own_Go p e below n0 F (T.setTop (mkF m pc L (.long v :: S))) := by
  obtain ⟨locs, X, -, -⟩ := X; subst hp
  exact own_st (fun t k => XT.dup2L X.here C.1 rfl (hb C.2.1 hd) rfl k) g
theorem own_pop2L (C : own_Cx p s m meth c Z n0 own nm bytes ml ret) (X : own_St p l e R s m args below meth c n0 T h cells slots) {v : Int64} (hd : decode bytes pc = .ok (.pop2, 1))  (hp : pc + 1 = pc') (g : own_Go p e below n0 F (T.setTop (mkF m pc' L (S)))) : own_Go p e below n0 F (T.setTop (mkF m pc L (.long v :: S))) := by
  obtain ⟨locs, X, -, -⟩ := X; subst hp
  exact own_st (fun t k => (by jvm_step X.here [X.here.top, C.1, hb C.2.1 hd, Value.category]; exact k)) g
theorem own_lcmp (C : own_Cx p s m meth c Z n0 own nm bytes ml ret) (X : own_St p l e R s m args below meth c n0 T h cells slots) {x y : Int64} {z : Int32} (hd : decode bytes pc = .ok (.lcmp, 1)) (hz : lcmpW x y = z) (hp : pc + 1 = pc') (g : own_Go p e below n0 F (T.setTop (mkF m pc' L (.int z :: S)))) : own_Go p e below n0 F (T.setTop (mkF m pc L (.long y :: .long x :: S))) := by
  obtain ⟨locs, X, -, -⟩ := X; subst hp hz
  exact own_st (fun t k => XS.lcmp X.here C.1 rfl (hb C.2.1 hd) rfl k) g
theorem own_ldcI (C : own_Cx p s m meth c Z n0 own nm bytes ml ret) (X : own_St p l e R s m args below meth c n0 T h cells slots) {i : Nat} {v : Int32} (hd : decode bytes pc = .ok (.ldc i, 2)) (w : (Jvm.Cond.constant own i v).before a0 Z = true) (hp : pc + 2 = pc') (g : own_Go p e below n0 F (T.setTop (mkF m pc' L (.int v :: S)))) : own_Go p e below n0 F (T.setTop (mkF m pc L (S))) := by
  obtain ⟨locs, X, -, -⟩ := X; subst hp
  exact own_st (fun t k => X.ldcInt C.1 C.2.2.2.1 (mvT C.2.2.2.2.2.2.2.1 w) (g := mkF m pc L S) rfl (hb C.2.1 hd) t k) g
theorem own_ldc2L (C : own_Cx p s m meth c Z n0 own nm bytes ml ret) (X : own_St p l e R s m args below meth c n0 T h cells slots) {i : Nat} {v : Int64} (hd : decode bytes pc = .ok (.ldc2_w i, 3)) (w : (Jvm.Cond.constantLong own i v).before a0 Z = true) (hp : pc + 3 = pc') (g : own_Go p e below n0 F (T.setTop (mkF m pc' L (.long v :: S)))) : own_Go p e below n0 F (T.setTop (mkF m pc L (S))) := by
  obtain ⟨locs, X, -, -⟩ := X; subst hp
  exact own_st (fun t k => X.ldc2Long C.1 C.2.2.2.1 (mvT C.2.2.2.2.2.2.2.1 w) (g := mkF m pc L S) rfl (hb C.2.1 hd) t k) g
theorem own_goto (C : own_Cx p s m meth c Z n0 own nm bytes ml ret) (X : own_St p l e R s m args below meth c n0 T h cells slots) {o : Int} (hd : decode bytes pc = .ok (.goto o, 3)) (ho : 0 ≤ (pc : Int) + o) (hp : ((pc : Int) + o).toNat = pc') (g : own_Go p e below n0 F (T.setTop (mkF m pc' L (S)))) : own_Go p e below n0 F (T.setTop (mkF m pc L (S))) := by
  obtain ⟨locs, X, -, -⟩ := X
  exact own_st (fun t k => XS.goto X.here C.1 rfl rfl (hb C.2.1 hd) ho hp k) g
theorem own_icmp_lt (C : own_Cx p s m meth c Z n0 own nm bytes ml ret) (X : own_St p l e R s m args below meth c n0 T h cells slots) {x y : Int32} {o : Int} (hd : decode bytes pc = .ok (.if_icmp .lt o, 3)) (ho : 0 ≤ (pc : Int) + o) (hq : ((pc : Int) + o).toNat = pcT) (hp : pc + 3 = pc') (gT : x < y → own_Go p e below n0 F (T.setTop (mkF m pcT L (S)))) (gF : ¬ x < y → own_Go p e below n0 F (T.setTop (mkF m pc' L (S)))) : own_Go p e below n0 F (T.setTop (mkF m pc L (.int y :: .int x :: S))) := by
  obtain ⟨locs, X, -, -⟩ := X; subst hp
  by_cases q : x < y
  · exact own_st (fun t k => XS.icmpYes X.here C.1 rfl rfl (hb C.2.1 hd) rfl (tlt q).1 ho hq k) (gT q)
  · exact own_st (fun t k => XS.icmpNo X.here C.1 rfl (hb C.2.1 hd) rfl (flt q).1 k) (gF q)
theorem own_if_lt (C : own_Cx p s m meth c Z n0 own nm bytes ml ret) (X : own_St p l e R s m args below meth c n0 T h cells slots) {x : Int32} {o : Int} (hd : decode bytes pc = .ok (.ifCond .lt o, 3)) (ho : 0 ≤ (pc : Int) + o) (hq : ((pc : Int) + o).toNat = pcT) (hp : pc + 3 = pc') (gT : x < 0 → own_Go p e below n0 F (T.setTop (mkF m pcT L (S)))) (gF : ¬ x < 0 → own_Go p e below n0 F (T.setTop (mkF m pc' L (S)))) : own_Go p e below n0 F (T.setTop (mkF m pc L (.int x :: S))) := by
  obtain ⟨locs, X, -, -⟩ := X; subst hp
  by_cases q : x < 0
  · exact own_st (fun t k => XS.ifYes X.here C.1 rfl rfl (hb C.2.1 hd) rfl ((if0 _ _).trans (tlt q).1) ho hq k) (gT q)
  · exact own_st (fun t k => XS.ifNo X.here C.1 rfl (hb C.2.1 hd) rfl ((if0 _ _).trans (flt q).1) k) (gF q)
theorem own_lcmp_lt (C : own_Cx p s m meth c Z n0 own nm bytes ml ret) (X : own_St p l e R s m args below meth c n0 T h cells slots) {x y : Int64} {o : Int} (hd1 : decode bytes pc = .ok (.lcmp, 1)) (hd : decode bytes (pc + 1) = .ok (.ifCond .lt o, 3)) (ho : 0 ≤ ((pc + 1 : Nat) : Int) + o) (hq : (((pc + 1 : Nat) : Int) + o).toNat = pcT) (hp : pc + 4 = pc') (gT : x < y → own_Go p e below n0 F (T.setTop (mkF m pcT L (S)))) (gF : ¬ x < y → own_Go p e below n0 F (T.setTop (mkF m pc' L (S)))) : own_Go p e below n0 F (T.setTop (mkF m pc L (.long y :: .long x :: S))) := by
  subst hp
  exact own_lcmp C X hd1 rfl rfl (own_if_lt C X hd ho hq rfl (fun q => gT ((lw_lt x y).mp q)) (fun q => gF (fun r => q ((lw_lt x y).mpr r))))
theorem own_icmp_ge (C : own_Cx p s m meth c Z n0 own nm bytes ml ret) (X : own_St p l e R s m args below meth c n0 T h cells slots) {x y : Int32} {o : Int} (hd : decode bytes pc = .ok (.if_icmp .ge o, 3)) (ho : 0 ≤ (pc : Int) + o) (hq : ((pc : Int) + o).toNat = pcT) (hp : pc + 3 = pc') (gT : ¬ x < y → own_Go p e below n0 F (T.setTop (mkF m pcT L (S)))) (gF : x < y → own_Go p e below n0 F (T.setTop (mkF m pc' L (S)))) : own_Go p e below n0 F (T.setTop (mkF m pc L (.int y :: .int x :: S))) := by
  obtain ⟨locs, X, -, -⟩ := X; subst hp
  by_cases q : x < y
  · exact own_st (fun t k => XS.icmpNo X.here C.1 rfl (hb C.2.1 hd) rfl (tlt q).2.1 k) (gF q)
  · exact own_st (fun t k => XS.icmpYes X.here C.1 rfl rfl (hb C.2.1 hd) rfl (flt q).2.1 ho hq k) (gT q)
theorem own_if_ge (C : own_Cx p s m meth c Z n0 own nm bytes ml ret) (X : own_St p l e R s m args below meth c n0 T h cells slots) {x : Int32} {o : Int} (hd : decode bytes pc = .ok (.ifCond .ge o, 3)) (ho : 0 ≤ (pc : Int) + o) (hq : ((pc : Int) + o).toNat = pcT) (hp : pc + 3 = pc') (gT : ¬ x < 0 → own_Go p e below n0 F (T.setTop (mkF m pcT L (S)))) (gF : x < 0 → own_Go p e below n0 F (T.setTop (mkF m pc' L (S)))) : own_Go p e below n0 F (T.setTop (mkF m pc L (.int x :: S))) := by
  obtain ⟨locs, X, -, -⟩ := X; subst hp
  by_cases q : x < 0
  · exact own_st (fun t k => XS.ifNo X.here C.1 rfl (hb C.2.1 hd) rfl ((if0 _ _).trans (tlt q).2.1) k) (gF q)
  · exact own_st (fun t k => XS.ifYes X.here C.1 rfl rfl (hb C.2.1 hd) rfl ((if0 _ _).trans (flt q).2.1) ho hq k) (gT q)
theorem own_lcmp_ge (C : own_Cx p s m meth c Z n0 own nm bytes ml ret) (X : own_St p l e R s m args below meth c n0 T h cells slots) {x y : Int64} {o : Int} (hd1 : decode bytes pc = .ok (.lcmp, 1)) (hd : decode bytes (pc + 1) = .ok (.ifCond .ge o, 3)) (ho : 0 ≤ ((pc + 1 : Nat) : Int) + o) (hq : (((pc + 1 : Nat) : Int) + o).toNat = pcT) (hp : pc + 4 = pc') (gT : ¬ x < y → own_Go p e below n0 F (T.setTop (mkF m pcT L (S)))) (gF : x < y → own_Go p e below n0 F (T.setTop (mkF m pc' L (S)))) : own_Go p e below n0 F (T.setTop (mkF m pc L (.long y :: .long x :: S))) := by
  subst hp
  exact own_lcmp C X hd1 rfl rfl (own_if_ge C X hd ho hq rfl (fun q => gT (fun r => q ((lw_lt x y).mpr r))) (fun q => gF ((lw_lt x y).mp q)))
theorem own_icmp_gt (C : own_Cx p s m meth c Z n0 own nm bytes ml ret) (X : own_St p l e R s m args below meth c n0 T h cells slots) {x y : Int32} {o : Int} (hd : decode bytes pc = .ok (.if_icmp .gt o, 3)) (ho : 0 ≤ (pc : Int) + o) (hq : ((pc : Int) + o).toNat = pcT) (hp : pc + 3 = pc') (gT : y < x → own_Go p e below n0 F (T.setTop (mkF m pcT L (S)))) (gF : ¬ y < x → own_Go p e below n0 F (T.setTop (mkF m pc' L (S)))) : own_Go p e below n0 F (T.setTop (mkF m pc L (.int y :: .int x :: S))) := by
  obtain ⟨locs, X, -, -⟩ := X; subst hp
  by_cases q : y < x
  · exact own_st (fun t k => XS.icmpYes X.here C.1 rfl rfl (hb C.2.1 hd) rfl (tlt q).2.2.1 ho hq k) (gT q)
  · exact own_st (fun t k => XS.icmpNo X.here C.1 rfl (hb C.2.1 hd) rfl (flt q).2.2.1 k) (gF q)
theorem own_if_gt (C : own_Cx p s m meth c Z n0 own nm bytes ml ret) (X : own_St p l e R s m args below meth c n0 T h cells slots) {x : Int32} {o : Int} (hd : decode bytes pc = .ok (.ifCond .gt o, 3)) (ho : 0 ≤ (pc : Int) + o) (hq : ((pc : Int) + o).toNat = pcT) (hp : pc + 3 = pc') (gT : 0 < x → own_Go p e below n0 F (T.setTop (mkF m pcT L (S)))) (gF : ¬ 0 < x → own_Go p e below n0 F (T.setTop (mkF m pc' L (S)))) : own_Go p e below n0 F (T.setTop (mkF m pc L (.int x :: S))) := by
  obtain ⟨locs, X, -, -⟩ := X; subst hp
  by_cases q : 0 < x
  · exact own_st (fun t k => XS.ifYes X.here C.1 rfl rfl (hb C.2.1 hd) rfl ((if0 _ _).trans (tlt q).2.2.1) ho hq k) (gT q)
  · exact own_st (fun t k => XS.ifNo X.here C.1 rfl (hb C.2.1 hd) rfl ((if0 _ _).trans (flt q).2.2.1) k) (gF q)
theorem own_lcmp_gt (C : own_Cx p s m meth c Z n0 own nm bytes ml ret) (X : own_St p l e R s m args below meth c n0 T h cells slots) {x y : Int64} {o : Int} (hd1 : decode bytes pc = .ok (.lcmp, 1)) (hd : decode bytes (pc + 1) = .ok (.ifCond .gt o, 3)) (ho : 0 ≤ ((pc + 1 : Nat) : Int) + o) (hq : (((pc + 1 : Nat) : Int) + o).toNat = pcT) (hp : pc + 4 = pc') (gT : y < x → own_Go p e below n0 F (T.setTop (mkF m pcT L (S)))) (gF : ¬ y < x → own_Go p e below n0 F (T.setTop (mkF m pc' L (S)))) : own_Go p e below n0 F (T.setTop (mkF m pc L (.long y :: .long x :: S))) := by
  subst hp
  exact own_lcmp C X hd1 rfl rfl (own_if_gt C X hd ho hq rfl (fun q => gT ((lw_gt x y).mp q)) (fun q => gF (fun r => q ((lw_gt x y).mpr r))))
theorem own_icmp_le (C : own_Cx p s m meth c Z n0 own nm bytes ml ret) (X : own_St p l e R s m args below meth c n0 T h cells slots) {x y : Int32} {o : Int} (hd : decode bytes pc = .ok (.if_icmp .le o, 3)) (ho : 0 ≤ (pc : Int) + o) (hq : ((pc : Int) + o).toNat = pcT) (hp : pc + 3 = pc') (gT : ¬ y < x → own_Go p e below n0 F (T.setTop (mkF m pcT L (S)))) (gF : y < x → own_Go p e below n0 F (T.setTop (mkF m pc' L (S)))) : own_Go p e below n0 F (T.setTop (mkF m pc L (.int y :: .int x :: S))) := by
  obtain ⟨locs, X, -, -⟩ := X; subst hp
  by_cases q : y < x
  · exact own_st (fun t k => XS.icmpNo X.here C.1 rfl (hb C.2.1 hd) rfl (tlt q).2.2.2 k) (gF q)
  · exact own_st (fun t k => XS.icmpYes X.here C.1 rfl rfl (hb C.2.1 hd) rfl (flt q).2.2.2 ho hq k) (gT q)
theorem own_if_le (C : own_Cx p s m meth c Z n0 own nm bytes ml ret) (X : own_St p l e R s m args below meth c n0 T h cells slots) {x : Int32} {o : Int} (hd : decode bytes pc = .ok (.ifCond .le o, 3)) (ho : 0 ≤ (pc : Int) + o) (hq : ((pc : Int) + o).toNat = pcT) (hp : pc + 3 = pc') (gT : ¬ 0 < x → own_Go p e below n0 F (T.setTop (mkF m pcT L (S)))) (gF : 0 < x → own_Go p e below n0 F (T.setTop (mkF m pc' L (S)))) : own_Go p e below n0 F (T.setTop (mkF m pc L (.int x :: S))) := by
  obtain ⟨locs, X, -, -⟩ := X; subst hp
  by_cases q : 0 < x
  · exact own_st (fun t k => XS.ifNo X.here C.1 rfl (hb C.2.1 hd) rfl ((if0 _ _).trans (tlt q).2.2.2) k) (gF q)
  · exact own_st (fun t k => XS.ifYes X.here C.1 rfl rfl (hb C.2.1 hd) rfl ((if0 _ _).trans (flt q).2.2.2) ho hq k) (gT q)
theorem own_lcmp_le (C : own_Cx p s m meth c Z n0 own nm bytes ml ret) (X : own_St p l e R s m args below meth c n0 T h cells slots) {x y : Int64} {o : Int} (hd1 : decode bytes pc = .ok (.lcmp, 1)) (hd : decode bytes (pc + 1) = .ok (.ifCond .le o, 3)) (ho : 0 ≤ ((pc + 1 : Nat) : Int) + o) (hq : (((pc + 1 : Nat) : Int) + o).toNat = pcT) (hp : pc + 4 = pc') (gT : ¬ y < x → own_Go p e below n0 F (T.setTop (mkF m pcT L (S)))) (gF : y < x → own_Go p e below n0 F (T.setTop (mkF m pc' L (S)))) : own_Go p e below n0 F (T.setTop (mkF m pc L (.long y :: .long x :: S))) := by
  subst hp
  exact own_lcmp C X hd1 rfl rfl (own_if_le C X hd ho hq rfl (fun q => gT (fun r => q ((lw_gt x y).mpr r))) (fun q => gF ((lw_gt x y).mp q)))
theorem own_icmp_eq (C : own_Cx p s m meth c Z n0 own nm bytes ml ret) (X : own_St p l e R s m args below meth c n0 T h cells slots) {x y : Int32} {o : Int} (hd : decode bytes pc = .ok (.if_icmp .eq o, 3)) (ho : 0 ≤ (pc : Int) + o) (hq : ((pc : Int) + o).toNat = pcT) (hp : pc + 3 = pc') (gT : x = y → own_Go p e below n0 F (T.setTop (mkF m pcT L (S)))) (gF : ¬ x = y → own_Go p e below n0 F (T.setTop (mkF m pc' L (S)))) : own_Go p e below n0 F (T.setTop (mkF m pc L (.int y :: .int x :: S))) := by
  obtain ⟨locs, X, -, -⟩ := X; subst hp
  by_cases q : x = y
  · exact own_st (fun t k => XS.icmpYes X.here C.1 rfl rfl (hb C.2.1 hd) rfl (teq q).1 ho hq k) (gT q)
  · exact own_st (fun t k => XS.icmpNo X.here C.1 rfl (hb C.2.1 hd) rfl (feq q).1 k) (gF q)
theorem own_if_eq (C : own_Cx p s m meth c Z n0 own nm bytes ml ret) (X : own_St p l e R s m args below meth c n0 T h cells slots) {x : Int32} {o : Int} (hd : decode bytes pc = .ok (.ifCond .eq o, 3)) (ho : 0 ≤ (pc : Int) + o) (hq : ((pc : Int) + o).toNat = pcT) (hp : pc + 3 = pc') (gT : x = 0 → own_Go p e below n0 F (T.setTop (mkF m pcT L (S)))) (gF : ¬ x = 0 → own_Go p e below n0 F (T.setTop (mkF m pc' L (S)))) : own_Go p e below n0 F (T.setTop (mkF m pc L (.int x :: S))) := by
  obtain ⟨locs, X, -, -⟩ := X; subst hp
  by_cases q : x = 0
  · exact own_st (fun t k => XS.ifYes X.here C.1 rfl rfl (hb C.2.1 hd) rfl ((if0 _ _).trans (teq q).1) ho hq k) (gT q)
  · exact own_st (fun t k => XS.ifNo X.here C.1 rfl (hb C.2.1 hd) rfl ((if0 _ _).trans (feq q).1) k) (gF q)
theorem own_lcmp_eq (C : own_Cx p s m meth c Z n0 own nm bytes ml ret) (X : own_St p l e R s m args below meth c n0 T h cells slots) {x y : Int64} {o : Int} (hd1 : decode bytes pc = .ok (.lcmp, 1)) (hd : decode bytes (pc + 1) = .ok (.ifCond .eq o, 3)) (ho : 0 ≤ ((pc + 1 : Nat) : Int) + o) (hq : (((pc + 1 : Nat) : Int) + o).toNat = pcT) (hp : pc + 4 = pc') (gT : x = y → own_Go p e below n0 F (T.setTop (mkF m pcT L (S)))) (gF : ¬ x = y → own_Go p e below n0 F (T.setTop (mkF m pc' L (S)))) : own_Go p e below n0 F (T.setTop (mkF m pc L (.long y :: .long x :: S))) := by
  subst hp
  exact own_lcmp C X hd1 rfl rfl (own_if_eq C X hd ho hq rfl (fun q => gT ((lw_eq x y).mp q)) (fun q => gF (fun r => q ((lw_eq x y).mpr r))))
theorem own_icmp_ne (C : own_Cx p s m meth c Z n0 own nm bytes ml ret) (X : own_St p l e R s m args below meth c n0 T h cells slots) {x y : Int32} {o : Int} (hd : decode bytes pc = .ok (.if_icmp .ne o, 3)) (ho : 0 ≤ (pc : Int) + o) (hq : ((pc : Int) + o).toNat = pcT) (hp : pc + 3 = pc') (gT : ¬ x = y → own_Go p e below n0 F (T.setTop (mkF m pcT L (S)))) (gF : x = y → own_Go p e below n0 F (T.setTop (mkF m pc' L (S)))) : own_Go p e below n0 F (T.setTop (mkF m pc L (.int y :: .int x :: S))) := by
  obtain ⟨locs, X, -, -⟩ := X; subst hp
  by_cases q : x = y
  · exact own_st (fun t k => XS.icmpNo X.here C.1 rfl (hb C.2.1 hd) rfl (teq q).2 k) (gF q)
  · exact own_st (fun t k => XS.icmpYes X.here C.1 rfl rfl (hb C.2.1 hd) rfl (feq q).2 ho hq k) (gT q)
theorem own_if_ne (C : own_Cx p s m meth c Z n0 own nm bytes ml ret) (X : own_St p l e R s m args below meth c n0 T h cells slots) {x : Int32} {o : Int} (hd : decode bytes pc = .ok (.ifCond .ne o, 3)) (ho : 0 ≤ (pc : Int) + o) (hq : ((pc : Int) + o).toNat = pcT) (hp : pc + 3 = pc') (gT : ¬ x = 0 → own_Go p e below n0 F (T.setTop (mkF m pcT L (S)))) (gF : x = 0 → own_Go p e below n0 F (T.setTop (mkF m pc' L (S)))) : own_Go p e below n0 F (T.setTop (mkF m pc L (.int x :: S))) := by
  obtain ⟨locs, X, -, -⟩ := X; subst hp
  by_cases q : x = 0
  · exact own_st (fun t k => XS.ifNo X.here C.1 rfl (hb C.2.1 hd) rfl ((if0 _ _).trans (teq q).2) k) (gF q)
  · exact own_st (fun t k => XS.ifYes X.here C.1 rfl rfl (hb C.2.1 hd) rfl ((if0 _ _).trans (feq q).2) ho hq k) (gT q)
theorem own_lcmp_ne (C : own_Cx p s m meth c Z n0 own nm bytes ml ret) (X : own_St p l e R s m args below meth c n0 T h cells slots) {x y : Int64} {o : Int} (hd1 : decode bytes pc = .ok (.lcmp, 1)) (hd : decode bytes (pc + 1) = .ok (.ifCond .ne o, 3)) (ho : 0 ≤ ((pc + 1 : Nat) : Int) + o) (hq : (((pc + 1 : Nat) : Int) + o).toNat = pcT) (hp : pc + 4 = pc') (gT : ¬ x = y → own_Go p e below n0 F (T.setTop (mkF m pcT L (S)))) (gF : x = y → own_Go p e below n0 F (T.setTop (mkF m pc' L (S)))) : own_Go p e below n0 F (T.setTop (mkF m pc L (.long y :: .long x :: S))) := by
  subst hp
  exact own_lcmp C X hd1 rfl rfl (own_if_ne C X hd ho hq rfl (fun q => gT (fun r => q ((lw_eq x y).mpr r))) (fun q => gF ((lw_eq x y).mp q)))
theorem own_acmp_eq (C : own_Cx p s m meth c Z n0 own nm bytes ml ret) (X : own_St p l e R s m args below meth c n0 T h cells slots) {v w : Value} {o : Int} (hd : decode bytes pc = .ok (.if_acmp .eq o, 3)) (hv : v.isRef = true) (hw : w.isRef = true) (ho : 0 ≤ (pc : Int) + o) (hq : ((pc : Int) + o).toNat = pcT) (hp : pc + 3 = pc') (gT : v = w → own_Go p e below n0 F (T.setTop (mkF m pcT L (S)))) (gF : ¬ v = w → own_Go p e below n0 F (T.setTop (mkF m pc' L (S)))) : own_Go p e below n0 F (T.setTop (mkF m pc L (w :: v :: S))) := by
  obtain ⟨locs, X, -, -⟩ := X; subst hp
  by_cases q : v = w
  · exact own_st (fun t k => XT.acmpYes X.here C.1 rfl rfl (hb C.2.1 hd) rfl hv hw (XT.aa_eq_t q) ho hq k) (gT q)
  · exact own_st (fun t k => XT.acmpNo X.here C.1 rfl (hb C.2.1 hd) rfl hv hw (XT.aa_eq_f q) k) (gF q)
theorem own_acmp_ne (C : own_Cx p s m meth c Z n0 own nm bytes ml ret) (X : own_St p l e R s m args below meth c n0 T h cells slots) {v w : Value} {o : Int} (hd : decode bytes pc = .ok (.if_acmp .ne o, 3)) (hv : v.isRef = true) (hw : w.isRef = true) (ho : 0 ≤ (pc : Int) + o) (hq : ((pc : Int) + o).toNat = pcT) (hp : pc + 3 = pc') (gT : ¬ v = w → own_Go p e below n0 F (T.setTop (mkF m pcT L (S)))) (gF : v = w → own_Go p e below n0 F (T.setTop (mkF m pc' L (S)))) : own_Go p e below n0 F (T.setTop (mkF m pc L (w :: v :: S))) := by
  obtain ⟨locs, X, -, -⟩ := X; subst hp
  by_cases q : v = w
  · exact own_st (fun t k => XT.acmpNo X.here C.1 rfl (hb C.2.1 hd) rfl hv hw (XT.aa_ne_f q) k) (gF q)
  · exact own_st (fun t k => XT.acmpYes X.here C.1 rfl rfl (hb C.2.1 hd) rfl hv hw (XT.aa_ne_t q) ho hq k) (gT q)
theorem own_ireturn {z : Int32} (C : own_Cx p s m meth c Z n0 own nm bytes ml (some .int)) (X : own_St p l e R s m args below meth c n0 T h cells slots) (hd : decode bytes pc = .ok (.ireturn, 1))  (hc : cells ≤ R.cells) (hs : slots ≤ R.slots) (hq : Q (some (.int z)) h) : own_Go p e below n0 (own_Fin R s Q) (T.setTop (mkF m pc L (.int z :: S))) := by
  obtain ⟨locs, X, N, rfl⟩ := X
  have hlk : meth.locks = false := C.2.2.2.2.2.2.1
  obtain ⟨fs, hr, hrun, hended, hW, hsame⟩ := X.leave (v := some (.int z)) (fun h => by rw [C.2.2.2.2.2.1] at h; cases h) hlk
  exact ⟨_, _, locs, retOut X C.1 C.2.2.2.2.2.1 rfl (Or.inl ⟨rfl, by simp, _, rfl⟩) (hb C.2.1 hd) hr, hrun, hended, N, hq, ⟨_, rfl⟩, hW, hsame.mono hc hs⟩
theorem own_ireturn_z {z : Int32} (C : own_Cx p s m meth c Z n0 own nm bytes ml (some .boolean)) (X : own_St p l e R s m args below meth c n0 T h cells slots) (hd : decode bytes pc = .ok (.ireturn, 1))  (hc : cells ≤ R.cells) (hs : slots ≤ R.slots) (hq : Q (some (.int (nar .boolean z))) h) : own_Go p e below n0 (own_Fin R s Q) (T.setTop (mkF m pc L (.int z :: S))) := by
  obtain ⟨locs, X, N, rfl⟩ := X
  have hlk : meth.locks = false := C.2.2.2.2.2.2.1
  obtain ⟨fs, hr, hrun, hended, hW, hsame⟩ := X.leave (v := some (.int (nar .boolean z))) (fun h => by rw [C.2.2.2.2.2.1] at h; cases h) hlk
  exact ⟨_, _, locs, retN X C.1 (t := .boolean) C.2.2.2.2.2.1 (by simp) (hb C.2.1 hd) hr, hrun, hended, N, hq, ⟨_, rfl⟩, hW, hsame.mono hc hs⟩
theorem own_ireturn_b {z : Int32} (C : own_Cx p s m meth c Z n0 own nm bytes ml (some .byte)) (X : own_St p l e R s m args below meth c n0 T h cells slots) (hd : decode bytes pc = .ok (.ireturn, 1))  (hc : cells ≤ R.cells) (hs : slots ≤ R.slots) (hq : Q (some (.int (nar .byte z))) h) : own_Go p e below n0 (own_Fin R s Q) (T.setTop (mkF m pc L (.int z :: S))) := by
  obtain ⟨locs, X, N, rfl⟩ := X
  have hlk : meth.locks = false := C.2.2.2.2.2.2.1
  obtain ⟨fs, hr, hrun, hended, hW, hsame⟩ := X.leave (v := some (.int (nar .byte z))) (fun h => by rw [C.2.2.2.2.2.1] at h; cases h) hlk
  exact ⟨_, _, locs, retN X C.1 (t := .byte) C.2.2.2.2.2.1 (by simp) (hb C.2.1 hd) hr, hrun, hended, N, hq, ⟨_, rfl⟩, hW, hsame.mono hc hs⟩
theorem own_ireturn_c {z : Int32} (C : own_Cx p s m meth c Z n0 own nm bytes ml (some .char)) (X : own_St p l e R s m args below meth c n0 T h cells slots) (hd : decode bytes pc = .ok (.ireturn, 1))  (hc : cells ≤ R.cells) (hs : slots ≤ R.slots) (hq : Q (some (.int (nar .char z))) h) : own_Go p e below n0 (own_Fin R s Q) (T.setTop (mkF m pc L (.int z :: S))) := by
  obtain ⟨locs, X, N, rfl⟩ := X
  have hlk : meth.locks = false := C.2.2.2.2.2.2.1
  obtain ⟨fs, hr, hrun, hended, hW, hsame⟩ := X.leave (v := some (.int (nar .char z))) (fun h => by rw [C.2.2.2.2.2.1] at h; cases h) hlk
  exact ⟨_, _, locs, retN X C.1 (t := .char) C.2.2.2.2.2.1 (by simp) (hb C.2.1 hd) hr, hrun, hended, N, hq, ⟨_, rfl⟩, hW, hsame.mono hc hs⟩
theorem own_lreturn {z : Int64} (C : own_Cx p s m meth c Z n0 own nm bytes ml (some .long)) (X : own_St p l e R s m args below meth c n0 T h cells slots) (hd : decode bytes pc = .ok (.lreturn, 1))  (hc : cells ≤ R.cells) (hs : slots ≤ R.slots) (hq : Q (some (.long z)) h) : own_Go p e below n0 (own_Fin R s Q) (T.setTop (mkF m pc L (.long z :: S))) := by
  obtain ⟨locs, X, N, rfl⟩ := X
  have hlk : meth.locks = false := C.2.2.2.2.2.2.1
  obtain ⟨fs, hr, hrun, hended, hW, hsame⟩ := X.leave (v := some (.long z)) (fun h => by rw [C.2.2.2.2.2.1] at h; cases h) hlk
  exact ⟨_, _, locs, retOut X C.1 C.2.2.2.2.2.1 rfl (Or.inr (Or.inl ⟨rfl, rfl, _, rfl⟩)) (hb C.2.1 hd) hr, hrun, hended, N, hq, ⟨_, rfl⟩, hW, hsame.mono hc hs⟩
theorem own_areturn {v : Value} {ty : FieldType} (C : own_Cx p s m meth c Z n0 own nm bytes ml (some ty)) (X : own_St p l e R s m args below meth c n0 T h cells slots) (hd : decode bytes pc = .ok (.areturn, 1)) (ht : ty.isReference = true) (hv : v.isRef = true) (hn : narrow ty v = v) (hc : cells ≤ R.cells) (hs : slots ≤ R.slots) (hq : Q (some v) h) : own_Go p e below n0 (own_Fin R s Q) (T.setTop (mkF m pc L (v :: S))) := by
  obtain ⟨locs, X, N, rfl⟩ := X
  have hlk : meth.locks = false := C.2.2.2.2.2.2.1
  obtain ⟨fs, hr, hrun, hended, hW, hsame⟩ := X.leave (v := some v) (fun h => by rw [C.2.2.2.2.2.1] at h; cases h) hlk
  exact ⟨_, _, locs, retOut X C.1 C.2.2.2.2.2.1 hn (Or.inr (Or.inr (Or.inr (Or.inr ⟨rfl, ht, hv⟩)))) (hb C.2.1 hd) hr, hrun, hended, N, hq, ⟨_, rfl⟩, hW, hsame.mono hc hs⟩
theorem own_return  (C : own_Cx p s m meth c Z n0 own nm bytes ml (none)) (X : own_St p l e R s m args below meth c n0 T h cells slots) (hd : decode bytes pc = .ok (.return_, 1))  (hc : cells ≤ R.cells) (hs : slots ≤ R.slots) (hq : Q (none) h) : own_Go p e below n0 (own_Fin R s Q) (T.setTop (mkF m pc L ([]))) := by
  obtain ⟨locs, X, N, rfl⟩ := X
  have hlk : meth.locks = false := C.2.2.2.2.2.2.1
  obtain ⟨fs, hr, hrun, hended, hW, hsame⟩ := X.leave (v := none) (fun _ => rfl) hlk
  exact ⟨_, _, locs, X.returnOut C.1 C.2.2.2.2.2.1 (hb C.2.1 hd) hr, hrun, hended, N, hq, ⟨_, rfl⟩, hW, hsame.mono hc hs⟩
end OwnKit
end Jvm.Pilot.@@N@@
namespace Jvm.Pilot.@@N@@
open Jvm Jvm.ClassFile Sem Op Lib Jvm.Free Jvm.Stand Jvm.LawKit Jvm.RoadKit Bundle Jvm.Pilot.@@N@@.Jvm.D
section OwnKitTwo
variable {p : Program} {l : Launch} {e : Env} {R : Room} {s : State} {m : MethodId} {args : Array Value} {below : List Frame} {meth : Method} {c : Code} {T : State} {cells slots : Nat} {Z : State} {a0 : Array Value} {h h' : Heap} {n0 : Nat} {own nm : String} {bytes : ByteArray} {ml : Nat} {ret : Option FieldType} {F : Option Value → State → List Loc → Prop} {pc pc' pcT : Nat} {L L' : Array Slot} {S : List Value} {a b : Addr} {ty : FieldType} {ws : List Addr}
/-! arrays by their lists -/
def own_IA (Z : State) (h : Heap) (a : Addr) (ty : FieldType) (xs : List Int32) : Prop := ∃ c : Cell, Arr Z h a c ty ∧ c.slots.toList = xs.map Value.int ∧ xs.length < 2 ^ 31 ∧ ∀ x ∈ xs, fits ty (.int x) = true
def own_JA (Z : State) (h : Heap) (a : Addr) (xs : List Int64) : Prop := ∃ c : Cell, Arr Z h a c .long ∧ c.slots.toList = xs.map Value.long ∧ xs.length < 2 ^ 31
theorem own_IA.keep {xs : List Int32} (A : own_IA Z h a ty xs) (K : Keep h h' ws) (q : a ∉ ws) : own_IA Z h' a ty xs := by
  obtain ⟨c, A, r⟩ := A; exact ⟨c, ⟨K.2.1 a c A.1 q, A.2⟩, r⟩
theorem own_JA.keep {xs : List Int64} (A : own_JA Z h a xs) (K : Keep h h' ws) (q : a ∉ ws) : own_JA Z h' a xs := by
  obtain ⟨c, A, r⟩ := A; exact ⟨c, ⟨K.2.1 a c A.1 q, A.2⟩, r⟩
theorem own_IA.lt {xs : List Int32} (A : own_IA Z h a ty xs) : a < h.size := by obtain ⟨c, A, r⟩ := A; exact A.lt
theorem own_JA.lt {xs : List Int64} (A : own_JA Z h a xs) : a < h.size := by obtain ⟨c, A, r⟩ := A; exact A.lt
theorem own_ix {j : Int32} {i : Nat} (hj : j.toInt = (i : Int)) : ¬ j < 0 ∧ j.toNatClampNeg = i := by
  refine ⟨?_, ?_⟩
  · rw [Int32.lt_iff_toInt_lt, hj]; show ¬ (i : Int) < 0; omega
  · simp only [Int32.toNatClampNeg, hj, Int.toNat_natCast]
theorem own_sz {α : Type} {f : α → Value} {c : Cell} {xs : List α} (e : c.slots.toList = xs.map f) : c.slots.size = xs.length := by
  have := congrArg List.length e; simpa using this
theorem own_in {α : Type} {f : α → Value} {c : Cell} {xs : List α} (e : c.slots.toList = xs.map f) {j : Int32} {i : Nat} (hj : j.toInt = (i : Int)) (hi : i < xs.length) : ¬ (j < 0 ∨ c.slots.size ≤ j.toNatClampNeg) := by
  obtain ⟨q1, q2⟩ := own_ix hj
  rw [own_sz e, q2]
  exact fun q => q.elim q1 (fun q => Nat.lt_irrefl _ (Nat.lt_of_lt_of_le hi q))
theorem own_at {α : Type} {f : α → Value} {c : Cell} {xs : List α} (e : c.slots.toList = xs.map f) {j : Int32} {i : Nat} (hj : j.toInt = (i : Int)) {v : α} (hv : xs[i]? = some v) : c.slots[j.toNatClampNeg]? = some (f v) := by
  rw [(own_ix hj).2, ← Array.getElem?_toList, e, List.getElem?_map, hv]; rfl
theorem own_lt_of {α : Type} {xs : List α} {i : Nat} {v : α} (hv : xs[i]? = some v) : i < xs.length := (List.getElem?_eq_some_iff.mp hv).1
theorem own_set {α : Type} {f : α → Value} {c : Cell} {xs : List α} (e : c.slots.toList = xs.map f) {j : Int32} {i : Nat} (hj : j.toInt = (i : Int)) {v : α} : (c.setSlot j.toNatClampNeg (f v)).slots.toList = (xs.set i v).map f := by
  rw [(own_ix hj).2]; simp only [Cell.setSlot, Array.toList_setIfInBounds, e, List.map_set]
theorem own_iaload (C : own_Cx p s m meth c Z n0 own nm bytes ml ret) (X : own_St p l e R s m args below meth c n0 T h cells slots) {j v : Int32} {i : Nat} {xs : List Int32} (hd : decode bytes pc = .ok (.iaload, 1)) (A : own_IA Z h a .int xs) (hj : j.toInt = (i : Int)) (hv : xs[i]? = some v) (hp : pc + 1 = pc')
    (g : own_Go p e below n0 F (T.setTop (mkF m pc' L (.int v :: S)))) : own_Go p e below n0 F (T.setTop (mkF m pc L (.int j :: .ref a :: S))) := by
  obtain ⟨locs, X, -, rfl⟩ := X; subst hp; obtain ⟨cl, A, ec, -⟩ := A
  exact own_st (fun t k => X.iaload C.1 A.1 (State.isArrayOf_alike C.2.2.2.2.2.2.2.1.alike A.2.1) A.2.2 (own_in ec hj (own_lt_of hv)) (own_at ec hj hv) (g := mkF m pc L (.int j :: .ref a :: S)) rfl rfl (hb C.2.1 hd) t k) g
theorem own_baload (C : own_Cx p s m meth c Z n0 own nm bytes ml ret) (X : own_St p l e R s m args below meth c n0 T h cells slots) {j v : Int32} {i : Nat} {xs : List Int32} (hd : decode bytes pc = .ok (.baload, 1)) (A : own_IA Z h a .byte xs) (hj : j.toInt = (i : Int)) (hv : xs[i]? = some v) (hp : pc + 1 = pc')
    (g : own_Go p e below n0 F (T.setTop (mkF m pc' L (.int v :: S)))) : own_Go p e below n0 F (T.setTop (mkF m pc L (.int j :: .ref a :: S))) := by
  obtain ⟨locs, X, -, rfl⟩ := X; subst hp; obtain ⟨cl, A, ec, -⟩ := A
  exact own_st (fun t k => X.baloadBytes C.1 A.1 (State.isArrayOf_alike C.2.2.2.2.2.2.2.1.alike A.2.1) A.2.2 (own_in ec hj (own_lt_of hv)) (own_at ec hj hv) (g := mkF m pc L (.int j :: .ref a :: S)) rfl rfl (hb C.2.1 hd) t k) g
theorem own_laload (C : own_Cx p s m meth c Z n0 own nm bytes ml ret) (X : own_St p l e R s m args below meth c n0 T h cells slots) {j : Int32} {v : Int64} {i : Nat} {xs : List Int64} (hd : decode bytes pc = .ok (.laload, 1)) (A : own_JA Z h a xs) (hj : j.toInt = (i : Int)) (hv : xs[i]? = some v) (hp : pc + 1 = pc')
    (g : own_Go p e below n0 F (T.setTop (mkF m pc' L (.long v :: S)))) : own_Go p e below n0 F (T.setTop (mkF m pc L (.int j :: .ref a :: S))) := by
  obtain ⟨locs, X, -, rfl⟩ := X; subst hp; obtain ⟨cl, A, ec, -⟩ := A
  exact own_st (fun t k => X.laload C.1 A.1 (State.isArrayOf_alike C.2.2.2.2.2.2.2.1.alike A.2.1) A.2.2 (own_in ec hj (own_lt_of hv)) (own_at ec hj hv) (g := mkF m pc L (.int j :: .ref a :: S)) rfl rfl (hb C.2.1 hd) t k) g
theorem own_len {α : Type} {f : α → Value} {c : Cell} {xs : List α} (e : c.slots.toList = xs.map f) (hb : xs.length < 2 ^ 31) {n : Int32} (hn : n.toInt = (xs.length : Int)) : c.slots.size.toInt32 = n := by
  rw [own_sz e]; exact Int32.toInt_inj.mp (by rw [len_toInt hb, hn])
theorem own_alenI (C : own_Cx p s m meth c Z n0 own nm bytes ml ret) (X : own_St p l e R s m args below meth c n0 T h cells slots) {n : Int32} {xs : List Int32} (hd : decode bytes pc = .ok (.arraylength, 1)) (A : own_IA Z h a ty xs) (hn : n.toInt = (xs.length : Int)) (hp : pc + 1 = pc')
    (g : own_Go p e below n0 F (T.setTop (mkF m pc' L (.int n :: S)))) : own_Go p e below n0 F (T.setTop (mkF m pc L (.ref a :: S))) := by
  obtain ⟨locs, X, -, rfl⟩ := X; subst hp; obtain ⟨cl, A, ec, hb1, -⟩ := A
  have := own_len ec hb1 hn; subst this
  exact own_st (fun t k => X.arraylength C.1 A.1 (State.isArrayOf_alike C.2.2.2.2.2.2.2.1.alike A.2.1) (g := mkF m pc L (.ref a :: S)) rfl rfl (hb C.2.1 hd) t k) g
theorem own_alenJ (C : own_Cx p s m meth c Z n0 own nm bytes ml ret) (X : own_St p l e R s m args below meth c n0 T h cells slots) {n : Int32} {xs : List Int64} (hd : decode bytes pc = .ok (.arraylength, 1)) (A : own_JA Z h a xs) (hn : n.toInt = (xs.length : Int)) (hp : pc + 1 = pc')
    (g : own_Go p e below n0 F (T.setTop (mkF m pc' L (.int n :: S)))) : own_Go p e below n0 F (T.setTop (mkF m pc L (.ref a :: S))) := by
  obtain ⟨locs, X, -, rfl⟩ := X; subst hp; obtain ⟨cl, A, ec, hb1⟩ := A
  have := own_len ec hb1 hn; subst this
  exact own_st (fun t k => X.arraylength C.1 A.1 (State.isArrayOf_alike C.2.2.2.2.2.2.2.1.alike A.2.1) (g := mkF m pc L (.ref a :: S)) rfl rfl (hb C.2.1 hd) t k) g
theorem own_fitset {xs : List Int32} {i : Nat} {v : Int32} (hf : ∀ x ∈ xs, fits ty (.int x) = true) (hv : fits ty (.int v) = true) : ∀ x ∈ xs.set i v, fits ty (.int x) = true := fun x hx =>
  (List.mem_or_eq_of_mem_set hx).elim (hf x) (fun q => q ▸ hv)
theorem own_bastore (C : own_Cx p s m meth c Z n0 own nm bytes ml ret) (X : own_St p l e R s m args below meth c n0 T h cells slots) {j x v : Int32} {i : Nat} {xs : List Int32} (hd : decode bytes pc = .ok (.bastore, 1)) (A : own_IA Z h a .byte xs) (hj : j.toInt = (i : Int)) (hi : i < xs.length) (hx : x.toInt8.toInt32 = v) (ha : n0 ≤ a) (hp : pc + 1 = pc')
    (g : ∀ T' h', own_St p l e R s m args below meth c n0 T' h' cells slots → Keep h h' [a] → own_IA Z h' a .byte (xs.set i v) → own_Go p e below n0 F (T'.setTop (mkF m pc' L S))) : own_Go p e below n0 F (T.setTop (mkF m pc L (.int x :: .int j :: .ref a :: S))) := by
  obtain ⟨locs, X, N, e0⟩ := X; subst hp; subst hx; obtain ⟨cl, A, ec, hl, hf⟩ := A
  obtain ⟨T', h2, X', e', W, st⟩ := stB X C.1 C.2.2.2.2.2.2.2.1 e0 A (own_in ec hj hi) (g := mkF m pc L (.int x :: .int j :: .ref a :: S)) rfl rfl (hb C.2.1 hd)
  exact own_st st (g T' h2 ⟨_, X', Fr.snoc X' N ha, e'⟩ (Keep.of_wr W) ⟨_, A.same W, own_set ec hj, by simpa using hl, own_fitset hf (fits_nar_byte x)⟩)
theorem own_iastore (C : own_Cx p s m meth c Z n0 own nm bytes ml ret) (X : own_St p l e R s m args below meth c n0 T h cells slots) {j x : Int32} {i : Nat} {xs : List Int32} (hd : decode bytes pc = .ok (.iastore, 1)) (A : own_IA Z h a .int xs) (hj : j.toInt = (i : Int)) (hi : i < xs.length) (ha : n0 ≤ a) (hp : pc + 1 = pc')
    (g : ∀ T' h', own_St p l e R s m args below meth c n0 T' h' cells slots → Keep h h' [a] → own_IA Z h' a .int (xs.set i x) → own_Go p e below n0 F (T'.setTop (mkF m pc' L S))) : own_Go p e below n0 F (T.setTop (mkF m pc L (.int x :: .int j :: .ref a :: S))) := by
  obtain ⟨locs, X, N, e0⟩ := X; subst hp; obtain ⟨cl, A, ec, hl, hf⟩ := A
  obtain ⟨T', h2, X', e', W, st⟩ := stI X C.1 C.2.2.2.2.2.2.2.1 e0 A (own_in ec hj hi) (g := mkF m pc L (.int x :: .int j :: .ref a :: S)) rfl rfl (hb C.2.1 hd)
  exact own_st st (g T' h2 ⟨_, X', Fr.snoc X' N ha, e'⟩ (Keep.of_wr W) ⟨_, A.same W, own_set ec hj, by simpa using hl, own_fitset hf rfl⟩)
theorem own_lastore (C : own_Cx p s m meth c Z n0 own nm bytes ml ret) (X : own_St p l e R s m args below meth c n0 T h cells slots) {j : Int32} {x : Int64} {i : Nat} {xs : List Int64} (hd : decode bytes pc = .ok (.lastore, 1)) (A : own_JA Z h a xs) (hj : j.toInt = (i : Int)) (hi : i < xs.length) (ha : n0 ≤ a) (hp : pc + 1 = pc')
    (g : ∀ T' h', own_St p l e R s m args below meth c n0 T' h' cells slots → Keep h h' [a] → own_JA Z h' a (xs.set i x) → own_Go p e below n0 F (T'.setTop (mkF m pc' L S))) : own_Go p e below n0 F (T.setTop (mkF m pc L (.long x :: .int j :: .ref a :: S))) := by
  obtain ⟨locs, X, N, e0⟩ := X; subst hp; obtain ⟨cl, A, ec, hl⟩ := A
  obtain ⟨T', h2, X', e', W, st⟩ := stJ X C.1 C.2.2.2.2.2.2.2.1 e0 A (own_in ec hj hi) (g := mkF m pc L (.long x :: .int j :: .ref a :: S)) rfl rfl (hb C.2.1 hd)
  exact own_st st (g T' h2 ⟨_, X', Fr.snoc X' N ha, e'⟩ (Keep.of_wr W) ⟨_, A.same W, own_set ec hj, by simpa using hl⟩)
theorem own_keep_ext (E : Ext h h') : Keep h h' [] := (Keep.refl h []).ext E
theorem own_newI (C : own_Cx p s m meth c Z n0 own nm bytes ml ret) (X : own_St p l e R s m args below meth c n0 T h cells slots) {aty : ArrayType} {n : Int32} {k cap : Nat} (hd : decode bytes pc = .ok (.newarray aty, 2)) (hty : newarray.typeOf aty = ty) (w : (Jvm.Cond.arrayClass ty).before a0 Z = true) (hn : n.toInt = (k : Int)) (hcap : k ≤ cap) (hb8 : cap * 8 ≤ 536870912)
    (hc : cells + 1 ≤ R.cells) (hs : slots + cap ≤ R.slots) (hdef : defaultValue ty = .int 0) (hfit : fits ty (.int 0) = true) (hp : pc + 2 = pc')
    (g : ∀ T' h' a, a = h.size → own_St p l e R s m args below meth c n0 T' h' (cells + 1) (slots + cap) → Keep h h' [] → n0 ≤ a → own_IA Z h' a ty (List.replicate k 0) → own_Go p e below n0 F (T'.setTop (mkF m pc' L (.ref a :: S)))) : own_Go p e below n0 F (T.setTop (mkF m pc L (.int n :: S))) := by
  have hbig := own_big C X
  obtain ⟨locs, X, N, e0⟩ := X; subst hp; subst hty
  obtain ⟨q1, q2⟩ := own_ix hn
  obtain ⟨T', h2, cA, X', e', E, A, st⟩ := newP X C.1 C.2.2.2.2.2.2.2.1 w e0 (g := mkF m pc L (.int n :: S)) rfl (hb C.2.1 hd) rfl q1 (cap := cap) (by rw [q2]; exact hcap) hb8 hc hs
  refine own_st st (g T' h2 _ rfl ⟨_, X', N, e'⟩ (own_keep_ext E) hbig ⟨_, A, ?_, ?_, ?_⟩)
  · simp [newA, q2, hdef]
  · have := n.toInt_lt; simp only [List.length_replicate]; omega
  · intro x hx; obtain ⟨-, rfl⟩ := List.mem_replicate.mp hx; exact hfit
theorem own_newJ (C : own_Cx p s m meth c Z n0 own nm bytes ml ret) (X : own_St p l e R s m args below meth c n0 T h cells slots) {n : Int32} {k cap : Nat} (hd : decode bytes pc = .ok (.newarray .long, 2)) (w : (Jvm.Cond.arrayClass .long).before a0 Z = true) (hn : n.toInt = (k : Int)) (hcap : k ≤ cap) (hb8 : cap * 8 ≤ 536870912)
    (hc : cells + 1 ≤ R.cells) (hs : slots + cap ≤ R.slots) (hp : pc + 2 = pc')
    (g : ∀ T' h' a, a = h.size → own_St p l e R s m args below meth c n0 T' h' (cells + 1) (slots + cap) → Keep h h' [] → n0 ≤ a → own_JA Z h' a (List.replicate k 0) → own_Go p e below n0 F (T'.setTop (mkF m pc' L (.ref a :: S)))) : own_Go p e below n0 F (T.setTop (mkF m pc L (.int n :: S))) := by
  have hbig := own_big C X
  obtain ⟨locs, X, N, e0⟩ := X; subst hp
  obtain ⟨q1, q2⟩ := own_ix hn
  obtain ⟨T', h2, cA, X', e', E, A, st⟩ := newP (aty := .long) X C.1 C.2.2.2.2.2.2.2.1 w e0 (g := mkF m pc L (.int n :: S)) rfl (hb C.2.1 hd) rfl q1 (cap := cap) (by rw [q2]; exact hcap) hb8 hc hs
  refine own_st st (g T' h2 _ rfl ⟨_, X', N, e'⟩ (own_keep_ext E) hbig ⟨_, A, ?_, ?_⟩)
  · simp [newA, q2, defaultValue, newarray.typeOf]
  · have := n.toInt_lt; simp only [List.length_replicate]; omega
/-! objects by the list of their fields: name, descriptor, value -/
def own_Ob (Z : State) (a0 : Array Value) (h : Heap) (a : Addr) (K : String) (fs : List (String × String × Value)) : Prop :=
  Exa Z h a K ∧ (fs.map (·.1)).Nodup ∧ ∀ f ∈ fs, Fld Z h a K f.1 f.2.1 f.2.2 ∧ Laid Z a0 K K f.1 f.2.1 ∧ ∃ t, parseFieldDescriptor f.2.1 = some t
theorem own_Ob.keep {K : String} {fs : List (String × String × Value)} (O : own_Ob Z a0 h a K fs) (W : Keep h h' ws) (q : a ∉ ws) : own_Ob Z a0 h' a K fs :=
  ⟨O.1.keep W, O.2.1, fun f hf => ⟨(O.2.2 f hf).1.keep W q, (O.2.2 f hf).2⟩⟩
theorem own_Ob.lt {K : String} {fs : List (String × String × Value)} (O : own_Ob Z a0 h a K fs) : a < h.size := O.1.lt
theorem own_Ob.put {K n d : String} {fs : List (String × String × Value)} {v w : Value} {i : Nat} (O : own_Ob Z a0 h a K fs) (hi : fs[i]? = some (n, d, w)) (W : Wr h h' a (Jvm.RoadKit.slotOf Z K n d) v) : own_Ob Z a0 h' a K (fs.set i (n, d, v)) := by
  obtain ⟨hlt, hget⟩ := List.getElem?_eq_some_iff.mp hi
  have hmem : (n, d, w) ∈ fs := hget ▸ List.getElem_mem hlt
  have hnames : (fs.set i (n, d, v)).map (·.1) = fs.map (·.1) := by
    rw [List.map_set]
    apply List.ext_getElem? ; intro k
    by_cases hk : i = k
    · subst hk; rw [List.getElem?_set_self (by simpa using hlt), List.getElem?_map, hi]; rfl
    · rw [List.getElem?_set_ne hk]
  refine ⟨O.1.wr W, by rw [hnames]; exact O.2.1, fun f hf => ?_⟩
  obtain ⟨k, hk, hfk⟩ := List.getElem_of_mem hf
  have hk' : (fs.set i (n, d, v))[k]? = some f := List.getElem?_eq_some_iff.mpr ⟨hk, hfk⟩
  by_cases hik : i = k
  · subst hik
    rw [List.getElem?_set_self hlt] at hk'; cases hk'
    exact ⟨(O.2.2 _ hmem).1.same W, (O.2.2 _ hmem).2⟩
  · rw [List.getElem?_set_ne hik] at hk'
    obtain ⟨hlk, hgk⟩ := List.getElem?_eq_some_iff.mp hk'
    have hfm : f ∈ fs := hgk ▸ List.getElem_mem hlk
    obtain ⟨F, La, t, ht⟩ := O.2.2 f hfm
    obtain ⟨-, La', t', ht'⟩ := O.2.2 _ hmem
    refine ⟨F.other W (Or.inr (slot_ne La La' (fun hne => ?_) ht ht')), La, t, ht⟩
    have hnd := List.pairwise_iff_getElem.mp O.2.1
    rcases Nat.lt_or_gt_of_ne hik with q | q
    · exact hnd i k (by simpa using hlt) (by simpa using hlk) q (by simp [hget, hgk, hne])
    · exact hnd k i (by simpa using hlk) (by simpa using hlt) q (by simp [hget, hgk, hne])
theorem own_Ob.get {K n d : String} {fs : List (String × String × Value)} {v : Value} {i : Nat} (O : own_Ob Z a0 h a K fs) (hi : fs[i]? = some (n, d, v)) : Fld Z h a K n d v := by
  obtain ⟨hlt, hget⟩ := List.getElem?_eq_some_iff.mp hi
  exact (O.2.2 (n, d, v) (hget ▸ List.getElem_mem hlt)).1
theorem own_getfield (C : own_Cx p s m meth c Z n0 own nm bytes ml ret) (X : own_St p l e R s m args below meth c n0 T h cells slots) {K n d : String} {idx i : Nat} {fs : List (String × String × Value)} {v : Value} (hd : decode bytes pc = .ok (.getfield idx, 3)) (w : (Jvm.Cond.fieldLink own idx K n d).before a0 Z = true) (O : own_Ob Z a0 h a K fs) (hi : fs[i]? = some (n, d, v)) (hp : pc + 3 = pc')
    (g : ∀ T', own_St p l e R s m args below meth c n0 T' h cells slots → own_Go p e below n0 F (T'.setTop (mkF m pc' L (v :: S)))) : own_Go p e below n0 F (T.setTop (mkF m pc L (.ref a :: S))) := by
  obtain ⟨locs, X, N, e0⟩ := X; subst hp
  obtain ⟨T', X', e', st⟩ := getF X C.1 C.2.2.2.2.2.2.2.1 C.2.2.2.1 (host := "") (Or.inl w) Via.refl e0 (O.get hi) (g := mkF m pc L (.ref a :: S)) rfl rfl (hb C.2.1 hd)
  exact own_st st (g T' ⟨_, X', N, e'⟩)
theorem own_putfield (C : own_Cx p s m meth c Z n0 own nm bytes ml ret) (X : own_St p l e R s m args below meth c n0 T h cells slots) {K n d : String} {idx i kk : Nat} {fs : List (String × String × Value)} {v old : Value} (hd : decode bytes pc = .ok (.putfield idx, 3)) (w : (Jvm.Cond.fieldLink own idx K n d).before a0 Z = true)
    (lay : (Jvm.Cond.lays K K n d).before a0 Z = true ∨ ((Jvm.Cond.laysFinal K K n d).before a0 Z = true ∧ own = K ∧ nm = "<init>")) (wi : (Jvm.Cond.instantiable K kk).before a0 Z = true) (O : own_Ob Z a0 h a K fs) (hi : fs[i]? = some (n, d, old)) (hty : parseFieldDescriptor d = some ty) (hn : narrow ty v = v) (hf : fits ty v = true) (ha : n0 ≤ a) (hp : pc + 3 = pc')
    (g : ∀ T' h', own_St p l e R s m args below meth c n0 T' h' cells slots → Keep h h' [a] → own_Ob Z a0 h' a K (fs.set i (n, d, v)) → own_Go p e below n0 F (T'.setTop (mkF m pc' L S))) : own_Go p e below n0 F (T.setTop (mkF m pc L (v :: .ref a :: S))) := by
  obtain ⟨locs, X, N, e0⟩ := X; subst hp
  obtain ⟨T', h2, X', e', W, st⟩ := putF X C.1 C.2.2.2.2.2.2.2.1 C.2.2.2.1 (host := "") (Or.inl w) Via.refl e0 (O.get hi) O.1 (lay.imp id (fun q => ⟨q.1, q.2.1, C.2.2.2.2.1.trans q.2.2⟩)) wi hty hn hf (g := mkF m pc L (v :: .ref a :: S)) rfl rfl (hb C.2.1 hd)
  exact own_st st (g T' h2 ⟨_, X', Fr.snoc X' N ha, e'⟩ (Keep.of_wr W) (O.put hi W))
theorem own_new (C : own_Cx p s m meth c Z n0 own nm bytes ml ret) (X : own_St p l e R s m args below meth c n0 T h cells slots) {K : String} {idx k : Nat} (hd : decode bytes pc = .ok (.new idx, 3)) (w : (Jvm.Cond.classLink own idx K).before a0 Z = true) (wi : (Jvm.Cond.instantiable K k).before a0 Z = true) (wz : (Jvm.Cond.initialized K).before a0 Z = true)
    (hc : cells + 1 ≤ R.cells) (hs : slots + k ≤ R.slots) (fs : List (String × String × Value)) (hnd : (fs.map (·.1)).Nodup) (hfs : ∀ f ∈ fs, Laid Z a0 K K f.1 f.2.1 ∧ ∃ t, parseFieldDescriptor f.2.1 = some t ∧ defaultValue t = f.2.2) (hp : pc + 3 = pc')
    (g : ∀ T' h' a, a = h.size → own_St p l e R s m args below meth c n0 T' h' (cells + 1) (slots + k) → Keep h h' [] → n0 ≤ a → own_Ob Z a0 h' a K fs → own_Go p e below n0 F (T'.setTop (mkF m pc' L (.ref a :: S)))) : own_Go p e below n0 F (T.setTop (mkF m pc L S)) := by
  have hbig := own_big C X
  obtain ⟨locs, X, N, e0⟩ := X; subst hp
  obtain ⟨T', h2, X', e', E, A, D, -, st⟩ := newO X C.1 C.2.2.2.2.2.2.2.1 C.2.2.2.1 w wi wz e0 (g := mkF m pc L S) rfl (hb C.2.1 hd) hc hs
  refine own_st st (g T' h2 _ rfl ⟨_, X', N, e'⟩ (own_keep_ext E) hbig ⟨A, hnd, fun f hf => ?_⟩)
  obtain ⟨La, t, ht, hdv⟩ := hfs f hf
  exact ⟨hdv ▸ D La ht, La, t, ht⟩
theorem own_objinit (C : own_Cx p s m meth c Z n0 own nm bytes ml ret) (X : own_St p l e R s m args below meth c n0 T h cells slots) {idx : Nat} (hd : decode bytes pc = .ok (.invokespecial idx, 3)) (w1 : (Jvm.Cond.methodLink own idx Lib.objectInit).before a0 Z = true) (w2 : (Jvm.Cond.instanceMethod Lib.objectInit).before a0 Z = true) (w3 : (Jvm.Cond.code Lib.objectInit ⟨#[0xb1]⟩ 1 none).before a0 Z = true)
    (hL : L.size = ml) (hf : 1 ≤ R.frames) (hlo : (S.map fun v => v.category).sum + 12 ≤ R.locals) (hp : pc + 3 = pc')
    (g : ∀ T', own_St p l e R s m args below meth c n0 T' h cells slots → own_Go p e below n0 F (T'.setTop (mkF m pc' L S))) : own_Go p e below n0 F (T.setTop (mkF m pc L (.ref a :: S))) := by
  obtain ⟨locs, X, N, e0⟩ := X; subst hp
  obtain ⟨T', X', e', st⟩ := initO X C.1 C.2.2.2.2.2.2.2.1 C.2.2.2.1 w1 w2 w3 e0 (g := mkF m pc L (.ref a :: S)) rfl (by rw [C.2.2.1]; exact hL) rfl (hb C.2.1 hd) hf (W := (S.map fun v => v.category).sum) (by show 2 * 0 + _ ≤ _; omega) hlo
  exact own_st st (g T' ⟨_, X', N, e'⟩)
/-! calls -/
theorem own_callS (C : own_Cx p s m meth c Z n0 own nm bytes ml ret) (X : own_St p l e R s m args below meth c n0 T h cells slots) {y : MethodName} {by' : ByteArray} {ml' idx : Nat} {rt ret' : Option FieldType} {ps : List FieldType} {rm : Room} {av : List Value} {Qc : Option Value → Heap → Prop} (hd : decode bytes pc = .ok (.invokestatic idx, 3)) (M : own_Met l Z n0 y by' ml' ret' [] rm av.toArray h Qc)
    (w1 : (Jvm.Cond.methodLink own idx y).before a0 Z = true) (w2 : (Jvm.Cond.static y).before a0 Z = true) (w3 : (Jvm.Cond.initialized y.cls).before a0 Z = true) (w4 : (Jvm.Cond.code y by' ml' ret').before a0 Z = true) (hy : y.cls ≠ "java/lang/invoke/MethodHandle" ∧ y.cls ≠ "java/lang/invoke/VarHandle")
    (hde : parseMethodDescriptor y.desc = some ⟨ps, rt⟩) (hps : av.length = ps.length) (hL : L.size = ml) (hf : rm.frames + 1 ≤ R.frames) (hlo : (S.map fun v => v.category).sum + (ml' + 11) + rm.locals ≤ R.locals) (hc : cells + rm.cells ≤ R.cells) (hs : slots + rm.slots ≤ R.slots) {S0 : List Value} (hS : S0 = av.reverse ++ S) (hp : pc + 3 = pc')
    (g : ∀ T' h' v, own_St p l e R s m args below meth c n0 T' h' (cells + rm.cells) (slots + rm.slots) → Qc v h' → own_Go p e below n0 F (T'.setTop (mkF m pc' L (v.toList ++ S)))) : own_Go p e below n0 F (T.setTop (mkF m pc L S0)) := by
  obtain ⟨locs, X, N, e0⟩ := X; subst hp; subst hS
  have hZ := C.2.2.2.2.2.2.2.1
  obtain ⟨v, _, ⟨T2, L2, k2, n2⟩, -, X2, ⟨Lc, hQ, l2, y2, z2⟩, st⟩ := Jvm.LawKit.callS X C.1 (y := y) C.2.2.2.1 (mvT hZ w1) (mvT hZ w2) (mvT hZ w3) (mvT hZ w4) hy (backOf (W := (S.map fun v => v.category).sum) (Q := fun v h L => Qc v h ∧ Fr n0 L) M hZ w4 w3 hf hlo) (g := mkF m pc L (av.reverse ++ S)) rfl (by rw [C.2.2.1]; exact hL) (argsL := av) (rest := S) (lenOf hde hps) rfl (by show 2 * 0 + _ ≤ _; omega) (hb C.2.1 hd) (fun _ _ => ⟨rfl, e0, hc, hs⟩)
  dsimp only [Pt.U, Pt.locs, Pt.cells, Pt.slots] at X2 l2 y2 z2 st hQ
  subst l2 y2 z2
  exact own_st st (g T2 _ v ⟨_, X2, Fr.app N hQ.2, rfl⟩ hQ.1)
theorem own_callInit (C : own_Cx p s m meth c Z n0 own nm bytes ml ret) (X : own_St p l e R s m args below meth c n0 T h cells slots) {y : MethodName} {by' : ByteArray} {ml' idx : Nat} {rt : Option FieldType} {ps : List FieldType} {rm : Room} {av : List Value} {Qc : Option Value → Heap → Prop} (hd : decode bytes pc = .ok (.invokespecial idx, 3)) (M : own_Met l Z n0 y by' ml' none [] rm (.ref a :: av).toArray h Qc) (hy1 : y.name = "<init>")
    (w1 : (Jvm.Cond.methodLink own idx y).before a0 Z = true) (w2 : (Jvm.Cond.instanceMethod y).before a0 Z = true) (w3 : (Jvm.Cond.initialized y.cls).before a0 Z = true) (w4 : (Jvm.Cond.code y by' ml' none).before a0 Z = true) (hy : y.cls ≠ "java/lang/invoke/MethodHandle" ∧ y.cls ≠ "java/lang/invoke/VarHandle")
    (hde : parseMethodDescriptor y.desc = some ⟨ps, rt⟩) (hps : av.length = ps.length) (hL : L.size = ml) (hf : rm.frames + 1 ≤ R.frames) (hlo : (S.map fun v => v.category).sum + (ml' + 11) + rm.locals ≤ R.locals) (hc : cells + rm.cells ≤ R.cells) (hs : slots + rm.slots ≤ R.slots) {S0 : List Value} (hS : S0 = av.reverse ++ .ref a :: S) (hp : pc + 3 = pc')
    (g : ∀ T' h' v, own_St p l e R s m args below meth c n0 T' h' (cells + rm.cells) (slots + rm.slots) → Qc v h' → own_Go p e below n0 F (T'.setTop (mkF m pc' L (v.toList ++ S)))) : own_Go p e below n0 F (T.setTop (mkF m pc L S0)) := by
  obtain ⟨locs, X, N, e0⟩ := X; subst hp; subst hS
  have hZ := C.2.2.2.2.2.2.2.1
  obtain ⟨v, _, ⟨T2, L2, k2, n2⟩, -, X2, ⟨Lc, hQ, l2, y2, z2⟩, st⟩ := X.specialBack C.1 (y := y) hy1 C.2.2.2.1 (mvT hZ w1) (mvT hZ w2) (mvT hZ w4) hy (backOf (W := (S.map fun v => v.category).sum) (Q := fun v h L => Qc v h ∧ Fr n0 L) M hZ w4 w3 hf hlo) (g := mkF m pc L (av.reverse ++ .ref a :: S)) rfl (by rw [C.2.2.1]; exact hL) (Steps.refl _) (a := a) (argsL := av) (rest := S) (lenOf hde hps) rfl (by show 2 * 0 + _ ≤ _; omega) (hb C.2.1 hd) (fun _ _ => ⟨rfl, e0, hc, hs⟩)
  dsimp only [Pt.U, Pt.locs, Pt.cells, Pt.slots] at X2 l2 y2 z2 st hQ
  subst l2 y2 z2
  exact own_st (fun t k => st.trans k) (g T2 _ v ⟨_, X2, Fr.app N hQ.2, rfl⟩ hQ.1)
theorem own_callV (C : own_Cx p s m meth c Z n0 own nm bytes ml ret) (X : own_St p l e R s m args below meth c n0 T h cells slots) {y : MethodName} {by' : ByteArray} {ml' idx : Nat} {rt ret' : Option FieldType} {ps : List FieldType} {rm : Room} {av : List Value} {Qc : Option Value → Heap → Prop} (hd : decode bytes pc = .ok (.invokevirtual idx, 3)) (M : own_Met l Z n0 y by' ml' ret' [] rm (.ref a :: av).toArray h Qc)
    (E : Exa Z h a y.cls) (w1 : (Jvm.Cond.methodLink own idx y).before a0 Z = true) (wd : (Jvm.Cond.declares y).before a0 Z = true) (ws : (Jvm.Cond.selects y.cls y y).before a0 Z = true) (w2 : (Jvm.Cond.instanceMethod y).before a0 Z = true) (w3 : (Jvm.Cond.initialized y.cls).before a0 Z = true) (w4 : (Jvm.Cond.code y by' ml' ret').before a0 Z = true) (hy : y.cls ≠ "java/lang/invoke/MethodHandle" ∧ y.cls ≠ "java/lang/invoke/VarHandle")
    (hde : parseMethodDescriptor y.desc = some ⟨ps, rt⟩) (hps : av.length = ps.length) (hL : L.size = ml) (hf : rm.frames + 1 ≤ R.frames) (hlo : (S.map fun v => v.category).sum + (ml' + 11) + rm.locals ≤ R.locals) (hc : cells + rm.cells ≤ R.cells) (hs : slots + rm.slots ≤ R.slots) {S0 : List Value} (hS : S0 = av.reverse ++ .ref a :: S) (hp : pc + 3 = pc')
    (g : ∀ T' h' v, own_St p l e R s m args below meth c n0 T' h' (cells + rm.cells) (slots + rm.slots) → Qc v h' → own_Go p e below n0 F (T'.setTop (mkF m pc' L (v.toList ++ S)))) : own_Go p e below n0 F (T.setTop (mkF m pc L S0)) := by
  obtain ⟨locs, X, N, e0⟩ := X; subst hp; subst hS
  have hZ := C.2.2.2.2.2.2.2.1
  obtain ⟨cq, kq, qa, qb, qc⟩ := isOf hZ e0 E
  obtain ⟨v, _, ⟨T2, L2, k2, n2⟩, -, X2, ⟨Lc, hQ, l2, y2, z2⟩, st⟩ := X.virtualBack C.1 (y := y) (z := y) C.2.2.2.1 (mvT hZ w1) (mvT hZ wd) (notFace_of_selects (args := #[]) (mvT hZ ws)) (mvT hZ ws) (mvT hZ w2) hy (backOf (W := (S.map fun v => v.category).sum) (Q := fun v h L => Qc v h ∧ Fr n0 L) M hZ w4 w3 hf hlo) qa qc (g := mkF m pc L (av.reverse ++ .ref a :: S)) rfl (by rw [C.2.2.1]; exact hL) (Steps.refl _) (argsL := av) (rest := S) (lenOf hde hps) rfl (by show 2 * 0 + _ ≤ _; omega) (hb C.2.1 hd) (fun _ _ => ⟨rfl, e0, hc, hs⟩)
  dsimp only [Pt.U, Pt.locs, Pt.cells, Pt.slots] at X2 l2 y2 z2 st hQ
  subst l2 y2 z2
  exact own_st (fun t k => st.trans k) (g T2 _ v ⟨_, X2, Fr.app N hQ.2, rfl⟩ hQ.1)
/-- a private method selects itself (turned from the worked claim gauge-weight) -/
theorem own_selP {s : State} {args : Array Value} {n : Nat} {y : MethodName} (hy : y.cls ≠ "java/lang/invoke/MethodHandle" ∧ y.cls ≠ "java/lang/invoke/VarHandle") (hins : (Jvm.Cond.instantiable y.cls n).before args s = true) (hpriv : (Jvm.Cond.privateMethod y).before args s = true) (hinst : (Jvm.Cond.instanceMethod y).before args s = true) :
    (Jvm.Cond.selects y.cls y y).before args s = true := by
  obtain ⟨c, k, hc, hk, -, hniab, -, -⟩ := Cond.instantiable_spec hins
  have hni : k.isInterface = false := (Bool.or_eq_false_iff.mp hniab).1
  obtain ⟨mk, methM, hnamed, hmethM, -, -⟩ := Cond.instanceMethod_spec hinst
  have hfound : s.methodFound? y.cls y.name y.desc = some mk := State.methodFound?_of_named hnamed hy
  have hcls : mk.cls = c := Option.some.inj ((findClass_of_methodNamed hnamed).symm.trans hc)
  have hsel : selectMethod {} s.vm c mk = .method mk := selectMethod_private hmethM (Cond.privateMethod_at hpriv mk methM hnamed hmethM)
  simp only [Cond.before, Cond.holds, Cond.value, hc, hfound, hnamed, hsel, hcls, hk]
  simp; exact hni
theorem own_callP (C : own_Cx p s m meth c Z n0 own nm bytes ml ret) (X : own_St p l e R s m args below meth c n0 T h cells slots) {y : MethodName} {by' : ByteArray} {ml' idx : Nat} {rt ret' : Option FieldType} {ps : List FieldType} {rm : Room} {av : List Value} {Qc : Option Value → Heap → Prop} (hd : decode bytes pc = .ok (.invokevirtual idx, 3)) (M : own_Met l Z n0 y by' ml' ret' [] rm (.ref a :: av).toArray h Qc)
    (E : Exa Z h a y.cls) (w1 : (Jvm.Cond.methodLink own idx y).before a0 Z = true) {kk : Nat} (wi : (Jvm.Cond.instantiable y.cls kk).before a0 Z = true) (wp : (Jvm.Cond.privateMethod y).before a0 Z = true) (w2 : (Jvm.Cond.instanceMethod y).before a0 Z = true) (w3 : (Jvm.Cond.initialized y.cls).before a0 Z = true) (w4 : (Jvm.Cond.code y by' ml' ret').before a0 Z = true) (hy : y.cls ≠ "java/lang/invoke/MethodHandle" ∧ y.cls ≠ "java/lang/invoke/VarHandle")
    (hde : parseMethodDescriptor y.desc = some ⟨ps, rt⟩) (hps : av.length = ps.length) (hL : L.size = ml) (hf : rm.frames + 1 ≤ R.frames) (hlo : (S.map fun v => v.category).sum + (ml' + 11) + rm.locals ≤ R.locals) (hc : cells + rm.cells ≤ R.cells) (hs : slots + rm.slots ≤ R.slots) {S0 : List Value} (hS : S0 = av.reverse ++ .ref a :: S) (hp : pc + 3 = pc')
    (g : ∀ T' h' v, own_St p l e R s m args below meth c n0 T' h' (cells + rm.cells) (slots + rm.slots) → Qc v h' → own_Go p e below n0 F (T'.setTop (mkF m pc' L (v.toList ++ S)))) : own_Go p e below n0 F (T.setTop (mkF m pc L S0)) := by
  obtain ⟨locs, X, N, e0⟩ := X; subst hp; subst hS
  have hZ := C.2.2.2.2.2.2.2.1
  obtain ⟨cq, q1, q2⟩ := E.cell
  obtain ⟨v, _, ⟨T2, L2, k2, n2⟩, -, X2, ⟨Lc, hQ, l2, y2, z2⟩, st⟩ := X.privateBack C.1 (y := y) C.2.2.2.1 (mvT hZ w1) (mvT hZ w2) (mvT hZ (own_selP hy wi wp w2)) (Cond.privateMethod_at (mvP hZ wp (args := #[]))) (mvT hZ w4) hy (backOf (W := (S.map fun v => v.category).sum) (Q := fun v h L => Qc v h ∧ Fr n0 L) M hZ w4 w3 hf hlo) (g := mkF m pc L (av.reverse ++ .ref a :: S)) rfl (by rw [C.2.2.1]; exact hL) (Steps.refl _) (a := a) (by rw [e0]; exact q1) q2 (argsL := av) (rest := S) (lenOf hde hps) rfl (by show 2 * 0 + _ ≤ _; omega) (hb C.2.1 hd) (fun _ _ => ⟨rfl, e0, hc, hs⟩)
  dsimp only [Pt.U, Pt.locs, Pt.cells, Pt.slots] at X2 l2 y2 z2 st hQ
  subst l2 y2 z2
  exact own_st (fun t k => st.trans k) (g T2 _ v ⟨_, X2, Fr.app N hQ.2, rfl⟩ hQ.1)
end OwnKitTwo
end Jvm.Pilot.@@N@@
namespace Jvm.Pilot.@@N@@
open Jvm Jvm.ClassFile Sem Op Lib Jvm.Free Jvm.Stand Jvm.LawKit Jvm.RoadKit Bundle Jvm.Pilot.@@N@@.Jvm.D
section OwnKitThree
theorem own_i2b2 (x : Int32) : x.toInt8.toInt32.toInt8.toInt32 = x.toInt8.toInt32 := by simp
theorem own_i2bn {y t : Int32} (e : y.toInt8.toInt32 = t) : t.toInt8.toInt32 = t := by rw [← e]; simp
theorem own_ibd {Z : State} {h : Heap} {a : Addr} {ty : FieldType} {xs : List Int32} {i : Nat} {v : Int32} (A : own_IA Z h a ty xs) (e : xs[i]? = some v) : i < 2 ^ 31 := by
  obtain ⟨c, -, -, hl, -⟩ := A; exact Nat.lt_trans (own_lt_of e) hl
theorem own_ixadd {o d : Int32} {k n : Nat} (hk : o.toInt = (k : Int)) (hd : d.toInt = (n : Int)) (hb : k + n < 2 ^ 31) : (o + d).toInt = ((k + n : Nat) : Int) := by
  have := c_iadd o d; have := rng32 (o + d); omega
theorem own_orI (a b : Int32) (k : Nat) (hk : k ≤ 31) (P : Int) (hP : P = (2 ^ k : Nat)) (h1 : a.toInt % P = 0) (h2 : 0 ≤ b.toInt) (h3 : b.toInt < P) (h4 : 0 ≤ a.toInt) (h5 : a.toInt + b.toInt < 2147483648) : (a ||| b).toInt = a.toInt + b.toInt := by
  have := c_or a b k hk P hP h1 h2 h3; have := rng32 (a ||| b); omega
theorem own_addI (a b : Int32) (h1 : -2147483648 ≤ a.toInt + b.toInt) (h2 : a.toInt + b.toInt < 2147483648) : (a + b).toInt = a.toInt + b.toInt := by
  have := c_iadd a b; have := rng32 (a + b); omega
theorem own_subI (a b : Int32) (h1 : -2147483648 ≤ a.toInt - b.toInt) (h2 : a.toInt - b.toInt < 2147483648) : (a - b).toInt = a.toInt - b.toInt := by
  have := c_isub a b; have := rng32 (a - b); omega
theorem own_ba3 (y : Int32) : (y.toInt8.toInt32 &&& 7).toInt = y.toInt % 8 := by
  have e1 : (y.toInt8.toInt32 &&& 7).toInt = y.toInt8.toInt32.toInt % (2 ^ 3 : Nat) := c_mask _ 7 3 (by decide) (by decide)
  have e2 := c_i2b y
  omega
theorem own_ba4 (y : Int32) : (y.toInt8.toInt32 &&& 15).toInt = y.toInt % 16 := by
  have e1 : (y.toInt8.toInt32 &&& 15).toInt = y.toInt8.toInt32.toInt % (2 ^ 4 : Nat) := c_mask _ 15 4 (by decide) (by decide)
  have e2 := c_i2b y
  omega
theorem own_ba5 (y : Int32) : (y.toInt8.toInt32 &&& 31).toInt = y.toInt % 32 := by
  have e1 : (y.toInt8.toInt32 &&& 31).toInt = y.toInt8.toInt32.toInt % (2 ^ 5 : Nat) := c_mask _ 31 5 (by decide) (by decide)
  have e2 := c_i2b y
  omega
theorem own_ba6 (y : Int32) : (y.toInt8.toInt32 &&& 63).toInt = y.toInt % 64 := by
  have e1 : (y.toInt8.toInt32 &&& 63).toInt = y.toInt8.toInt32.toInt % (2 ^ 6 : Nat) := c_mask _ 63 6 (by decide) (by decide)
  have e2 := c_i2b y
  omega
theorem own_ba7 (y : Int32) : (y.toInt8.toInt32 &&& 127).toInt = y.toInt % 128 := by
  have e1 : (y.toInt8.toInt32 &&& 127).toInt = y.toInt8.toInt32.toInt % (2 ^ 7 : Nat) := c_mask _ 127 7 (by decide) (by decide)
  have e2 := c_i2b y
  omega
theorem own_ba8 (y : Int32) : (y.toInt8.toInt32 &&& 255).toInt = y.toInt % 256 := by
  have e1 : (y.toInt8.toInt32 &&& 255).toInt = y.toInt8.toInt32.toInt % (2 ^ 8 : Nat) := c_mask _ 255 8 (by decide) (by decide)
  have e2 := c_i2b y
  omega
theorem own_cont (q : Int32) : (((128 : Int32) ||| (q &&& 63)).toInt8.toInt32 &&& 63).toInt = q.toInt % 64 := by
  have e1 : (q &&& 63).toInt = q.toInt % (2 ^ 6 : Nat) := c_mask q 63 6 (by decide) (by decide)
  have z : (128 : Int32).toInt = 128 := rfl
  have e2 := own_orI 128 (q &&& 63) 7 (by decide) 128 (by decide) (by decide) (by omega) (by omega) (by decide) (by omega)
  rw [own_ba6, e2]; omega
theorem own_acc (x y : Int32) (h1 : 0 ≤ x.toInt) (h2 : x.toInt * 64 + 63 < 2147483648) (h3 : 0 ≤ y.toInt) (h4 : y.toInt < 64) : ((x <<< (6 &&& 31)) ||| y).toInt = x.toInt * 64 + y.toInt := by
  have e1 := c_ishl x 6 6 (by decide)
  have e2 := rng32 (x <<< (6 &&& 31))
  have e3 : (x <<< (6 &&& 31)).toInt = x.toInt * 64 := by omega
  rw [own_orI (x <<< (6 &&& 31)) y 6 (by decide) 64 (by decide) (by omega) h3 h4 (by omega) (by omega), e3]
end OwnKitThree
end Jvm.Pilot.@@N@@
namespace Jvm.Pilot.@@N@@
open Jvm Jvm.ClassFile Sem Op Lib Jvm.Free Jvm.Stand Jvm.LawKit Jvm.RoadKit Bundle Jvm.Pilot.@@N@@.Jvm.D
def own_L4 (a b c d : Int64) : List Int64 := [a, b, c, d, 0, 0, 0, 0, 0, 0, 0, 0, 0, 0, 0, 0]
def own_T4 (a b c d : Int32) : List Int32 := [a, b, c, d, 0, 0, 0, 0, 0, 0, 0, 0, 0, 0, 0, 0]
def own_min (x y : Int64) : Int64 := if y < x then y else x
def own_mx (x y : Int32) : Int32 := if x < y then y else x
theorem own_minM (x : Int64) : own_min 9223372036854775807 x = x := by
  rw [own_min]; split
  · rfl
  · rename_i q
    have r := rng64 x
    have z : (9223372036854775807 : Int64).toInt = 9223372036854775807 := by decide
    rw [Int64.lt_iff_toInt_lt] at q
    exact Int64.toInt_inj.mp (by omega)
theorem own_ms (x : Int64) : 0 ≤ (x &&& 4611686018427387903).toInt ∧ (x &&& 4611686018427387903).toInt < 4611686018427387904 := by
  have e : (x &&& 4611686018427387903).toInt = x.toInt % (2 ^ 62 : Nat) := c_maskL x 4611686018427387903 62 (by decide) (by decide)
  omega
theorem own_rem (a res s : Int64) (h0 : 0 ≤ res.toInt) (h1 : res.toInt < 4611686018427387904) (e : (a &&& 4611686018427387903) % (res + 1) = s) : 0 ≤ s.toInt ∧ s.toInt ≤ res.toInt := by
  have e1 := own_ms a
  have z : (1 : Int64).toInt = 1 := rfl
  have e2 : (res + 1).toInt = res.toInt + 1 := by have := c_ladd res 1; have := rng64 (res + 1); omega
  have e3 : s.toInt = (a &&& 4611686018427387903).toInt.tmod (res + 1).toInt := by rw [← e, Int64.toInt_mod]
  have e4 : (a &&& 4611686018427387903).toInt.tmod (res + 1).toInt = (a &&& 4611686018427387903).toInt % (res + 1).toInt := Int.tmod_eq_emod_of_nonneg e1.1
  have p1 := Int.emod_nonneg (a &&& 4611686018427387903).toInt (b := (res + 1).toInt) (by omega)
  have p2 := Int.emod_lt_of_pos (a &&& 4611686018427387903).toInt (b := (res + 1).toInt) (by omega)
  omega
theorem own_nz (res : Int64) (h0 : 0 ≤ res.toInt) (h1 : res.toInt < 4611686018427387904) : res + 1 ≠ 0 := by
  intro q
  have z : (1 : Int64).toInt = 1 := rfl
  have e2 : (res + 1).toInt = res.toInt + 1 := by have := c_ladd res 1; have := rng64 (res + 1); omega
  rw [q] at e2; have z0 : (0 : Int64).toInt = 0 := rfl; omega
theorem own_lt0 (s : Int64) (h : 0 ≤ s.toInt) : ¬ s < 0 := by rw [Int64.lt_iff_toInt_lt]; show ¬ s.toInt < (0 : Int); omega
theorem own_le (s r : Int64) (h : s.toInt ≤ r.toInt) : ¬ r < s := by rw [Int64.lt_iff_toInt_lt]; omega
theorem own_a1 (c s : Int64) : c - (c - s) = s := by
  have e1 := c_lsub c (c - s); have e2 := c_lsub c s; have r1 := rng64 (c - (c - s)); have r2 := rng64 s
  exact Int64.toInt_inj.mp (by omega)
theorem own_a2 (r s : Int64) : r - (r + s) = -s := by
  have e1 := c_lsub r (r + s); have e2 := c_ladd r s; have e3 := c_lneg s; have r1 := rng64 (r - (r + s)); have r2 := rng64 (-s)
  exact Int64.toInt_inj.mp (by omega)
theorem own_a3 (s : Int64) : s - 0 = s := by
  have e1 := c_lsub s 0; have z : (0 : Int64).toInt = 0 := rfl; have r1 := rng64 (s - 0); have r2 := rng64 s
  exact Int64.toInt_inj.mp (by omega)
theorem own_a4 (s : Int64) : - -s = s := by
  have e1 := c_lneg (-s); have e3 := c_lneg s; have r1 := rng64 (- -s); have r2 := rng64 s
  exact Int64.toInt_inj.mp (by omega)
theorem own_z4 (x z : Int32) (e : x &&& 1 = z) : z = 0 ∨ z = 1 := by rw [← e]; exact and_one x
theorem own_ax (x : Int64) (h : 0 ≤ x.toInt) : ¬ (((0 : Int64) ^^^ (0 + x)) &&& (x ^^^ (0 + x))) < 0 := by
  have z : (0 : Int64).toInt = 0 := rfl
  apply Jvm.Free.XT.addOk64; rw [z]; exact ⟨by have := rng64 x; omega, by have := rng64 x; omega⟩
theorem own_ef_min (x : Int64) (y : Int64) (m : MethodId) : entryFrame m #[(.long x), (.long y)] 4 = mkF m 0 #[.val (.long x), .second, .val (.long y), .second] [] := by first | (simp [entryFrame, mkF, argsToLocals, Value.category]; done) | rfl
theorem own_d13_0 : decode jdk_29_method_70_code 0 = .ok (.lload_n 0, 1) := by decide +kernel
theorem own_d13_1 : decode jdk_29_method_70_code 1 = .ok (.lload_n 2, 1) := by decide +kernel
theorem own_d13_2 : decode jdk_29_method_70_code 2 = .ok (.lcmp, 1) := by decide +kernel
theorem own_d13_3 : decode jdk_29_method_70_code 3 = .ok (.ifCond .gt 7, 3) := by decide +kernel
theorem own_d13_10 : decode jdk_29_method_70_code 10 = .ok (.lload_n 2, 1) := by decide +kernel
theorem own_d13_11 : decode jdk_29_method_70_code 11 = .ok (.lreturn, 1) := by decide +kernel
theorem own_d13_6 : decode jdk_29_method_70_code 6 = .ok (.lload_n 0, 1) := by decide +kernel
theorem own_d13_7 : decode jdk_29_method_70_code 7 = .ok (.goto 4, 3) := by decide +kernel
set_option maxRecDepth 65536 in
set_option maxHeartbeats 40000000 in
theorem own_m_min (l : Launch) (Z : State) (a0 : Array Value) (hw : ∀ d ∈ tables_1, d.before a0 Z = true) (x : Int64) (y : Int64) (h0 : Heap) (n0 : Nat) (hn0 : n0 ≤ h0.size)  : own_Met l Z n0 (⟨"java/lang/Math", "min", "(JJ)J"⟩ : MethodName) jdk_29_method_70_code 4 (some .long) [] ({ frames := 0, cells := 0, slots := 0, locals := 0 } : Room) #[(.long x), (.long y)] h0 (fun v h => v = some (.long (own_min x y)) ∧ h0 = h) := by
  refine own_body (Jvm.Free.JP.mathPlain rfl (by decide +kernel)) hn0 (own_ef_min x y) ?_
  intro p e s m below meth c T C X
  refine own_lloadN C X own_d13_0 rfl (pc' := 1) rfl ?_
  refine own_lloadN C X own_d13_1 rfl (pc' := 2) rfl ?_
  refine own_lcmp_gt C X own_d13_2 own_d13_3 (pcT := 10) (pc' := 6) (by decide) (by decide) rfl (fun hc2 => ?_) (fun hc2 => ?_)
  · refine own_lloadN C X own_d13_10 rfl (pc' := 11) rfl ?_
    exact own_lreturn C X own_d13_11 (Nat.le_of_ble_eq_true rfl) (Nat.le_of_ble_eq_true rfl) (⟨by rw [own_min]; simp only [hc2, if_true, if_false], rfl⟩)
  · refine own_lloadN C X own_d13_6 rfl (pc' := 7) rfl ?_
    refine own_goto C X own_d13_7 (pc' := 11) (by decide) (by decide) ?_
    exact own_lreturn C X own_d13_11 (Nat.le_of_ble_eq_true rfl) (Nat.le_of_ble_eq_true rfl) (⟨by rw [own_min]; simp only [hc2, if_true, if_false], rfl⟩)
theorem own_ef_max (x : Int32) (y : Int32) (m : MethodId) : entryFrame m #[(.int x), (.int y)] 2 = mkF m 0 #[.val (.int x), .val (.int y)] [] := by first | (simp [entryFrame, mkF, argsToLocals, Value.category]; done) | rfl
theorem own_d4_0 : decode jdk_29_method_65_code 0 = .ok (.iload_n 0, 1) := by decide +kernel
theorem own_d4_1 : decode jdk_29_method_65_code 1 = .ok (.iload_n 1, 1) := by decide +kernel
theorem own_d4_2 : decode jdk_29_method_65_code 2 = .ok (.if_icmp .lt 7, 3) := by decide +kernel
theorem own_d4_9 : decode jdk_29_method_65_code 9 = .ok (.iload_n 1, 1) := by decide +kernel
theorem own_d4_10 : decode jdk_29_method_65_code 10 = .ok (.ireturn, 1) := by decide +kernel
theorem own_d4_5 : decode jdk_29_method_65_code 5 = .ok (.iload_n 0, 1) := by decide +kernel
theorem own_d4_6 : decode jdk_29_method_65_code 6 = .ok (.goto 4, 3) := by decide +kernel
set_option maxRecDepth 65536 in
set_option maxHeartbeats 40000000 in
theorem own_m_max (l : Launch) (Z : State) (a0 : Array Value) (hw : ∀ d ∈ tables_1, d.before a0 Z = true) (x : Int32) (y : Int32) (h0 : Heap) (n0 : Nat) (hn0 : n0 ≤ h0.size) (r : Int32) (hr : own_mx x y = r) : own_Met l Z n0 (⟨"java/lang/Math", "max", "(II)I"⟩ : MethodName) jdk_29_method_65_code 2 (some .int) [] ({ frames := 0, cells := 0, slots := 0, locals := 0 } : Room) #[(.int x), (.int y)] h0 (fun v h => v = some (.int r) ∧ h0 = h) := by
  refine own_body (Jvm.Free.JP.mathPlain rfl (by decide +kernel)) hn0 (own_ef_max x y) ?_
  intro p e s m below meth c T C X
  refine own_iloadN C X own_d4_0 rfl (pc' := 1) rfl ?_
  refine own_iloadN C X own_d4_1 rfl (pc' := 2) rfl ?_
  refine own_icmp_lt C X own_d4_2 (pcT := 9) (pc' := 5) (by decide) (by decide) rfl (fun hc2 => ?_) (fun hc2 => ?_)
  · refine own_iloadN C X own_d4_9 rfl (pc' := 10) rfl ?_
    exact own_ireturn C X own_d4_10 (Nat.le_of_ble_eq_true rfl) (Nat.le_of_ble_eq_true rfl) (⟨by rw [← hr, own_mx]; simp only [hc2, if_true, if_false], rfl⟩)
  · refine own_iloadN C X own_d4_5 rfl (pc' := 6) rfl ?_
    refine own_goto C X own_d4_6 (pc' := 10) (by decide) (by decide) ?_
    exact own_ireturn C X own_d4_10 (Nat.le_of_ble_eq_true rfl) (Nat.le_of_ble_eq_true rfl) (⟨by rw [← hr, own_mx]; simp only [hc2, if_true, if_false], rfl⟩)
theorem own_ef_addx (x : Int64) (y : Int64) (m : MethodId) : entryFrame m #[(.long x), (.long y)] 6 = mkF m 0 #[.val (.long x), .second, .val (.long y), .second, .unset, .unset] [] := by first | (simp [entryFrame, mkF, argsToLocals, Value.category]; done) | rfl
theorem own_d14_0 : decode jdk_29_method_25_code 0 = .ok (.lload_n 0, 1) := by decide +kernel
theorem own_d14_1 : decode jdk_29_method_25_code 1 = .ok (.lload_n 2, 1) := by decide +kernel
theorem own_d14_2 : decode jdk_29_method_25_code 2 = .ok (.ladd, 1) := by decide +kernel
theorem own_d14_3 : decode jdk_29_method_25_code 3 = .ok (.lstore 4, 2) := by decide +kernel
theorem own_d14_5 : decode jdk_29_method_25_code 5 = .ok (.lload_n 0, 1) := by decide +kernel
theorem own_d14_6 : decode jdk_29_method_25_code 6 = .ok (.lload 4, 2) := by decide +kernel
theorem own_d14_8 : decode jdk_29_method_25_code 8 = .ok (.lxor, 1) := by decide +kernel
theorem own_d14_9 : decode jdk_29_method_25_code 9 = .ok (.lload_n 2, 1) := by decide +kernel
theorem own_d14_10 : decode jdk_29_method_25_code 10 = .ok (.lload 4, 2) := by decide +kernel
theorem own_d14_12 : decode jdk_29_method_25_code 12 = .ok (.lxor, 1) := by decide +kernel
theorem own_d14_13 : decode jdk_29_method_25_code 13 = .ok (.land, 1) := by decide +kernel
theorem own_d14_14 : decode jdk_29_method_25_code 14 = .ok (.lconst 0, 1) := by decide +kernel
theorem own_d14_15 : decode jdk_29_method_25_code 15 = .ok (.lcmp, 1) := by decide +kernel
theorem own_d14_16 : decode jdk_29_method_25_code 16 = .ok (.ifCond .ge 13, 3) := by decide +kernel
theorem own_d14_29 : decode jdk_29_method_25_code 29 = .ok (.lload 4, 2) := by decide +kernel
theorem own_d14_31 : decode jdk_29_method_25_code 31 = .ok (.lreturn, 1) := by decide +kernel
set_option maxRecDepth 65536 in
set_option maxHeartbeats 40000000 in
theorem own_m_addx (l : Launch) (Z : State) (a0 : Array Value) (hw : ∀ d ∈ tables_1, d.before a0 Z = true) (x : Int64) (y : Int64) (h0 : Heap) (n0 : Nat) (hn0 : n0 ≤ h0.size) (ho : ¬ ((x ^^^ (x + y)) &&& (y ^^^ (x + y))) < 0) : own_Met l Z n0 (⟨"java/lang/Math", "addExact", "(JJ)J"⟩ : MethodName) jdk_29_method_25_code 6 (some .long) [] ({ frames := 0, cells := 0, slots := 0, locals := 0 } : Room) #[(.long x), (.long y)] h0 (fun v h => v = some (.long (x + y)) ∧ h0 = h) := by
  refine own_body (Jvm.Free.JP.mathPlain rfl (by decide +kernel)) hn0 (own_ef_addx x y) ?_
  intro p e s m below meth c T C X
  refine own_lloadN C X own_d14_0 rfl (pc' := 1) rfl ?_
  refine own_lloadN C X own_d14_1 rfl (pc' := 2) rfl ?_
  refine own_ladd C X own_d14_2 rfl (pc' := 3) rfl ?_
  refine own_lstore C X own_d14_3 (L' := #[.val (.long x), .second, .val (.long y), .second, .val (.long (x + y)), .second]) rfl (pc' := 5) rfl ?_
  refine own_lloadN C X own_d14_5 rfl (pc' := 6) rfl ?_
  refine own_lload C X own_d14_6 rfl (pc' := 8) rfl ?_
  refine own_lxor C X own_d14_8 rfl (pc' := 9) rfl ?_
  refine own_lloadN C X own_d14_9 rfl (pc' := 10) rfl ?_
  refine own_lload C X own_d14_10 rfl (pc' := 12) rfl ?_
  refine own_lxor C X own_d14_12 rfl (pc' := 13) rfl ?_
  refine own_land C X own_d14_13 rfl (pc' := 14) rfl ?_
  refine own_lconst C X own_d14_14 (v := 0) (by decide) (pc' := 15) rfl ?_
  refine own_lcmp_ge C X own_d14_15 own_d14_16 (pcT := 29) (pc' := 19) (by decide) (by decide) rfl (fun hc15 => ?_) (fun hc15 => absurd hc15 (ho))
  refine own_lload C X own_d14_29 rfl (pc' := 31) rfl ?_
  exact own_lreturn C X own_d14_31 (Nat.le_of_ble_eq_true rfl) (Nat.le_of_ble_eq_true rfl) (⟨rfl, rfl⟩)
theorem own_pn_java_util_Arrays : plainName "java/util/Arrays" = true := by first | (simp [plainName, overriddenIn]; done) | decide +kernel
theorem own_ef_fill (a : Addr) (u : Int32) (m : MethodId) : entryFrame m #[(.ref a), (.int u)] 4 = mkF m 0 #[.val (.ref a), .val (.int u), .unset, .unset] [] := by first | (simp [entryFrame, mkF, argsToLocals, Value.category]; done) | rfl
theorem own_d3_0 : decode jdk_65_method_103_code 0 = .ok (.iconst 0, 1) := by decide +kernel
theorem own_d3_1 : decode jdk_65_method_103_code 1 = .ok (.istore_n 2, 1) := by decide +kernel
theorem own_d3_2 : decode jdk_65_method_103_code 2 = .ok (.aload_n 0, 1) := by decide +kernel
theorem own_d3_3 : decode jdk_65_method_103_code 3 = .ok (.arraylength, 1) := by decide +kernel
theorem own_d3_4 : decode jdk_65_method_103_code 4 = .ok (.istore_n 3, 1) := by decide +kernel
theorem own_d3_5 : decode jdk_65_method_103_code 5 = .ok (.iload_n 2, 1) := by decide +kernel
theorem own_d3_6 : decode jdk_65_method_103_code 6 = .ok (.iload_n 3, 1) := by decide +kernel
theorem own_d3_7 : decode jdk_65_method_103_code 7 = .ok (.if_icmp .ge 13, 3) := by decide +kernel
theorem own_d3_10 : decode jdk_65_method_103_code 10 = .ok (.aload_n 0, 1) := by decide +kernel
theorem own_d3_11 : decode jdk_65_method_103_code 11 = .ok (.iload_n 2, 1) := by decide +kernel
theorem own_d3_12 : decode jdk_65_method_103_code 12 = .ok (.iload_n 1, 1) := by decide +kernel
theorem own_d3_13 : decode jdk_65_method_103_code 13 = .ok (.iastore, 1) := by decide +kernel
theorem own_d3_14 : decode jdk_65_method_103_code 14 = .ok (.iinc 2 1, 3) := by decide +kernel
theorem own_d3_17 : decode jdk_65_method_103_code 17 = .ok (.goto (-12), 3) := by decide +kernel
theorem own_d3_20 : decode jdk_65_method_103_code 20 = .ok (.return_, 1) := by decide +kernel
set_option maxRecDepth 65536 in
set_option maxHeartbeats 40000000 in
theorem own_m_fill (l : Launch) (Z : State) (a0 : Array Value) (hw : ∀ d ∈ tables_1, d.before a0 Z = true) (a : Addr) (u : Int32) (h0 : Heap) (n0 : Nat) (hn0 : n0 ≤ h0.size) (x0 x1 : Int32) (A : own_IA Z h0 a .int [x0, x1]) (ge_a : n0 ≤ a) : own_Met l Z n0 (⟨"java/util/Arrays", "fill", "([II)V"⟩ : MethodName) jdk_65_method_103_code 4 none [] ({ frames := 0, cells := 0, slots := 0, locals := 0 } : Room) #[(.ref a), (.int u)] h0 (fun v h => v = none ∧ Keep h0 h [a] ∧ own_IA Z h a .int [u, u]) := by
  refine own_body (plainFor_of_name own_pn_java_util_Arrays) hn0 (own_ef_fill a u) ?_
  intro p e s m below meth c T C X
  have KK := Keep.refl h0 [a]
  refine own_iconst C X own_d3_0 (v := 0) (by decide) (pc' := 1) rfl ?_
  refine own_istoreN C X own_d3_1 (L' := #[.val (.ref a), .val (.int u), .val (.int (0 : Int32)), .unset]) rfl (pc' := 2) rfl ?_
  refine own_aloadN C X own_d3_2 rfl rfl (pc' := 3) rfl ?_
  refine own_alenI C X own_d3_3 (n := 2) A rfl (pc' := 4) rfl ?_
  refine own_istoreN C X own_d3_4 (L' := #[.val (.ref a), .val (.int u), .val (.int (0 : Int32)), .val (.int (2 : Int32))]) rfl (pc' := 5) rfl ?_
  refine own_iloadN C X own_d3_5 rfl (pc' := 6) rfl ?_
  refine own_iloadN C X own_d3_6 rfl (pc' := 7) rfl ?_
  refine own_icmp_ge C X own_d3_7 (pcT := 20) (pc' := 10) (by decide) (by decide) rfl (fun hc7 => absurd hc7 (by decide)) (fun hc7 => ?_)
  refine own_aloadN C X own_d3_10 rfl rfl (pc' := 11) rfl ?_
  refine own_iloadN C X own_d3_11 rfl (pc' := 12) rfl ?_
  refine own_iloadN C X own_d3_12 rfl (pc' := 13) rfl ?_
  refine own_iastore C X own_d3_13 A (by decide) (i := 0) (Nat.le_of_ble_eq_true rfl) ge_a (pc' := 14) rfl ?_
  intro T h X K_ A_
  have A : own_IA Z h a .int [u, x1] := A_
  have KK := KK.trans K_ (allS (Or.inl (by simp)) all0)
  refine own_iinc C X own_d3_14 rfl (d := 1) (by decide) (z := 1) (by decide) (L' := #[.val (.ref a), .val (.int u), .val (.int (1 : Int32)), .val (.int (2 : Int32))]) rfl (pc' := 17) rfl ?_
  refine own_goto C X own_d3_17 (pc' := 5) (by decide) (by decide) ?_
  refine own_iloadN C X own_d3_5 rfl (pc' := 6) rfl ?_
  refine own_iloadN C X own_d3_6 rfl (pc' := 7) rfl ?_
  refine own_icmp_ge C X own_d3_7 (pcT := 20) (pc' := 10) (by decide) (by decide) rfl (fun hc7_2 => absurd hc7_2 (by decide)) (fun hc7_2 => ?_)
  refine own_aloadN C X own_d3_10 rfl rfl (pc' := 11) rfl ?_
  refine own_iloadN C X own_d3_11 rfl (pc' := 12) rfl ?_
  refine own_iloadN C X own_d3_12 rfl (pc' := 13) rfl ?_
  refine own_iastore C X own_d3_13 A (by decide) (i := 1) (Nat.le_of_ble_eq_true rfl) ge_a (pc' := 14) rfl ?_
  intro T h X K_ A_
  have A : own_IA Z h a .int [u, u] := A_
  have KK := KK.trans K_ (allS (Or.inl (by simp)) all0)
  refine own_iinc C X own_d3_14 rfl (d := 1) (by decide) (z := 2) (by decide) (L' := #[.val (.ref a), .val (.int u), .val (.int (2 : Int32)), .val (.int (2 : Int32))]) rfl (pc' := 17) rfl ?_
  refine own_goto C X own_d3_17 (pc' := 5) (by decide) (by decide) ?_
  refine own_iloadN C X own_d3_5 rfl (pc' := 6) rfl ?_
  refine own_iloadN C X own_d3_6 rfl (pc' := 7) rfl ?_
  refine own_icmp_ge C X own_d3_7 (pcT := 20) (pc' := 10) (by decide) (by decide) rfl (fun hc7_3 => ?_) (fun hc7_3 => absurd hc7_3 (by decide))
  exact own_return C X own_d3_20 (Nat.le_of_ble_eq_true rfl) (Nat.le_of_ble_eq_true rfl) (⟨rfl, KK, A⟩)
theorem own_pn_com_example_stablemate_stablemate_FlowNetwork : plainName "com/example/stablemate/stablemate/FlowNetwork" = true := by first | (simp [plainName, overriddenIn]; done) | decide +kernel
theorem own_ef_init (o : Addr) (m : MethodId) : entryFrame m #[(.ref o), (.int (2 : Int32)), (.int (2 : Int32))] 4 = mkF m 0 #[.val (.ref o), .val (.int (2 : Int32)), .val (.int (2 : Int32)), .unset] [] := by first | (simp [entryFrame, mkF, argsToLocals, Value.category]; done) | rfl
theorem own_d1_0 : decode prog_12_method_2_code 0 = .ok (.aload_n 0, 1) := by decide +kernel
theorem own_d1_1 : decode prog_12_method_2_code 1 = .ok (.invokespecial 7, 3) := by decide +kernel
theorem own_d1_4 : decode prog_12_method_2_code 4 = .ok (.aload_n 0, 1) := by decide +kernel
theorem own_d1_5 : decode prog_12_method_2_code 5 = .ok (.iconst 1, 1) := by decide +kernel
theorem own_d1_6 : decode prog_12_method_2_code 6 = .ok (.putfield 12, 3) := by decide +kernel
theorem own_d1_9 : decode prog_12_method_2_code 9 = .ok (.aload_n 0, 1) := by decide +kernel
theorem own_d1_10 : decode prog_12_method_2_code 10 = .ok (.iconst (-1), 1) := by decide +kernel
theorem own_d1_11 : decode prog_12_method_2_code 11 = .ok (.putfield 16, 3) := by decide +kernel
theorem own_d1_14 : decode prog_12_method_2_code 14 = .ok (.aload_n 0, 1) := by decide +kernel
theorem own_d1_15 : decode prog_12_method_2_code 15 = .ok (.iconst (-1), 1) := by decide +kernel
theorem own_d1_16 : decode prog_12_method_2_code 16 = .ok (.putfield 19, 3) := by decide +kernel
theorem own_d1_19 : decode prog_12_method_2_code 19 = .ok (.aload_n 0, 1) := by decide +kernel
theorem own_d1_20 : decode prog_12_method_2_code 20 = .ok (.iload_n 1, 1) := by decide +kernel
theorem own_d1_21 : decode prog_12_method_2_code 21 = .ok (.newarray .int, 2) := by decide +kernel
theorem own_d1_23 : decode prog_12_method_2_code 23 = .ok (.putfield 22, 3) := by decide +kernel
theorem own_d1_26 : decode prog_12_method_2_code 26 = .ok (.aload_n 0, 1) := by decide +kernel
theorem own_d1_27 : decode prog_12_method_2_code 27 = .ok (.getfield 22, 3) := by decide +kernel
theorem own_d1_30 : decode prog_12_method_2_code 30 = .ok (.iconst (-1), 1) := by decide +kernel
theorem own_pd_3878 : parseMethodDescriptor "([II)V" = some ⟨[(.array .int), .int], none⟩ := by decide +kernel
theorem own_d1_31 : decode prog_12_method_2_code 31 = .ok (.invokestatic 26, 3) := by decide +kernel
theorem own_d1_34 : decode prog_12_method_2_code 34 = .ok (.aload_n 0, 1) := by decide +kernel
theorem own_d1_35 : decode prog_12_method_2_code 35 = .ok (.iload_n 1, 1) := by decide +kernel
theorem own_d1_36 : decode prog_12_method_2_code 36 = .ok (.newarray .int, 2) := by decide +kernel
theorem own_d1_38 : decode prog_12_method_2_code 38 = .ok (.putfield 32, 3) := by decide +kernel
theorem own_d1_41 : decode prog_12_method_2_code 41 = .ok (.aload_n 0, 1) := by decide +kernel
theorem own_d1_42 : decode prog_12_method_2_code 42 = .ok (.iload_n 1, 1) := by decide +kernel
theorem own_d1_43 : decode prog_12_method_2_code 43 = .ok (.newarray .int, 2) := by decide +kernel
theorem own_d1_45 : decode prog_12_method_2_code 45 = .ok (.putfield 35, 3) := by decide +kernel
theorem own_d1_48 : decode prog_12_method_2_code 48 = .ok (.aload_n 0, 1) := by decide +kernel
theorem own_d1_49 : decode prog_12_method_2_code 49 = .ok (.iload_n 1, 1) := by decide +kernel
theorem own_d1_50 : decode prog_12_method_2_code 50 = .ok (.iconst 1, 1) := by decide +kernel
theorem own_d1_51 : decode prog_12_method_2_code 51 = .ok (.iadd, 1) := by decide +kernel
theorem own_d1_52 : decode prog_12_method_2_code 52 = .ok (.newarray .int, 2) := by decide +kernel
theorem own_d1_54 : decode prog_12_method_2_code 54 = .ok (.putfield 38, 3) := by decide +kernel
theorem own_d1_57 : decode prog_12_method_2_code 57 = .ok (.aload_n 0, 1) := by decide +kernel
theorem own_d1_58 : decode prog_12_method_2_code 58 = .ok (.iload_n 1, 1) := by decide +kernel
theorem own_d1_59 : decode prog_12_method_2_code 59 = .ok (.newarray .int, 2) := by decide +kernel
theorem own_d1_61 : decode prog_12_method_2_code 61 = .ok (.putfield 41, 3) := by decide +kernel
theorem own_d1_64 : decode prog_12_method_2_code 64 = .ok (.aload_n 0, 1) := by decide +kernel
theorem own_d1_65 : decode prog_12_method_2_code 65 = .ok (.iload_n 1, 1) := by decide +kernel
theorem own_d1_66 : decode prog_12_method_2_code 66 = .ok (.newarray .int, 2) := by decide +kernel
theorem own_d1_68 : decode prog_12_method_2_code 68 = .ok (.putfield 44, 3) := by decide +kernel
theorem own_d1_71 : decode prog_12_method_2_code 71 = .ok (.aload_n 0, 1) := by decide +kernel
theorem own_d1_72 : decode prog_12_method_2_code 72 = .ok (.iload_n 1, 1) := by decide +kernel
theorem own_d1_73 : decode prog_12_method_2_code 73 = .ok (.newarray .int, 2) := by decide +kernel
theorem own_d1_75 : decode prog_12_method_2_code 75 = .ok (.putfield 47, 3) := by decide +kernel
theorem own_d1_78 : decode prog_12_method_2_code 78 = .ok (.iconst 2, 1) := by decide +kernel
theorem own_d1_79 : decode prog_12_method_2_code 79 = .ok (.iload_n 2, 1) := by decide +kernel
theorem own_d1_80 : decode prog_12_method_2_code 80 = .ok (.bipush 8, 2) := by decide +kernel
theorem own_pd_2734 : parseMethodDescriptor "(II)I" = some ⟨[.int, .int], some .int⟩ := by decide +kernel
theorem own_d1_82 : decode prog_12_method_2_code 82 = .ok (.invokestatic 50, 3) := by decide +kernel
theorem own_d1_85 : decode prog_12_method_2_code 85 = .ok (.imul, 1) := by decide +kernel
theorem own_d1_86 : decode prog_12_method_2_code 86 = .ok (.istore_n 3, 1) := by decide +kernel
theorem own_d1_87 : decode prog_12_method_2_code 87 = .ok (.aload_n 0, 1) := by decide +kernel
theorem own_d1_88 : decode prog_12_method_2_code 88 = .ok (.iload_n 3, 1) := by decide +kernel
theorem own_d1_89 : decode prog_12_method_2_code 89 = .ok (.newarray .int, 2) := by decide +kernel
theorem own_d1_91 : decode prog_12_method_2_code 91 = .ok (.putfield 56, 3) := by decide +kernel
theorem own_d1_94 : decode prog_12_method_2_code 94 = .ok (.aload_n 0, 1) := by decide +kernel
theorem own_d1_95 : decode prog_12_method_2_code 95 = .ok (.iload_n 3, 1) := by decide +kernel
theorem own_d1_96 : decode prog_12_method_2_code 96 = .ok (.newarray .int, 2) := by decide +kernel
theorem own_d1_98 : decode prog_12_method_2_code 98 = .ok (.putfield 59, 3) := by decide +kernel
theorem own_d1_101 : decode prog_12_method_2_code 101 = .ok (.aload_n 0, 1) := by decide +kernel
theorem own_d1_102 : decode prog_12_method_2_code 102 = .ok (.iload_n 3, 1) := by decide +kernel
theorem own_d1_103 : decode prog_12_method_2_code 103 = .ok (.newarray .long, 2) := by decide +kernel
theorem own_d1_105 : decode prog_12_method_2_code 105 = .ok (.putfield 62, 3) := by decide +kernel
theorem own_d1_108 : decode prog_12_method_2_code 108 = .ok (.aload_n 0, 1) := by decide +kernel
theorem own_d1_109 : decode prog_12_method_2_code 109 = .ok (.iload_n 3, 1) := by decide +kernel
theorem own_d1_110 : decode prog_12_method_2_code 110 = .ok (.newarray .long, 2) := by decide +kernel
theorem own_d1_112 : decode prog_12_method_2_code 112 = .ok (.putfield 66, 3) := by decide +kernel
theorem own_d1_115 : decode prog_12_method_2_code 115 = .ok (.return_, 1) := by decide +kernel
set_option maxRecDepth 65536 in
set_option maxHeartbeats 40000000 in
theorem own_m_init (l : Launch) (Z : State) (a0 : Array Value) (hw : ∀ d ∈ tables_1, d.before a0 Z = true) (o : Addr) (h0 : Heap) (n0 : Nat) (hn0 : n0 ≤ h0.size) (O : own_Ob Z a0 h0 o "com/example/stablemate/stablemate/FlowNetwork" [("deadMark", "I", (.int (0 : Int32))), ("deadFrom", "I", (.int (0 : Int32))), ("deadTo", "I", (.int (0 : Int32))), ("heads", "[I", .null), ("marks", "[I", .null), ("cursors", "[I", .null), ("searchPath", "[I", .null), ("reached", "[I", .null), ("distances", "[I", .null), ("deadMarks", "[I", .null), ("nexts", "[I", .null), ("targets", "[I", .null), ("capacities", "[J", .null), ("residuals", "[J", .null), ("arcs", "I", (.int (0 : Int32)))]) (ge_o : n0 ≤ o) : own_Met l Z n0 (⟨"com/example/stablemate/stablemate/FlowNetwork", "<init>", "(II)V"⟩ : MethodName) prog_12_method_2_code 4 none [] ({ frames := 1, cells := 11, slots := 79, locals := 40 } : Room) #[(.ref o), (.int (2 : Int32)), (.int (2 : Int32))] h0 (fun v h => v = none ∧ ∃ hd r1 r2 r3 r4 r5 r6 nx tg cp rs, h0.size ≤ hd ∧ hd < nx ∧ nx < tg ∧ tg < cp ∧ cp < rs ∧ Keep h0 h [o] ∧ own_Ob Z a0 h o "com/example/stablemate/stablemate/FlowNetwork" [("deadMark", "I", (.int (1 : Int32))), ("deadFrom", "I", (.int (-1 : Int32))), ("deadTo", "I", (.int (-1 : Int32))), ("heads", "[I", (.ref hd)), ("marks", "[I", (.ref r1)), ("cursors", "[I", (.ref r2)), ("searchPath", "[I", (.ref r3)), ("reached", "[I", (.ref r4)), ("distances", "[I", (.ref r5)), ("deadMarks", "[I", (.ref r6)), ("nexts", "[I", (.ref nx)), ("targets", "[I", (.ref tg)), ("capacities", "[J", (.ref cp)), ("residuals", "[J", (.ref rs)), ("arcs", "I", (.int (0 : Int32)))] ∧ own_IA Z h hd .int [(-1 : Int32), (-1 : Int32)] ∧ own_IA Z h nx .int (own_T4 0 0 0 0) ∧ own_IA Z h tg .int (own_T4 0 0 0 0) ∧ own_JA Z h cp (own_L4 0 0 0 0) ∧ own_JA Z h rs (own_L4 0 0 0 0)) := by
  refine own_body (plainFor_of_name own_pn_com_example_stablemate_stablemate_FlowNetwork) hn0 (own_ef_init o) ?_
  intro p e s m below meth c T C X
  have KK := Keep.refl h0 [o]
  refine own_aloadN C X own_d1_0 rfl rfl (pc' := 1) rfl ?_
  refine own_objinit C X own_d1_1 (hw _ (List.mem_of_getElem? (i := 8) rfl)) (hw _ (List.mem_of_getElem? (i := 9) rfl)) (hw _ (List.mem_of_getElem? (i := 10) rfl)) rfl (by decide) (Nat.le_of_ble_eq_true rfl) (pc' := 4) rfl ?_
  intro T X
  refine own_aloadN C X own_d1_4 rfl rfl (pc' := 5) rfl ?_
  refine own_iconst C X own_d1_5 (v := 1) (by decide) (pc' := 6) rfl ?_
  refine own_putfield C X own_d1_6 (hw _ (List.mem_of_getElem? (i := 11) rfl)) (Or.inl (hw _ (List.mem_of_getElem? (i := 12) rfl))) (hw _ (List.mem_of_getElem? (i := 3) rfl)) O (i := 0) rfl (ty := .int) (by decide) rfl rfl ge_o (pc' := 9) rfl ?_
  intro T h X K_ O_
  have O : own_Ob Z a0 h o "com/example/stablemate/stablemate/FlowNetwork" [("deadMark", "I", (.int (1 : Int32))), ("deadFrom", "I", (.int (0 : Int32))), ("deadTo", "I", (.int (0 : Int32))), ("heads", "[I", .null), ("marks", "[I", .null), ("cursors", "[I", .null), ("searchPath", "[I", .null), ("reached", "[I", .null), ("distances", "[I", .null), ("deadMarks", "[I", .null), ("nexts", "[I", .null), ("targets", "[I", .null), ("capacities", "[J", .null), ("residuals", "[J", .null), ("arcs", "I", (.int (0 : Int32)))] := O_
  have KK := KK.trans K_ (allS (Or.inl (by simp)) all0)
  refine own_aloadN C X own_d1_9 rfl rfl (pc' := 10) rfl ?_
  refine own_iconst C X own_d1_10 (v := -1) (by decide) (pc' := 11) rfl ?_
  refine own_putfield C X own_d1_11 (hw _ (List.mem_of_getElem? (i := 13) rfl)) (Or.inl (hw _ (List.mem_of_getElem? (i := 14) rfl))) (hw _ (List.mem_of_getElem? (i := 3) rfl)) O (i := 1) rfl (ty := .int) (by decide) rfl rfl ge_o (pc' := 14) rfl ?_
  intro T h X K_ O_
  have O : own_Ob Z a0 h o "com/example/stablemate/stablemate/FlowNetwork" [("deadMark", "I", (.int (1 : Int32))), ("deadFrom", "I", (.int (-1 : Int32))), ("deadTo", "I", (.int (0 : Int32))), ("heads", "[I", .null), ("marks", "[I", .null), ("cursors", "[I", .null), ("searchPath", "[I", .null), ("reached", "[I", .null), ("distances", "[I", .null), ("deadMarks", "[I", .null), ("nexts", "[I", .null), ("targets", "[I", .null), ("capacities", "[J", .null), ("residuals", "[J", .null), ("arcs", "I", (.int (0 : Int32)))] := O_
  have KK := KK.trans K_ (allS (Or.inl (by simp)) all0)
  refine own_aloadN C X own_d1_14 rfl rfl (pc' := 15) rfl ?_
  refine own_iconst C X own_d1_15 (v := -1) (by decide) (pc' := 16) rfl ?_
  refine own_putfield C X own_d1_16 (hw _ (List.mem_of_getElem? (i := 15) rfl)) (Or.inl (hw _ (List.mem_of_getElem? (i := 16) rfl))) (hw _ (List.mem_of_getElem? (i := 3) rfl)) O (i := 2) rfl (ty := .int) (by decide) rfl rfl ge_o (pc' := 19) rfl ?_
  intro T h X K_ O_
  have O : own_Ob Z a0 h o "com/example/stablemate/stablemate/FlowNetwork" [("deadMark", "I", (.int (1 : Int32))), ("deadFrom", "I", (.int (-1 : Int32))), ("deadTo", "I", (.int (-1 : Int32))), ("heads", "[I", .null), ("marks", "[I", .null), ("cursors", "[I", .null), ("searchPath", "[I", .null), ("reached", "[I", .null), ("distances", "[I", .null), ("deadMarks", "[I", .null), ("nexts", "[I", .null), ("targets", "[I", .null), ("capacities", "[J", .null), ("residuals", "[J", .null), ("arcs", "I", (.int (0 : Int32)))] := O_
  have KK := KK.trans K_ (allS (Or.inl (by simp)) all0)
  refine own_aloadN C X own_d1_19 rfl rfl (pc' := 20) rfl ?_
  refine own_iloadN C X own_d1_20 rfl (pc' := 21) rfl ?_
  refine own_newI C X own_d1_21 (ty := .int) rfl (hw _ (List.mem_of_getElem? (i := 1) rfl)) (by decide) (k := 2) (cap := 2) (Nat.le_of_ble_eq_true rfl) (by decide) (Nat.le_of_ble_eq_true rfl) (Nat.le_of_ble_eq_true rfl) rfl rfl (pc' := 23) rfl ?_
  intro T h hd e_hd X K_ ge_hd A_hd_
  have gz_hd : h0.size ≤ hd := by rw [e_hd]; exact KK.1
  have ne_o_hd : o ≠ hd := by rw [e_hd]; exact Nat.ne_of_lt O.lt
  have A_hd : own_IA Z h hd .int [(0 : Int32), (0 : Int32)] := A_hd_
  have O := O.keep K_ nin0
  have KK := KK.trans K_ all0
  refine own_putfield C X own_d1_23 (hw _ (List.mem_of_getElem? (i := 17) rfl)) (Or.inr ⟨(hw _ (List.mem_of_getElem? (i := 18) rfl)), rfl, rfl⟩) (hw _ (List.mem_of_getElem? (i := 3) rfl)) O (i := 3) rfl (ty := (.array .int)) (by decide) rfl rfl ge_o (pc' := 26) rfl ?_
  intro T h X K_ O_
  have O : own_Ob Z a0 h o "com/example/stablemate/stablemate/FlowNetwork" [("deadMark", "I", (.int (1 : Int32))), ("deadFrom", "I", (.int (-1 : Int32))), ("deadTo", "I", (.int (-1 : Int32))), ("heads", "[I", (.ref hd)), ("marks", "[I", .null), ("cursors", "[I", .null), ("searchPath", "[I", .null), ("reached", "[I", .null), ("distances", "[I", .null), ("deadMarks", "[I", .null), ("nexts", "[I", .null), ("targets", "[I", .null), ("capacities", "[J", .null), ("residuals", "[J", .null), ("arcs", "I", (.int (0 : Int32)))] := O_
  have A_hd := A_hd.keep K_ (ninS (Ne.symm ne_o_hd) nin0)
  have KK := KK.trans K_ (allS (Or.inl (by simp)) all0)
  refine own_aloadN C X own_d1_26 rfl rfl (pc' := 27) rfl ?_
  refine own_getfield C X own_d1_27 (hw _ (List.mem_of_getElem? (i := 17) rfl)) O (i := 3) rfl (pc' := 30) rfl ?_
  intro T X
  refine own_iconst C X own_d1_30 (v := -1) (by decide) (pc' := 31) rfl ?_
  refine own_callS C X own_d1_31 (own_m_fill l Z a0 hw hd (-1 : Int32) _ n0 (own_big C X) (0 : Int32) (0 : Int32) A_hd ge_hd) (hw _ (List.mem_of_getElem? (i := 19) rfl)) (hw _ (List.mem_of_getElem? (i := 20) rfl)) (hw _ (List.mem_of_getElem? (i := 21) rfl)) (hw _ (List.mem_of_getElem? (i := 22) rfl)) (by decide) own_pd_3878 rfl rfl (Nat.le_of_ble_eq_true rfl) (Nat.le_of_ble_eq_true rfl) (Nat.le_of_ble_eq_true rfl) (Nat.le_of_ble_eq_true rfl) (av := [(.ref hd), (.int (-1 : Int32))]) (S := []) rfl (pc' := 34) rfl ?_
  intro T h v X hQ
  obtain ⟨rfl, K_, A_hd⟩ := hQ
  have O := O.keep K_ (ninS ne_o_hd nin0)
  have KK := KK.trans K_ (allS (Or.inr gz_hd) all0)
  show own_Go p e below n0 (own_Fin ({ frames := 1, cells := 11, slots := 79, locals := 40 } : Room) s (fun v h => v = none ∧ ∃ hd r1 r2 r3 r4 r5 r6 nx tg cp rs, h0.size ≤ hd ∧ hd < nx ∧ nx < tg ∧ tg < cp ∧ cp < rs ∧ Keep h0 h [o] ∧ own_Ob Z a0 h o "com/example/stablemate/stablemate/FlowNetwork" [("deadMark", "I", (.int (1 : Int32))), ("deadFrom", "I", (.int (-1 : Int32))), ("deadTo", "I", (.int (-1 : Int32))), ("heads", "[I", (.ref hd)), ("marks", "[I", (.ref r1)), ("cursors", "[I", (.ref r2)), ("searchPath", "[I", (.ref r3)), ("reached", "[I", (.ref r4)), ("distances", "[I", (.ref r5)), ("deadMarks", "[I", (.ref r6)), ("nexts", "[I", (.ref nx)), ("targets", "[I", (.ref tg)), ("capacities", "[J", (.ref cp)), ("residuals", "[J", (.ref rs)), ("arcs", "I", (.int (0 : Int32)))] ∧ own_IA Z h hd .int [(-1 : Int32), (-1 : Int32)] ∧ own_IA Z h nx .int (own_T4 0 0 0 0) ∧ own_IA Z h tg .int (own_T4 0 0 0 0) ∧ own_JA Z h cp (own_L4 0 0 0 0) ∧ own_JA Z h rs (own_L4 0 0 0 0))) (T.setTop (mkF m 34 #[.val (.ref o), .val (.int (2 : Int32)), .val (.int (2 : Int32)), .unset] []))
  refine own_aloadN C X own_d1_34 rfl rfl (pc' := 35) rfl ?_
  refine own_iloadN C X own_d1_35 rfl (pc' := 36) rfl ?_
  refine own_newI C X own_d1_36 (ty := .int) rfl (hw _ (List.mem_of_getElem? (i := 1) rfl)) (by decide) (k := 2) (cap := 2) (Nat.le_of_ble_eq_true rfl) (by decide) (Nat.le_of_ble_eq_true rfl) (Nat.le_of_ble_eq_true rfl) rfl rfl (pc' := 38) rfl ?_
  intro T h r1 e_r1 X K_ ge_r1 A_r1_
  have gz_r1 : h0.size ≤ r1 := by rw [e_r1]; exact KK.1
  have ne_o_r1 : o ≠ r1 := by rw [e_r1]; exact Nat.ne_of_lt O.lt
  have ne_hd_r1 : hd ≠ r1 := by rw [e_r1]; exact Nat.ne_of_lt A_hd.lt
  have A_r1 : own_IA Z h r1 .int [(0 : Int32), (0 : Int32)] := A_r1_
  have O := O.keep K_ nin0
  have A_hd := A_hd.keep K_ nin0
  have KK := KK.trans K_ all0
  refine own_putfield C X own_d1_38 (hw _ (List.mem_of_getElem? (i := 23) rfl)) (Or.inr ⟨(hw _ (List.mem_of_getElem? (i := 24) rfl)), rfl, rfl⟩) (hw _ (List.mem_of_getElem? (i := 3) rfl)) O (i := 4) rfl (ty := (.array .int)) (by decide) rfl rfl ge_o (pc' := 41) rfl ?_
  intro T h X K_ O_
  have O : own_Ob Z a0 h o "com/example/stablemate/stablemate/FlowNetwork" [("deadMark", "I", (.int (1 : Int32))), ("deadFrom", "I", (.int (-1 : Int32))), ("deadTo", "I", (.int (-1 : Int32))), ("heads", "[I", (.ref hd)), ("marks", "[I", (.ref r1)), ("cursors", "[I", .null), ("searchPath", "[I", .null), ("reached", "[I", .null), ("distances", "[I", .null), ("deadMarks", "[I", .null), ("nexts", "[I", .null), ("targets", "[I", .null), ("capacities", "[J", .null), ("residuals", "[J", .null), ("arcs", "I", (.int (0 : Int32)))] := O_
  have A_hd := A_hd.keep K_ (ninS (Ne.symm ne_o_hd) nin0)
  have A_r1 := A_r1.keep K_ (ninS (Ne.symm ne_o_r1) nin0)
  have KK := KK.trans K_ (allS (Or.inl (by simp)) all0)
  refine own_aloadN C X own_d1_41 rfl rfl (pc' := 42) rfl ?_
  refine own_iloadN C X own_d1_42 rfl (pc' := 43) rfl ?_
  refine own_newI C X own_d1_43 (ty := .int) rfl (hw _ (List.mem_of_getElem? (i := 1) rfl)) (by decide) (k := 2) (cap := 2) (Nat.le_of_ble_eq_true rfl) (by decide) (Nat.le_of_ble_eq_true rfl) (Nat.le_of_ble_eq_true rfl) rfl rfl (pc' := 45) rfl ?_
  intro T h r2 e_r2 X K_ ge_r2 A_r2_
  have gz_r2 : h0.size ≤ r2 := by rw [e_r2]; exact KK.1
  have ne_o_r2 : o ≠ r2 := by rw [e_r2]; exact Nat.ne_of_lt O.lt
  have ne_hd_r2 : hd ≠ r2 := by rw [e_r2]; exact Nat.ne_of_lt A_hd.lt
  have A_r2 : own_IA Z h r2 .int [(0 : Int32), (0 : Int32)] := A_r2_
  have O := O.keep K_ nin0
  have A_hd := A_hd.keep K_ nin0
  have KK := KK.trans K_ all0
  refine own_putfield C X own_d1_45 (hw _ (List.mem_of_getElem? (i := 25) rfl)) (Or.inr ⟨(hw _ (List.mem_of_getElem? (i := 26) rfl)), rfl, rfl⟩) (hw _ (List.mem_of_getElem? (i := 3) rfl)) O (i := 5) rfl (ty := (.array .int)) (by decide) rfl rfl ge_o (pc' := 48) rfl ?_
  intro T h X K_ O_
  have O : own_Ob Z a0 h o "com/example/stablemate/stablemate/FlowNetwork" [("deadMark", "I", (.int (1 : Int32))), ("deadFrom", "I", (.int (-1 : Int32))), ("deadTo", "I", (.int (-1 : Int32))), ("heads", "[I", (.ref hd)), ("marks", "[I", (.ref r1)), ("cursors", "[I", (.ref r2)), ("searchPath", "[I", .null), ("reached", "[I", .null), ("distances", "[I", .null), ("deadMarks", "[I", .null), ("nexts", "[I", .null), ("targets", "[I", .null), ("capacities", "[J", .null), ("residuals", "[J", .null), ("arcs", "I", (.int (0 : Int32)))] := O_
  have A_hd := A_hd.keep K_ (ninS (Ne.symm ne_o_hd) nin0)
  have A_r2 := A_r2.keep K_ (ninS (Ne.symm ne_o_r2) nin0)
  have KK := KK.trans K_ (allS (Or.inl (by simp)) all0)
  refine own_aloadN C X own_d1_48 rfl rfl (pc' := 49) rfl ?_
  refine own_iloadN C X own_d1_49 rfl (pc' := 50) rfl ?_
  refine own_iconst C X own_d1_50 (v := 1) (by decide) (pc' := 51) rfl ?_
  refine own_iadd C X own_d1_51 (z := 3) (by decide) (pc' := 52) rfl ?_
  refine own_newI C X own_d1_52 (ty := .int) rfl (hw _ (List.mem_of_getElem? (i := 1) rfl)) (by decide) (k := 3) (cap := 3) (Nat.le_of_ble_eq_true rfl) (by decide) (Nat.le_of_ble_eq_true rfl) (Nat.le_of_ble_eq_true rfl) rfl rfl (pc' := 54) rfl ?_
  intro T h r3 e_r3 X K_ ge_r3 A_r3_
  have gz_r3 : h0.size ≤ r3 := by rw [e_r3]; exact KK.1
  have ne_o_r3 : o ≠ r3 := by rw [e_r3]; exact Nat.ne_of_lt O.lt
  have ne_hd_r3 : hd ≠ r3 := by rw [e_r3]; exact Nat.ne_of_lt A_hd.lt
  have A_r3 : own_IA Z h r3 .int [(0 : Int32), (0 : Int32), (0 : Int32)] := A_r3_
  have O := O.keep K_ nin0
  have A_hd := A_hd.keep K_ nin0
  have KK := KK.trans K_ all0
  refine own_putfield C X own_d1_54 (hw _ (List.mem_of_getElem? (i := 27) rfl)) (Or.inr ⟨(hw _ (List.mem_of_getElem? (i := 28) rfl)), rfl, rfl⟩) (hw _ (List.mem_of_getElem? (i := 3) rfl)) O (i := 6) rfl (ty := (.array .int)) (by decide) rfl rfl ge_o (pc' := 57) rfl ?_
  intro T h X K_ O_
  have O : own_Ob Z a0 h o "com/example/stablemate/stablemate/FlowNetwork" [("deadMark", "I", (.int (1 : Int32))), ("deadFrom", "I", (.int (-1 : Int32))), ("deadTo", "I", (.int (-1 : Int32))), ("heads", "[I", (.ref hd)), ("marks", "[I", (.ref r1)), ("cursors", "[I", (.ref r2)), ("searchPath", "[I", (.ref r3)), ("reached", "[I", .null), ("distances", "[I", .null), ("deadMarks", "[I", .null), ("nexts", "[I", .null), ("targets", "[I", .null), ("capacities", "[J", .null), ("residuals", "[J", .null), ("arcs", "I", (.int (0 : Int32)))] := O_
  have A_hd := A_hd.keep K_ (ninS (Ne.symm ne_o_hd) nin0)
  have A_r3 := A_r3.keep K_ (ninS (Ne.symm ne_o_r3) nin0)
  have KK := KK.trans K_ (allS (Or.inl (by simp)) all0)
  refine own_aloadN C X own_d1_57 rfl rfl (pc' := 58) rfl ?_
  refine own_iloadN C X own_d1_58 rfl (pc' := 59) rfl ?_
  refine own_newI C X own_d1_59 (ty := .int) rfl (hw _ (List.mem_of_getElem? (i := 1) rfl)) (by decide) (k := 2) (cap := 2) (Nat.le_of_ble_eq_true rfl) (by decide) (Nat.le_of_ble_eq_true rfl) (Nat.le_of_ble_eq_true rfl) rfl rfl (pc' := 61) rfl ?_
  intro T h r4 e_r4 X K_ ge_r4 A_r4_
  have gz_r4 : h0.size ≤ r4 := by rw [e_r4]; exact KK.1
  have ne_o_r4 : o ≠ r4 := by rw [e_r4]; exact Nat.ne_of_lt O.lt
  have ne_hd_r4 : hd ≠ r4 := by rw [e_r4]; exact Nat.ne_of_lt A_hd.lt
  have A_r4 : own_IA Z h r4 .int [(0 : Int32), (0 : Int32)] := A_r4_
  have O := O.keep K_ nin0
  have A_hd := A_hd.keep K_ nin0
  have KK := KK.trans K_ all0
  refine own_putfield C X own_d1_61 (hw _ (List.mem_of_getElem? (i := 29) rfl)) (Or.inr ⟨(hw _ (List.mem_of_getElem? (i := 30) rfl)), rfl, rfl⟩) (hw _ (List.mem_of_getElem? (i := 3) rfl)) O (i := 7) rfl (ty := (.array .int)) (by decide) rfl rfl ge_o (pc' := 64) rfl ?_
  intro T h X K_ O_
  have O : own_Ob Z a0 h o "com/example/stablemate/stablemate/FlowNetwork" [("deadMark", "I", (.int (1 : Int32))), ("deadFrom", "I", (.int (-1 : Int32))), ("deadTo", "I", (.int (-1 : Int32))), ("heads", "[I", (.ref hd)), ("marks", "[I", (.ref r1)), ("cursors", "[I", (.ref r2)), ("searchPath", "[I", (.ref r3)), ("reached", "[I", (.ref r4)), ("distances", "[I", .null), ("deadMarks", "[I", .null), ("nexts", "[I", .null), ("targets", "[I", .null), ("capacities", "[J", .null), ("residuals", "[J", .null), ("arcs", "I", (.int (0 : Int32)))] := O_
  have A_hd := A_hd.keep K_ (ninS (Ne.symm ne_o_hd) nin0)
  have A_r4 := A_r4.keep K_ (ninS (Ne.symm ne_o_r4) nin0)
  have KK := KK.trans K_ (allS (Or.inl (by simp)) all0)
  refine own_aloadN C X own_d1_64 rfl rfl (pc' := 65) rfl ?_
  refine own_iloadN C X own_d1_65 rfl (pc' := 66) rfl ?_
  refine own_newI C X own_d1_66 (ty := .int) rfl (hw _ (List.mem_of_getElem? (i := 1) rfl)) (by decide) (k := 2) (cap := 2) (Nat.le_of_ble_eq_true rfl) (by decide) (Nat.le_of_ble_eq_true rfl) (Nat.le_of_ble_eq_true rfl) rfl rfl (pc' := 68) rfl ?_
  intro T h r5 e_r5 X K_ ge_r5 A_r5_
  have gz_r5 : h0.size ≤ r5 := by rw [e_r5]; exact KK.1
  have ne_o_r5 : o ≠ r5 := by rw [e_r5]; exact Nat.ne_of_lt O.lt
  have ne_hd_r5 : hd ≠ r5 := by rw [e_r5]; exact Nat.ne_of_lt A_hd.lt
  have A_r5 : own_IA Z h r5 .int [(0 : Int32), (0 : Int32)] := A_r5_
  have O := O.keep K_ nin0
  have A_hd := A_hd.keep K_ nin0
  have KK := KK.trans K_ all0
  refine own_putfield C X own_d1_68 (hw _ (List.mem_of_getElem? (i := 31) rfl)) (Or.inr ⟨(hw _ (List.mem_of_getElem? (i := 32) rfl)), rfl, rfl⟩) (hw _ (List.mem_of_getElem? (i := 3) rfl)) O (i := 8) rfl (ty := (.array .int)) (by decide) rfl rfl ge_o (pc' := 71) rfl ?_
  intro T h X K_ O_
  have O : own_Ob Z a0 h o "com/example/stablemate/stablemate/FlowNetwork" [("deadMark", "I", (.int (1 : Int32))), ("deadFrom", "I", (.int (-1 : Int32))), ("deadTo", "I", (.int (-1 : Int32))), ("heads", "[I", (.ref hd)), ("marks", "[I", (.ref r1)), ("cursors", "[I", (.ref r2)), ("searchPath", "[I", (.ref r3)), ("reached", "[I", (.ref r4)), ("distances", "[I", (.ref r5)), ("deadMarks", "[I", .null), ("nexts", "[I", .null), ("targets", "[I", .null), ("capacities", "[J", .null), ("residuals", "[J", .null), ("arcs", "I", (.int (0 : Int32)))] := O_
  have A_hd := A_hd.keep K_ (ninS (Ne.symm ne_o_hd) nin0)
  have A_r5 := A_r5.keep K_ (ninS (Ne.symm ne_o_r5) nin0)
  have KK := KK.trans K_ (allS (Or.inl (by simp)) all0)
  refine own_aloadN C X own_d1_71 rfl rfl (pc' := 72) rfl ?_
  refine own_iloadN C X own_d1_72 rfl (pc' := 73) rfl ?_
  refine own_newI C X own_d1_73 (ty := .int) rfl (hw _ (List.mem_of_getElem? (i := 1) rfl)) (by decide) (k := 2) (cap := 2) (Nat.le_of_ble_eq_true rfl) (by decide) (Nat.le_of_ble_eq_true rfl) (Nat.le_of_ble_eq_true rfl) rfl rfl (pc' := 75) rfl ?_
  intro T h r6 e_r6 X K_ ge_r6 A_r6_
  have gz_r6 : h0.size ≤ r6 := by rw [e_r6]; exact KK.1
  have ne_o_r6 : o ≠ r6 := by rw [e_r6]; exact Nat.ne_of_lt O.lt
  have ne_hd_r6 : hd ≠ r6 := by rw [e_r6]; exact Nat.ne_of_lt A_hd.lt
  have A_r6 : own_IA Z h r6 .int [(0 : Int32), (0 : Int32)] := A_r6_
  have O := O.keep K_ nin0
  have A_hd := A_hd.keep K_ nin0
  have KK := KK.trans K_ all0
  refine own_putfield C X own_d1_75 (hw _ (List.mem_of_getElem? (i := 33) rfl)) (Or.inr ⟨(hw _ (List.mem_of_getElem? (i := 34) rfl)), rfl, rfl⟩) (hw _ (List.mem_of_getElem? (i := 3) rfl)) O (i := 9) rfl (ty := (.array .int)) (by decide) rfl rfl ge_o (pc' := 78) rfl ?_
  intro T h X K_ O_
  have O : own_Ob Z a0 h o "com/example/stablemate/stablemate/FlowNetwork" [("deadMark", "I", (.int (1 : Int32))), ("deadFrom", "I", (.int (-1 : Int32))), ("deadTo", "I", (.int (-1 : Int32))), ("heads", "[I", (.ref hd)), ("marks", "[I", (.ref r1)), ("cursors", "[I", (.ref r2)), ("searchPath", "[I", (.ref r3)), ("reached", "[I", (.ref r4)), ("distances", "[I", (.ref r5)), ("deadMarks", "[I", (.ref r6)), ("nexts", "[I", .null), ("targets", "[I", .null), ("capacities", "[J", .null), ("residuals", "[J", .null), ("arcs", "I", (.int (0 : Int32)))] := O_
  have A_hd := A_hd.keep K_ (ninS (Ne.symm ne_o_hd) nin0)
  have A_r6 := A_r6.keep K_ (ninS (Ne.symm ne_o_r6) nin0)
  have KK := KK.trans K_ (allS (Or.inl (by simp)) all0)
  refine own_iconst C X own_d1_78 (v := 2) (by decide) (pc' := 79) rfl ?_
  refine own_iloadN C X own_d1_79 rfl (pc' := 80) rfl ?_
  refine own_bipush C X own_d1_80 (v := 8) (by decide) (pc' := 82) rfl ?_
  refine own_callS C X own_d1_82 (own_m_max l Z a0 hw (2 : Int32) (8 : Int32) _ n0 (own_big C X) 8 (by decide)) (hw _ (List.mem_of_getElem? (i := 35) rfl)) (hw _ (List.mem_of_getElem? (i := 36) rfl)) (hw _ (List.mem_of_getElem? (i := 37) rfl)) (hw _ (List.mem_of_getElem? (i := 38) rfl)) (by decide) own_pd_2734 rfl rfl (Nat.le_of_ble_eq_true rfl) (Nat.le_of_ble_eq_true rfl) (Nat.le_of_ble_eq_true rfl) (Nat.le_of_ble_eq_true rfl) (av := [(.int (2 : Int32)), (.int (8 : Int32))]) (S := [(.int (2 : Int32))]) rfl (pc' := 85) rfl ?_
  intro T h v X hQ
  obtain ⟨rfl, rfl⟩ := hQ
  show own_Go p e below n0 (own_Fin ({ frames := 1, cells := 11, slots := 79, locals := 40 } : Room) s (fun v h => v = none ∧ ∃ hd r1 r2 r3 r4 r5 r6 nx tg cp rs, h0.size ≤ hd ∧ hd < nx ∧ nx < tg ∧ tg < cp ∧ cp < rs ∧ Keep h0 h [o] ∧ own_Ob Z a0 h o "com/example/stablemate/stablemate/FlowNetwork" [("deadMark", "I", (.int (1 : Int32))), ("deadFrom", "I", (.int (-1 : Int32))), ("deadTo", "I", (.int (-1 : Int32))), ("heads", "[I", (.ref hd)), ("marks", "[I", (.ref r1)), ("cursors", "[I", (.ref r2)), ("searchPath", "[I", (.ref r3)), ("reached", "[I", (.ref r4)), ("distances", "[I", (.ref r5)), ("deadMarks", "[I", (.ref r6)), ("nexts", "[I", (.ref nx)), ("targets", "[I", (.ref tg)), ("capacities", "[J", (.ref cp)), ("residuals", "[J", (.ref rs)), ("arcs", "I", (.int (0 : Int32)))] ∧ own_IA Z h hd .int [(-1 : Int32), (-1 : Int32)] ∧ own_IA Z h nx .int (own_T4 0 0 0 0) ∧ own_IA Z h tg .int (own_T4 0 0 0 0) ∧ own_JA Z h cp (own_L4 0 0 0 0) ∧ own_JA Z h rs (own_L4 0 0 0 0))) (T.setTop (mkF m 85 #[.val (.ref o), .val (.int (2 : Int32)), .val (.int (2 : Int32)), .unset] [(.int (8 : Int32)), (.int (2 : Int32))]))
  refine own_imul C X own_d1_85 (z := 16) (by decide) (pc' := 86) rfl ?_
  refine own_istoreN C X own_d1_86 (L' := #[.val (.ref o), .val (.int (2 : Int32)), .val (.int (2 : Int32)), .val (.int (16 : Int32))]) rfl (pc' := 87) rfl ?_
  refine own_aloadN C X own_d1_87 rfl rfl (pc' := 88) rfl ?_
  refine own_iloadN C X own_d1_88 rfl (pc' := 89) rfl ?_
  have q_hd := A_hd.lt
  refine own_newI C X own_d1_89 (ty := .int) rfl (hw _ (List.mem_of_getElem? (i := 1) rfl)) (by decide) (k := 16) (cap := 16) (Nat.le_of_ble_eq_true rfl) (by decide) (Nat.le_of_ble_eq_true rfl) (Nat.le_of_ble_eq_true rfl) rfl rfl (pc' := 91) rfl ?_
  intro T h nx e_nx X K_ ge_nx A_nx_
  have gz_nx : h0.size ≤ nx := by rw [e_nx]; exact KK.1
  have ne_o_nx : o ≠ nx := by rw [e_nx]; exact Nat.ne_of_lt O.lt
  have ne_hd_nx : hd ≠ nx := by rw [e_nx]; exact Nat.ne_of_lt A_hd.lt
  have A_nx : own_IA Z h nx .int (own_T4 (0 : Int32) (0 : Int32) (0 : Int32) (0 : Int32)) := A_nx_
  have O := O.keep K_ nin0
  have A_hd := A_hd.keep K_ nin0
  have KK := KK.trans K_ all0
  have lt_hd_nx : hd < nx := by rw [e_nx]; exact q_hd
  refine own_putfield C X own_d1_91 (hw _ (List.mem_of_getElem? (i := 39) rfl)) (Or.inl (hw _ (List.mem_of_getElem? (i := 40) rfl))) (hw _ (List.mem_of_getElem? (i := 3) rfl)) O (i := 10) rfl (ty := (.array .int)) (by decide) rfl rfl ge_o (pc' := 94) rfl ?_
  intro T h X K_ O_
  have O : own_Ob Z a0 h o "com/example/stablemate/stablemate/FlowNetwork" [("deadMark", "I", (.int (1 : Int32))), ("deadFrom", "I", (.int (-1 : Int32))), ("deadTo", "I", (.int (-1 : Int32))), ("heads", "[I", (.ref hd)), ("marks", "[I", (.ref r1)), ("cursors", "[I", (.ref r2)), ("searchPath", "[I", (.ref r3)), ("reached", "[I", (.ref r4)), ("distances", "[I", (.ref r5)), ("deadMarks", "[I", (.ref r6)), ("nexts", "[I", (.ref nx)), ("targets", "[I", .null), ("capacities", "[J", .null), ("residuals", "[J", .null), ("arcs", "I", (.int (0 : Int32)))] := O_
  have A_hd := A_hd.keep K_ (ninS (Ne.symm ne_o_hd) nin0)
  have A_nx := A_nx.keep K_ (ninS (Ne.symm ne_o_nx) nin0)
  have KK := KK.trans K_ (allS (Or.inl (by simp)) all0)
  refine own_aloadN C X own_d1_94 rfl rfl (pc' := 95) rfl ?_
  refine own_iloadN C X own_d1_95 rfl (pc' := 96) rfl ?_
  have q_nx := A_nx.lt
  refine own_newI C X own_d1_96 (ty := .int) rfl (hw _ (List.mem_of_getElem? (i := 1) rfl)) (by decide) (k := 16) (cap := 16) (Nat.le_of_ble_eq_true rfl) (by decide) (Nat.le_of_ble_eq_true rfl) (Nat.le_of_ble_eq_true rfl) rfl rfl (pc' := 98) rfl ?_
  intro T h tg e_tg X K_ ge_tg A_tg_
  have gz_tg : h0.size ≤ tg := by rw [e_tg]; exact KK.1
  have ne_o_tg : o ≠ tg := by rw [e_tg]; exact Nat.ne_of_lt O.lt
  have ne_hd_tg : hd ≠ tg := by rw [e_tg]; exact Nat.ne_of_lt A_hd.lt
  have ne_nx_tg : nx ≠ tg := by rw [e_tg]; exact Nat.ne_of_lt A_nx.lt
  have A_tg : own_IA Z h tg .int (own_T4 (0 : Int32) (0 : Int32) (0 : Int32) (0 : Int32)) := A_tg_
  have O := O.keep K_ nin0
  have A_hd := A_hd.keep K_ nin0
  have A_nx := A_nx.keep K_ nin0
  have KK := KK.trans K_ all0
  have lt_nx_tg : nx < tg := by rw [e_tg]; exact q_nx
  refine own_putfield C X own_d1_98 (hw _ (List.mem_of_getElem? (i := 41) rfl)) (Or.inl (hw _ (List.mem_of_getElem? (i := 42) rfl))) (hw _ (List.mem_of_getElem? (i := 3) rfl)) O (i := 11) rfl (ty := (.array .int)) (by decide) rfl rfl ge_o (pc' := 101) rfl ?_
  intro T h X K_ O_
  have O : own_Ob Z a0 h o "com/example/stablemate/stablemate/FlowNetwork" [("deadMark", "I", (.int (1 : Int32))), ("deadFrom", "I", (.int (-1 : Int32))), ("deadTo", "I", (.int (-1 : Int32))), ("heads", "[I", (.ref hd)), ("marks", "[I", (.ref r1)), ("cursors", "[I", (.ref r2)), ("searchPath", "[I", (.ref r3)), ("reached", "[I", (.ref r4)), ("distances", "[I", (.ref r5)), ("deadMarks", "[I", (.ref r6)), ("nexts", "[I", (.ref nx)), ("targets", "[I", (.ref tg)), ("capacities", "[J", .null), ("residuals", "[J", .null), ("arcs", "I", (.int (0 : Int32)))] := O_
  have A_hd := A_hd.keep K_ (ninS (Ne.symm ne_o_hd) nin0)
  have A_nx := A_nx.keep K_ (ninS (Ne.symm ne_o_nx) nin0)
  have A_tg := A_tg.keep K_ (ninS (Ne.symm ne_o_tg) nin0)
  have KK := KK.trans K_ (allS (Or.inl (by simp)) all0)
  refine own_aloadN C X own_d1_101 rfl rfl (pc' := 102) rfl ?_
  refine own_iloadN C X own_d1_102 rfl (pc' := 103) rfl ?_
  have q_tg := A_tg.lt
  refine own_newJ C X own_d1_103 (hw _ (List.mem_of_getElem? (i := 43) rfl)) (by decide) (k := 16) (cap := 16) (Nat.le_of_ble_eq_true rfl) (by decide) (Nat.le_of_ble_eq_true rfl) (Nat.le_of_ble_eq_true rfl) (pc' := 105) rfl ?_
  intro T h cp e_cp X K_ ge_cp A_cp_
  have gz_cp : h0.size ≤ cp := by rw [e_cp]; exact KK.1
  have ne_o_cp : o ≠ cp := by rw [e_cp]; exact Nat.ne_of_lt O.lt
  have ne_hd_cp : hd ≠ cp := by rw [e_cp]; exact Nat.ne_of_lt A_hd.lt
  have ne_nx_cp : nx ≠ cp := by rw [e_cp]; exact Nat.ne_of_lt A_nx.lt
  have ne_tg_cp : tg ≠ cp := by rw [e_cp]; exact Nat.ne_of_lt A_tg.lt
  have A_cp : own_JA Z h cp (own_L4 (0 : Int64) (0 : Int64) (0 : Int64) (0 : Int64)) := A_cp_
  have O := O.keep K_ nin0
  have A_hd := A_hd.keep K_ nin0
  have A_nx := A_nx.keep K_ nin0
  have A_tg := A_tg.keep K_ nin0
  have KK := KK.trans K_ all0
  have lt_tg_cp : tg < cp := by rw [e_cp]; exact q_tg
  refine own_putfield C X own_d1_105 (hw _ (List.mem_of_getElem? (i := 44) rfl)) (Or.inl (hw _ (List.mem_of_getElem? (i := 45) rfl))) (hw _ (List.mem_of_getElem? (i := 3) rfl)) O (i := 12) rfl (ty := (.array .long)) (by decide) rfl rfl ge_o (pc' := 108) rfl ?_
  intro T h X K_ O_
  have O : own_Ob Z a0 h o "com/example/stablemate/stablemate/FlowNetwork" [("deadMark", "I", (.int (1 : Int32))), ("deadFrom", "I", (.int (-1 : Int32))), ("deadTo", "I", (.int (-1 : Int32))), ("heads", "[I", (.ref hd)), ("marks", "[I", (.ref r1)), ("cursors", "[I", (.ref r2)), ("searchPath", "[I", (.ref r3)), ("reached", "[I", (.ref r4)), ("distances", "[I", (.ref r5)), ("deadMarks", "[I", (.ref r6)), ("nexts", "[I", (.ref nx)), ("targets", "[I", (.ref tg)), ("capacities", "[J", (.ref cp)), ("residuals", "[J", .null), ("arcs", "I", (.int (0 : Int32)))] := O_
  have A_hd := A_hd.keep K_ (ninS (Ne.symm ne_o_hd) nin0)
  have A_nx := A_nx.keep K_ (ninS (Ne.symm ne_o_nx) nin0)
  have A_tg := A_tg.keep K_ (ninS (Ne.symm ne_o_tg) nin0)
  have A_cp := A_cp.keep K_ (ninS (Ne.symm ne_o_cp) nin0)
  have KK := KK.trans K_ (allS (Or.inl (by simp)) all0)
  refine own_aloadN C X own_d1_108 rfl rfl (pc' := 109) rfl ?_
  refine own_iloadN C X own_d1_109 rfl (pc' := 110) rfl ?_
  have q_cp := A_cp.lt
  refine own_newJ C X own_d1_110 (hw _ (List.mem_of_getElem? (i := 43) rfl)) (by decide) (k := 16) (cap := 16) (Nat.le_of_ble_eq_true rfl) (by decide) (Nat.le_of_ble_eq_true rfl) (Nat.le_of_ble_eq_true rfl) (pc' := 112) rfl ?_
  intro T h rs e_rs X K_ ge_rs A_rs_
  have gz_rs : h0.size ≤ rs := by rw [e_rs]; exact KK.1
  have ne_o_rs : o ≠ rs := by rw [e_rs]; exact Nat.ne_of_lt O.lt
  have ne_hd_rs : hd ≠ rs := by rw [e_rs]; exact Nat.ne_of_lt A_hd.lt
  have ne_nx_rs : nx ≠ rs := by rw [e_rs]; exact Nat.ne_of_lt A_nx.lt
  have ne_tg_rs : tg ≠ rs := by rw [e_rs]; exact Nat.ne_of_lt A_tg.lt
  have ne_cp_rs : cp ≠ rs := by rw [e_rs]; exact Nat.ne_of_lt A_cp.lt
  have A_rs : own_JA Z h rs (own_L4 (0 : Int64) (0 : Int64) (0 : Int64) (0 : Int64)) := A_rs_
  have O := O.keep K_ nin0
  have A_hd := A_hd.keep K_ nin0
  have A_nx := A_nx.keep K_ nin0
  have A_tg := A_tg.keep K_ nin0
  have A_cp := A_cp.keep K_ nin0
  have KK := KK.trans K_ all0
  have lt_cp_rs : cp < rs := by rw [e_rs]; exact q_cp
  refine own_putfield C X own_d1_112 (hw _ (List.mem_of_getElem? (i := 46) rfl)) (Or.inl (hw _ (List.mem_of_getElem? (i := 47) rfl))) (hw _ (List.mem_of_getElem? (i := 3) rfl)) O (i := 13) rfl (ty := (.array .long)) (by decide) rfl rfl ge_o (pc' := 115) rfl ?_
  intro T h X K_ O_
  have O : own_Ob Z a0 h o "com/example/stablemate/stablemate/FlowNetwork" [("deadMark", "I", (.int (1 : Int32))), ("deadFrom", "I", (.int (-1 : Int32))), ("deadTo", "I", (.int (-1 : Int32))), ("heads", "[I", (.ref hd)), ("marks", "[I", (.ref r1)), ("cursors", "[I", (.ref r2)), ("searchPath", "[I", (.ref r3)), ("reached", "[I", (.ref r4)), ("distances", "[I", (.ref r5)), ("deadMarks", "[I", (.ref r6)), ("nexts", "[I", (.ref nx)), ("targets", "[I", (.ref tg)), ("capacities", "[J", (.ref cp)), ("residuals", "[J", (.ref rs)), ("arcs", "I", (.int (0 : Int32)))] := O_
  have A_hd := A_hd.keep K_ (ninS (Ne.symm ne_o_hd) nin0)
  have A_nx := A_nx.keep K_ (ninS (Ne.symm ne_o_nx) nin0)
  have A_tg := A_tg.keep K_ (ninS (Ne.symm ne_o_tg) nin0)
  have A_cp := A_cp.keep K_ (ninS (Ne.symm ne_o_cp) nin0)
  have A_rs := A_rs.keep K_ (ninS (Ne.symm ne_o_rs) nin0)
  have KK := KK.trans K_ (allS (Or.inl (by simp)) all0)
  exact own_return C X own_d1_115 (Nat.le_of_ble_eq_true rfl) (Nat.le_of_ble_eq_true rfl) (⟨rfl, hd, r1, r2, r3, r4, r5, r6, nx, tg, cp, rs, gz_hd, lt_hd_nx, lt_nx_tg, lt_tg_cp, lt_cp_rs, KK, O, A_hd, A_nx, A_tg, A_cp, A_rs⟩)
theorem own_ef_fd (o : Addr) (m : MethodId) : entryFrame m #[(.ref o)] 1 = mkF m 0 #[.val (.ref o)] [] := by first | (simp [entryFrame, mkF, argsToLocals, Value.category]; done) | rfl
theorem own_d6_0 : decode prog_12_method_11_code 0 = .ok (.aload_n 0, 1) := by decide +kernel
theorem own_d6_1 : decode prog_12_method_11_code 1 = .ok (.getfield 12, 3) := by decide +kernel
theorem own_d6_4 : decode prog_12_method_11_code 4 = .ok (.ldc 121, 2) := by decide +kernel
theorem own_d6_6 : decode prog_12_method_11_code 6 = .ok (.if_icmp .ne 16, 3) := by decide +kernel
theorem own_d6_22 : decode prog_12_method_11_code 22 = .ok (.aload_n 0, 1) := by decide +kernel
theorem own_d6_23 : decode prog_12_method_11_code 23 = .ok (.dup, 1) := by decide +kernel
theorem own_d6_24 : decode prog_12_method_11_code 24 = .ok (.getfield 12, 3) := by decide +kernel
theorem own_d6_27 : decode prog_12_method_11_code 27 = .ok (.iconst 1, 1) := by decide +kernel
theorem own_d6_28 : decode prog_12_method_11_code 28 = .ok (.iadd, 1) := by decide +kernel
theorem own_d6_29 : decode prog_12_method_11_code 29 = .ok (.putfield 12, 3) := by decide +kernel
theorem own_d6_32 : decode prog_12_method_11_code 32 = .ok (.aload_n 0, 1) := by decide +kernel
theorem own_d6_33 : decode prog_12_method_11_code 33 = .ok (.iconst (-1), 1) := by decide +kernel
theorem own_d6_34 : decode prog_12_method_11_code 34 = .ok (.putfield 16, 3) := by decide +kernel
theorem own_d6_37 : decode prog_12_method_11_code 37 = .ok (.aload_n 0, 1) := by decide +kernel
theorem own_d6_38 : decode prog_12_method_11_code 38 = .ok (.iconst (-1), 1) := by decide +kernel
theorem own_d6_39 : decode prog_12_method_11_code 39 = .ok (.putfield 19, 3) := by decide +kernel
theorem own_d6_42 : decode prog_12_method_11_code 42 = .ok (.return_, 1) := by decide +kernel
set_option maxRecDepth 65536 in
set_option maxHeartbeats 40000000 in
theorem own_m_fd (l : Launch) (Z : State) (a0 : Array Value) (hw : ∀ d ∈ tables_1, d.before a0 Z = true) (o : Addr) (h0 : Heap) (n0 : Nat) (hn0 : n0 ≤ h0.size) (hd r1 r2 r3 r4 r5 r6 nx tg cp rs : Addr) (dm dm1 ar : Int32) (hdm : ¬ dm = 2147483647) (hs : dm + 1 = dm1) (O : own_Ob Z a0 h0 o "com/example/stablemate/stablemate/FlowNetwork" [("deadMark", "I", (.int dm)), ("deadFrom", "I", (.int (-1 : Int32))), ("deadTo", "I", (.int (-1 : Int32))), ("heads", "[I", (.ref hd)), ("marks", "[I", (.ref r1)), ("cursors", "[I", (.ref r2)), ("searchPath", "[I", (.ref r3)), ("reached", "[I", (.ref r4)), ("distances", "[I", (.ref r5)), ("deadMarks", "[I", (.ref r6)), ("nexts", "[I", (.ref nx)), ("targets", "[I", (.ref tg)), ("capacities", "[J", (.ref cp)), ("residuals", "[J", (.ref rs)), ("arcs", "I", (.int ar))]) (ge_o : n0 ≤ o) : own_Met l Z n0 (⟨"com/example/stablemate/stablemate/FlowNetwork", "forgetDead", "()V"⟩ : MethodName) prog_12_method_11_code 1 none [] ({ frames := 0, cells := 0, slots := 0, locals := 0 } : Room) #[(.ref o)] h0 (fun v h => v = none ∧ Keep h0 h [o] ∧ own_Ob Z a0 h o "com/example/stablemate/stablemate/FlowNetwork" [("deadMark", "I", (.int dm1)), ("deadFrom", "I", (.int (-1 : Int32))), ("deadTo", "I", (.int (-1 : Int32))), ("heads", "[I", (.ref hd)), ("marks", "[I", (.ref r1)), ("cursors", "[I", (.ref r2)), ("searchPath", "[I", (.ref r3)), ("reached", "[I", (.ref r4)), ("distances", "[I", (.ref r5)), ("deadMarks", "[I", (.ref r6)), ("nexts", "[I", (.ref nx)), ("targets", "[I", (.ref tg)), ("capacities", "[J", (.ref cp)), ("residuals", "[J", (.ref rs)), ("arcs", "I", (.int ar))]) := by
  refine own_body (plainFor_of_name own_pn_com_example_stablemate_stablemate_FlowNetwork) hn0 (own_ef_fd o) ?_
  intro p e s m below meth c T C X
  have KK := Keep.refl h0 [o]
  refine own_aloadN C X own_d6_0 rfl rfl (pc' := 1) rfl ?_
  refine own_getfield C X own_d6_1 (hw _ (List.mem_of_getElem? (i := 11) rfl)) O (i := 0) rfl (pc' := 4) rfl ?_
  intro T X
  refine own_ldcI C X own_d6_4 (hw _ (List.mem_of_getElem? (i := 57) rfl)) (pc' := 6) rfl ?_
  refine own_icmp_ne C X own_d6_6 (pcT := 22) (pc' := 9) (by decide) (by decide) rfl (fun hc6 => ?_) (fun hc6 => absurd hc6 (hdm))
  refine own_aloadN C X own_d6_22 rfl rfl (pc' := 23) rfl ?_
  refine own_dup C X own_d6_23 rfl (pc' := 24) rfl ?_
  refine own_getfield C X own_d6_24 (hw _ (List.mem_of_getElem? (i := 11) rfl)) O (i := 0) rfl (pc' := 27) rfl ?_
  intro T X
  refine own_iconst C X own_d6_27 (v := 1) (by decide) (pc' := 28) rfl ?_
  refine own_iadd C X own_d6_28 hs (pc' := 29) rfl ?_
  refine own_putfield C X own_d6_29 (hw _ (List.mem_of_getElem? (i := 11) rfl)) (Or.inl (hw _ (List.mem_of_getElem? (i := 12) rfl))) (hw _ (List.mem_of_getElem? (i := 3) rfl)) O (i := 0) rfl (ty := .int) (by decide) rfl rfl ge_o (pc' := 32) rfl ?_
  intro T h X K_ O_
  have O : own_Ob Z a0 h o "com/example/stablemate/stablemate/FlowNetwork" [("deadMark", "I", (.int dm1)), ("deadFrom", "I", (.int (-1 : Int32))), ("deadTo", "I", (.int (-1 : Int32))), ("heads", "[I", (.ref hd)), ("marks", "[I", (.ref r1)), ("cursors", "[I", (.ref r2)), ("searchPath", "[I", (.ref r3)), ("reached", "[I", (.ref r4)), ("distances", "[I", (.ref r5)), ("deadMarks", "[I", (.ref r6)), ("nexts", "[I", (.ref nx)), ("targets", "[I", (.ref tg)), ("capacities", "[J", (.ref cp)), ("residuals", "[J", (.ref rs)), ("arcs", "I", (.int ar))] := O_
  have KK := KK.trans K_ (allS (Or.inl (by simp)) all0)
  refine own_aloadN C X own_d6_32 rfl rfl (pc' := 33) rfl ?_
  refine own_iconst C X own_d6_33 (v := -1) (by decide) (pc' := 34) rfl ?_
  refine own_putfield C X own_d6_34 (hw _ (List.mem_of_getElem? (i := 13) rfl)) (Or.inl (hw _ (List.mem_of_getElem? (i := 14) rfl))) (hw _ (List.mem_of_getElem? (i := 3) rfl)) O (i := 1) rfl (ty := .int) (by decide) rfl rfl ge_o (pc' := 37) rfl ?_
  intro T h X K_ O_
  have O : own_Ob Z a0 h o "com/example/stablemate/stablemate/FlowNetwork" [("deadMark", "I", (.int dm1)), ("deadFrom", "I", (.int (-1 : Int32))), ("deadTo", "I", (.int (-1 : Int32))), ("heads", "[I", (.ref hd)), ("marks", "[I", (.ref r1)), ("cursors", "[I", (.ref r2)), ("searchPath", "[I", (.ref r3)), ("reached", "[I", (.ref r4)), ("distances", "[I", (.ref r5)), ("deadMarks", "[I", (.ref r6)), ("nexts", "[I", (.ref nx)), ("targets", "[I", (.ref tg)), ("capacities", "[J", (.ref cp)), ("residuals", "[J", (.ref rs)), ("arcs", "I", (.int ar))] := O_
  have KK := KK.trans K_ (allS (Or.inl (by simp)) all0)
  refine own_aloadN C X own_d6_37 rfl rfl (pc' := 38) rfl ?_
  refine own_iconst C X own_d6_38 (v := -1) (by decide) (pc' := 39) rfl ?_
  refine own_putfield C X own_d6_39 (hw _ (List.mem_of_getElem? (i := 15) rfl)) (Or.inl (hw _ (List.mem_of_getElem? (i := 16) rfl))) (hw _ (List.mem_of_getElem? (i := 3) rfl)) O (i := 2) rfl (ty := .int) (by decide) rfl rfl ge_o (pc' := 42) rfl ?_
  intro T h X K_ O_
  have O : own_Ob Z a0 h o "com/example/stablemate/stablemate/FlowNetwork" [("deadMark", "I", (.int dm1)), ("deadFrom", "I", (.int (-1 : Int32))), ("deadTo", "I", (.int (-1 : Int32))), ("heads", "[I", (.ref hd)), ("marks", "[I", (.ref r1)), ("cursors", "[I", (.ref r2)), ("searchPath", "[I", (.ref r3)), ("reached", "[I", (.ref r4)), ("distances", "[I", (.ref r5)), ("deadMarks", "[I", (.ref r6)), ("nexts", "[I", (.ref nx)), ("targets", "[I", (.ref tg)), ("capacities", "[J", (.ref cp)), ("residuals", "[J", (.ref rs)), ("arcs", "I", (.int ar))] := O_
  have KK := KK.trans K_ (allS (Or.inl (by simp)) all0)
  exact own_return C X own_d6_42 (Nat.le_of_ble_eq_true rfl) (Nat.le_of_ble_eq_true rfl) (⟨rfl, KK, O⟩)
theorem own_ef_link0 (o : Addr) (ca : Int64) (m : MethodId) : entryFrame m #[(.ref o), (.int (0 : Int32)), (.int (0 : Int32)), (.int (1 : Int32)), (.long ca)] 6 = mkF m 0 #[.val (.ref o), .val (.int (0 : Int32)), .val (.int (0 : Int32)), .val (.int (1 : Int32)), .val (.long ca), .second] [] := by first | (simp [entryFrame, mkF, argsToLocals, Value.category]; done) | rfl
theorem own_d7_0 : decode prog_12_method_4_code 0 = .ok (.aload_n 0, 1) := by decide +kernel
theorem own_d7_1 : decode prog_12_method_4_code 1 = .ok (.getfield 59, 3) := by decide +kernel
theorem own_d7_4 : decode prog_12_method_4_code 4 = .ok (.iload_n 1, 1) := by decide +kernel
theorem own_d7_5 : decode prog_12_method_4_code 5 = .ok (.iload_n 3, 1) := by decide +kernel
theorem own_d7_6 : decode prog_12_method_4_code 6 = .ok (.iastore, 1) := by decide +kernel
theorem own_d7_7 : decode prog_12_method_4_code 7 = .ok (.aload_n 0, 1) := by decide +kernel
theorem own_d7_8 : decode prog_12_method_4_code 8 = .ok (.getfield 62, 3) := by decide +kernel
theorem own_d7_11 : decode prog_12_method_4_code 11 = .ok (.iload_n 1, 1) := by decide +kernel
theorem own_d7_12 : decode prog_12_method_4_code 12 = .ok (.lload 4, 2) := by decide +kernel
theorem own_d7_14 : decode prog_12_method_4_code 14 = .ok (.lastore, 1) := by decide +kernel
theorem own_d7_15 : decode prog_12_method_4_code 15 = .ok (.aload_n 0, 1) := by decide +kernel
theorem own_d7_16 : decode prog_12_method_4_code 16 = .ok (.getfield 66, 3) := by decide +kernel
theorem own_d7_19 : decode prog_12_method_4_code 19 = .ok (.iload_n 1, 1) := by decide +kernel
theorem own_d7_20 : decode prog_12_method_4_code 20 = .ok (.lload 4, 2) := by decide +kernel
theorem own_d7_22 : decode prog_12_method_4_code 22 = .ok (.lastore, 1) := by decide +kernel
theorem own_d7_23 : decode prog_12_method_4_code 23 = .ok (.aload_n 0, 1) := by decide +kernel
theorem own_d7_24 : decode prog_12_method_4_code 24 = .ok (.getfield 56, 3) := by decide +kernel
theorem own_d7_27 : decode prog_12_method_4_code 27 = .ok (.iload_n 1, 1) := by decide +kernel
theorem own_d7_28 : decode prog_12_method_4_code 28 = .ok (.aload_n 0, 1) := by decide +kernel
theorem own_d7_29 : decode prog_12_method_4_code 29 = .ok (.getfield 22, 3) := by decide +kernel
theorem own_d7_32 : decode prog_12_method_4_code 32 = .ok (.iload_n 2, 1) := by decide +kernel
theorem own_d7_33 : decode prog_12_method_4_code 33 = .ok (.iaload, 1) := by decide +kernel
theorem own_d7_34 : decode prog_12_method_4_code 34 = .ok (.iastore, 1) := by decide +kernel
theorem own_d7_35 : decode prog_12_method_4_code 35 = .ok (.aload_n 0, 1) := by decide +kernel
theorem own_d7_36 : decode prog_12_method_4_code 36 = .ok (.getfield 22, 3) := by decide +kernel
theorem own_d7_39 : decode prog_12_method_4_code 39 = .ok (.iload_n 2, 1) := by decide +kernel
theorem own_d7_40 : decode prog_12_method_4_code 40 = .ok (.iload_n 1, 1) := by decide +kernel
theorem own_d7_41 : decode prog_12_method_4_code 41 = .ok (.iastore, 1) := by decide +kernel
theorem own_d7_42 : decode prog_12_method_4_code 42 = .ok (.return_, 1) := by decide +kernel
set_option maxRecDepth 65536 in
set_option maxHeartbeats 40000000 in
theorem own_m_link0 (l : Launch) (Z : State) (a0 : Array Value) (hw : ∀ d ∈ tables_1, d.before a0 Z = true) (o : Addr) (ca : Int64) (h0 : Heap) (n0 : Nat) (hn0 : n0 ≤ h0.size) (hd r1 r2 r3 r4 r5 r6 nx tg cp rs : Addr) (dm ar : Int32) (u0 u1 nn0 nn1 nn2 nn3 t0 t1 t2 t3 : Int32) (c0 c1 c2 c3 e0 e1 e2 e3 : Int64) (O : own_Ob Z a0 h0 o "com/example/stablemate/stablemate/FlowNetwork" [("deadMark", "I", (.int dm)), ("deadFrom", "I", (.int (-1 : Int32))), ("deadTo", "I", (.int (-1 : Int32))), ("heads", "[I", (.ref hd)), ("marks", "[I", (.ref r1)), ("cursors", "[I", (.ref r2)), ("searchPath", "[I", (.ref r3)), ("reached", "[I", (.ref r4)), ("distances", "[I", (.ref r5)), ("deadMarks", "[I", (.ref r6)), ("nexts", "[I", (.ref nx)), ("targets", "[I", (.ref tg)), ("capacities", "[J", (.ref cp)), ("residuals", "[J", (.ref rs)), ("arcs", "I", (.int ar))]) (H : own_IA Z h0 hd .int [u0, u1]) (N : own_IA Z h0 nx .int (own_T4 nn0 nn1 nn2 nn3)) (G : own_IA Z h0 tg .int (own_T4 t0 t1 t2 t3)) (P : own_JA Z h0 cp (own_L4 c0 c1 c2 c3)) (S : own_JA Z h0 rs (own_L4 e0 e1 e2 e3)) (ge_o : n0 ≤ o) (ge_hd : n0 ≤ hd) (ge_nx : n0 ≤ nx) (ge_tg : n0 ≤ tg) (ge_cp : n0 ≤ cp) (ge_rs : n0 ≤ rs) (ne_o_hd : o ≠ hd) (ne_o_nx : o ≠ nx) (ne_o_tg : o ≠ tg) (ne_o_cp : o ≠ cp) (ne_o_rs : o ≠ rs) (ne_hd_nx : hd ≠ nx) (ne_hd_tg : hd ≠ tg) (ne_hd_cp : hd ≠ cp) (ne_hd_rs : hd ≠ rs) (ne_nx_tg : nx ≠ tg) (ne_nx_cp : nx ≠ cp) (ne_nx_rs : nx ≠ rs) (ne_tg_cp : tg ≠ cp) (ne_tg_rs : tg ≠ rs) (ne_cp_rs : cp ≠ rs) : own_Met l Z n0 (⟨"com/example/stablemate/stablemate/FlowNetwork", "link", "(IIIJ)V"⟩ : MethodName) prog_12_method_4_code 6 none [] ({ frames := 0, cells := 0, slots := 0, locals := 0 } : Room) #[(.ref o), (.int (0 : Int32)), (.int (0 : Int32)), (.int (1 : Int32)), (.long ca)] h0 (fun v h => v = none ∧ Keep h0 h [o, hd, nx, tg, cp, rs] ∧ own_Ob Z a0 h o "com/example/stablemate/stablemate/FlowNetwork" [("deadMark", "I", (.int dm)), ("deadFrom", "I", (.int (-1 : Int32))), ("deadTo", "I", (.int (-1 : Int32))), ("heads", "[I", (.ref hd)), ("marks", "[I", (.ref r1)), ("cursors", "[I", (.ref r2)), ("searchPath", "[I", (.ref r3)), ("reached", "[I", (.ref r4)), ("distances", "[I", (.ref r5)), ("deadMarks", "[I", (.ref r6)), ("nexts", "[I", (.ref nx)), ("targets", "[I", (.ref tg)), ("capacities", "[J", (.ref cp)), ("residuals", "[J", (.ref rs)), ("arcs", "I", (.int ar))] ∧ own_IA Z h hd .int [(0 : Int32), u1] ∧ own_IA Z h nx .int (own_T4 u0 nn1 nn2 nn3) ∧ own_IA Z h tg .int (own_T4 (1 : Int32) t1 t2 t3) ∧ own_JA Z h cp (own_L4 ca c1 c2 c3) ∧ own_JA Z h rs (own_L4 ca e1 e2 e3)) := by
  refine own_body (plainFor_of_name own_pn_com_example_stablemate_stablemate_FlowNetwork) hn0 (own_ef_link0 o ca) ?_
  intro p e s m below meth c T C X
  have KK := Keep.refl h0 [o, hd, nx, tg, cp, rs]
  refine own_aloadN C X own_d7_0 rfl rfl (pc' := 1) rfl ?_
  refine own_getfield C X own_d7_1 (hw _ (List.mem_of_getElem? (i := 41) rfl)) O (i := 11) rfl (pc' := 4) rfl ?_
  intro T X
  refine own_iloadN C X own_d7_4 rfl (pc' := 5) rfl ?_
  refine own_iloadN C X own_d7_5 rfl (pc' := 6) rfl ?_
  refine own_iastore C X own_d7_6 G (by decide) (i := 0) (Nat.le_of_ble_eq_true rfl) ge_tg (pc' := 7) rfl ?_
  intro T h X K_ G_
  have G : own_IA Z h tg .int (own_T4 (1 : Int32) t1 t2 t3) := G_
  have O := O.keep K_ (ninS ne_o_tg nin0)
  have H := H.keep K_ (ninS ne_hd_tg nin0)
  have N := N.keep K_ (ninS ne_nx_tg nin0)
  have P := P.keep K_ (ninS (Ne.symm ne_tg_cp) nin0)
  have S := S.keep K_ (ninS (Ne.symm ne_tg_rs) nin0)
  have KK := KK.trans K_ (allS (Or.inl (by simp)) all0)
  refine own_aloadN C X own_d7_7 rfl rfl (pc' := 8) rfl ?_
  refine own_getfield C X own_d7_8 (hw _ (List.mem_of_getElem? (i := 44) rfl)) O (i := 12) rfl (pc' := 11) rfl ?_
  intro T X
  refine own_iloadN C X own_d7_11 rfl (pc' := 12) rfl ?_
  refine own_lload C X own_d7_12 rfl (pc' := 14) rfl ?_
  refine own_lastore C X own_d7_14 P (by decide) (i := 0) (Nat.le_of_ble_eq_true rfl) ge_cp (pc' := 15) rfl ?_
  intro T h X K_ P_
  have P : own_JA Z h cp (own_L4 ca c1 c2 c3) := P_
  have O := O.keep K_ (ninS ne_o_cp nin0)
  have H := H.keep K_ (ninS ne_hd_cp nin0)
  have N := N.keep K_ (ninS ne_nx_cp nin0)
  have G := G.keep K_ (ninS ne_tg_cp nin0)
  have S := S.keep K_ (ninS (Ne.symm ne_cp_rs) nin0)
  have KK := KK.trans K_ (allS (Or.inl (by simp)) all0)
  refine own_aloadN C X own_d7_15 rfl rfl (pc' := 16) rfl ?_
  refine own_getfield C X own_d7_16 (hw _ (List.mem_of_getElem? (i := 46) rfl)) O (i := 13) rfl (pc' := 19) rfl ?_
  intro T X
  refine own_iloadN C X own_d7_19 rfl (pc' := 20) rfl ?_
  refine own_lload C X own_d7_20 rfl (pc' := 22) rfl ?_
  refine own_lastore C X own_d7_22 S (by decide) (i := 0) (Nat.le_of_ble_eq_true rfl) ge_rs (pc' := 23) rfl ?_
  intro T h X K_ S_
  have S : own_JA Z h rs (own_L4 ca e1 e2 e3) := S_
  have O := O.keep K_ (ninS ne_o_rs nin0)
  have H := H.keep K_ (ninS ne_hd_rs nin0)
  have N := N.keep K_ (ninS ne_nx_rs nin0)
  have G := G.keep K_ (ninS ne_tg_rs nin0)
  have P := P.keep K_ (ninS ne_cp_rs nin0)
  have KK := KK.trans K_ (allS (Or.inl (by simp)) all0)
  refine own_aloadN C X own_d7_23 rfl rfl (pc' := 24) rfl ?_
  refine own_getfield C X own_d7_24 (hw _ (List.mem_of_getElem? (i := 39) rfl)) O (i := 10) rfl (pc' := 27) rfl ?_
  intro T X
  refine own_iloadN C X own_d7_27 rfl (pc' := 28) rfl ?_
  refine own_aloadN C X own_d7_28 rfl rfl (pc' := 29) rfl ?_
  refine own_getfield C X own_d7_29 (hw _ (List.mem_of_getElem? (i := 17) rfl)) O (i := 3) rfl (pc' := 32) rfl ?_
  intro T X
  refine own_iloadN C X own_d7_32 rfl (pc' := 33) rfl ?_
  refine own_iaload C X own_d7_33 H (by decide) (i := 0) rfl (pc' := 34) rfl ?_
  refine own_iastore C X own_d7_34 N (by decide) (i := 0) (Nat.le_of_ble_eq_true rfl) ge_nx (pc' := 35) rfl ?_
  intro T h X K_ N_
  have N : own_IA Z h nx .int (own_T4 u0 nn1 nn2 nn3) := N_
  have O := O.keep K_ (ninS ne_o_nx nin0)
  have H := H.keep K_ (ninS ne_hd_nx nin0)
  have G := G.keep K_ (ninS (Ne.symm ne_nx_tg) nin0)
  have P := P.keep K_ (ninS (Ne.symm ne_nx_cp) nin0)
  have S := S.keep K_ (ninS (Ne.symm ne_nx_rs) nin0)
  have KK := KK.trans K_ (allS (Or.inl (by simp)) all0)
  refine own_aloadN C X own_d7_35 rfl rfl (pc' := 36) rfl ?_
  refine own_getfield C X own_d7_36 (hw _ (List.mem_of_getElem? (i := 17) rfl)) O (i := 3) rfl (pc' := 39) rfl ?_
  intro T X
  refine own_iloadN C X own_d7_39 rfl (pc' := 40) rfl ?_
  refine own_iloadN C X own_d7_40 rfl (pc' := 41) rfl ?_
  refine own_iastore C X own_d7_41 H (by decide) (i := 0) (Nat.le_of_ble_eq_true rfl) ge_hd (pc' := 42) rfl ?_
  intro T h X K_ H_
  have H : own_IA Z h hd .int [(0 : Int32), u1] := H_
  have O := O.keep K_ (ninS ne_o_hd nin0)
  have N := N.keep K_ (ninS (Ne.symm ne_hd_nx) nin0)
  have G := G.keep K_ (ninS (Ne.symm ne_hd_tg) nin0)
  have P := P.keep K_ (ninS (Ne.symm ne_hd_cp) nin0)
  have S := S.keep K_ (ninS (Ne.symm ne_hd_rs) nin0)
  have KK := KK.trans K_ (allS (Or.inl (by simp)) all0)
  exact own_return C X own_d7_42 (Nat.le_of_ble_eq_true rfl) (Nat.le_of_ble_eq_true rfl) (⟨rfl, KK, O, H, N, G, P, S⟩)
theorem own_ef_link1 (o : Addr) (ca : Int64) (m : MethodId) : entryFrame m #[(.ref o), (.int (1 : Int32)), (.int (1 : Int32)), (.int (0 : Int32)), (.long ca)] 6 = mkF m 0 #[.val (.ref o), .val (.int (1 : Int32)), .val (.int (1 : Int32)), .val (.int (0 : Int32)), .val (.long ca), .second] [] := by first | (simp [entryFrame, mkF, argsToLocals, Value.category]; done) | rfl
set_option maxRecDepth 65536 in
set_option maxHeartbeats 40000000 in
theorem own_m_link1 (l : Launch) (Z : State) (a0 : Array Value) (hw : ∀ d ∈ tables_1, d.before a0 Z = true) (o : Addr) (ca : Int64) (h0 : Heap) (n0 : Nat) (hn0 : n0 ≤ h0.size) (hd r1 r2 r3 r4 r5 r6 nx tg cp rs : Addr) (dm ar : Int32) (u0 u1 nn0 nn1 nn2 nn3 t0 t1 t2 t3 : Int32) (c0 c1 c2 c3 e0 e1 e2 e3 : Int64) (O : own_Ob Z a0 h0 o "com/example/stablemate/stablemate/FlowNetwork" [("deadMark", "I", (.int dm)), ("deadFrom", "I", (.int (-1 : Int32))), ("deadTo", "I", (.int (-1 : Int32))), ("heads", "[I", (.ref hd)), ("marks", "[I", (.ref r1)), ("cursors", "[I", (.ref r2)), ("searchPath", "[I", (.ref r3)), ("reached", "[I", (.ref r4)), ("distances", "[I", (.ref r5)), ("deadMarks", "[I", (.ref r6)), ("nexts", "[I", (.ref nx)), ("targets", "[I", (.ref tg)), ("capacities", "[J", (.ref cp)), ("residuals", "[J", (.ref rs)), ("arcs", "I", (.int ar))]) (H : own_IA Z h0 hd .int [u0, u1]) (N : own_IA Z h0 nx .int (own_T4 nn0 nn1 nn2 nn3)) (G : own_IA Z h0 tg .int (own_T4 t0 t1 t2 t3)) (P : own_JA Z h0 cp (own_L4 c0 c1 c2 c3)) (S : own_JA Z h0 rs (own_L4 e0 e1 e2 e3)) (ge_o : n0 ≤ o) (ge_hd : n0 ≤ hd) (ge_nx : n0 ≤ nx) (ge_tg : n0 ≤ tg) (ge_cp : n0 ≤ cp) (ge_rs : n0 ≤ rs) (ne_o_hd : o ≠ hd) (ne_o_nx : o ≠ nx) (ne_o_tg : o ≠ tg) (ne_o_cp : o ≠ cp) (ne_o_rs : o ≠ rs) (ne_hd_nx : hd ≠ nx) (ne_hd_tg : hd ≠ tg) (ne_hd_cp : hd ≠ cp) (ne_hd_rs : hd ≠ rs) (ne_nx_tg : nx ≠ tg) (ne_nx_cp : nx ≠ cp) (ne_nx_rs : nx ≠ rs) (ne_tg_cp : tg ≠ cp) (ne_tg_rs : tg ≠ rs) (ne_cp_rs : cp ≠ rs) : own_Met l Z n0 (⟨"com/example/stablemate/stablemate/FlowNetwork", "link", "(IIIJ)V"⟩ : MethodName) prog_12_method_4_code 6 none [] ({ frames := 0, cells := 0, slots := 0, locals := 0 } : Room) #[(.ref o), (.int (1 : Int32)), (.int (1 : Int32)), (.int (0 : Int32)), (.long ca)] h0 (fun v h => v = none ∧ Keep h0 h [o, hd, nx, tg, cp, rs] ∧ own_Ob Z a0 h o "com/example/stablemate/stablemate/FlowNetwork" [("deadMark", "I", (.int dm)), ("deadFrom", "I", (.int (-1 : Int32))), ("deadTo", "I", (.int (-1 : Int32))), ("heads", "[I", (.ref hd)), ("marks", "[I", (.ref r1)), ("cursors", "[I", (.ref r2)), ("searchPath", "[I", (.ref r3)), ("reached", "[I", (.ref r4)), ("distances", "[I", (.ref r5)), ("deadMarks", "[I", (.ref r6)), ("nexts", "[I", (.ref nx)), ("targets", "[I", (.ref tg)), ("capacities", "[J", (.ref cp)), ("residuals", "[J", (.ref rs)), ("arcs", "I", (.int ar))] ∧ own_IA Z h hd .int [u0, (1 : Int32)] ∧ own_IA Z h nx .int (own_T4 nn0 u1 nn2 nn3) ∧ own_IA Z h tg .int (own_T4 t0 (0 : Int32) t2 t3) ∧ own_JA Z h cp (own_L4 c0 ca c2 c3) ∧ own_JA Z h rs (own_L4 e0 ca e2 e3)) := by
  refine own_body (plainFor_of_name own_pn_com_example_stablemate_stablemate_FlowNetwork) hn0 (own_ef_link1 o ca) ?_
  intro p e s m below meth c T C X
  have KK := Keep.refl h0 [o, hd, nx, tg, cp, rs]
  refine own_aloadN C X own_d7_0 rfl rfl (pc' := 1) rfl ?_
  refine own_getfield C X own_d7_1 (hw _ (List.mem_of_getElem? (i := 41) rfl)) O (i := 11) rfl (pc' := 4) rfl ?_
  intro T X
  refine own_iloadN C X own_d7_4 rfl (pc' := 5) rfl ?_
  refine own_iloadN C X own_d7_5 rfl (pc' := 6) rfl ?_
  refine own_iastore C X own_d7_6 G (by decide) (i := 1) (Nat.le_of_ble_eq_true rfl) ge_tg (pc' := 7) rfl ?_
  intro T h X K_ G_
  have G : own_IA Z h tg .int (own_T4 t0 (0 : Int32) t2 t3) := G_
  have O := O.keep K_ (ninS ne_o_tg nin0)
  have H := H.keep K_ (ninS ne_hd_tg nin0)
  have N := N.keep K_ (ninS ne_nx_tg nin0)
  have P := P.keep K_ (ninS (Ne.symm ne_tg_cp) nin0)
  have S := S.keep K_ (ninS (Ne.symm ne_tg_rs) nin0)
  have KK := KK.trans K_ (allS (Or.inl (by simp)) all0)
  refine own_aloadN C X own_d7_7 rfl rfl (pc' := 8) rfl ?_
  refine own_getfield C X own_d7_8 (hw _ (List.mem_of_getElem? (i := 44) rfl)) O (i := 12) rfl (pc' := 11) rfl ?_
  intro T X
  refine own_iloadN C X own_d7_11 rfl (pc' := 12) rfl ?_
  refine own_lload C X own_d7_12 rfl (pc' := 14) rfl ?_
  refine own_lastore C X own_d7_14 P (by decide) (i := 1) (Nat.le_of_ble_eq_true rfl) ge_cp (pc' := 15) rfl ?_
  intro T h X K_ P_
  have P : own_JA Z h cp (own_L4 c0 ca c2 c3) := P_
  have O := O.keep K_ (ninS ne_o_cp nin0)
  have H := H.keep K_ (ninS ne_hd_cp nin0)
  have N := N.keep K_ (ninS ne_nx_cp nin0)
  have G := G.keep K_ (ninS ne_tg_cp nin0)
  have S := S.keep K_ (ninS (Ne.symm ne_cp_rs) nin0)
  have KK := KK.trans K_ (allS (Or.inl (by simp)) all0)
  refine own_aloadN C X own_d7_15 rfl rfl (pc' := 16) rfl ?_
  refine own_getfield C X own_d7_16 (hw _ (List.mem_of_getElem? (i := 46) rfl)) O (i := 13) rfl (pc' := 19) rfl ?_
  intro T X
  refine own_iloadN C X own_d7_19 rfl (pc' := 20) rfl ?_
  refine own_lload C X own_d7_20 rfl (pc' := 22) rfl ?_
  refine own_lastore C X own_d7_22 S (by decide) (i := 1) (Nat.le_of_ble_eq_true rfl) ge_rs (pc' := 23) rfl ?_
  intro T h X K_ S_
  have S : own_JA Z h rs (own_L4 e0 ca e2 e3) := S_
  have O := O.keep K_ (ninS ne_o_rs nin0)
  have H := H.keep K_ (ninS ne_hd_rs nin0)
  have N := N.keep K_ (ninS ne_nx_rs nin0)
  have G := G.keep K_ (ninS ne_tg_rs nin0)
  have P := P.keep K_ (ninS ne_cp_rs nin0)
  have KK := KK.trans K_ (allS (Or.inl (by simp)) all0)
  refine own_aloadN C X own_d7_23 rfl rfl (pc' := 24) rfl ?_
  refine own_getfield C X own_d7_24 (hw _ (List.mem_of_getElem? (i := 39) rfl)) O (i := 10) rfl (pc' := 27) rfl ?_
  intro T X
  refine own_iloadN C X own_d7_27 rfl (pc' := 28) rfl ?_
  refine own_aloadN C X own_d7_28 rfl rfl (pc' := 29) rfl ?_
  refine own_getfield C X own_d7_29 (hw _ (List.mem_of_getElem? (i := 17) rfl)) O (i := 3) rfl (pc' := 32) rfl ?_
  intro T X
  refine own_iloadN C X own_d7_32 rfl (pc' := 33) rfl ?_
  refine own_iaload C X own_d7_33 H (by decide) (i := 1) rfl (pc' := 34) rfl ?_
  refine own_iastore C X own_d7_34 N (by decide) (i := 1) (Nat.le_of_ble_eq_true rfl) ge_nx (pc' := 35) rfl ?_
  intro T h X K_ N_
  have N : own_IA Z h nx .int (own_T4 nn0 u1 nn2 nn3) := N_
  have O := O.keep K_ (ninS ne_o_nx nin0)
  have H := H.keep K_ (ninS ne_hd_nx nin0)
  have G := G.keep K_ (ninS (Ne.symm ne_nx_tg) nin0)
  have P := P.keep K_ (ninS (Ne.symm ne_nx_cp) nin0)
  have S := S.keep K_ (ninS (Ne.symm ne_nx_rs) nin0)
  have KK := KK.trans K_ (allS (Or.inl (by simp)) all0)
  refine own_aloadN C X own_d7_35 rfl rfl (pc' := 36) rfl ?_
  refine own_getfield C X own_d7_36 (hw _ (List.mem_of_getElem? (i := 17) rfl)) O (i := 3) rfl (pc' := 39) rfl ?_
  intro T X
  refine own_iloadN C X own_d7_39 rfl (pc' := 40) rfl ?_
  refine own_iloadN C X own_d7_40 rfl (pc' := 41) rfl ?_
  refine own_iastore C X own_d7_41 H (by decide) (i := 1) (Nat.le_of_ble_eq_true rfl) ge_hd (pc' := 42) rfl ?_
  intro T h X K_ H_
  have H : own_IA Z h hd .int [u0, (1 : Int32)] := H_
  have O := O.keep K_ (ninS ne_o_hd nin0)
  have N := N.keep K_ (ninS (Ne.symm ne_hd_nx) nin0)
  have G := G.keep K_ (ninS (Ne.symm ne_hd_tg) nin0)
  have P := P.keep K_ (ninS (Ne.symm ne_hd_cp) nin0)
  have S := S.keep K_ (ninS (Ne.symm ne_hd_rs) nin0)
  have KK := KK.trans K_ (allS (Or.inl (by simp)) all0)
  exact own_return C X own_d7_42 (Nat.le_of_ble_eq_true rfl) (Nat.le_of_ble_eq_true rfl) (⟨rfl, KK, O, H, N, G, P, S⟩)
theorem own_ef_link2 (o : Addr) (ca : Int64) (m : MethodId) : entryFrame m #[(.ref o), (.int (2 : Int32)), (.int (1 : Int32)), (.int (0 : Int32)), (.long ca)] 6 = mkF m 0 #[.val (.ref o), .val (.int (2 : Int32)), .val (.int (1 : Int32)), .val (.int (0 : Int32)), .val (.long ca), .second] [] := by first | (simp [entryFrame, mkF, argsToLocals, Value.category]; done) | rfl
set_option maxRecDepth 65536 in
set_option maxHeartbeats 40000000 in
theorem own_m_link2 (l : Launch) (Z : State) (a0 : Array Value) (hw : ∀ d ∈ tables_1, d.before a0 Z = true) (o : Addr) (ca : Int64) (h0 : Heap) (n0 : Nat) (hn0 : n0 ≤ h0.size) (hd r1 r2 r3 r4 r5 r6 nx tg cp rs : Addr) (dm ar : Int32) (u0 u1 nn0 nn1 nn2 nn3 t0 t1 t2 t3 : Int32) (c0 c1 c2 c3 e0 e1 e2 e3 : Int64) (O : own_Ob Z a0 h0 o "com/example/stablemate/stablemate/FlowNetwork" [("deadMark", "I", (.int dm)), ("deadFrom", "I", (.int (-1 : Int32))), ("deadTo", "I", (.int (-1 : Int32))), ("heads", "[I", (.ref hd)), ("marks", "[I", (.ref r1)), ("cursors", "[I", (.ref r2)), ("searchPath", "[I", (.ref r3)), ("reached", "[I", (.ref r4)), ("distances", "[I", (.ref r5)), ("deadMarks", "[I", (.ref r6)), ("nexts", "[I", (.ref nx)), ("targets", "[I", (.ref tg)), ("capacities", "[J", (.ref cp)), ("residuals", "[J", (.ref rs)), ("arcs", "I", (.int ar))]) (H : own_IA Z h0 hd .int [u0, u1]) (N : own_IA Z h0 nx .int (own_T4 nn0 nn1 nn2 nn3)) (G : own_IA Z h0 tg .int (own_T4 t0 t1 t2 t3)) (P : own_JA Z h0 cp (own_L4 c0 c1 c2 c3)) (S : own_JA Z h0 rs (own_L4 e0 e1 e2 e3)) (ge_o : n0 ≤ o) (ge_hd : n0 ≤ hd) (ge_nx : n0 ≤ nx) (ge_tg : n0 ≤ tg) (ge_cp : n0 ≤ cp) (ge_rs : n0 ≤ rs) (ne_o_hd : o ≠ hd) (ne_o_nx : o ≠ nx) (ne_o_tg : o ≠ tg) (ne_o_cp : o ≠ cp) (ne_o_rs : o ≠ rs) (ne_hd_nx : hd ≠ nx) (ne_hd_tg : hd ≠ tg) (ne_hd_cp : hd ≠ cp) (ne_hd_rs : hd ≠ rs) (ne_nx_tg : nx ≠ tg) (ne_nx_cp : nx ≠ cp) (ne_nx_rs : nx ≠ rs) (ne_tg_cp : tg ≠ cp) (ne_tg_rs : tg ≠ rs) (ne_cp_rs : cp ≠ rs) : own_Met l Z n0 (⟨"com/example/stablemate/stablemate/FlowNetwork", "link", "(IIIJ)V"⟩ : MethodName) prog_12_method_4_code 6 none [] ({ frames := 0, cells := 0, slots := 0, locals := 0 } : Room) #[(.ref o), (.int (2 : Int32)), (.int (1 : Int32)), (.int (0 : Int32)), (.long ca)] h0 (fun v h => v = none ∧ Keep h0 h [o, hd, nx, tg, cp, rs] ∧ own_Ob Z a0 h o "com/example/stablemate/stablemate/FlowNetwork" [("deadMark", "I", (.int dm)), ("deadFrom", "I", (.int (-1 : Int32))), ("deadTo", "I", (.int (-1 : Int32))), ("heads", "[I", (.ref hd)), ("marks", "[I", (.ref r1)), ("cursors", "[I", (.ref r2)), ("searchPath", "[I", (.ref r3)), ("reached", "[I", (.ref r4)), ("distances", "[I", (.ref r5)), ("deadMarks", "[I", (.ref r6)), ("nexts", "[I", (.ref nx)), ("targets", "[I", (.ref tg)), ("capacities", "[J", (.ref cp)), ("residuals", "[J", (.ref rs)), ("arcs", "I", (.int ar))] ∧ own_IA Z h hd .int [u0, (2 : Int32)] ∧ own_IA Z h nx .int (own_T4 nn0 nn1 u1 nn3) ∧ own_IA Z h tg .int (own_T4 t0 t1 (0 : Int32) t3) ∧ own_JA Z h cp (own_L4 c0 c1 ca c3) ∧ own_JA Z h rs (own_L4 e0 e1 ca e3)) := by
  refine own_body (plainFor_of_name own_pn_com_example_stablemate_stablemate_FlowNetwork) hn0 (own_ef_link2 o ca) ?_
  intro p e s m below meth c T C X
  have KK := Keep.refl h0 [o, hd, nx, tg, cp, rs]
  refine own_aloadN C X own_d7_0 rfl rfl (pc' := 1) rfl ?_
  refine own_getfield C X own_d7_1 (hw _ (List.mem_of_getElem? (i := 41) rfl)) O (i := 11) rfl (pc' := 4) rfl ?_
  intro T X
  refine own_iloadN C X own_d7_4 rfl (pc' := 5) rfl ?_
  refine own_iloadN C X own_d7_5 rfl (pc' := 6) rfl ?_
  refine own_iastore C X own_d7_6 G (by decide) (i := 2) (Nat.le_of_ble_eq_true rfl) ge_tg (pc' := 7) rfl ?_
  intro T h X K_ G_
  have G : own_IA Z h tg .int (own_T4 t0 t1 (0 : Int32) t3) := G_
  have O := O.keep K_ (ninS ne_o_tg nin0)
  have H := H.keep K_ (ninS ne_hd_tg nin0)
  have N := N.keep K_ (ninS ne_nx_tg nin0)
  have P := P.keep K_ (ninS (Ne.symm ne_tg_cp) nin0)
  have S := S.keep K_ (ninS (Ne.symm ne_tg_rs) nin0)
  have KK := KK.trans K_ (allS (Or.inl (by simp)) all0)
  refine own_aloadN C X own_d7_7 rfl rfl (pc' := 8) rfl ?_
  refine own_getfield C X own_d7_8 (hw _ (List.mem_of_getElem? (i := 44) rfl)) O (i := 12) rfl (pc' := 11) rfl ?_
  intro T X
  refine own_iloadN C X own_d7_11 rfl (pc' := 12) rfl ?_
  refine own_lload C X own_d7_12 rfl (pc' := 14) rfl ?_
  refine own_lastore C X own_d7_14 P (by decide) (i := 2) (Nat.le_of_ble_eq_true rfl) ge_cp (pc' := 15) rfl ?_
  intro T h X K_ P_
  have P : own_JA Z h cp (own_L4 c0 c1 ca c3) := P_
  have O := O.keep K_ (ninS ne_o_cp nin0)
  have H := H.keep K_ (ninS ne_hd_cp nin0)
  have N := N.keep K_ (ninS ne_nx_cp nin0)
  have G := G.keep K_ (ninS ne_tg_cp nin0)
  have S := S.keep K_ (ninS (Ne.symm ne_cp_rs) nin0)
  have KK := KK.trans K_ (allS (Or.inl (by simp)) all0)
  refine own_aloadN C X own_d7_15 rfl rfl (pc' := 16) rfl ?_
  refine own_getfield C X own_d7_16 (hw _ (List.mem_of_getElem? (i := 46) rfl)) O (i := 13) rfl (pc' := 19) rfl ?_
  intro T X
  refine own_iloadN C X own_d7_19 rfl (pc' := 20) rfl ?_
  refine own_lload C X own_d7_20 rfl (pc' := 22) rfl ?_
  refine own_lastore C X own_d7_22 S (by decide) (i := 2) (Nat.le_of_ble_eq_true rfl) ge_rs (pc' := 23) rfl ?_
  intro T h X K_ S_
  have S : own_JA Z h rs (own_L4 e0 e1 ca e3) := S_
  have O := O.keep K_ (ninS ne_o_rs nin0)
  have H := H.keep K_ (ninS ne_hd_rs nin0)
  have N := N.keep K_ (ninS ne_nx_rs nin0)
  have G := G.keep K_ (ninS ne_tg_rs nin0)
  have P := P.keep K_ (ninS ne_cp_rs nin0)
  have KK := KK.trans K_ (allS (Or.inl (by simp)) all0)
  refine own_aloadN C X own_d7_23 rfl rfl (pc' := 24) rfl ?_
  refine own_getfield C X own_d7_24 (hw _ (List.mem_of_getElem? (i := 39) rfl)) O (i := 10) rfl (pc' := 27) rfl ?_
  intro T X
  refine own_iloadN C X own_d7_27 rfl (pc' := 28) rfl ?_
  refine own_aloadN C X own_d7_28 rfl rfl (pc' := 29) rfl ?_
  refine own_getfield C X own_d7_29 (hw _ (List.mem_of_getElem? (i := 17) rfl)) O (i := 3) rfl (pc' := 32) rfl ?_
  intro T X
  refine own_iloadN C X own_d7_32 rfl (pc' := 33) rfl ?_
  refine own_iaload C X own_d7_33 H (by decide) (i := 1) rfl (pc' := 34) rfl ?_
  refine own_iastore C X own_d7_34 N (by decide) (i := 2) (Nat.le_of_ble_eq_true rfl) ge_nx (pc' := 35) rfl ?_
  intro T h X K_ N_
  have N : own_IA Z h nx .int (own_T4 nn0 nn1 u1 nn3) := N_
  have O := O.keep K_ (ninS ne_o_nx nin0)
  have H := H.keep K_ (ninS ne_hd_nx nin0)
  have G := G.keep K_ (ninS (Ne.symm ne_nx_tg) nin0)
  have P := P.keep K_ (ninS (Ne.symm ne_nx_cp) nin0)
  have S := S.keep K_ (ninS (Ne.symm ne_nx_rs) nin0)
  have KK := KK.trans K_ (allS (Or.inl (by simp)) all0)
  refine own_aloadN C X own_d7_35 rfl rfl (pc' := 36) rfl ?_
  refine own_getfield C X own_d7_36 (hw _ (List.mem_of_getElem? (i := 17) rfl)) O (i := 3) rfl (pc' := 39) rfl ?_
  intro T X
  refine own_iloadN C X own_d7_39 rfl (pc' := 40) rfl ?_
  refine own_iloadN C X own_d7_40 rfl (pc' := 41) rfl ?_
  refine own_iastore C X own_d7_41 H (by decide) (i := 1) (Nat.le_of_ble_eq_true rfl) ge_hd (pc' := 42) rfl ?_
  intro T h X K_ H_
  have H : own_IA Z h hd .int [u0, (2 : Int32)] := H_
  have O := O.keep K_ (ninS ne_o_hd nin0)
  have N := N.keep K_ (ninS (Ne.symm ne_hd_nx) nin0)
  have G := G.keep K_ (ninS (Ne.symm ne_hd_tg) nin0)
  have P := P.keep K_ (ninS (Ne.symm ne_hd_cp) nin0)
  have S := S.keep K_ (ninS (Ne.symm ne_hd_rs) nin0)
  have KK := KK.trans K_ (allS (Or.inl (by simp)) all0)
  exact own_return C X own_d7_42 (Nat.le_of_ble_eq_true rfl) (Nat.le_of_ble_eq_true rfl) (⟨rfl, KK, O, H, N, G, P, S⟩)
theorem own_ef_link3 (o : Addr) (ca : Int64) (m : MethodId) : entryFrame m #[(.ref o), (.int (3 : Int32)), (.int (0 : Int32)), (.int (1 : Int32)), (.long ca)] 6 = mkF m 0 #[.val (.ref o), .val (.int (3 : Int32)), .val (.int (0 : Int32)), .val (.int (1 : Int32)), .val (.long ca), .second] [] := by first | (simp [entryFrame, mkF, argsToLocals, Value.category]; done) | rfl
set_option maxRecDepth 65536 in
set_option maxHeartbeats 40000000 in
theorem own_m_link3 (l : Launch) (Z : State) (a0 : Array Value) (hw : ∀ d ∈ tables_1, d.before a0 Z = true) (o : Addr) (ca : Int64) (h0 : Heap) (n0 : Nat) (hn0 : n0 ≤ h0.size) (hd r1 r2 r3 r4 r5 r6 nx tg cp rs : Addr) (dm ar : Int32) (u0 u1 nn0 nn1 nn2 nn3 t0 t1 t2 t3 : Int32) (c0 c1 c2 c3 e0 e1 e2 e3 : Int64) (O : own_Ob Z a0 h0 o "com/example/stablemate/stablemate/FlowNetwork" [("deadMark", "I", (.int dm)), ("deadFrom", "I", (.int (-1 : Int32))), ("deadTo", "I", (.int (-1 : Int32))), ("heads", "[I", (.ref hd)), ("marks", "[I", (.ref r1)), ("cursors", "[I", (.ref r2)), ("searchPath", "[I", (.ref r3)), ("reached", "[I", (.ref r4)), ("distances", "[I", (.ref r5)), ("deadMarks", "[I", (.ref r6)), ("nexts", "[I", (.ref nx)), ("targets", "[I", (.ref tg)), ("capacities", "[J", (.ref cp)), ("residuals", "[J", (.ref rs)), ("arcs", "I", (.int ar))]) (H : own_IA Z h0 hd .int [u0, u1]) (N : own_IA Z h0 nx .int (own_T4 nn0 nn1 nn2 nn3)) (G : own_IA Z h0 tg .int (own_T4 t0 t1 t2 t3)) (P : own_JA Z h0 cp (own_L4 c0 c1 c2 c3)) (S : own_JA Z h0 rs (own_L4 e0 e1 e2 e3)) (ge_o : n0 ≤ o) (ge_hd : n0 ≤ hd) (ge_nx : n0 ≤ nx) (ge_tg : n0 ≤ tg) (ge_cp : n0 ≤ cp) (ge_rs : n0 ≤ rs) (ne_o_hd : o ≠ hd) (ne_o_nx : o ≠ nx) (ne_o_tg : o ≠ tg) (ne_o_cp : o ≠ cp) (ne_o_rs : o ≠ rs) (ne_hd_nx : hd ≠ nx) (ne_hd_tg : hd ≠ tg) (ne_hd_cp : hd ≠ cp) (ne_hd_rs : hd ≠ rs) (ne_nx_tg : nx ≠ tg) (ne_nx_cp : nx ≠ cp) (ne_nx_rs : nx ≠ rs) (ne_tg_cp : tg ≠ cp) (ne_tg_rs : tg ≠ rs) (ne_cp_rs : cp ≠ rs) : own_Met l Z n0 (⟨"com/example/stablemate/stablemate/FlowNetwork", "link", "(IIIJ)V"⟩ : MethodName) prog_12_method_4_code 6 none [] ({ frames := 0, cells := 0, slots := 0, locals := 0 } : Room) #[(.ref o), (.int (3 : Int32)), (.int (0 : Int32)), (.int (1 : Int32)), (.long ca)] h0 (fun v h => v = none ∧ Keep h0 h [o, hd, nx, tg, cp, rs] ∧ own_Ob Z a0 h o "com/example/stablemate/stablemate/FlowNetwork" [("deadMark", "I", (.int dm)), ("deadFrom", "I", (.int (-1 : Int32))), ("deadTo", "I", (.int (-1 : Int32))), ("heads", "[I", (.ref hd)), ("marks", "[I", (.ref r1)), ("cursors", "[I", (.ref r2)), ("searchPath", "[I", (.ref r3)), ("reached", "[I", (.ref r4)), ("distances", "[I", (.ref r5)), ("deadMarks", "[I", (.ref r6)), ("nexts", "[I", (.ref nx)), ("targets", "[I", (.ref tg)), ("capacities", "[J", (.ref cp)), ("residuals", "[J", (.ref rs)), ("arcs", "I", (.int ar))] ∧ own_IA Z h hd .int [(3 : Int32), u1] ∧ own_IA Z h nx .int (own_T4 nn0 nn1 nn2 u0) ∧ own_IA Z h tg .int (own_T4 t0 t1 t2 (1 : Int32)) ∧ own_JA Z h cp (own_L4 c0 c1 c2 ca) ∧ own_JA Z h rs (own_L4 e0 e1 e2 ca)) := by
  refine own_body (plainFor_of_name own_pn_com_example_stablemate_stablemate_FlowNetwork) hn0 (own_ef_link3 o ca) ?_
  intro p e s m below meth c T C X
  have KK := Keep.refl h0 [o, hd, nx, tg, cp, rs]
  refine own_aloadN C X own_d7_0 rfl rfl (pc' := 1) rfl ?_
  refine own_getfield C X own_d7_1 (hw _ (List.mem_of_getElem? (i := 41) rfl)) O (i := 11) rfl (pc' := 4) rfl ?_
  intro T X
  refine own_iloadN C X own_d7_4 rfl (pc' := 5) rfl ?_
  refine own_iloadN C X own_d7_5 rfl (pc' := 6) rfl ?_
  refine own_iastore C X own_d7_6 G (by decide) (i := 3) (Nat.le_of_ble_eq_true rfl) ge_tg (pc' := 7) rfl ?_
  intro T h X K_ G_
  have G : own_IA Z h tg .int (own_T4 t0 t1 t2 (1 : Int32)) := G_
  have O := O.keep K_ (ninS ne_o_tg nin0)
  have H := H.keep K_ (ninS ne_hd_tg nin0)
  have N := N.keep K_ (ninS ne_nx_tg nin0)
  have P := P.keep K_ (ninS (Ne.symm ne_tg_cp) nin0)
  have S := S.keep K_ (ninS (Ne.symm ne_tg_rs) nin0)
  have KK := KK.trans K_ (allS (Or.inl (by simp)) all0)
  refine own_aloadN C X own_d7_7 rfl rfl (pc' := 8) rfl ?_
  refine own_getfield C X own_d7_8 (hw _ (List.mem_of_getElem? (i := 44) rfl)) O (i := 12) rfl (pc' := 11) rfl ?_
  intro T X
  refine own_iloadN C X own_d7_11 rfl (pc' := 12) rfl ?_
  refine own_lload C X own_d7_12 rfl (pc' := 14) rfl ?_
  refine own_lastore C X own_d7_14 P (by decide) (i := 3) (Nat.le_of_ble_eq_true rfl) ge_cp (pc' := 15) rfl ?_
  intro T h X K_ P_
  have P : own_JA Z h cp (own_L4 c0 c1 c2 ca) := P_
  have O := O.keep K_ (ninS ne_o_cp nin0)
  have H := H.keep K_ (ninS ne_hd_cp nin0)
  have N := N.keep K_ (ninS ne_nx_cp nin0)
  have G := G.keep K_ (ninS ne_tg_cp nin0)
  have S := S.keep K_ (ninS (Ne.symm ne_cp_rs) nin0)
  have KK := KK.trans K_ (allS (Or.inl (by simp)) all0)
  refine own_aloadN C X own_d7_15 rfl rfl (pc' := 16) rfl ?_
  refine own_getfield C X own_d7_16 (hw _ (List.mem_of_getElem? (i := 46) rfl)) O (i := 13) rfl (pc' := 19) rfl ?_
  intro T X
  refine own_iloadN C X own_d7_19 rfl (pc' := 20) rfl ?_
  refine own_lload C X own_d7_20 rfl (pc' := 22) rfl ?_
  refine own_lastore C X own_d7_22 S (by decide) (i := 3) (Nat.le_of_ble_eq_true rfl) ge_rs (pc' := 23) rfl ?_
  intro T h X K_ S_
  have S : own_JA Z h rs (own_L4 e0 e1 e2 ca) := S_
  have O := O.keep K_ (ninS ne_o_rs nin0)
  have H := H.keep K_ (ninS ne_hd_rs nin0)
  have N := N.keep K_ (ninS ne_nx_rs nin0)
  have G := G.keep K_ (ninS ne_tg_rs nin0)
  have P := P.keep K_ (ninS ne_cp_rs nin0)
  have KK := KK.trans K_ (allS (Or.inl (by simp)) all0)
  refine own_aloadN C X own_d7_23 rfl rfl (pc' := 24) rfl ?_
  refine own_getfield C X own_d7_24 (hw _ (List.mem_of_getElem? (i := 39) rfl)) O (i := 10) rfl (pc' := 27) rfl ?_
  intro T X
  refine own_iloadN C X own_d7_27 rfl (pc' := 28) rfl ?_
  refine own_aloadN C X own_d7_28 rfl rfl (pc' := 29) rfl ?_
  refine own_getfield C X own_d7_29 (hw _ (List.mem_of_getElem? (i := 17) rfl)) O (i := 3) rfl (pc' := 32) rfl ?_
  intro T X
  refine own_iloadN C X own_d7_32 rfl (pc' := 33) rfl ?_
  refine own_iaload C X own_d7_33 H (by decide) (i := 0) rfl (pc' := 34) rfl ?_
  refine own_iastore C X own_d7_34 N (by decide) (i := 3) (Nat.le_of_ble_eq_true rfl) ge_nx (pc' := 35) rfl ?_
  intro T h X K_ N_
  have N : own_IA Z h nx .int (own_T4 nn0 nn1 nn2 u0) := N_
  have O := O.keep K_ (ninS ne_o_nx nin0)
  have H := H.keep K_ (ninS ne_hd_nx nin0)
  have G := G.keep K_ (ninS (Ne.symm ne_nx_tg) nin0)
  have P := P.keep K_ (ninS (Ne.symm ne_nx_cp) nin0)
  have S := S.keep K_ (ninS (Ne.symm ne_nx_rs) nin0)
  have KK := KK.trans K_ (allS (Or.inl (by simp)) all0)
  refine own_aloadN C X own_d7_35 rfl rfl (pc' := 36) rfl ?_
  refine own_getfield C X own_d7_36 (hw _ (List.mem_of_getElem? (i := 17) rfl)) O (i := 3) rfl (pc' := 39) rfl ?_
  intro T X
  refine own_iloadN C X own_d7_39 rfl (pc' := 40) rfl ?_
  refine own_iloadN C X own_d7_40 rfl (pc' := 41) rfl ?_
  refine own_iastore C X own_d7_41 H (by decide) (i := 0) (Nat.le_of_ble_eq_true rfl) ge_hd (pc' := 42) rfl ?_
  intro T h X K_ H_
  have H : own_IA Z h hd .int [(3 : Int32), u1] := H_
  have O := O.keep K_ (ninS ne_o_hd nin0)
  have N := N.keep K_ (ninS (Ne.symm ne_hd_nx) nin0)
  have G := G.keep K_ (ninS (Ne.symm ne_hd_tg) nin0)
  have P := P.keep K_ (ninS (Ne.symm ne_hd_cp) nin0)
  have S := S.keep K_ (ninS (Ne.symm ne_hd_rs) nin0)
  have KK := KK.trans K_ (allS (Or.inl (by simp)) all0)
  exact own_return C X own_d7_42 (Nat.le_of_ble_eq_true rfl) (Nat.le_of_ble_eq_true rfl) (⟨rfl, KK, O, H, N, G, P, S⟩)
theorem own_ef_arc0 (o : Addr) (ca : Int64) (cb : Int64) (m : MethodId) : entryFrame m #[(.ref o), (.int (0 : Int32)), (.int (1 : Int32)), (.long ca), (.long cb)] 8 = mkF m 0 #[.val (.ref o), .val (.int (0 : Int32)), .val (.int (1 : Int32)), .val (.long ca), .second, .val (.long cb), .second, .unset] [] := by first | (simp [entryFrame, mkF, argsToLocals, Value.category]; done) | rfl
theorem own_d5_0 : decode prog_12_method_3_code 0 = .ok (.aload_n 0, 1) := by decide +kernel
theorem own_pd_1382 : parseMethodDescriptor "()V" = some ⟨[], none⟩ := by decide +kernel
theorem own_d5_1 : decode prog_12_method_3_code 1 = .ok (.invokevirtual 69, 3) := by decide +kernel
theorem own_d5_4 : decode prog_12_method_3_code 4 = .ok (.aload_n 0, 1) := by decide +kernel
theorem own_d5_5 : decode prog_12_method_3_code 5 = .ok (.getfield 72, 3) := by decide +kernel
theorem own_d5_8 : decode prog_12_method_3_code 8 = .ok (.iconst 2, 1) := by decide +kernel
theorem own_d5_9 : decode prog_12_method_3_code 9 = .ok (.iadd, 1) := by decide +kernel
theorem own_d5_10 : decode prog_12_method_3_code 10 = .ok (.aload_n 0, 1) := by decide +kernel
theorem own_d5_11 : decode prog_12_method_3_code 11 = .ok (.getfield 59, 3) := by decide +kernel
theorem own_d5_14 : decode prog_12_method_3_code 14 = .ok (.arraylength, 1) := by decide +kernel
theorem own_d5_15 : decode prog_12_method_3_code 15 = .ok (.if_icmp .le 75, 3) := by decide +kernel
theorem own_d5_90 : decode prog_12_method_3_code 90 = .ok (.aload_n 0, 1) := by decide +kernel
theorem own_d5_91 : decode prog_12_method_3_code 91 = .ok (.getfield 72, 3) := by decide +kernel
theorem own_d5_94 : decode prog_12_method_3_code 94 = .ok (.istore 7, 2) := by decide +kernel
theorem own_d5_96 : decode prog_12_method_3_code 96 = .ok (.aload_n 0, 1) := by decide +kernel
theorem own_d5_97 : decode prog_12_method_3_code 97 = .ok (.iload 7, 2) := by decide +kernel
theorem own_d5_99 : decode prog_12_method_3_code 99 = .ok (.iload_n 1, 1) := by decide +kernel
theorem own_d5_100 : decode prog_12_method_3_code 100 = .ok (.iload_n 2, 1) := by decide +kernel
theorem own_d5_101 : decode prog_12_method_3_code 101 = .ok (.lload_n 3, 1) := by decide +kernel
theorem own_pd_4675 : parseMethodDescriptor "(IIIJ)V" = some ⟨[.int, .int, .int, .long], none⟩ := by decide +kernel
theorem own_d5_102 : decode prog_12_method_3_code 102 = .ok (.invokevirtual 82, 3) := by decide +kernel
theorem own_d5_105 : decode prog_12_method_3_code 105 = .ok (.aload_n 0, 1) := by decide +kernel
theorem own_d5_106 : decode prog_12_method_3_code 106 = .ok (.iload 7, 2) := by decide +kernel
theorem own_d5_108 : decode prog_12_method_3_code 108 = .ok (.iconst 1, 1) := by decide +kernel
theorem own_d5_109 : decode prog_12_method_3_code 109 = .ok (.iadd, 1) := by decide +kernel
theorem own_d5_110 : decode prog_12_method_3_code 110 = .ok (.iload_n 2, 1) := by decide +kernel
theorem own_d5_111 : decode prog_12_method_3_code 111 = .ok (.iload_n 1, 1) := by decide +kernel
theorem own_d5_112 : decode prog_12_method_3_code 112 = .ok (.lload 5, 2) := by decide +kernel
theorem own_d5_114 : decode prog_12_method_3_code 114 = .ok (.invokevirtual 82, 3) := by decide +kernel
theorem own_d5_117 : decode prog_12_method_3_code 117 = .ok (.aload_n 0, 1) := by decide +kernel
theorem own_d5_118 : decode prog_12_method_3_code 118 = .ok (.dup, 1) := by decide +kernel
theorem own_d5_119 : decode prog_12_method_3_code 119 = .ok (.getfield 72, 3) := by decide +kernel
theorem own_d5_122 : decode prog_12_method_3_code 122 = .ok (.iconst 2, 1) := by decide +kernel
theorem own_d5_123 : decode prog_12_method_3_code 123 = .ok (.iadd, 1) := by decide +kernel
theorem own_d5_124 : decode prog_12_method_3_code 124 = .ok (.putfield 72, 3) := by decide +kernel
theorem own_d5_127 : decode prog_12_method_3_code 127 = .ok (.iload 7, 2) := by decide +kernel
theorem own_d5_129 : decode prog_12_method_3_code 129 = .ok (.ireturn, 1) := by decide +kernel
set_option maxRecDepth 65536 in
set_option maxHeartbeats 40000000 in
theorem own_m_arc0 (l : Launch) (Z : State) (a0 : Array Value) (hw : ∀ d ∈ tables_1, d.before a0 Z = true) (o : Addr) (ca : Int64) (cb : Int64) (h0 : Heap) (n0 : Nat) (hn0 : n0 ≤ h0.size) (hd r1 r2 r3 r4 r5 r6 nx tg cp rs : Addr) (u0 u1 nn0 nn1 nn2 nn3 t0 t1 t2 t3 : Int32) (c0 c1 c2 c3 e0 e1 e2 e3 : Int64) (O : own_Ob Z a0 h0 o "com/example/stablemate/stablemate/FlowNetwork" [("deadMark", "I", (.int (1 : Int32))), ("deadFrom", "I", (.int (-1 : Int32))), ("deadTo", "I", (.int (-1 : Int32))), ("heads", "[I", (.ref hd)), ("marks", "[I", (.ref r1)), ("cursors", "[I", (.ref r2)), ("searchPath", "[I", (.ref r3)), ("reached", "[I", (.ref r4)), ("distances", "[I", (.ref r5)), ("deadMarks", "[I", (.ref r6)), ("nexts", "[I", (.ref nx)), ("targets", "[I", (.ref tg)), ("capacities", "[J", (.ref cp)), ("residuals", "[J", (.ref rs)), ("arcs", "I", (.int (0 : Int32)))]) (H : own_IA Z h0 hd .int [u0, u1]) (N : own_IA Z h0 nx .int (own_T4 nn0 nn1 nn2 nn3)) (G : own_IA Z h0 tg .int (own_T4 t0 t1 t2 t3)) (P : own_JA Z h0 cp (own_L4 c0 c1 c2 c3)) (S : own_JA Z h0 rs (own_L4 e0 e1 e2 e3)) (ge_o : n0 ≤ o) (ge_hd : n0 ≤ hd) (ge_nx : n0 ≤ nx) (ge_tg : n0 ≤ tg) (ge_cp : n0 ≤ cp) (ge_rs : n0 ≤ rs) (ne_o_hd : o ≠ hd) (ne_o_nx : o ≠ nx) (ne_o_tg : o ≠ tg) (ne_o_cp : o ≠ cp) (ne_o_rs : o ≠ rs) (ne_hd_nx : hd ≠ nx) (ne_hd_tg : hd ≠ tg) (ne_hd_cp : hd ≠ cp) (ne_hd_rs : hd ≠ rs) (ne_nx_tg : nx ≠ tg) (ne_nx_cp : nx ≠ cp) (ne_nx_rs : nx ≠ rs) (ne_tg_cp : tg ≠ cp) (ne_tg_rs : tg ≠ rs) (ne_cp_rs : cp ≠ rs) : own_Met l Z n0 (⟨"com/example/stablemate/stablemate/FlowNetwork", "addArc", "(IIJJ)I"⟩ : MethodName) prog_12_method_3_code 8 (some .int) [] ({ frames := 1, cells := 0, slots := 0, locals := 40 } : Room) #[(.ref o), (.int (0 : Int32)), (.int (1 : Int32)), (.long ca), (.long cb)] h0 (fun v h => v = some (.int 0) ∧ Keep h0 h [o, hd, nx, tg, cp, rs] ∧ own_Ob Z a0 h o "com/example/stablemate/stablemate/FlowNetwork" [("deadMark", "I", (.int (2 : Int32))), ("deadFrom", "I", (.int (-1 : Int32))), ("deadTo", "I", (.int (-1 : Int32))), ("heads", "[I", (.ref hd)), ("marks", "[I", (.ref r1)), ("cursors", "[I", (.ref r2)), ("searchPath", "[I", (.ref r3)), ("reached", "[I", (.ref r4)), ("distances", "[I", (.ref r5)), ("deadMarks", "[I", (.ref r6)), ("nexts", "[I", (.ref nx)), ("targets", "[I", (.ref tg)), ("capacities", "[J", (.ref cp)), ("residuals", "[J", (.ref rs)), ("arcs", "I", (.int (2 : Int32)))] ∧ own_IA Z h hd .int [(0 : Int32), (1 : Int32)] ∧ own_IA Z h nx .int (own_T4 u0 u1 nn2 nn3) ∧ own_IA Z h tg .int (own_T4 (1 : Int32) (0 : Int32) t2 t3) ∧ own_JA Z h cp (own_L4 ca cb c2 c3) ∧ own_JA Z h rs (own_L4 ca cb e2 e3)) := by
  refine own_body (plainFor_of_name own_pn_com_example_stablemate_stablemate_FlowNetwork) hn0 (own_ef_arc0 o ca cb) ?_
  intro p e s m below meth c T C X
  have KK := Keep.refl h0 [o, hd, nx, tg, cp, rs]
  refine own_aloadN C X own_d5_0 rfl rfl (pc' := 1) rfl ?_
  refine own_callP C X own_d5_1 (own_m_fd l Z a0 hw o _ n0 (own_big C X) hd r1 r2 r3 r4 r5 r6 nx tg cp rs (1 : Int32) (2 : Int32) (0 : Int32) (by decide) (by decide) O ge_o) O.1 (hw _ (List.mem_of_getElem? (i := 53) rfl)) (hw _ (List.mem_of_getElem? (i := 3) rfl)) (hw _ (List.mem_of_getElem? (i := 55) rfl)) (hw _ (List.mem_of_getElem? (i := 54) rfl)) (hw _ (List.mem_of_getElem? (i := 4) rfl)) (hw _ (List.mem_of_getElem? (i := 56) rfl)) (by decide) own_pd_1382 rfl rfl (Nat.le_of_ble_eq_true rfl) (Nat.le_of_ble_eq_true rfl) (Nat.le_of_ble_eq_true rfl) (Nat.le_of_ble_eq_true rfl) (av := []) (S := []) rfl (pc' := 4) rfl ?_
  intro T h v X hQ
  obtain ⟨rfl, K_, O⟩ := hQ
  have H := H.keep K_ (ninS (Ne.symm ne_o_hd) nin0)
  have N := N.keep K_ (ninS (Ne.symm ne_o_nx) nin0)
  have G := G.keep K_ (ninS (Ne.symm ne_o_tg) nin0)
  have P := P.keep K_ (ninS (Ne.symm ne_o_cp) nin0)
  have S := S.keep K_ (ninS (Ne.symm ne_o_rs) nin0)
  have KK := KK.trans K_ (allS (Or.inl (by simp)) all0)
  show own_Go p e below n0 (own_Fin ({ frames := 1, cells := 0, slots := 0, locals := 40 } : Room) s (fun v h => v = some (.int 0) ∧ Keep h0 h [o, hd, nx, tg, cp, rs] ∧ own_Ob Z a0 h o "com/example/stablemate/stablemate/FlowNetwork" [("deadMark", "I", (.int (2 : Int32))), ("deadFrom", "I", (.int (-1 : Int32))), ("deadTo", "I", (.int (-1 : Int32))), ("heads", "[I", (.ref hd)), ("marks", "[I", (.ref r1)), ("cursors", "[I", (.ref r2)), ("searchPath", "[I", (.ref r3)), ("reached", "[I", (.ref r4)), ("distances", "[I", (.ref r5)), ("deadMarks", "[I", (.ref r6)), ("nexts", "[I", (.ref nx)), ("targets", "[I", (.ref tg)), ("capacities", "[J", (.ref cp)), ("residuals", "[J", (.ref rs)), ("arcs", "I", (.int (2 : Int32)))] ∧ own_IA Z h hd .int [(0 : Int32), (1 : Int32)] ∧ own_IA Z h nx .int (own_T4 u0 u1 nn2 nn3) ∧ own_IA Z h tg .int (own_T4 (1 : Int32) (0 : Int32) t2 t3) ∧ own_JA Z h cp (own_L4 ca cb c2 c3) ∧ own_JA Z h rs (own_L4 ca cb e2 e3))) (T.setTop (mkF m 4 #[.val (.ref o), .val (.int (0 : Int32)), .val (.int (1 : Int32)), .val (.long ca), .second, .val (.long cb), .second, .unset] []))
  refine own_aloadN C X own_d5_4 rfl rfl (pc' := 5) rfl ?_
  refine own_getfield C X own_d5_5 (hw _ (List.mem_of_getElem? (i := 58) rfl)) O (i := 14) rfl (pc' := 8) rfl ?_
  intro T X
  refine own_iconst C X own_d5_8 (v := 2) (by decide) (pc' := 9) rfl ?_
  refine own_iadd C X own_d5_9 (z := 2) (by decide) (pc' := 10) rfl ?_
  refine own_aloadN C X own_d5_10 rfl rfl (pc' := 11) rfl ?_
  refine own_getfield C X own_d5_11 (hw _ (List.mem_of_getElem? (i := 41) rfl)) O (i := 11) rfl (pc' := 14) rfl ?_
  intro T X
  refine own_alenI C X own_d5_14 (n := 16) G rfl (pc' := 15) rfl ?_
  refine own_icmp_le C X own_d5_15 (pcT := 90) (pc' := 18) (by decide) (by decide) rfl (fun hc15 => ?_) (fun hc15 => absurd hc15 (by decide))
  refine own_aloadN C X own_d5_90 rfl rfl (pc' := 91) rfl ?_
  refine own_getfield C X own_d5_91 (hw _ (List.mem_of_getElem? (i := 58) rfl)) O (i := 14) rfl (pc' := 94) rfl ?_
  intro T X
  refine own_istore C X own_d5_94 (L' := #[.val (.ref o), .val (.int (0 : Int32)), .val (.int (1 : Int32)), .val (.long ca), .second, .val (.long cb), .second, .val (.int (0 : Int32))]) rfl (pc' := 96) rfl ?_
  refine own_aloadN C X own_d5_96 rfl rfl (pc' := 97) rfl ?_
  refine own_iload C X own_d5_97 rfl (pc' := 99) rfl ?_
  refine own_iloadN C X own_d5_99 rfl (pc' := 100) rfl ?_
  refine own_iloadN C X own_d5_100 rfl (pc' := 101) rfl ?_
  refine own_lloadN C X own_d5_101 rfl (pc' := 102) rfl ?_
  refine own_callP C X own_d5_102 (own_m_link0 l Z a0 hw o ca _ n0 (own_big C X) hd r1 r2 r3 r4 r5 r6 nx tg cp rs (2 : Int32) (0 : Int32) u0 u1 nn0 nn1 nn2 nn3 t0 t1 t2 t3 c0 c1 c2 c3 e0 e1 e2 e3 O H N G P S ge_o ge_hd ge_nx ge_tg ge_cp ge_rs ne_o_hd ne_o_nx ne_o_tg ne_o_cp ne_o_rs ne_hd_nx ne_hd_tg ne_hd_cp ne_hd_rs ne_nx_tg ne_nx_cp ne_nx_rs ne_tg_cp ne_tg_rs ne_cp_rs) O.1 (hw _ (List.mem_of_getElem? (i := 60) rfl)) (hw _ (List.mem_of_getElem? (i := 3) rfl)) (hw _ (List.mem_of_getElem? (i := 62) rfl)) (hw _ (List.mem_of_getElem? (i := 61) rfl)) (hw _ (List.mem_of_getElem? (i := 4) rfl)) (hw _ (List.mem_of_getElem? (i := 63) rfl)) (by decide) own_pd_4675 rfl rfl (Nat.le_of_ble_eq_true rfl) (Nat.le_of_ble_eq_true rfl) (Nat.le_of_ble_eq_true rfl) (Nat.le_of_ble_eq_true rfl) (av := [(.int (0 : Int32)), (.int (0 : Int32)), (.int (1 : Int32)), (.long ca)]) (S := []) rfl (pc' := 105) rfl ?_
  intro T h v X hQ
  obtain ⟨rfl, K_, O, H, N, G, P, S⟩ := hQ
  have KK := KK.trans K_ (allS (Or.inl (by simp)) (allS (Or.inl (by simp)) (allS (Or.inl (by simp)) (allS (Or.inl (by simp)) (allS (Or.inl (by simp)) (allS (Or.inl (by simp)) all0))))))
  show own_Go p e below n0 (own_Fin ({ frames := 1, cells := 0, slots := 0, locals := 40 } : Room) s (fun v h => v = some (.int 0) ∧ Keep h0 h [o, hd, nx, tg, cp, rs] ∧ own_Ob Z a0 h o "com/example/stablemate/stablemate/FlowNetwork" [("deadMark", "I", (.int (2 : Int32))), ("deadFrom", "I", (.int (-1 : Int32))), ("deadTo", "I", (.int (-1 : Int32))), ("heads", "[I", (.ref hd)), ("marks", "[I", (.ref r1)), ("cursors", "[I", (.ref r2)), ("searchPath", "[I", (.ref r3)), ("reached", "[I", (.ref r4)), ("distances", "[I", (.ref r5)), ("deadMarks", "[I", (.ref r6)), ("nexts", "[I", (.ref nx)), ("targets", "[I", (.ref tg)), ("capacities", "[J", (.ref cp)), ("residuals", "[J", (.ref rs)), ("arcs", "I", (.int (2 : Int32)))] ∧ own_IA Z h hd .int [(0 : Int32), (1 : Int32)] ∧ own_IA Z h nx .int (own_T4 u0 u1 nn2 nn3) ∧ own_IA Z h tg .int (own_T4 (1 : Int32) (0 : Int32) t2 t3) ∧ own_JA Z h cp (own_L4 ca cb c2 c3) ∧ own_JA Z h rs (own_L4 ca cb e2 e3))) (T.setTop (mkF m 105 #[.val (.ref o), .val (.int (0 : Int32)), .val (.int (1 : Int32)), .val (.long ca), .second, .val (.long cb), .second, .val (.int (0 : Int32))] []))
  refine own_aloadN C X own_d5_105 rfl rfl (pc' := 106) rfl ?_
  refine own_iload C X own_d5_106 rfl (pc' := 108) rfl ?_
  refine own_iconst C X own_d5_108 (v := 1) (by decide) (pc' := 109) rfl ?_
  refine own_iadd C X own_d5_109 (z := 1) (by decide) (pc' := 110) rfl ?_
  refine own_iloadN C X own_d5_110 rfl (pc' := 111) rfl ?_
  refine own_iloadN C X own_d5_111 rfl (pc' := 112) rfl ?_
  refine own_lload C X own_d5_112 rfl (pc' := 114) rfl ?_
  refine own_callP C X own_d5_114 (own_m_link1 l Z a0 hw o cb _ n0 (own_big C X) hd r1 r2 r3 r4 r5 r6 nx tg cp rs (2 : Int32) (0 : Int32) (0 : Int32) u1 u0 nn1 nn2 nn3 (1 : Int32) t1 t2 t3 ca c1 c2 c3 ca e1 e2 e3 O H N G P S ge_o ge_hd ge_nx ge_tg ge_cp ge_rs ne_o_hd ne_o_nx ne_o_tg ne_o_cp ne_o_rs ne_hd_nx ne_hd_tg ne_hd_cp ne_hd_rs ne_nx_tg ne_nx_cp ne_nx_rs ne_tg_cp ne_tg_rs ne_cp_rs) O.1 (hw _ (List.mem_of_getElem? (i := 60) rfl)) (hw _ (List.mem_of_getElem? (i := 3) rfl)) (hw _ (List.mem_of_getElem? (i := 62) rfl)) (hw _ (List.mem_of_getElem? (i := 61) rfl)) (hw _ (List.mem_of_getElem? (i := 4) rfl)) (hw _ (List.mem_of_getElem? (i := 63) rfl)) (by decide) own_pd_4675 rfl rfl (Nat.le_of_ble_eq_true rfl) (Nat.le_of_ble_eq_true rfl) (Nat.le_of_ble_eq_true rfl) (Nat.le_of_ble_eq_true rfl) (av := [(.int (1 : Int32)), (.int (1 : Int32)), (.int (0 : Int32)), (.long cb)]) (S := []) rfl (pc' := 117) rfl ?_
  intro T h v X hQ
  obtain ⟨rfl, K_, O, H, N, G, P, S⟩ := hQ
  have KK := KK.trans K_ (allS (Or.inl (by simp)) (allS (Or.inl (by simp)) (allS (Or.inl (by simp)) (allS (Or.inl (by simp)) (allS (Or.inl (by simp)) (allS (Or.inl (by simp)) all0))))))
  show own_Go p e below n0 (own_Fin ({ frames := 1, cells := 0, slots := 0, locals := 40 } : Room) s (fun v h => v = some (.int 0) ∧ Keep h0 h [o, hd, nx, tg, cp, rs] ∧ own_Ob Z a0 h o "com/example/stablemate/stablemate/FlowNetwork" [("deadMark", "I", (.int (2 : Int32))), ("deadFrom", "I", (.int (-1 : Int32))), ("deadTo", "I", (.int (-1 : Int32))), ("heads", "[I", (.ref hd)), ("marks", "[I", (.ref r1)), ("cursors", "[I", (.ref r2)), ("searchPath", "[I", (.ref r3)), ("reached", "[I", (.ref r4)), ("distances", "[I", (.ref r5)), ("deadMarks", "[I", (.ref r6)), ("nexts", "[I", (.ref nx)), ("targets", "[I", (.ref tg)), ("capacities", "[J", (.ref cp)), ("residuals", "[J", (.ref rs)), ("arcs", "I", (.int (2 : Int32)))] ∧ own_IA Z h hd .int [(0 : Int32), (1 : Int32)] ∧ own_IA Z h nx .int (own_T4 u0 u1 nn2 nn3) ∧ own_IA Z h tg .int (own_T4 (1 : Int32) (0 : Int32) t2 t3) ∧ own_JA Z h cp (own_L4 ca cb c2 c3) ∧ own_JA Z h rs (own_L4 ca cb e2 e3))) (T.setTop (mkF m 117 #[.val (.ref o), .val (.int (0 : Int32)), .val (.int (1 : Int32)), .val (.long ca), .second, .val (.long cb), .second, .val (.int (0 : Int32))] []))
  refine own_aloadN C X own_d5_117 rfl rfl (pc' := 118) rfl ?_
  refine own_dup C X own_d5_118 rfl (pc' := 119) rfl ?_
  refine own_getfield C X own_d5_119 (hw _ (List.mem_of_getElem? (i := 58) rfl)) O (i := 14) rfl (pc' := 122) rfl ?_
  intro T X
  refine own_iconst C X own_d5_122 (v := 2) (by decide) (pc' := 123) rfl ?_
  refine own_iadd C X own_d5_123 (z := 2) (by decide) (pc' := 124) rfl ?_
  refine own_putfield C X own_d5_124 (hw _ (List.mem_of_getElem? (i := 58) rfl)) (Or.inl (hw _ (List.mem_of_getElem? (i := 59) rfl))) (hw _ (List.mem_of_getElem? (i := 3) rfl)) O (i := 14) rfl (ty := .int) (by decide) rfl rfl ge_o (pc' := 127) rfl ?_
  intro T h X K_ O_
  have O : own_Ob Z a0 h o "com/example/stablemate/stablemate/FlowNetwork" [("deadMark", "I", (.int (2 : Int32))), ("deadFrom", "I", (.int (-1 : Int32))), ("deadTo", "I", (.int (-1 : Int32))), ("heads", "[I", (.ref hd)), ("marks", "[I", (.ref r1)), ("cursors", "[I", (.ref r2)), ("searchPath", "[I", (.ref r3)), ("reached", "[I", (.ref r4)), ("distances", "[I", (.ref r5)), ("deadMarks", "[I", (.ref r6)), ("nexts", "[I", (.ref nx)), ("targets", "[I", (.ref tg)), ("capacities", "[J", (.ref cp)), ("residuals", "[J", (.ref rs)), ("arcs", "I", (.int (2 : Int32)))] := O_
  have H := H.keep K_ (ninS (Ne.symm ne_o_hd) nin0)
  have N := N.keep K_ (ninS (Ne.symm ne_o_nx) nin0)
  have G := G.keep K_ (ninS (Ne.symm ne_o_tg) nin0)
  have P := P.keep K_ (ninS (Ne.symm ne_o_cp) nin0)
  have S := S.keep K_ (ninS (Ne.symm ne_o_rs) nin0)
  have KK := KK.trans K_ (allS (Or.inl (by simp)) all0)
  refine own_iload C X own_d5_127 rfl (pc' := 129) rfl ?_
  exact own_ireturn C X own_d5_129 (Nat.le_of_ble_eq_true rfl) (Nat.le_of_ble_eq_true rfl) (⟨rfl, KK, O, H, N, G, P, S⟩)
theorem own_ef_arc2 (o : Addr) (ca : Int64) (cb : Int64) (m : MethodId) : entryFrame m #[(.ref o), (.int (1 : Int32)), (.int (0 : Int32)), (.long ca), (.long cb)] 8 = mkF m 0 #[.val (.ref o), .val (.int (1 : Int32)), .val (.int (0 : Int32)), .val (.long ca), .second, .val (.long cb), .second, .unset] [] := by first | (simp [entryFrame, mkF, argsToLocals, Value.category]; done) | rfl
set_option maxRecDepth 65536 in
set_option maxHeartbeats 40000000 in
theorem own_m_arc2 (l : Launch) (Z : State) (a0 : Array Value) (hw : ∀ d ∈ tables_1, d.before a0 Z = true) (o : Addr) (ca : Int64) (cb : Int64) (h0 : Heap) (n0 : Nat) (hn0 : n0 ≤ h0.size) (hd r1 r2 r3 r4 r5 r6 nx tg cp rs : Addr) (u0 u1 nn0 nn1 nn2 nn3 t0 t1 t2 t3 : Int32) (c0 c1 c2 c3 e0 e1 e2 e3 : Int64) (O : own_Ob Z a0 h0 o "com/example/stablemate/stablemate/FlowNetwork" [("deadMark", "I", (.int (2 : Int32))), ("deadFrom", "I", (.int (-1 : Int32))), ("deadTo", "I", (.int (-1 : Int32))), ("heads", "[I", (.ref hd)), ("marks", "[I", (.ref r1)), ("cursors", "[I", (.ref r2)), ("searchPath", "[I", (.ref r3)), ("reached", "[I", (.ref r4)), ("distances", "[I", (.ref r5)), ("deadMarks", "[I", (.ref r6)), ("nexts", "[I", (.ref nx)), ("targets", "[I", (.ref tg)), ("capacities", "[J", (.ref cp)), ("residuals", "[J", (.ref rs)), ("arcs", "I", (.int (2 : Int32)))]) (H : own_IA Z h0 hd .int [u0, u1]) (N : own_IA Z h0 nx .int (own_T4 nn0 nn1 nn2 nn3)) (G : own_IA Z h0 tg .int (own_T4 t0 t1 t2 t3)) (P : own_JA Z h0 cp (own_L4 c0 c1 c2 c3)) (S : own_JA Z h0 rs (own_L4 e0 e1 e2 e3)) (ge_o : n0 ≤ o) (ge_hd : n0 ≤ hd) (ge_nx : n0 ≤ nx) (ge_tg : n0 ≤ tg) (ge_cp : n0 ≤ cp) (ge_rs : n0 ≤ rs) (ne_o_hd : o ≠ hd) (ne_o_nx : o ≠ nx) (ne_o_tg : o ≠ tg) (ne_o_cp : o ≠ cp) (ne_o_rs : o ≠ rs) (ne_hd_nx : hd ≠ nx) (ne_hd_tg : hd ≠ tg) (ne_hd_cp : hd ≠ cp) (ne_hd_rs : hd ≠ rs) (ne_nx_tg : nx ≠ tg) (ne_nx_cp : nx ≠ cp) (ne_nx_rs : nx ≠ rs) (ne_tg_cp : tg ≠ cp) (ne_tg_rs : tg ≠ rs) (ne_cp_rs : cp ≠ rs) : own_Met l Z n0 (⟨"com/example/stablemate/stablemate/FlowNetwork", "addArc", "(IIJJ)I"⟩ : MethodName) prog_12_method_3_code 8 (some .int) [] ({ frames := 1, cells := 0, slots := 0, locals := 40 } : Room) #[(.ref o), (.int (1 : Int32)), (.int (0 : Int32)), (.long ca), (.long cb)] h0 (fun v h => v = some (.int 2) ∧ Keep h0 h [o, hd, nx, tg, cp, rs] ∧ own_Ob Z a0 h o "com/example/stablemate/stablemate/FlowNetwork" [("deadMark", "I", (.int (3 : Int32))), ("deadFrom", "I", (.int (-1 : Int32))), ("deadTo", "I", (.int (-1 : Int32))), ("heads", "[I", (.ref hd)), ("marks", "[I", (.ref r1)), ("cursors", "[I", (.ref r2)), ("searchPath", "[I", (.ref r3)), ("reached", "[I", (.ref r4)), ("distances", "[I", (.ref r5)), ("deadMarks", "[I", (.ref r6)), ("nexts", "[I", (.ref nx)), ("targets", "[I", (.ref tg)), ("capacities", "[J", (.ref cp)), ("residuals", "[J", (.ref rs)), ("arcs", "I", (.int (4 : Int32)))] ∧ own_IA Z h hd .int [(3 : Int32), (2 : Int32)] ∧ own_IA Z h nx .int (own_T4 nn0 nn1 u1 u0) ∧ own_IA Z h tg .int (own_T4 t0 t1 (0 : Int32) (1 : Int32)) ∧ own_JA Z h cp (own_L4 c0 c1 ca cb) ∧ own_JA Z h rs (own_L4 e0 e1 ca cb)) := by
  refine own_body (plainFor_of_name own_pn_com_example_stablemate_stablemate_FlowNetwork) hn0 (own_ef_arc2 o ca cb) ?_
  intro p e s m below meth c T C X
  have KK := Keep.refl h0 [o, hd, nx, tg, cp, rs]
  refine own_aloadN C X own_d5_0 rfl rfl (pc' := 1) rfl ?_
  refine own_callP C X own_d5_1 (own_m_fd l Z a0 hw o _ n0 (own_big C X) hd r1 r2 r3 r4 r5 r6 nx tg cp rs (2 : Int32) (3 : Int32) (2 : Int32) (by decide) (by decide) O ge_o) O.1 (hw _ (List.mem_of_getElem? (i := 53) rfl)) (hw _ (List.mem_of_getElem? (i := 3) rfl)) (hw _ (List.mem_of_getElem? (i := 55) rfl)) (hw _ (List.mem_of_getElem? (i := 54) rfl)) (hw _ (List.mem_of_getElem? (i := 4) rfl)) (hw _ (List.mem_of_getElem? (i := 56) rfl)) (by decide) own_pd_1382 rfl rfl (Nat.le_of_ble_eq_true rfl) (Nat.le_of_ble_eq_true rfl) (Nat.le_of_ble_eq_true rfl) (Nat.le_of_ble_eq_true rfl) (av := []) (S := []) rfl (pc' := 4) rfl ?_
  intro T h v X hQ
  obtain ⟨rfl, K_, O⟩ := hQ
  have H := H.keep K_ (ninS (Ne.symm ne_o_hd) nin0)
  have N := N.keep K_ (ninS (Ne.symm ne_o_nx) nin0)
  have G := G.keep K_ (ninS (Ne.symm ne_o_tg) nin0)
  have P := P.keep K_ (ninS (Ne.symm ne_o_cp) nin0)
  have S := S.keep K_ (ninS (Ne.symm ne_o_rs) nin0)
  have KK := KK.trans K_ (allS (Or.inl (by simp)) all0)
  show own_Go p e below n0 (own_Fin ({ frames := 1, cells := 0, slots := 0, locals := 40 } : Room) s (fun v h => v = some (.int 2) ∧ Keep h0 h [o, hd, nx, tg, cp, rs] ∧ own_Ob Z a0 h o "com/example/stablemate/stablemate/FlowNetwork" [("deadMark", "I", (.int (3 : Int32))), ("deadFrom", "I", (.int (-1 : Int32))), ("deadTo", "I", (.int (-1 : Int32))), ("heads", "[I", (.ref hd)), ("marks", "[I", (.ref r1)), ("cursors", "[I", (.ref r2)), ("searchPath", "[I", (.ref r3)), ("reached", "[I", (.ref r4)), ("distances", "[I", (.ref r5)), ("deadMarks", "[I", (.ref r6)), ("nexts", "[I", (.ref nx)), ("targets", "[I", (.ref tg)), ("capacities", "[J", (.ref cp)), ("residuals", "[J", (.ref rs)), ("arcs", "I", (.int (4 : Int32)))] ∧ own_IA Z h hd .int [(3 : Int32), (2 : Int32)] ∧ own_IA Z h nx .int (own_T4 nn0 nn1 u1 u0) ∧ own_IA Z h tg .int (own_T4 t0 t1 (0 : Int32) (1 : Int32)) ∧ own_JA Z h cp (own_L4 c0 c1 ca cb) ∧ own_JA Z h rs (own_L4 e0 e1 ca cb))) (T.setTop (mkF m 4 #[.val (.ref o), .val (.int (1 : Int32)), .val (.int (0 : Int32)), .val (.long ca), .second, .val (.long cb), .second, .unset] []))
  refine own_aloadN C X own_d5_4 rfl rfl (pc' := 5) rfl ?_
  refine own_getfield C X own_d5_5 (hw _ (List.mem_of_getElem? (i := 58) rfl)) O (i := 14) rfl (pc' := 8) rfl ?_
  intro T X
  refine own_iconst C X own_d5_8 (v := 2) (by decide) (pc' := 9) rfl ?_
  refine own_iadd C X own_d5_9 (z := 4) (by decide) (pc' := 10) rfl ?_
  refine own_aloadN C X own_d5_10 rfl rfl (pc' := 11) rfl ?_
  refine own_getfield C X own_d5_11 (hw _ (List.mem_of_getElem? (i := 41) rfl)) O (i := 11) rfl (pc' := 14) rfl ?_
  intro T X
  refine own_alenI C X own_d5_14 (n := 16) G rfl (pc' := 15) rfl ?_
  refine own_icmp_le C X own_d5_15 (pcT := 90) (pc' := 18) (by decide) (by decide) rfl (fun hc15 => ?_) (fun hc15 => absurd hc15 (by decide))
  refine own_aloadN C X own_d5_90 rfl rfl (pc' := 91) rfl ?_
  refine own_getfield C X own_d5_91 (hw _ (List.mem_of_getElem? (i := 58) rfl)) O (i := 14) rfl (pc' := 94) rfl ?_
  intro T X
  refine own_istore C X own_d5_94 (L' := #[.val (.ref o), .val (.int (1 : Int32)), .val (.int (0 : Int32)), .val (.long ca), .second, .val (.long cb), .second, .val (.int (2 : Int32))]) rfl (pc' := 96) rfl ?_
  refine own_aloadN C X own_d5_96 rfl rfl (pc' := 97) rfl ?_
  refine own_iload C X own_d5_97 rfl (pc' := 99) rfl ?_
  refine own_iloadN C X own_d5_99 rfl (pc' := 100) rfl ?_
  refine own_iloadN C X own_d5_100 rfl (pc' := 101) rfl ?_
  refine own_lloadN C X own_d5_101 rfl (pc' := 102) rfl ?_
  refine own_callP C X own_d5_102 (own_m_link2 l Z a0 hw o ca _ n0 (own_big C X) hd r1 r2 r3 r4 r5 r6 nx tg cp rs (3 : Int32) (2 : Int32) u0 u1 nn0 nn1 nn2 nn3 t0 t1 t2 t3 c0 c1 c2 c3 e0 e1 e2 e3 O H N G P S ge_o ge_hd ge_nx ge_tg ge_cp ge_rs ne_o_hd ne_o_nx ne_o_tg ne_o_cp ne_o_rs ne_hd_nx ne_hd_tg ne_hd_cp ne_hd_rs ne_nx_tg ne_nx_cp ne_nx_rs ne_tg_cp ne_tg_rs ne_cp_rs) O.1 (hw _ (List.mem_of_getElem? (i := 60) rfl)) (hw _ (List.mem_of_getElem? (i := 3) rfl)) (hw _ (List.mem_of_getElem? (i := 62) rfl)) (hw _ (List.mem_of_getElem? (i := 61) rfl)) (hw _ (List.mem_of_getElem? (i := 4) rfl)) (hw _ (List.mem_of_getElem? (i := 63) rfl)) (by decide) own_pd_4675 rfl rfl (Nat.le_of_ble_eq_true rfl) (Nat.le_of_ble_eq_true rfl) (Nat.le_of_ble_eq_true rfl) (Nat.le_of_ble_eq_true rfl) (av := [(.int (2 : Int32)), (.int (1 : Int32)), (.int (0 : Int32)), (.long ca)]) (S := []) rfl (pc' := 105) rfl ?_
  intro T h v X hQ
  obtain ⟨rfl, K_, O, H, N, G, P, S⟩ := hQ
  have KK := KK.trans K_ (allS (Or.inl (by simp)) (allS (Or.inl (by simp)) (allS (Or.inl (by simp)) (allS (Or.inl (by simp)) (allS (Or.inl (by simp)) (allS (Or.inl (by simp)) all0))))))
  show own_Go p e below n0 (own_Fin ({ frames := 1, cells := 0, slots := 0, locals := 40 } : Room) s (fun v h => v = some (.int 2) ∧ Keep h0 h [o, hd, nx, tg, cp, rs] ∧ own_Ob Z a0 h o "com/example/stablemate/stablemate/FlowNetwork" [("deadMark", "I", (.int (3 : Int32))), ("deadFrom", "I", (.int (-1 : Int32))), ("deadTo", "I", (.int (-1 : Int32))), ("heads", "[I", (.ref hd)), ("marks", "[I", (.ref r1)), ("cursors", "[I", (.ref r2)), ("searchPath", "[I", (.ref r3)), ("reached", "[I", (.ref r4)), ("distances", "[I", (.ref r5)), ("deadMarks", "[I", (.ref r6)), ("nexts", "[I", (.ref nx)), ("targets", "[I", (.ref tg)), ("capacities", "[J", (.ref cp)), ("residuals", "[J", (.ref rs)), ("arcs", "I", (.int (4 : Int32)))] ∧ own_IA Z h hd .int [(3 : Int32), (2 : Int32)] ∧ own_IA Z h nx .int (own_T4 nn0 nn1 u1 u0) ∧ own_IA Z h tg .int (own_T4 t0 t1 (0 : Int32) (1 : Int32)) ∧ own_JA Z h cp (own_L4 c0 c1 ca cb) ∧ own_JA Z h rs (own_L4 e0 e1 ca cb))) (T.setTop (mkF m 105 #[.val (.ref o), .val (.int (1 : Int32)), .val (.int (0 : Int32)), .val (.long ca), .second, .val (.long cb), .second, .val (.int (2 : Int32))] []))
  refine own_aloadN C X own_d5_105 rfl rfl (pc' := 106) rfl ?_
  refine own_iload C X own_d5_106 rfl (pc' := 108) rfl ?_
  refine own_iconst C X own_d5_108 (v := 1) (by decide) (pc' := 109) rfl ?_
  refine own_iadd C X own_d5_109 (z := 3) (by decide) (pc' := 110) rfl ?_
  refine own_iloadN C X own_d5_110 rfl (pc' := 111) rfl ?_
  refine own_iloadN C X own_d5_111 rfl (pc' := 112) rfl ?_
  refine own_lload C X own_d5_112 rfl (pc' := 114) rfl ?_
  refine own_callP C X own_d5_114 (own_m_link3 l Z a0 hw o cb _ n0 (own_big C X) hd r1 r2 r3 r4 r5 r6 nx tg cp rs (3 : Int32) (2 : Int32) u0 (2 : Int32) nn0 nn1 u1 nn3 t0 t1 (0 : Int32) t3 c0 c1 ca c3 e0 e1 ca e3 O H N G P S ge_o ge_hd ge_nx ge_tg ge_cp ge_rs ne_o_hd ne_o_nx ne_o_tg ne_o_cp ne_o_rs ne_hd_nx ne_hd_tg ne_hd_cp ne_hd_rs ne_nx_tg ne_nx_cp ne_nx_rs ne_tg_cp ne_tg_rs ne_cp_rs) O.1 (hw _ (List.mem_of_getElem? (i := 60) rfl)) (hw _ (List.mem_of_getElem? (i := 3) rfl)) (hw _ (List.mem_of_getElem? (i := 62) rfl)) (hw _ (List.mem_of_getElem? (i := 61) rfl)) (hw _ (List.mem_of_getElem? (i := 4) rfl)) (hw _ (List.mem_of_getElem? (i := 63) rfl)) (by decide) own_pd_4675 rfl rfl (Nat.le_of_ble_eq_true rfl) (Nat.le_of_ble_eq_true rfl) (Nat.le_of_ble_eq_true rfl) (Nat.le_of_ble_eq_true rfl) (av := [(.int (3 : Int32)), (.int (0 : Int32)), (.int (1 : Int32)), (.long cb)]) (S := []) rfl (pc' := 117) rfl ?_
  intro T h v X hQ
  obtain ⟨rfl, K_, O, H, N, G, P, S⟩ := hQ
  have KK := KK.trans K_ (allS (Or.inl (by simp)) (allS (Or.inl (by simp)) (allS (Or.inl (by simp)) (allS (Or.inl (by simp)) (allS (Or.inl (by simp)) (allS (Or.inl (by simp)) all0))))))
  show own_Go p e below n0 (own_Fin ({ frames := 1, cells := 0, slots := 0, locals := 40 } : Room) s (fun v h => v = some (.int 2) ∧ Keep h0 h [o, hd, nx, tg, cp, rs] ∧ own_Ob Z a0 h o "com/example/stablemate/stablemate/FlowNetwork" [("deadMark", "I", (.int (3 : Int32))), ("deadFrom", "I", (.int (-1 : Int32))), ("deadTo", "I", (.int (-1 : Int32))), ("heads", "[I", (.ref hd)), ("marks", "[I", (.ref r1)), ("cursors", "[I", (.ref r2)), ("searchPath", "[I", (.ref r3)), ("reached", "[I", (.ref r4)), ("distances", "[I", (.ref r5)), ("deadMarks", "[I", (.ref r6)), ("nexts", "[I", (.ref nx)), ("targets", "[I", (.ref tg)), ("capacities", "[J", (.ref cp)), ("residuals", "[J", (.ref rs)), ("arcs", "I", (.int (4 : Int32)))] ∧ own_IA Z h hd .int [(3 : Int32), (2 : Int32)] ∧ own_IA Z h nx .int (own_T4 nn0 nn1 u1 u0) ∧ own_IA Z h tg .int (own_T4 t0 t1 (0 : Int32) (1 : Int32)) ∧ own_JA Z h cp (own_L4 c0 c1 ca cb) ∧ own_JA Z h rs (own_L4 e0 e1 ca cb))) (T.setTop (mkF m 117 #[.val (.ref o), .val (.int (1 : Int32)), .val (.int (0 : Int32)), .val (.long ca), .second, .val (.long cb), .second, .val (.int (2 : Int32))] []))
  refine own_aloadN C X own_d5_117 rfl rfl (pc' := 118) rfl ?_
  refine own_dup C X own_d5_118 rfl (pc' := 119) rfl ?_
  refine own_getfield C X own_d5_119 (hw _ (List.mem_of_getElem? (i := 58) rfl)) O (i := 14) rfl (pc' := 122) rfl ?_
  intro T X
  refine own_iconst C X own_d5_122 (v := 2) (by decide) (pc' := 123) rfl ?_
  refine own_iadd C X own_d5_123 (z := 4) (by decide) (pc' := 124) rfl ?_
  refine own_putfield C X own_d5_124 (hw _ (List.mem_of_getElem? (i := 58) rfl)) (Or.inl (hw _ (List.mem_of_getElem? (i := 59) rfl))) (hw _ (List.mem_of_getElem? (i := 3) rfl)) O (i := 14) rfl (ty := .int) (by decide) rfl rfl ge_o (pc' := 127) rfl ?_
  intro T h X K_ O_
  have O : own_Ob Z a0 h o "com/example/stablemate/stablemate/FlowNetwork" [("deadMark", "I", (.int (3 : Int32))), ("deadFrom", "I", (.int (-1 : Int32))), ("deadTo", "I", (.int (-1 : Int32))), ("heads", "[I", (.ref hd)), ("marks", "[I", (.ref r1)), ("cursors", "[I", (.ref r2)), ("searchPath", "[I", (.ref r3)), ("reached", "[I", (.ref r4)), ("distances", "[I", (.ref r5)), ("deadMarks", "[I", (.ref r6)), ("nexts", "[I", (.ref nx)), ("targets", "[I", (.ref tg)), ("capacities", "[J", (.ref cp)), ("residuals", "[J", (.ref rs)), ("arcs", "I", (.int (4 : Int32)))] := O_
  have H := H.keep K_ (ninS (Ne.symm ne_o_hd) nin0)
  have N := N.keep K_ (ninS (Ne.symm ne_o_nx) nin0)
  have G := G.keep K_ (ninS (Ne.symm ne_o_tg) nin0)
  have P := P.keep K_ (ninS (Ne.symm ne_o_cp) nin0)
  have S := S.keep K_ (ninS (Ne.symm ne_o_rs) nin0)
  have KK := KK.trans K_ (allS (Or.inl (by simp)) all0)
  refine own_iload C X own_d5_127 rfl (pc' := 129) rfl ?_
  exact own_ireturn C X own_d5_129 (Nat.le_of_ble_eq_true rfl) (Nat.le_of_ble_eq_true rfl) (⟨rfl, KK, O, H, N, G, P, S⟩)
theorem own_ef_send0 (o : Addr) (am : Int64) (m : MethodId) : entryFrame m #[(.ref o), (.int (0 : Int32)), (.long am)] 4 = mkF m 0 #[.val (.ref o), .val (.int (0 : Int32)), .val (.long am), .second] [] := by first | (simp [entryFrame, mkF, argsToLocals, Value.category]; done) | rfl
theorem own_d8_0 : decode prog_12_method_18_code 0 = .ok (.lload_n 2, 1) := by decide +kernel
theorem own_d8_1 : decode prog_12_method_18_code 1 = .ok (.lconst 0, 1) := by decide +kernel
theorem own_d8_2 : decode prog_12_method_18_code 2 = .ok (.lcmp, 1) := by decide +kernel
theorem own_d8_3 : decode prog_12_method_18_code 3 = .ok (.ifCond .lt 14, 3) := by decide +kernel
theorem own_d8_6 : decode prog_12_method_18_code 6 = .ok (.lload_n 2, 1) := by decide +kernel
theorem own_d8_7 : decode prog_12_method_18_code 7 = .ok (.aload_n 0, 1) := by decide +kernel
theorem own_d8_8 : decode prog_12_method_18_code 8 = .ok (.getfield 66, 3) := by decide +kernel
theorem own_d8_11 : decode prog_12_method_18_code 11 = .ok (.iload_n 1, 1) := by decide +kernel
theorem own_d8_12 : decode prog_12_method_18_code 12 = .ok (.laload, 1) := by decide +kernel
theorem own_d8_13 : decode prog_12_method_18_code 13 = .ok (.lcmp, 1) := by decide +kernel
theorem own_d8_14 : decode prog_12_method_18_code 14 = .ok (.ifCond .le 23, 3) := by decide +kernel
theorem own_d8_37 : decode prog_12_method_18_code 37 = .ok (.aload_n 0, 1) := by decide +kernel
theorem own_d8_38 : decode prog_12_method_18_code 38 = .ok (.invokevirtual 69, 3) := by decide +kernel
theorem own_d8_41 : decode prog_12_method_18_code 41 = .ok (.aload_n 0, 1) := by decide +kernel
theorem own_d8_42 : decode prog_12_method_18_code 42 = .ok (.getfield 66, 3) := by decide +kernel
theorem own_d8_45 : decode prog_12_method_18_code 45 = .ok (.iload_n 1, 1) := by decide +kernel
theorem own_d8_46 : decode prog_12_method_18_code 46 = .ok (.dup2, 1) := by decide +kernel
theorem own_d8_47 : decode prog_12_method_18_code 47 = .ok (.laload, 1) := by decide +kernel
theorem own_d8_48 : decode prog_12_method_18_code 48 = .ok (.lload_n 2, 1) := by decide +kernel
theorem own_d8_49 : decode prog_12_method_18_code 49 = .ok (.lsub, 1) := by decide +kernel
theorem own_d8_50 : decode prog_12_method_18_code 50 = .ok (.lastore, 1) := by decide +kernel
theorem own_d8_51 : decode prog_12_method_18_code 51 = .ok (.aload_n 0, 1) := by decide +kernel
theorem own_d8_52 : decode prog_12_method_18_code 52 = .ok (.getfield 66, 3) := by decide +kernel
theorem own_d8_55 : decode prog_12_method_18_code 55 = .ok (.iload_n 1, 1) := by decide +kernel
theorem own_d8_56 : decode prog_12_method_18_code 56 = .ok (.iconst 1, 1) := by decide +kernel
theorem own_d8_57 : decode prog_12_method_18_code 57 = .ok (.ixor, 1) := by decide +kernel
theorem own_d8_58 : decode prog_12_method_18_code 58 = .ok (.dup2, 1) := by decide +kernel
theorem own_d8_59 : decode prog_12_method_18_code 59 = .ok (.laload, 1) := by decide +kernel
theorem own_d8_60 : decode prog_12_method_18_code 60 = .ok (.lload_n 2, 1) := by decide +kernel
theorem own_d8_61 : decode prog_12_method_18_code 61 = .ok (.ladd, 1) := by decide +kernel
theorem own_d8_62 : decode prog_12_method_18_code 62 = .ok (.lastore, 1) := by decide +kernel
theorem own_d8_63 : decode prog_12_method_18_code 63 = .ok (.return_, 1) := by decide +kernel
set_option maxRecDepth 65536 in
set_option maxHeartbeats 40000000 in
theorem own_m_send0 (l : Launch) (Z : State) (a0 : Array Value) (hw : ∀ d ∈ tables_1, d.before a0 Z = true) (o : Addr) (am : Int64) (h0 : Heap) (n0 : Nat) (hn0 : n0 ≤ h0.size) (hd r1 r2 r3 r4 r5 r6 nx tg cp rs : Addr) (c0 c1 c2 c3 e0 e1 e2 e3 : Int64) (O : own_Ob Z a0 h0 o "com/example/stablemate/stablemate/FlowNetwork" [("deadMark", "I", (.int (3 : Int32))), ("deadFrom", "I", (.int (-1 : Int32))), ("deadTo", "I", (.int (-1 : Int32))), ("heads", "[I", (.ref hd)), ("marks", "[I", (.ref r1)), ("cursors", "[I", (.ref r2)), ("searchPath", "[I", (.ref r3)), ("reached", "[I", (.ref r4)), ("distances", "[I", (.ref r5)), ("deadMarks", "[I", (.ref r6)), ("nexts", "[I", (.ref nx)), ("targets", "[I", (.ref tg)), ("capacities", "[J", (.ref cp)), ("residuals", "[J", (.ref rs)), ("arcs", "I", (.int (4 : Int32)))]) (P : own_JA Z h0 cp (own_L4 c0 c1 c2 c3)) (S : own_JA Z h0 rs (own_L4 e0 e1 e2 e3)) (ge_o : n0 ≤ o) (ge_cp : n0 ≤ cp) (ge_rs : n0 ≤ rs) (ne_o_cp : o ≠ cp) (ne_o_rs : o ≠ rs) (ne_cp_rs : cp ≠ rs) (p1 : ¬ am < 0) (p2 : ¬ e0 < am) : own_Met l Z n0 (⟨"com/example/stablemate/stablemate/FlowNetwork", "send", "(IJ)V"⟩ : MethodName) prog_12_method_18_code 4 none [] ({ frames := 1, cells := 0, slots := 0, locals := 40 } : Room) #[(.ref o), (.int (0 : Int32)), (.long am)] h0 (fun v h => v = none ∧ Keep h0 h [o, cp, rs] ∧ own_Ob Z a0 h o "com/example/stablemate/stablemate/FlowNetwork" [("deadMark", "I", (.int (4 : Int32))), ("deadFrom", "I", (.int (-1 : Int32))), ("deadTo", "I", (.int (-1 : Int32))), ("heads", "[I", (.ref hd)), ("marks", "[I", (.ref r1)), ("cursors", "[I", (.ref r2)), ("searchPath", "[I", (.ref r3)), ("reached", "[I", (.ref r4)), ("distances", "[I", (.ref r5)), ("deadMarks", "[I", (.ref r6)), ("nexts", "[I", (.ref nx)), ("targets", "[I", (.ref tg)), ("capacities", "[J", (.ref cp)), ("residuals", "[J", (.ref rs)), ("arcs", "I", (.int (4 : Int32)))] ∧ own_JA Z h cp (own_L4 c0 c1 c2 c3) ∧ own_JA Z h rs (own_L4 (e0 - am) (e1 + am) e2 e3)) := by
  refine own_body (plainFor_of_name own_pn_com_example_stablemate_stablemate_FlowNetwork) hn0 (own_ef_send0 o am) ?_
  intro p e s m below meth c T C X
  have KK := Keep.refl h0 [o, cp, rs]
  refine own_lloadN C X own_d8_0 rfl (pc' := 1) rfl ?_
  refine own_lconst C X own_d8_1 (v := 0) (by decide) (pc' := 2) rfl ?_
  refine own_lcmp_lt C X own_d8_2 own_d8_3 (pcT := 17) (pc' := 6) (by decide) (by decide) rfl (fun hc2 => absurd hc2 (p1)) (fun hc2 => ?_)
  refine own_lloadN C X own_d8_6 rfl (pc' := 7) rfl ?_
  refine own_aloadN C X own_d8_7 rfl rfl (pc' := 8) rfl ?_
  refine own_getfield C X own_d8_8 (hw _ (List.mem_of_getElem? (i := 46) rfl)) O (i := 13) rfl (pc' := 11) rfl ?_
  intro T X
  refine own_iloadN C X own_d8_11 rfl (pc' := 12) rfl ?_
  refine own_laload C X own_d8_12 S (by decide) (i := 0) rfl (pc' := 13) rfl ?_
  refine own_lcmp_le C X own_d8_13 own_d8_14 (pcT := 37) (pc' := 17) (by decide) (by decide) rfl (fun hc13 => ?_) (fun hc13 => absurd hc13 (p2))
  refine own_aloadN C X own_d8_37 rfl rfl (pc' := 38) rfl ?_
  refine own_callP C X own_d8_38 (own_m_fd l Z a0 hw o _ n0 (own_big C X) hd r1 r2 r3 r4 r5 r6 nx tg cp rs (3 : Int32) (4 : Int32) (4 : Int32) (by decide) (by decide) O ge_o) O.1 (hw _ (List.mem_of_getElem? (i := 53) rfl)) (hw _ (List.mem_of_getElem? (i := 3) rfl)) (hw _ (List.mem_of_getElem? (i := 55) rfl)) (hw _ (List.mem_of_getElem? (i := 54) rfl)) (hw _ (List.mem_of_getElem? (i := 4) rfl)) (hw _ (List.mem_of_getElem? (i := 56) rfl)) (by decide) own_pd_1382 rfl rfl (Nat.le_of_ble_eq_true rfl) (Nat.le_of_ble_eq_true rfl) (Nat.le_of_ble_eq_true rfl) (Nat.le_of_ble_eq_true rfl) (av := []) (S := []) rfl (pc' := 41) rfl ?_
  intro T h v X hQ
  obtain ⟨rfl, K_, O⟩ := hQ
  have P := P.keep K_ (ninS (Ne.symm ne_o_cp) nin0)
  have S := S.keep K_ (ninS (Ne.symm ne_o_rs) nin0)
  have KK := KK.trans K_ (allS (Or.inl (by simp)) all0)
  show own_Go p e below n0 (own_Fin ({ frames := 1, cells := 0, slots := 0, locals := 40 } : Room) s (fun v h => v = none ∧ Keep h0 h [o, cp, rs] ∧ own_Ob Z a0 h o "com/example/stablemate/stablemate/FlowNetwork" [("deadMark", "I", (.int (4 : Int32))), ("deadFrom", "I", (.int (-1 : Int32))), ("deadTo", "I", (.int (-1 : Int32))), ("heads", "[I", (.ref hd)), ("marks", "[I", (.ref r1)), ("cursors", "[I", (.ref r2)), ("searchPath", "[I", (.ref r3)), ("reached", "[I", (.ref r4)), ("distances", "[I", (.ref r5)), ("deadMarks", "[I", (.ref r6)), ("nexts", "[I", (.ref nx)), ("targets", "[I", (.ref tg)), ("capacities", "[J", (.ref cp)), ("residuals", "[J", (.ref rs)), ("arcs", "I", (.int (4 : Int32)))] ∧ own_JA Z h cp (own_L4 c0 c1 c2 c3) ∧ own_JA Z h rs (own_L4 (e0 - am) (e1 + am) e2 e3))) (T.setTop (mkF m 41 #[.val (.ref o), .val (.int (0 : Int32)), .val (.long am), .second] []))
  refine own_aloadN C X own_d8_41 rfl rfl (pc' := 42) rfl ?_
  refine own_getfield C X own_d8_42 (hw _ (List.mem_of_getElem? (i := 46) rfl)) O (i := 13) rfl (pc' := 45) rfl ?_
  intro T X
  refine own_iloadN C X own_d8_45 rfl (pc' := 46) rfl ?_
  refine own_dup2 C X own_d8_46 rfl rfl (pc' := 47) rfl ?_
  refine own_laload C X own_d8_47 S (by decide) (i := 0) rfl (pc' := 48) rfl ?_
  refine own_lloadN C X own_d8_48 rfl (pc' := 49) rfl ?_
  refine own_lsub C X own_d8_49 rfl (pc' := 50) rfl ?_
  refine own_lastore C X own_d8_50 S (by decide) (i := 0) (Nat.le_of_ble_eq_true rfl) ge_rs (pc' := 51) rfl ?_
  intro T h X K_ S_
  have S : own_JA Z h rs (own_L4 (e0 - am) e1 e2 e3) := S_
  have O := O.keep K_ (ninS ne_o_rs nin0)
  have P := P.keep K_ (ninS ne_cp_rs nin0)
  have KK := KK.trans K_ (allS (Or.inl (by simp)) all0)
  refine own_aloadN C X own_d8_51 rfl rfl (pc' := 52) rfl ?_
  refine own_getfield C X own_d8_52 (hw _ (List.mem_of_getElem? (i := 46) rfl)) O (i := 13) rfl (pc' := 55) rfl ?_
  intro T X
  refine own_iloadN C X own_d8_55 rfl (pc' := 56) rfl ?_
  refine own_iconst C X own_d8_56 (v := 1) (by decide) (pc' := 57) rfl ?_
  refine own_ixor C X own_d8_57 (z := 1) (by decide) (pc' := 58) rfl ?_
  refine own_dup2 C X own_d8_58 rfl rfl (pc' := 59) rfl ?_
  refine own_laload C X own_d8_59 S (by decide) (i := 1) rfl (pc' := 60) rfl ?_
  refine own_lloadN C X own_d8_60 rfl (pc' := 61) rfl ?_
  refine own_ladd C X own_d8_61 rfl (pc' := 62) rfl ?_
  refine own_lastore C X own_d8_62 S (by decide) (i := 1) (Nat.le_of_ble_eq_true rfl) ge_rs (pc' := 63) rfl ?_
  intro T h X K_ S_
  have S : own_JA Z h rs (own_L4 (e0 - am) (e1 + am) e2 e3) := S_
  have O := O.keep K_ (ninS ne_o_rs nin0)
  have P := P.keep K_ (ninS ne_cp_rs nin0)
  have KK := KK.trans K_ (allS (Or.inl (by simp)) all0)
  exact own_return C X own_d8_63 (Nat.le_of_ble_eq_true rfl) (Nat.le_of_ble_eq_true rfl) (⟨rfl, KK, O, P, S⟩)
theorem own_ef_send1 (o : Addr) (am : Int64) (m : MethodId) : entryFrame m #[(.ref o), (.int (1 : Int32)), (.long am)] 4 = mkF m 0 #[.val (.ref o), .val (.int (1 : Int32)), .val (.long am), .second] [] := by first | (simp [entryFrame, mkF, argsToLocals, Value.category]; done) | rfl
set_option maxRecDepth 65536 in
set_option maxHeartbeats 40000000 in
theorem own_m_send1 (l : Launch) (Z : State) (a0 : Array Value) (hw : ∀ d ∈ tables_1, d.before a0 Z = true) (o : Addr) (am : Int64) (h0 : Heap) (n0 : Nat) (hn0 : n0 ≤ h0.size) (hd r1 r2 r3 r4 r5 r6 nx tg cp rs : Addr) (c0 c1 c2 c3 e0 e1 e2 e3 : Int64) (O : own_Ob Z a0 h0 o "com/example/stablemate/stablemate/FlowNetwork" [("deadMark", "I", (.int (3 : Int32))), ("deadFrom", "I", (.int (-1 : Int32))), ("deadTo", "I", (.int (-1 : Int32))), ("heads", "[I", (.ref hd)), ("marks", "[I", (.ref r1)), ("cursors", "[I", (.ref r2)), ("searchPath", "[I", (.ref r3)), ("reached", "[I", (.ref r4)), ("distances", "[I", (.ref r5)), ("deadMarks", "[I", (.ref r6)), ("nexts", "[I", (.ref nx)), ("targets", "[I", (.ref tg)), ("capacities", "[J", (.ref cp)), ("residuals", "[J", (.ref rs)), ("arcs", "I", (.int (4 : Int32)))]) (P : own_JA Z h0 cp (own_L4 c0 c1 c2 c3)) (S : own_JA Z h0 rs (own_L4 e0 e1 e2 e3)) (ge_o : n0 ≤ o) (ge_cp : n0 ≤ cp) (ge_rs : n0 ≤ rs) (ne_o_cp : o ≠ cp) (ne_o_rs : o ≠ rs) (ne_cp_rs : cp ≠ rs) (p1 : ¬ am < 0) (p2 : ¬ e1 < am) : own_Met l Z n0 (⟨"com/example/stablemate/stablemate/FlowNetwork", "send", "(IJ)V"⟩ : MethodName) prog_12_method_18_code 4 none [] ({ frames := 1, cells := 0, slots := 0, locals := 40 } : Room) #[(.ref o), (.int (1 : Int32)), (.long am)] h0 (fun v h => v = none ∧ Keep h0 h [o, cp, rs] ∧ own_Ob Z a0 h o "com/example/stablemate/stablemate/FlowNetwork" [("deadMark", "I", (.int (4 : Int32))), ("deadFrom", "I", (.int (-1 : Int32))), ("deadTo", "I", (.int (-1 : Int32))), ("heads", "[I", (.ref hd)), ("marks", "[I", (.ref r1)), ("cursors", "[I", (.ref r2)), ("searchPath", "[I", (.ref r3)), ("reached", "[I", (.ref r4)), ("distances", "[I", (.ref r5)), ("deadMarks", "[I", (.ref r6)), ("nexts", "[I", (.ref nx)), ("targets", "[I", (.ref tg)), ("capacities", "[J", (.ref cp)), ("residuals", "[J", (.ref rs)), ("arcs", "I", (.int (4 : Int32)))] ∧ own_JA Z h cp (own_L4 c0 c1 c2 c3) ∧ own_JA Z h rs (own_L4 (e0 + am) (e1 - am) e2 e3)) := by
  refine own_body (plainFor_of_name own_pn_com_example_stablemate_stablemate_FlowNetwork) hn0 (own_ef_send1 o am) ?_
  intro p e s m below meth c T C X
  have KK := Keep.refl h0 [o, cp, rs]
  refine own_lloadN C X own_d8_0 rfl (pc' := 1) rfl ?_
  refine own_lconst C X own_d8_1 (v := 0) (by decide) (pc' := 2) rfl ?_
  refine own_lcmp_lt C X own_d8_2 own_d8_3 (pcT := 17) (pc' := 6) (by decide) (by decide) rfl (fun hc2 => absurd hc2 (p1)) (fun hc2 => ?_)
  refine own_lloadN C X own_d8_6 rfl (pc' := 7) rfl ?_
  refine own_aloadN C X own_d8_7 rfl rfl (pc' := 8) rfl ?_
  refine own_getfield C X own_d8_8 (hw _ (List.mem_of_getElem? (i := 46) rfl)) O (i := 13) rfl (pc' := 11) rfl ?_
  intro T X
  refine own_iloadN C X own_d8_11 rfl (pc' := 12) rfl ?_
  refine own_laload C X own_d8_12 S (by decide) (i := 1) rfl (pc' := 13) rfl ?_
  refine own_lcmp_le C X own_d8_13 own_d8_14 (pcT := 37) (pc' := 17) (by decide) (by decide) rfl (fun hc13 => ?_) (fun hc13 => absurd hc13 (p2))
  refine own_aloadN C X own_d8_37 rfl rfl (pc' := 38) rfl ?_
  refine own_callP C X own_d8_38 (own_m_fd l Z a0 hw o _ n0 (own_big C X) hd r1 r2 r3 r4 r5 r6 nx tg cp rs (3 : Int32) (4 : Int32) (4 : Int32) (by decide) (by decide) O ge_o) O.1 (hw _ (List.mem_of_getElem? (i := 53) rfl)) (hw _ (List.mem_of_getElem? (i := 3) rfl)) (hw _ (List.mem_of_getElem? (i := 55) rfl)) (hw _ (List.mem_of_getElem? (i := 54) rfl)) (hw _ (List.mem_of_getElem? (i := 4) rfl)) (hw _ (List.mem_of_getElem? (i := 56) rfl)) (by decide) own_pd_1382 rfl rfl (Nat.le_of_ble_eq_true rfl) (Nat.le_of_ble_eq_true rfl) (Nat.le_of_ble_eq_true rfl) (Nat.le_of_ble_eq_true rfl) (av := []) (S := []) rfl (pc' := 41) rfl ?_
  intro T h v X hQ
  obtain ⟨rfl, K_, O⟩ := hQ
  have P := P.keep K_ (ninS (Ne.symm ne_o_cp) nin0)
  have S := S.keep K_ (ninS (Ne.symm ne_o_rs) nin0)
  have KK := KK.trans K_ (allS (Or.inl (by simp)) all0)
  show own_Go p e below n0 (own_Fin ({ frames := 1, cells := 0, slots := 0, locals := 40 } : Room) s (fun v h => v = none ∧ Keep h0 h [o, cp, rs] ∧ own_Ob Z a0 h o "com/example/stablemate/stablemate/FlowNetwork" [("deadMark", "I", (.int (4 : Int32))), ("deadFrom", "I", (.int (-1 : Int32))), ("deadTo", "I", (.int (-1 : Int32))), ("heads", "[I", (.ref hd)), ("marks", "[I", (.ref r1)), ("cursors", "[I", (.ref r2)), ("searchPath", "[I", (.ref r3)), ("reached", "[I", (.ref r4)), ("distances", "[I", (.ref r5)), ("deadMarks", "[I", (.ref r6)), ("nexts", "[I", (.ref nx)), ("targets", "[I", (.ref tg)), ("capacities", "[J", (.ref cp)), ("residuals", "[J", (.ref rs)), ("arcs", "I", (.int (4 : Int32)))] ∧ own_JA Z h cp (own_L4 c0 c1 c2 c3) ∧ own_JA Z h rs (own_L4 (e0 + am) (e1 - am) e2 e3))) (T.setTop (mkF m 41 #[.val (.ref o), .val (.int (1 : Int32)), .val (.long am), .second] []))
  refine own_aloadN C X own_d8_41 rfl rfl (pc' := 42) rfl ?_
  refine own_getfield C X own_d8_42 (hw _ (List.mem_of_getElem? (i := 46) rfl)) O (i := 13) rfl (pc' := 45) rfl ?_
  intro T X
  refine own_iloadN C X own_d8_45 rfl (pc' := 46) rfl ?_
  refine own_dup2 C X own_d8_46 rfl rfl (pc' := 47) rfl ?_
  refine own_laload C X own_d8_47 S (by decide) (i := 1) rfl (pc' := 48) rfl ?_
  refine own_lloadN C X own_d8_48 rfl (pc' := 49) rfl ?_
  refine own_lsub C X own_d8_49 rfl (pc' := 50) rfl ?_
  refine own_lastore C X own_d8_50 S (by decide) (i := 1) (Nat.le_of_ble_eq_true rfl) ge_rs (pc' := 51) rfl ?_
  intro T h X K_ S_
  have S : own_JA Z h rs (own_L4 e0 (e1 - am) e2 e3) := S_
  have O := O.keep K_ (ninS ne_o_rs nin0)
  have P := P.keep K_ (ninS ne_cp_rs nin0)
  have KK := KK.trans K_ (allS (Or.inl (by simp)) all0)
  refine own_aloadN C X own_d8_51 rfl rfl (pc' := 52) rfl ?_
  refine own_getfield C X own_d8_52 (hw _ (List.mem_of_getElem? (i := 46) rfl)) O (i := 13) rfl (pc' := 55) rfl ?_
  intro T X
  refine own_iloadN C X own_d8_55 rfl (pc' := 56) rfl ?_
  refine own_iconst C X own_d8_56 (v := 1) (by decide) (pc' := 57) rfl ?_
  refine own_ixor C X own_d8_57 (z := 0) (by decide) (pc' := 58) rfl ?_
  refine own_dup2 C X own_d8_58 rfl rfl (pc' := 59) rfl ?_
  refine own_laload C X own_d8_59 S (by decide) (i := 0) rfl (pc' := 60) rfl ?_
  refine own_lloadN C X own_d8_60 rfl (pc' := 61) rfl ?_
  refine own_ladd C X own_d8_61 rfl (pc' := 62) rfl ?_
  refine own_lastore C X own_d8_62 S (by decide) (i := 0) (Nat.le_of_ble_eq_true rfl) ge_rs (pc' := 63) rfl ?_
  intro T h X K_ S_
  have S : own_JA Z h rs (own_L4 (e0 + am) (e1 - am) e2 e3) := S_
  have O := O.keep K_ (ninS ne_o_rs nin0)
  have P := P.keep K_ (ninS ne_cp_rs nin0)
  have KK := KK.trans K_ (allS (Or.inl (by simp)) all0)
  exact own_return C X own_d8_63 (Nat.le_of_ble_eq_true rfl) (Nat.le_of_ble_eq_true rfl) (⟨rfl, KK, O, P, S⟩)
theorem own_ef_fix0 (o : Addr) (m : MethodId) : entryFrame m #[(.ref o), (.int (0 : Int32))] 2 = mkF m 0 #[.val (.ref o), .val (.int (0 : Int32))] [] := by first | (simp [entryFrame, mkF, argsToLocals, Value.category]; done) | rfl
theorem own_d9_0 : decode prog_12_method_7_code 0 = .ok (.aload_n 0, 1) := by decide +kernel
theorem own_d9_1 : decode prog_12_method_7_code 1 = .ok (.getfield 62, 3) := by decide +kernel
theorem own_d9_4 : decode prog_12_method_7_code 4 = .ok (.iload_n 1, 1) := by decide +kernel
theorem own_d9_5 : decode prog_12_method_7_code 5 = .ok (.dup2, 1) := by decide +kernel
theorem own_d9_6 : decode prog_12_method_7_code 6 = .ok (.laload, 1) := by decide +kernel
theorem own_d9_7 : decode prog_12_method_7_code 7 = .ok (.aload_n 0, 1) := by decide +kernel
theorem own_d9_8 : decode prog_12_method_7_code 8 = .ok (.getfield 66, 3) := by decide +kernel
theorem own_d9_11 : decode prog_12_method_7_code 11 = .ok (.iload_n 1, 1) := by decide +kernel
theorem own_d9_12 : decode prog_12_method_7_code 12 = .ok (.laload, 1) := by decide +kernel
theorem own_d9_13 : decode prog_12_method_7_code 13 = .ok (.lsub, 1) := by decide +kernel
theorem own_d9_14 : decode prog_12_method_7_code 14 = .ok (.lastore, 1) := by decide +kernel
theorem own_d9_15 : decode prog_12_method_7_code 15 = .ok (.aload_n 0, 1) := by decide +kernel
theorem own_d9_16 : decode prog_12_method_7_code 16 = .ok (.getfield 66, 3) := by decide +kernel
theorem own_d9_19 : decode prog_12_method_7_code 19 = .ok (.iload_n 1, 1) := by decide +kernel
theorem own_d9_20 : decode prog_12_method_7_code 20 = .ok (.lconst 0, 1) := by decide +kernel
theorem own_d9_21 : decode prog_12_method_7_code 21 = .ok (.lastore, 1) := by decide +kernel
theorem own_d9_22 : decode prog_12_method_7_code 22 = .ok (.aload_n 0, 1) := by decide +kernel
theorem own_d9_23 : decode prog_12_method_7_code 23 = .ok (.getfield 62, 3) := by decide +kernel
theorem own_d9_26 : decode prog_12_method_7_code 26 = .ok (.iload_n 1, 1) := by decide +kernel
theorem own_d9_27 : decode prog_12_method_7_code 27 = .ok (.iconst 1, 1) := by decide +kernel
theorem own_d9_28 : decode prog_12_method_7_code 28 = .ok (.ixor, 1) := by decide +kernel
theorem own_d9_29 : decode prog_12_method_7_code 29 = .ok (.dup2, 1) := by decide +kernel
theorem own_d9_30 : decode prog_12_method_7_code 30 = .ok (.laload, 1) := by decide +kernel
theorem own_d9_31 : decode prog_12_method_7_code 31 = .ok (.aload_n 0, 1) := by decide +kernel
theorem own_d9_32 : decode prog_12_method_7_code 32 = .ok (.getfield 66, 3) := by decide +kernel
theorem own_d9_35 : decode prog_12_method_7_code 35 = .ok (.iload_n 1, 1) := by decide +kernel
theorem own_d9_36 : decode prog_12_method_7_code 36 = .ok (.iconst 1, 1) := by decide +kernel
theorem own_d9_37 : decode prog_12_method_7_code 37 = .ok (.ixor, 1) := by decide +kernel
theorem own_d9_38 : decode prog_12_method_7_code 38 = .ok (.laload, 1) := by decide +kernel
theorem own_d9_39 : decode prog_12_method_7_code 39 = .ok (.lsub, 1) := by decide +kernel
theorem own_d9_40 : decode prog_12_method_7_code 40 = .ok (.lastore, 1) := by decide +kernel
theorem own_d9_41 : decode prog_12_method_7_code 41 = .ok (.aload_n 0, 1) := by decide +kernel
theorem own_d9_42 : decode prog_12_method_7_code 42 = .ok (.getfield 66, 3) := by decide +kernel
theorem own_d9_45 : decode prog_12_method_7_code 45 = .ok (.iload_n 1, 1) := by decide +kernel
theorem own_d9_46 : decode prog_12_method_7_code 46 = .ok (.iconst 1, 1) := by decide +kernel
theorem own_d9_47 : decode prog_12_method_7_code 47 = .ok (.ixor, 1) := by decide +kernel
theorem own_d9_48 : decode prog_12_method_7_code 48 = .ok (.lconst 0, 1) := by decide +kernel
theorem own_d9_49 : decode prog_12_method_7_code 49 = .ok (.lastore, 1) := by decide +kernel
theorem own_d9_50 : decode prog_12_method_7_code 50 = .ok (.return_, 1) := by decide +kernel
set_option maxRecDepth 65536 in
set_option maxHeartbeats 40000000 in
theorem own_m_fix0 (l : Launch) (Z : State) (a0 : Array Value) (hw : ∀ d ∈ tables_1, d.before a0 Z = true) (o : Addr) (h0 : Heap) (n0 : Nat) (hn0 : n0 ≤ h0.size) (hd r1 r2 r3 r4 r5 r6 nx tg cp rs : Addr) (c0 c1 c2 c3 e0 e1 e2 e3 : Int64) (O : own_Ob Z a0 h0 o "com/example/stablemate/stablemate/FlowNetwork" [("deadMark", "I", (.int (4 : Int32))), ("deadFrom", "I", (.int (-1 : Int32))), ("deadTo", "I", (.int (-1 : Int32))), ("heads", "[I", (.ref hd)), ("marks", "[I", (.ref r1)), ("cursors", "[I", (.ref r2)), ("searchPath", "[I", (.ref r3)), ("reached", "[I", (.ref r4)), ("distances", "[I", (.ref r5)), ("deadMarks", "[I", (.ref r6)), ("nexts", "[I", (.ref nx)), ("targets", "[I", (.ref tg)), ("capacities", "[J", (.ref cp)), ("residuals", "[J", (.ref rs)), ("arcs", "I", (.int (4 : Int32)))]) (P : own_JA Z h0 cp (own_L4 c0 c1 c2 c3)) (S : own_JA Z h0 rs (own_L4 e0 e1 e2 e3)) (ge_o : n0 ≤ o) (ge_cp : n0 ≤ cp) (ge_rs : n0 ≤ rs) (ne_o_cp : o ≠ cp) (ne_o_rs : o ≠ rs) (ne_cp_rs : cp ≠ rs) : own_Met l Z n0 (⟨"com/example/stablemate/stablemate/FlowNetwork", "fix", "(I)V"⟩ : MethodName) prog_12_method_7_code 2 none [] ({ frames := 0, cells := 0, slots := 0, locals := 0 } : Room) #[(.ref o), (.int (0 : Int32))] h0 (fun v h => v = none ∧ Keep h0 h [o, cp, rs] ∧ own_Ob Z a0 h o "com/example/stablemate/stablemate/FlowNetwork" [("deadMark", "I", (.int (4 : Int32))), ("deadFrom", "I", (.int (-1 : Int32))), ("deadTo", "I", (.int (-1 : Int32))), ("heads", "[I", (.ref hd)), ("marks", "[I", (.ref r1)), ("cursors", "[I", (.ref r2)), ("searchPath", "[I", (.ref r3)), ("reached", "[I", (.ref r4)), ("distances", "[I", (.ref r5)), ("deadMarks", "[I", (.ref r6)), ("nexts", "[I", (.ref nx)), ("targets", "[I", (.ref tg)), ("capacities", "[J", (.ref cp)), ("residuals", "[J", (.ref rs)), ("arcs", "I", (.int (4 : Int32)))] ∧ own_JA Z h cp (own_L4 (c0 - e0) (c1 - e1) c2 c3) ∧ own_JA Z h rs (own_L4 (0 : Int64) (0 : Int64) e2 e3)) := by
  refine own_body (plainFor_of_name own_pn_com_example_stablemate_stablemate_FlowNetwork) hn0 (own_ef_fix0 o) ?_
  intro p e s m below meth c T C X
  have KK := Keep.refl h0 [o, cp, rs]
  refine own_aloadN C X own_d9_0 rfl rfl (pc' := 1) rfl ?_
  refine own_getfield C X own_d9_1 (hw _ (List.mem_of_getElem? (i := 44) rfl)) O (i := 12) rfl (pc' := 4) rfl ?_
  intro T X
  refine own_iloadN C X own_d9_4 rfl (pc' := 5) rfl ?_
  refine own_dup2 C X own_d9_5 rfl rfl (pc' := 6) rfl ?_
  refine own_laload C X own_d9_6 P (by decide) (i := 0) rfl (pc' := 7) rfl ?_
  refine own_aloadN C X own_d9_7 rfl rfl (pc' := 8) rfl ?_
  refine own_getfield C X own_d9_8 (hw _ (List.mem_of_getElem? (i := 46) rfl)) O (i := 13) rfl (pc' := 11) rfl ?_
  intro T X
  refine own_iloadN C X own_d9_11 rfl (pc' := 12) rfl ?_
  refine own_laload C X own_d9_12 S (by decide) (i := 0) rfl (pc' := 13) rfl ?_
  refine own_lsub C X own_d9_13 rfl (pc' := 14) rfl ?_
  refine own_lastore C X own_d9_14 P (by decide) (i := 0) (Nat.le_of_ble_eq_true rfl) ge_cp (pc' := 15) rfl ?_
  intro T h X K_ P_
  have P : own_JA Z h cp (own_L4 (c0 - e0) c1 c2 c3) := P_
  have O := O.keep K_ (ninS ne_o_cp nin0)
  have S := S.keep K_ (ninS (Ne.symm ne_cp_rs) nin0)
  have KK := KK.trans K_ (allS (Or.inl (by simp)) all0)
  refine own_aloadN C X own_d9_15 rfl rfl (pc' := 16) rfl ?_
  refine own_getfield C X own_d9_16 (hw _ (List.mem_of_getElem? (i := 46) rfl)) O (i := 13) rfl (pc' := 19) rfl ?_
  intro T X
  refine own_iloadN C X own_d9_19 rfl (pc' := 20) rfl ?_
  refine own_lconst C X own_d9_20 (v := 0) (by decide) (pc' := 21) rfl ?_
  refine own_lastore C X own_d9_21 S (by decide) (i := 0) (Nat.le_of_ble_eq_true rfl) ge_rs (pc' := 22) rfl ?_
  intro T h X K_ S_
  have S : own_JA Z h rs (own_L4 (0 : Int64) e1 e2 e3) := S_
  have O := O.keep K_ (ninS ne_o_rs nin0)
  have P := P.keep K_ (ninS ne_cp_rs nin0)
  have KK := KK.trans K_ (allS (Or.inl (by simp)) all0)
  refine own_aloadN C X own_d9_22 rfl rfl (pc' := 23) rfl ?_
  refine own_getfield C X own_d9_23 (hw _ (List.mem_of_getElem? (i := 44) rfl)) O (i := 12) rfl (pc' := 26) rfl ?_
  intro T X
  refine own_iloadN C X own_d9_26 rfl (pc' := 27) rfl ?_
  refine own_iconst C X own_d9_27 (v := 1) (by decide) (pc' := 28) rfl ?_
  refine own_ixor C X own_d9_28 (z := 1) (by decide) (pc' := 29) rfl ?_
  refine own_dup2 C X own_d9_29 rfl rfl (pc' := 30) rfl ?_
  refine own_laload C X own_d9_30 P (by decide) (i := 1) rfl (pc' := 31) rfl ?_
  refine own_aloadN C X own_d9_31 rfl rfl (pc' := 32) rfl ?_
  refine own_getfield C X own_d9_32 (hw _ (List.mem_of_getElem? (i := 46) rfl)) O (i := 13) rfl (pc' := 35) rfl ?_
  intro T X
  refine own_iloadN C X own_d9_35 rfl (pc' := 36) rfl ?_
  refine own_iconst C X own_d9_36 (v := 1) (by decide) (pc' := 37) rfl ?_
  refine own_ixor C X own_d9_37 (z := 1) (by decide) (pc' := 38) rfl ?_
  refine own_laload C X own_d9_38 S (by decide) (i := 1) rfl (pc' := 39) rfl ?_
  refine own_lsub C X own_d9_39 rfl (pc' := 40) rfl ?_
  refine own_lastore C X own_d9_40 P (by decide) (i := 1) (Nat.le_of_ble_eq_true rfl) ge_cp (pc' := 41) rfl ?_
  intro T h X K_ P_
  have P : own_JA Z h cp (own_L4 (c0 - e0) (c1 - e1) c2 c3) := P_
  have O := O.keep K_ (ninS ne_o_cp nin0)
  have S := S.keep K_ (ninS (Ne.symm ne_cp_rs) nin0)
  have KK := KK.trans K_ (allS (Or.inl (by simp)) all0)
  refine own_aloadN C X own_d9_41 rfl rfl (pc' := 42) rfl ?_
  refine own_getfield C X own_d9_42 (hw _ (List.mem_of_getElem? (i := 46) rfl)) O (i := 13) rfl (pc' := 45) rfl ?_
  intro T X
  refine own_iloadN C X own_d9_45 rfl (pc' := 46) rfl ?_
  refine own_iconst C X own_d9_46 (v := 1) (by decide) (pc' := 47) rfl ?_
  refine own_ixor C X own_d9_47 (z := 1) (by decide) (pc' := 48) rfl ?_
  refine own_lconst C X own_d9_48 (v := 0) (by decide) (pc' := 49) rfl ?_
  refine own_lastore C X own_d9_49 S (by decide) (i := 1) (Nat.le_of_ble_eq_true rfl) ge_rs (pc' := 50) rfl ?_
  intro T h X K_ S_
  have S : own_JA Z h rs (own_L4 (0 : Int64) (0 : Int64) e2 e3) := S_
  have O := O.keep K_ (ninS ne_o_rs nin0)
  have P := P.keep K_ (ninS ne_cp_rs nin0)
  have KK := KK.trans K_ (allS (Or.inl (by simp)) all0)
  exact own_return C X own_d9_50 (Nat.le_of_ble_eq_true rfl) (Nat.le_of_ble_eq_true rfl) (⟨rfl, KK, O, P, S⟩)
theorem own_ef_fix1 (o : Addr) (m : MethodId) : entryFrame m #[(.ref o), (.int (1 : Int32))] 2 = mkF m 0 #[.val (.ref o), .val (.int (1 : Int32))] [] := by first | (simp [entryFrame, mkF, argsToLocals, Value.category]; done) | rfl
set_option maxRecDepth 65536 in
set_option maxHeartbeats 40000000 in
theorem own_m_fix1 (l : Launch) (Z : State) (a0 : Array Value) (hw : ∀ d ∈ tables_1, d.before a0 Z = true) (o : Addr) (h0 : Heap) (n0 : Nat) (hn0 : n0 ≤ h0.size) (hd r1 r2 r3 r4 r5 r6 nx tg cp rs : Addr) (c0 c1 c2 c3 e0 e1 e2 e3 : Int64) (O : own_Ob Z a0 h0 o "com/example/stablemate/stablemate/FlowNetwork" [("deadMark", "I", (.int (4 : Int32))), ("deadFrom", "I", (.int (-1 : Int32))), ("deadTo", "I", (.int (-1 : Int32))), ("heads", "[I", (.ref hd)), ("marks", "[I", (.ref r1)), ("cursors", "[I", (.ref r2)), ("searchPath", "[I", (.ref r3)), ("reached", "[I", (.ref r4)), ("distances", "[I", (.ref r5)), ("deadMarks", "[I", (.ref r6)), ("nexts", "[I", (.ref nx)), ("targets", "[I", (.ref tg)), ("capacities", "[J", (.ref cp)), ("residuals", "[J", (.ref rs)), ("arcs", "I", (.int (4 : Int32)))]) (P : own_JA Z h0 cp (own_L4 c0 c1 c2 c3)) (S : own_JA Z h0 rs (own_L4 e0 e1 e2 e3)) (ge_o : n0 ≤ o) (ge_cp : n0 ≤ cp) (ge_rs : n0 ≤ rs) (ne_o_cp : o ≠ cp) (ne_o_rs : o ≠ rs) (ne_cp_rs : cp ≠ rs) : own_Met l Z n0 (⟨"com/example/stablemate/stablemate/FlowNetwork", "fix", "(I)V"⟩ : MethodName) prog_12_method_7_code 2 none [] ({ frames := 0, cells := 0, slots := 0, locals := 0 } : Room) #[(.ref o), (.int (1 : Int32))] h0 (fun v h => v = none ∧ Keep h0 h [o, cp, rs] ∧ own_Ob Z a0 h o "com/example/stablemate/stablemate/FlowNetwork" [("deadMark", "I", (.int (4 : Int32))), ("deadFrom", "I", (.int (-1 : Int32))), ("deadTo", "I", (.int (-1 : Int32))), ("heads", "[I", (.ref hd)), ("marks", "[I", (.ref r1)), ("cursors", "[I", (.ref r2)), ("searchPath", "[I", (.ref r3)), ("reached", "[I", (.ref r4)), ("distances", "[I", (.ref r5)), ("deadMarks", "[I", (.ref r6)), ("nexts", "[I", (.ref nx)), ("targets", "[I", (.ref tg)), ("capacities", "[J", (.ref cp)), ("residuals", "[J", (.ref rs)), ("arcs", "I", (.int (4 : Int32)))] ∧ own_JA Z h cp (own_L4 (c0 - e0) (c1 - e1) c2 c3) ∧ own_JA Z h rs (own_L4 (0 : Int64) (0 : Int64) e2 e3)) := by
  refine own_body (plainFor_of_name own_pn_com_example_stablemate_stablemate_FlowNetwork) hn0 (own_ef_fix1 o) ?_
  intro p e s m below meth c T C X
  have KK := Keep.refl h0 [o, cp, rs]
  refine own_aloadN C X own_d9_0 rfl rfl (pc' := 1) rfl ?_
  refine own_getfield C X own_d9_1 (hw _ (List.mem_of_getElem? (i := 44) rfl)) O (i := 12) rfl (pc' := 4) rfl ?_
  intro T X
  refine own_iloadN C X own_d9_4 rfl (pc' := 5) rfl ?_
  refine own_dup2 C X own_d9_5 rfl rfl (pc' := 6) rfl ?_
  refine own_laload C X own_d9_6 P (by decide) (i := 1) rfl (pc' := 7) rfl ?_
  refine own_aloadN C X own_d9_7 rfl rfl (pc' := 8) rfl ?_
  refine own_getfield C X own_d9_8 (hw _ (List.mem_of_getElem? (i := 46) rfl)) O (i := 13) rfl (pc' := 11) rfl ?_
  intro T X
  refine own_iloadN C X own_d9_11 rfl (pc' := 12) rfl ?_
  refine own_laload C X own_d9_12 S (by decide) (i := 1) rfl (pc' := 13) rfl ?_
  refine own_lsub C X own_d9_13 rfl (pc' := 14) rfl ?_
  refine own_lastore C X own_d9_14 P (by decide) (i := 1) (Nat.le_of_ble_eq_true rfl) ge_cp (pc' := 15) rfl ?_
  intro T h X K_ P_
  have P : own_JA Z h cp (own_L4 c0 (c1 - e1) c2 c3) := P_
  have O := O.keep K_ (ninS ne_o_cp nin0)
  have S := S.keep K_ (ninS (Ne.symm ne_cp_rs) nin0)
  have KK := KK.trans K_ (allS (Or.inl (by simp)) all0)
  refine own_aloadN C X own_d9_15 rfl rfl (pc' := 16) rfl ?_
  refine own_getfield C X own_d9_16 (hw _ (List.mem_of_getElem? (i := 46) rfl)) O (i := 13) rfl (pc' := 19) rfl ?_
  intro T X
  refine own_iloadN C X own_d9_19 rfl (pc' := 20) rfl ?_
  refine own_lconst C X own_d9_20 (v := 0) (by decide) (pc' := 21) rfl ?_
  refine own_lastore C X own_d9_21 S (by decide) (i := 1) (Nat.le_of_ble_eq_true rfl) ge_rs (pc' := 22) rfl ?_
  intro T h X K_ S_
  have S : own_JA Z h rs (own_L4 e0 (0 : Int64) e2 e3) := S_
  have O := O.keep K_ (ninS ne_o_rs nin0)
  have P := P.keep K_ (ninS ne_cp_rs nin0)
  have KK := KK.trans K_ (allS (Or.inl (by simp)) all0)
  refine own_aloadN C X own_d9_22 rfl rfl (pc' := 23) rfl ?_
  refine own_getfield C X own_d9_23 (hw _ (List.mem_of_getElem? (i := 44) rfl)) O (i := 12) rfl (pc' := 26) rfl ?_
  intro T X
  refine own_iloadN C X own_d9_26 rfl (pc' := 27) rfl ?_
  refine own_iconst C X own_d9_27 (v := 1) (by decide) (pc' := 28) rfl ?_
  refine own_ixor C X own_d9_28 (z := 0) (by decide) (pc' := 29) rfl ?_
  refine own_dup2 C X own_d9_29 rfl rfl (pc' := 30) rfl ?_
  refine own_laload C X own_d9_30 P (by decide) (i := 0) rfl (pc' := 31) rfl ?_
  refine own_aloadN C X own_d9_31 rfl rfl (pc' := 32) rfl ?_
  refine own_getfield C X own_d9_32 (hw _ (List.mem_of_getElem? (i := 46) rfl)) O (i := 13) rfl (pc' := 35) rfl ?_
  intro T X
  refine own_iloadN C X own_d9_35 rfl (pc' := 36) rfl ?_
  refine own_iconst C X own_d9_36 (v := 1) (by decide) (pc' := 37) rfl ?_
  refine own_ixor C X own_d9_37 (z := 0) (by decide) (pc' := 38) rfl ?_
  refine own_laload C X own_d9_38 S (by decide) (i := 0) rfl (pc' := 39) rfl ?_
  refine own_lsub C X own_d9_39 rfl (pc' := 40) rfl ?_
  refine own_lastore C X own_d9_40 P (by decide) (i := 0) (Nat.le_of_ble_eq_true rfl) ge_cp (pc' := 41) rfl ?_
  intro T h X K_ P_
  have P : own_JA Z h cp (own_L4 (c0 - e0) (c1 - e1) c2 c3) := P_
  have O := O.keep K_ (ninS ne_o_cp nin0)
  have S := S.keep K_ (ninS (Ne.symm ne_cp_rs) nin0)
  have KK := KK.trans K_ (allS (Or.inl (by simp)) all0)
  refine own_aloadN C X own_d9_41 rfl rfl (pc' := 42) rfl ?_
  refine own_getfield C X own_d9_42 (hw _ (List.mem_of_getElem? (i := 46) rfl)) O (i := 13) rfl (pc' := 45) rfl ?_
  intro T X
  refine own_iloadN C X own_d9_45 rfl (pc' := 46) rfl ?_
  refine own_iconst C X own_d9_46 (v := 1) (by decide) (pc' := 47) rfl ?_
  refine own_ixor C X own_d9_47 (z := 0) (by decide) (pc' := 48) rfl ?_
  refine own_lconst C X own_d9_48 (v := 0) (by decide) (pc' := 49) rfl ?_
  refine own_lastore C X own_d9_49 S (by decide) (i := 0) (Nat.le_of_ble_eq_true rfl) ge_rs (pc' := 50) rfl ?_
  intro T h X K_ S_
  have S : own_JA Z h rs (own_L4 (0 : Int64) (0 : Int64) e2 e3) := S_
  have O := O.keep K_ (ninS ne_o_rs nin0)
  have P := P.keep K_ (ninS ne_cp_rs nin0)
  have KK := KK.trans K_ (allS (Or.inl (by simp)) all0)
  exact own_return C X own_d9_50 (Nat.le_of_ble_eq_true rfl) (Nat.le_of_ble_eq_true rfl) (⟨rfl, KK, O, P, S⟩)
theorem own_ef_flow0 (o : Addr) (m : MethodId) : entryFrame m #[(.ref o), (.int (0 : Int32))] 2 = mkF m 0 #[.val (.ref o), .val (.int (0 : Int32))] [] := by first | (simp [entryFrame, mkF, argsToLocals, Value.category]; done) | rfl
theorem own_d10_0 : decode prog_12_method_6_code 0 = .ok (.aload_n 0, 1) := by decide +kernel
theorem own_d10_1 : decode prog_12_method_6_code 1 = .ok (.getfield 62, 3) := by decide +kernel
theorem own_d10_4 : decode prog_12_method_6_code 4 = .ok (.iload_n 1, 1) := by decide +kernel
theorem own_d10_5 : decode prog_12_method_6_code 5 = .ok (.laload, 1) := by decide +kernel
theorem own_d10_6 : decode prog_12_method_6_code 6 = .ok (.aload_n 0, 1) := by decide +kernel
theorem own_d10_7 : decode prog_12_method_6_code 7 = .ok (.getfield 66, 3) := by decide +kernel
theorem own_d10_10 : decode prog_12_method_6_code 10 = .ok (.iload_n 1, 1) := by decide +kernel
theorem own_d10_11 : decode prog_12_method_6_code 11 = .ok (.laload, 1) := by decide +kernel
theorem own_d10_12 : decode prog_12_method_6_code 12 = .ok (.lsub, 1) := by decide +kernel
theorem own_d10_13 : decode prog_12_method_6_code 13 = .ok (.lreturn, 1) := by decide +kernel
set_option maxRecDepth 65536 in
set_option maxHeartbeats 40000000 in
theorem own_m_flow0 (l : Launch) (Z : State) (a0 : Array Value) (hw : ∀ d ∈ tables_1, d.before a0 Z = true) (o : Addr) (h0 : Heap) (n0 : Nat) (hn0 : n0 ≤ h0.size) (hd r1 r2 r3 r4 r5 r6 nx tg cp rs : Addr) (dm : Int32) (c0 c1 c2 c3 e0 e1 e2 e3 : Int64) (O : own_Ob Z a0 h0 o "com/example/stablemate/stablemate/FlowNetwork" [("deadMark", "I", (.int dm)), ("deadFrom", "I", (.int (-1 : Int32))), ("deadTo", "I", (.int (-1 : Int32))), ("heads", "[I", (.ref hd)), ("marks", "[I", (.ref r1)), ("cursors", "[I", (.ref r2)), ("searchPath", "[I", (.ref r3)), ("reached", "[I", (.ref r4)), ("distances", "[I", (.ref r5)), ("deadMarks", "[I", (.ref r6)), ("nexts", "[I", (.ref nx)), ("targets", "[I", (.ref tg)), ("capacities", "[J", (.ref cp)), ("residuals", "[J", (.ref rs)), ("arcs", "I", (.int (4 : Int32)))]) (P : own_JA Z h0 cp (own_L4 c0 c1 c2 c3)) (S : own_JA Z h0 rs (own_L4 e0 e1 e2 e3)) : own_Met l Z n0 (⟨"com/example/stablemate/stablemate/FlowNetwork", "flow", "(I)J"⟩ : MethodName) prog_12_method_6_code 2 (some .long) [] ({ frames := 0, cells := 0, slots := 0, locals := 0 } : Room) #[(.ref o), (.int (0 : Int32))] h0 (fun v h => v = some (.long (c0 - e0)) ∧ h0 = h) := by
  refine own_body (plainFor_of_name own_pn_com_example_stablemate_stablemate_FlowNetwork) hn0 (own_ef_flow0 o) ?_
  intro p e s m below meth c T C X
  refine own_aloadN C X own_d10_0 rfl rfl (pc' := 1) rfl ?_
  refine own_getfield C X own_d10_1 (hw _ (List.mem_of_getElem? (i := 44) rfl)) O (i := 12) rfl (pc' := 4) rfl ?_
  intro T X
  refine own_iloadN C X own_d10_4 rfl (pc' := 5) rfl ?_
  refine own_laload C X own_d10_5 P (by decide) (i := 0) rfl (pc' := 6) rfl ?_
  refine own_aloadN C X own_d10_6 rfl rfl (pc' := 7) rfl ?_
  refine own_getfield C X own_d10_7 (hw _ (List.mem_of_getElem? (i := 46) rfl)) O (i := 13) rfl (pc' := 10) rfl ?_
  intro T X
  refine own_iloadN C X own_d10_10 rfl (pc' := 11) rfl ?_
  refine own_laload C X own_d10_11 S (by decide) (i := 0) rfl (pc' := 12) rfl ?_
  refine own_lsub C X own_d10_12 rfl (pc' := 13) rfl ?_
  exact own_lreturn C X own_d10_13 (Nat.le_of_ble_eq_true rfl) (Nat.le_of_ble_eq_true rfl) (⟨rfl, rfl⟩)
theorem own_ef_flow1 (o : Addr) (m : MethodId) : entryFrame m #[(.ref o), (.int (1 : Int32))] 2 = mkF m 0 #[.val (.ref o), .val (.int (1 : Int32))] [] := by first | (simp [entryFrame, mkF, argsToLocals, Value.category]; done) | rfl
set_option maxRecDepth 65536 in
set_option maxHeartbeats 40000000 in
theorem own_m_flow1 (l : Launch) (Z : State) (a0 : Array Value) (hw : ∀ d ∈ tables_1, d.before a0 Z = true) (o : Addr) (h0 : Heap) (n0 : Nat) (hn0 : n0 ≤ h0.size) (hd r1 r2 r3 r4 r5 r6 nx tg cp rs : Addr) (dm : Int32) (c0 c1 c2 c3 e0 e1 e2 e3 : Int64) (O : own_Ob Z a0 h0 o "com/example/stablemate/stablemate/FlowNetwork" [("deadMark", "I", (.int dm)), ("deadFrom", "I", (.int (-1 : Int32))), ("deadTo", "I", (.int (-1 : Int32))), ("heads", "[I", (.ref hd)), ("marks", "[I", (.ref r1)), ("cursors", "[I", (.ref r2)), ("searchPath", "[I", (.ref r3)), ("reached", "[I", (.ref r4)), ("distances", "[I", (.ref r5)), ("deadMarks", "[I", (.ref r6)), ("nexts", "[I", (.ref nx)), ("targets", "[I", (.ref tg)), ("capacities", "[J", (.ref cp)), ("residuals", "[J", (.ref rs)), ("arcs", "I", (.int (4 : Int32)))]) (P : own_JA Z h0 cp (own_L4 c0 c1 c2 c3)) (S : own_JA Z h0 rs (own_L4 e0 e1 e2 e3)) : own_Met l Z n0 (⟨"com/example/stablemate/stablemate/FlowNetwork", "flow", "(I)J"⟩ : MethodName) prog_12_method_6_code 2 (some .long) [] ({ frames := 0, cells := 0, slots := 0, locals := 0 } : Room) #[(.ref o), (.int (1 : Int32))] h0 (fun v h => v = some (.long (c1 - e1)) ∧ h0 = h) := by
  refine own_body (plainFor_of_name own_pn_com_example_stablemate_stablemate_FlowNetwork) hn0 (own_ef_flow1 o) ?_
  intro p e s m below meth c T C X
  refine own_aloadN C X own_d10_0 rfl rfl (pc' := 1) rfl ?_
  refine own_getfield C X own_d10_1 (hw _ (List.mem_of_getElem? (i := 44) rfl)) O (i := 12) rfl (pc' := 4) rfl ?_
  intro T X
  refine own_iloadN C X own_d10_4 rfl (pc' := 5) rfl ?_
  refine own_laload C X own_d10_5 P (by decide) (i := 1) rfl (pc' := 6) rfl ?_
  refine own_aloadN C X own_d10_6 rfl rfl (pc' := 7) rfl ?_
  refine own_getfield C X own_d10_7 (hw _ (List.mem_of_getElem? (i := 46) rfl)) O (i := 13) rfl (pc' := 10) rfl ?_
  intro T X
  refine own_iloadN C X own_d10_10 rfl (pc' := 11) rfl ?_
  refine own_laload C X own_d10_11 S (by decide) (i := 1) rfl (pc' := 12) rfl ?_
  refine own_lsub C X own_d10_12 rfl (pc' := 13) rfl ?_
  exact own_lreturn C X own_d10_13 (Nat.le_of_ble_eq_true rfl) (Nat.le_of_ble_eq_true rfl) (⟨rfl, rfl⟩)
theorem own_ef_ag3_0 (o : Addr) (pa : Addr) (m : MethodId) : entryFrame m #[(.ref o), (.ref pa), (.int (0 : Int32)), (.int (1 : Int32))] 7 = mkF m 0 #[.val (.ref o), .val (.ref pa), .val (.int (0 : Int32)), .val (.int (1 : Int32)), .unset, .unset, .unset] [] := by first | (simp [entryFrame, mkF, argsToLocals, Value.category]; done) | rfl
theorem own_d12_0 : decode prog_12_method_25_code 0 = .ok (.ldc2_w 159, 3) := by decide +kernel
theorem own_d12_3 : decode prog_12_method_25_code 3 = .ok (.lstore 4, 2) := by decide +kernel
theorem own_d12_5 : decode prog_12_method_25_code 5 = .ok (.iload_n 2, 1) := by decide +kernel
theorem own_d12_6 : decode prog_12_method_25_code 6 = .ok (.istore 6, 2) := by decide +kernel
theorem own_d12_8 : decode prog_12_method_25_code 8 = .ok (.iload 6, 2) := by decide +kernel
theorem own_d12_10 : decode prog_12_method_25_code 10 = .ok (.iload_n 3, 1) := by decide +kernel
theorem own_d12_11 : decode prog_12_method_25_code 11 = .ok (.if_icmp .ge 25, 3) := by decide +kernel
theorem own_d12_14 : decode prog_12_method_25_code 14 = .ok (.lload 4, 2) := by decide +kernel
theorem own_d12_16 : decode prog_12_method_25_code 16 = .ok (.aload_n 0, 1) := by decide +kernel
theorem own_d12_17 : decode prog_12_method_25_code 17 = .ok (.getfield 66, 3) := by decide +kernel
theorem own_d12_20 : decode prog_12_method_25_code 20 = .ok (.aload_n 1, 1) := by decide +kernel
theorem own_d12_21 : decode prog_12_method_25_code 21 = .ok (.iload 6, 2) := by decide +kernel
theorem own_d12_23 : decode prog_12_method_25_code 23 = .ok (.iaload, 1) := by decide +kernel
theorem own_d12_24 : decode prog_12_method_25_code 24 = .ok (.laload, 1) := by decide +kernel
theorem own_pd_2762 : parseMethodDescriptor "(JJ)J" = some ⟨[.long, .long], some .long⟩ := by decide +kernel
theorem own_d12_25 : decode prog_12_method_25_code 25 = .ok (.invokestatic 161, 3) := by decide +kernel
theorem own_d12_28 : decode prog_12_method_25_code 28 = .ok (.lstore 4, 2) := by decide +kernel
theorem own_d12_30 : decode prog_12_method_25_code 30 = .ok (.iinc 6 1, 3) := by decide +kernel
theorem own_d12_33 : decode prog_12_method_25_code 33 = .ok (.goto (-25), 3) := by decide +kernel
theorem own_d12_36 : decode prog_12_method_25_code 36 = .ok (.iload_n 2, 1) := by decide +kernel
theorem own_d12_37 : decode prog_12_method_25_code 37 = .ok (.istore 6, 2) := by decide +kernel
theorem own_d12_39 : decode prog_12_method_25_code 39 = .ok (.iload 6, 2) := by decide +kernel
theorem own_d12_41 : decode prog_12_method_25_code 41 = .ok (.iload_n 3, 1) := by decide +kernel
theorem own_d12_42 : decode prog_12_method_25_code 42 = .ok (.if_icmp .ge 50, 3) := by decide +kernel
theorem own_d12_45 : decode prog_12_method_25_code 45 = .ok (.aload_n 0, 1) := by decide +kernel
theorem own_d12_46 : decode prog_12_method_25_code 46 = .ok (.getfield 66, 3) := by decide +kernel
theorem own_d12_49 : decode prog_12_method_25_code 49 = .ok (.aload_n 1, 1) := by decide +kernel
theorem own_d12_50 : decode prog_12_method_25_code 50 = .ok (.iload 6, 2) := by decide +kernel
theorem own_d12_52 : decode prog_12_method_25_code 52 = .ok (.iaload, 1) := by decide +kernel
theorem own_d12_53 : decode prog_12_method_25_code 53 = .ok (.dup2, 1) := by decide +kernel
theorem own_d12_54 : decode prog_12_method_25_code 54 = .ok (.laload, 1) := by decide +kernel
theorem own_d12_55 : decode prog_12_method_25_code 55 = .ok (.lload 4, 2) := by decide +kernel
theorem own_d12_57 : decode prog_12_method_25_code 57 = .ok (.lsub, 1) := by decide +kernel
theorem own_d12_58 : decode prog_12_method_25_code 58 = .ok (.lastore, 1) := by decide +kernel
theorem own_d12_59 : decode prog_12_method_25_code 59 = .ok (.aload_n 0, 1) := by decide +kernel
theorem own_d12_60 : decode prog_12_method_25_code 60 = .ok (.getfield 66, 3) := by decide +kernel
theorem own_d12_63 : decode prog_12_method_25_code 63 = .ok (.aload_n 1, 1) := by decide +kernel
theorem own_d12_64 : decode prog_12_method_25_code 64 = .ok (.iload 6, 2) := by decide +kernel
theorem own_d12_66 : decode prog_12_method_25_code 66 = .ok (.iaload, 1) := by decide +kernel
theorem own_d12_67 : decode prog_12_method_25_code 67 = .ok (.iconst 1, 1) := by decide +kernel
theorem own_d12_68 : decode prog_12_method_25_code 68 = .ok (.ixor, 1) := by decide +kernel
theorem own_d12_69 : decode prog_12_method_25_code 69 = .ok (.aload_n 0, 1) := by decide +kernel
theorem own_d12_70 : decode prog_12_method_25_code 70 = .ok (.getfield 66, 3) := by decide +kernel
theorem own_d12_73 : decode prog_12_method_25_code 73 = .ok (.aload_n 1, 1) := by decide +kernel
theorem own_d12_74 : decode prog_12_method_25_code 74 = .ok (.iload 6, 2) := by decide +kernel
theorem own_d12_76 : decode prog_12_method_25_code 76 = .ok (.iaload, 1) := by decide +kernel
theorem own_d12_77 : decode prog_12_method_25_code 77 = .ok (.iconst 1, 1) := by decide +kernel
theorem own_d12_78 : decode prog_12_method_25_code 78 = .ok (.ixor, 1) := by decide +kernel
theorem own_d12_79 : decode prog_12_method_25_code 79 = .ok (.laload, 1) := by decide +kernel
theorem own_d12_80 : decode prog_12_method_25_code 80 = .ok (.lload 4, 2) := by decide +kernel
theorem own_d12_82 : decode prog_12_method_25_code 82 = .ok (.invokestatic 165, 3) := by decide +kernel
theorem own_d12_85 : decode prog_12_method_25_code 85 = .ok (.lastore, 1) := by decide +kernel
theorem own_d12_86 : decode prog_12_method_25_code 86 = .ok (.iinc 6 1, 3) := by decide +kernel
theorem own_d12_89 : decode prog_12_method_25_code 89 = .ok (.goto (-50), 3) := by decide +kernel
theorem own_d12_92 : decode prog_12_method_25_code 92 = .ok (.lload 4, 2) := by decide +kernel
theorem own_d12_94 : decode prog_12_method_25_code 94 = .ok (.lreturn, 1) := by decide +kernel
set_option maxRecDepth 65536 in
set_option maxHeartbeats 40000000 in
theorem own_m_ag3_0 (l : Launch) (Z : State) (a0 : Array Value) (hw : ∀ d ∈ tables_1, d.before a0 Z = true) (o : Addr) (pa : Addr) (h0 : Heap) (n0 : Nat) (hn0 : n0 ≤ h0.size) (hd r1 r2 r3 r4 r5 r6 nx tg cp rs : Addr) (dm : Int32) (c0 c1 c2 c3 e0 e1 e2 e3 : Int64) (O : own_Ob Z a0 h0 o "com/example/stablemate/stablemate/FlowNetwork" [("deadMark", "I", (.int dm)), ("deadFrom", "I", (.int (-1 : Int32))), ("deadTo", "I", (.int (-1 : Int32))), ("heads", "[I", (.ref hd)), ("marks", "[I", (.ref r1)), ("cursors", "[I", (.ref r2)), ("searchPath", "[I", (.ref r3)), ("reached", "[I", (.ref r4)), ("distances", "[I", (.ref r5)), ("deadMarks", "[I", (.ref r6)), ("nexts", "[I", (.ref nx)), ("targets", "[I", (.ref tg)), ("capacities", "[J", (.ref cp)), ("residuals", "[J", (.ref rs)), ("arcs", "I", (.int (4 : Int32)))]) (P : own_JA Z h0 cp (own_L4 c0 c1 c2 c3)) (S : own_JA Z h0 rs (own_L4 e0 e1 e2 e3)) (B : own_IA Z h0 pa .int [(0 : Int32)]) (ge_o : n0 ≤ o) (ge_cp : n0 ≤ cp) (ge_rs : n0 ≤ rs) (ne_o_cp : o ≠ cp) (ne_o_rs : o ≠ rs) (ne_cp_rs : cp ≠ rs) (ne_rs_pa : rs ≠ pa) (ho : ¬ ((e1 ^^^ (e1 + e0)) &&& (e0 ^^^ (e1 + e0))) < 0) : own_Met l Z n0 (⟨"com/example/stablemate/stablemate/FlowNetwork", "augment", "([III)J"⟩ : MethodName) prog_12_method_25_code 7 (some .long) [] ({ frames := 1, cells := 0, slots := 0, locals := 40 } : Room) #[(.ref o), (.ref pa), (.int (0 : Int32)), (.int (1 : Int32))] h0 (fun v h => v = some (.long e0) ∧ Keep h0 h [o, cp, rs] ∧ own_Ob Z a0 h o "com/example/stablemate/stablemate/FlowNetwork" [("deadMark", "I", (.int dm)), ("deadFrom", "I", (.int (-1 : Int32))), ("deadTo", "I", (.int (-1 : Int32))), ("heads", "[I", (.ref hd)), ("marks", "[I", (.ref r1)), ("cursors", "[I", (.ref r2)), ("searchPath", "[I", (.ref r3)), ("reached", "[I", (.ref r4)), ("distances", "[I", (.ref r5)), ("deadMarks", "[I", (.ref r6)), ("nexts", "[I", (.ref nx)), ("targets", "[I", (.ref tg)), ("capacities", "[J", (.ref cp)), ("residuals", "[J", (.ref rs)), ("arcs", "I", (.int (4 : Int32)))] ∧ own_JA Z h cp (own_L4 c0 c1 c2 c3) ∧ own_JA Z h rs (own_L4 (e0 - e0) (e1 + e0) e2 e3)) := by
  refine own_body (plainFor_of_name own_pn_com_example_stablemate_stablemate_FlowNetwork) hn0 (own_ef_ag3_0 o pa) ?_
  intro p e s m below meth c T C X
  have KK := Keep.refl h0 [o, cp, rs]
  refine own_ldc2L C X own_d12_0 (hw _ (List.mem_of_getElem? (i := 88) rfl)) (pc' := 3) rfl ?_
  refine own_lstore C X own_d12_3 (L' := #[.val (.ref o), .val (.ref pa), .val (.int (0 : Int32)), .val (.int (1 : Int32)), .val (.long (9223372036854775807 : Int64)), .second, .unset]) rfl (pc' := 5) rfl ?_
  refine own_iloadN C X own_d12_5 rfl (pc' := 6) rfl ?_
  refine own_istore C X own_d12_6 (L' := #[.val (.ref o), .val (.ref pa), .val (.int (0 : Int32)), .val (.int (1 : Int32)), .val (.long (9223372036854775807 : Int64)), .second, .val (.int (0 : Int32))]) rfl (pc' := 8) rfl ?_
  refine own_iload C X own_d12_8 rfl (pc' := 10) rfl ?_
  refine own_iloadN C X own_d12_10 rfl (pc' := 11) rfl ?_
  refine own_icmp_ge C X own_d12_11 (pcT := 36) (pc' := 14) (by decide) (by decide) rfl (fun hc11 => absurd hc11 (by decide)) (fun hc11 => ?_)
  refine own_lload C X own_d12_14 rfl (pc' := 16) rfl ?_
  refine own_aloadN C X own_d12_16 rfl rfl (pc' := 17) rfl ?_
  refine own_getfield C X own_d12_17 (hw _ (List.mem_of_getElem? (i := 46) rfl)) O (i := 13) rfl (pc' := 20) rfl ?_
  intro T X
  refine own_aloadN C X own_d12_20 rfl rfl (pc' := 21) rfl ?_
  refine own_iload C X own_d12_21 rfl (pc' := 23) rfl ?_
  refine own_iaload C X own_d12_23 B (by decide) (i := 0) rfl (pc' := 24) rfl ?_
  refine own_laload C X own_d12_24 S (by decide) (i := 0) rfl (pc' := 25) rfl ?_
  refine own_callS C X own_d12_25 (own_m_min l Z a0 hw (9223372036854775807 : Int64) e0 _ n0 (own_big C X)) (hw _ (List.mem_of_getElem? (i := 89) rfl)) (hw _ (List.mem_of_getElem? (i := 90) rfl)) (hw _ (List.mem_of_getElem? (i := 37) rfl)) (hw _ (List.mem_of_getElem? (i := 91) rfl)) (by decide) own_pd_2762 rfl rfl (Nat.le_of_ble_eq_true rfl) (Nat.le_of_ble_eq_true rfl) (Nat.le_of_ble_eq_true rfl) (Nat.le_of_ble_eq_true rfl) (av := [(.long (9223372036854775807 : Int64)), (.long e0)]) (S := []) rfl (pc' := 28) rfl ?_
  intro T h v X hQ
  obtain ⟨rfl, rfl⟩ := hQ
  rw [own_minM]
  show own_Go p e below n0 (own_Fin ({ frames := 1, cells := 0, slots := 0, locals := 40 } : Room) s (fun v h => v = some (.long e0) ∧ Keep h0 h [o, cp, rs] ∧ own_Ob Z a0 h o "com/example/stablemate/stablemate/FlowNetwork" [("deadMark", "I", (.int dm)), ("deadFrom", "I", (.int (-1 : Int32))), ("deadTo", "I", (.int (-1 : Int32))), ("heads", "[I", (.ref hd)), ("marks", "[I", (.ref r1)), ("cursors", "[I", (.ref r2)), ("searchPath", "[I", (.ref r3)), ("reached", "[I", (.ref r4)), ("distances", "[I", (.ref r5)), ("deadMarks", "[I", (.ref r6)), ("nexts", "[I", (.ref nx)), ("targets", "[I", (.ref tg)), ("capacities", "[J", (.ref cp)), ("residuals", "[J", (.ref rs)), ("arcs", "I", (.int (4 : Int32)))] ∧ own_JA Z h cp (own_L4 c0 c1 c2 c3) ∧ own_JA Z h rs (own_L4 (e0 - e0) (e1 + e0) e2 e3))) (T.setTop (mkF m 28 #[.val (.ref o), .val (.ref pa), .val (.int (0 : Int32)), .val (.int (1 : Int32)), .val (.long (9223372036854775807 : Int64)), .second, .val (.int (0 : Int32))] [(.long e0)]))
  refine own_lstore C X own_d12_28 (L' := #[.val (.ref o), .val (.ref pa), .val (.int (0 : Int32)), .val (.int (1 : Int32)), .val (.long e0), .second, .val (.int (0 : Int32))]) rfl (pc' := 30) rfl ?_
  refine own_iinc C X own_d12_30 rfl (d := 1) (by decide) (z := 1) (by decide) (L' := #[.val (.ref o), .val (.ref pa), .val (.int (0 : Int32)), .val (.int (1 : Int32)), .val (.long e0), .second, .val (.int (1 : Int32))]) rfl (pc' := 33) rfl ?_
  refine own_goto C X own_d12_33 (pc' := 8) (by decide) (by decide) ?_
  refine own_iload C X own_d12_8 rfl (pc' := 10) rfl ?_
  refine own_iloadN C X own_d12_10 rfl (pc' := 11) rfl ?_
  refine own_icmp_ge C X own_d12_11 (pcT := 36) (pc' := 14) (by decide) (by decide) rfl (fun hc11_2 => ?_) (fun hc11_2 => absurd hc11_2 (by decide))
  refine own_iloadN C X own_d12_36 rfl (pc' := 37) rfl ?_
  refine own_istore C X own_d12_37 (L' := #[.val (.ref o), .val (.ref pa), .val (.int (0 : Int32)), .val (.int (1 : Int32)), .val (.long e0), .second, .val (.int (0 : Int32))]) rfl (pc' := 39) rfl ?_
  refine own_iload C X own_d12_39 rfl (pc' := 41) rfl ?_
  refine own_iloadN C X own_d12_41 rfl (pc' := 42) rfl ?_
  refine own_icmp_ge C X own_d12_42 (pcT := 92) (pc' := 45) (by decide) (by decide) rfl (fun hc42 => absurd hc42 (by decide)) (fun hc42 => ?_)
  refine own_aloadN C X own_d12_45 rfl rfl (pc' := 46) rfl ?_
  refine own_getfield C X own_d12_46 (hw _ (List.mem_of_getElem? (i := 46) rfl)) O (i := 13) rfl (pc' := 49) rfl ?_
  intro T X
  refine own_aloadN C X own_d12_49 rfl rfl (pc' := 50) rfl ?_
  refine own_iload C X own_d12_50 rfl (pc' := 52) rfl ?_
  refine own_iaload C X own_d12_52 B (by decide) (i := 0) rfl (pc' := 53) rfl ?_
  refine own_dup2 C X own_d12_53 rfl rfl (pc' := 54) rfl ?_
  refine own_laload C X own_d12_54 S (by decide) (i := 0) rfl (pc' := 55) rfl ?_
  refine own_lload C X own_d12_55 rfl (pc' := 57) rfl ?_
  refine own_lsub C X own_d12_57 rfl (pc' := 58) rfl ?_
  refine own_lastore C X own_d12_58 S (by decide) (i := 0) (Nat.le_of_ble_eq_true rfl) ge_rs (pc' := 59) rfl ?_
  intro T h X K_ S_
  have S : own_JA Z h rs (own_L4 (e0 - e0) e1 e2 e3) := S_
  have O := O.keep K_ (ninS ne_o_rs nin0)
  have P := P.keep K_ (ninS ne_cp_rs nin0)
  have B := B.keep K_ (ninS (Ne.symm ne_rs_pa) nin0)
  have KK := KK.trans K_ (allS (Or.inl (by simp)) all0)
  refine own_aloadN C X own_d12_59 rfl rfl (pc' := 60) rfl ?_
  refine own_getfield C X own_d12_60 (hw _ (List.mem_of_getElem? (i := 46) rfl)) O (i := 13) rfl (pc' := 63) rfl ?_
  intro T X
  refine own_aloadN C X own_d12_63 rfl rfl (pc' := 64) rfl ?_
  refine own_iload C X own_d12_64 rfl (pc' := 66) rfl ?_
  refine own_iaload C X own_d12_66 B (by decide) (i := 0) rfl (pc' := 67) rfl ?_
  refine own_iconst C X own_d12_67 (v := 1) (by decide) (pc' := 68) rfl ?_
  refine own_ixor C X own_d12_68 (z := 1) (by decide) (pc' := 69) rfl ?_
  refine own_aloadN C X own_d12_69 rfl rfl (pc' := 70) rfl ?_
  refine own_getfield C X own_d12_70 (hw _ (List.mem_of_getElem? (i := 46) rfl)) O (i := 13) rfl (pc' := 73) rfl ?_
  intro T X
  refine own_aloadN C X own_d12_73 rfl rfl (pc' := 74) rfl ?_
  refine own_iload C X own_d12_74 rfl (pc' := 76) rfl ?_
  refine own_iaload C X own_d12_76 B (by decide) (i := 0) rfl (pc' := 77) rfl ?_
  refine own_iconst C X own_d12_77 (v := 1) (by decide) (pc' := 78) rfl ?_
  refine own_ixor C X own_d12_78 (z := 1) (by decide) (pc' := 79) rfl ?_
  refine own_laload C X own_d12_79 S (by decide) (i := 1) rfl (pc' := 80) rfl ?_
  refine own_lload C X own_d12_80 rfl (pc' := 82) rfl ?_
  refine own_callS C X own_d12_82 (own_m_addx l Z a0 hw e1 e0 _ n0 (own_big C X) ho) (hw _ (List.mem_of_getElem? (i := 92) rfl)) (hw _ (List.mem_of_getElem? (i := 93) rfl)) (hw _ (List.mem_of_getElem? (i := 37) rfl)) (hw _ (List.mem_of_getElem? (i := 94) rfl)) (by decide) own_pd_2762 rfl rfl (Nat.le_of_ble_eq_true rfl) (Nat.le_of_ble_eq_true rfl) (Nat.le_of_ble_eq_true rfl) (Nat.le_of_ble_eq_true rfl) (av := [(.long e1), (.long e0)]) (S := [(.int (1 : Int32)), (.ref rs)]) rfl (pc' := 85) rfl ?_
  intro T h v X hQ
  obtain ⟨rfl, rfl⟩ := hQ
  show own_Go p e below n0 (own_Fin ({ frames := 1, cells := 0, slots := 0, locals := 40 } : Room) s (fun v h => v = some (.long e0) ∧ Keep h0 h [o, cp, rs] ∧ own_Ob Z a0 h o "com/example/stablemate/stablemate/FlowNetwork" [("deadMark", "I", (.int dm)), ("deadFrom", "I", (.int (-1 : Int32))), ("deadTo", "I", (.int (-1 : Int32))), ("heads", "[I", (.ref hd)), ("marks", "[I", (.ref r1)), ("cursors", "[I", (.ref r2)), ("searchPath", "[I", (.ref r3)), ("reached", "[I", (.ref r4)), ("distances", "[I", (.ref r5)), ("deadMarks", "[I", (.ref r6)), ("nexts", "[I", (.ref nx)), ("targets", "[I", (.ref tg)), ("capacities", "[J", (.ref cp)), ("residuals", "[J", (.ref rs)), ("arcs", "I", (.int (4 : Int32)))] ∧ own_JA Z h cp (own_L4 c0 c1 c2 c3) ∧ own_JA Z h rs (own_L4 (e0 - e0) (e1 + e0) e2 e3))) (T.setTop (mkF m 85 #[.val (.ref o), .val (.ref pa), .val (.int (0 : Int32)), .val (.int (1 : Int32)), .val (.long e0), .second, .val (.int (0 : Int32))] [(.long (e1 + e0)), (.int (1 : Int32)), (.ref rs)]))
  refine own_lastore C X own_d12_85 S (by decide) (i := 1) (Nat.le_of_ble_eq_true rfl) ge_rs (pc' := 86) rfl ?_
  intro T h X K_ S_
  have S : own_JA Z h rs (own_L4 (e0 - e0) (e1 + e0) e2 e3) := S_
  have O := O.keep K_ (ninS ne_o_rs nin0)
  have P := P.keep K_ (ninS ne_cp_rs nin0)
  have B := B.keep K_ (ninS (Ne.symm ne_rs_pa) nin0)
  have KK := KK.trans K_ (allS (Or.inl (by simp)) all0)
  refine own_iinc C X own_d12_86 rfl (d := 1) (by decide) (z := 1) (by decide) (L' := #[.val (.ref o), .val (.ref pa), .val (.int (0 : Int32)), .val (.int (1 : Int32)), .val (.long e0), .second, .val (.int (1 : Int32))]) rfl (pc' := 89) rfl ?_
  refine own_goto C X own_d12_89 (pc' := 39) (by decide) (by decide) ?_
  refine own_iload C X own_d12_39 rfl (pc' := 41) rfl ?_
  refine own_iloadN C X own_d12_41 rfl (pc' := 42) rfl ?_
  refine own_icmp_ge C X own_d12_42 (pcT := 92) (pc' := 45) (by decide) (by decide) rfl (fun hc42_2 => ?_) (fun hc42_2 => absurd hc42_2 (by decide))
  refine own_lload C X own_d12_92 rfl (pc' := 94) rfl ?_
  exact own_lreturn C X own_d12_94 (Nat.le_of_ble_eq_true rfl) (Nat.le_of_ble_eq_true rfl) (⟨rfl, KK, O, P, S⟩)
theorem own_ef_ag0_4 (o : Addr) (pa : Addr) (m : MethodId) : entryFrame m #[(.ref o), (.ref pa)] 2 = mkF m 0 #[.val (.ref o), .val (.ref pa)] [] := by first | (simp [entryFrame, mkF, argsToLocals, Value.category]; done) | rfl
theorem own_d11_0 : decode prog_12_method_19_code 0 = .ok (.aload_n 0, 1) := by decide +kernel
theorem own_d11_1 : decode prog_12_method_19_code 1 = .ok (.invokevirtual 69, 3) := by decide +kernel
theorem own_d11_4 : decode prog_12_method_19_code 4 = .ok (.aload_n 0, 1) := by decide +kernel
theorem own_d11_5 : decode prog_12_method_19_code 5 = .ok (.aload_n 1, 1) := by decide +kernel
theorem own_d11_6 : decode prog_12_method_19_code 6 = .ok (.iconst 0, 1) := by decide +kernel
theorem own_d11_7 : decode prog_12_method_19_code 7 = .ok (.aload_n 1, 1) := by decide +kernel
theorem own_d11_8 : decode prog_12_method_19_code 8 = .ok (.arraylength, 1) := by decide +kernel
theorem own_pd_4652 : parseMethodDescriptor "([III)J" = some ⟨[(.array .int), .int, .int], some .long⟩ := by decide +kernel
theorem own_d11_9 : decode prog_12_method_19_code 9 = .ok (.invokevirtual 99, 3) := by decide +kernel
theorem own_d11_12 : decode prog_12_method_19_code 12 = .ok (.lreturn, 1) := by decide +kernel
set_option maxRecDepth 65536 in
set_option maxHeartbeats 40000000 in
theorem own_m_ag0_4 (l : Launch) (Z : State) (a0 : Array Value) (hw : ∀ d ∈ tables_1, d.before a0 Z = true) (o : Addr) (pa : Addr) (h0 : Heap) (n0 : Nat) (hn0 : n0 ≤ h0.size) (hd r1 r2 r3 r4 r5 r6 nx tg cp rs : Addr) (c0 c1 c2 c3 e0 e1 e2 e3 : Int64) (O : own_Ob Z a0 h0 o "com/example/stablemate/stablemate/FlowNetwork" [("deadMark", "I", (.int (4 : Int32))), ("deadFrom", "I", (.int (-1 : Int32))), ("deadTo", "I", (.int (-1 : Int32))), ("heads", "[I", (.ref hd)), ("marks", "[I", (.ref r1)), ("cursors", "[I", (.ref r2)), ("searchPath", "[I", (.ref r3)), ("reached", "[I", (.ref r4)), ("distances", "[I", (.ref r5)), ("deadMarks", "[I", (.ref r6)), ("nexts", "[I", (.ref nx)), ("targets", "[I", (.ref tg)), ("capacities", "[J", (.ref cp)), ("residuals", "[J", (.ref rs)), ("arcs", "I", (.int (4 : Int32)))]) (P : own_JA Z h0 cp (own_L4 c0 c1 c2 c3)) (S : own_JA Z h0 rs (own_L4 e0 e1 e2 e3)) (B : own_IA Z h0 pa .int [(0 : Int32)]) (ge_o : n0 ≤ o) (ge_cp : n0 ≤ cp) (ge_rs : n0 ≤ rs) (ne_o_cp : o ≠ cp) (ne_o_rs : o ≠ rs) (ne_cp_rs : cp ≠ rs) (ne_rs_pa : rs ≠ pa) (ne_o_pa : o ≠ pa) (ne_cp_pa : cp ≠ pa) (ho : ¬ ((e1 ^^^ (e1 + e0)) &&& (e0 ^^^ (e1 + e0))) < 0) : own_Met l Z n0 (⟨"com/example/stablemate/stablemate/FlowNetwork", "augment", "([I)J"⟩ : MethodName) prog_12_method_19_code 2 (some .long) [] ({ frames := 2, cells := 0, slots := 0, locals := 80 } : Room) #[(.ref o), (.ref pa)] h0 (fun v h => v = some (.long e0) ∧ Keep h0 h [o, cp, rs] ∧ own_Ob Z a0 h o "com/example/stablemate/stablemate/FlowNetwork" [("deadMark", "I", (.int (5 : Int32))), ("deadFrom", "I", (.int (-1 : Int32))), ("deadTo", "I", (.int (-1 : Int32))), ("heads", "[I", (.ref hd)), ("marks", "[I", (.ref r1)), ("cursors", "[I", (.ref r2)), ("searchPath", "[I", (.ref r3)), ("reached", "[I", (.ref r4)), ("distances", "[I", (.ref r5)), ("deadMarks", "[I", (.ref r6)), ("nexts", "[I", (.ref nx)), ("targets", "[I", (.ref tg)), ("capacities", "[J", (.ref cp)), ("residuals", "[J", (.ref rs)), ("arcs", "I", (.int (4 : Int32)))] ∧ own_JA Z h cp (own_L4 c0 c1 c2 c3) ∧ own_JA Z h rs (own_L4 (e0 - e0) (e1 + e0) e2 e3)) := by
  refine own_body (plainFor_of_name own_pn_com_example_stablemate_stablemate_FlowNetwork) hn0 (own_ef_ag0_4 o pa) ?_
  intro p e s m below meth c T C X
  have KK := Keep.refl h0 [o, cp, rs]
  refine own_aloadN C X own_d11_0 rfl rfl (pc' := 1) rfl ?_
  refine own_callP C X own_d11_1 (own_m_fd l Z a0 hw o _ n0 (own_big C X) hd r1 r2 r3 r4 r5 r6 nx tg cp rs (4 : Int32) (5 : Int32) (4 : Int32) (by decide) (by decide) O ge_o) O.1 (hw _ (List.mem_of_getElem? (i := 53) rfl)) (hw _ (List.mem_of_getElem? (i := 3) rfl)) (hw _ (List.mem_of_getElem? (i := 55) rfl)) (hw _ (List.mem_of_getElem? (i := 54) rfl)) (hw _ (List.mem_of_getElem? (i := 4) rfl)) (hw _ (List.mem_of_getElem? (i := 56) rfl)) (by decide) own_pd_1382 rfl rfl (Nat.le_of_ble_eq_true rfl) (Nat.le_of_ble_eq_true rfl) (Nat.le_of_ble_eq_true rfl) (Nat.le_of_ble_eq_true rfl) (av := []) (S := []) rfl (pc' := 4) rfl ?_
  intro T h v X hQ
  obtain ⟨rfl, K_, O⟩ := hQ
  have P := P.keep K_ (ninS (Ne.symm ne_o_cp) nin0)
  have S := S.keep K_ (ninS (Ne.symm ne_o_rs) nin0)
  have B := B.keep K_ (ninS (Ne.symm ne_o_pa) nin0)
  have KK := KK.trans K_ (allS (Or.inl (by simp)) all0)
  show own_Go p e below n0 (own_Fin ({ frames := 2, cells := 0, slots := 0, locals := 80 } : Room) s (fun v h => v = some (.long e0) ∧ Keep h0 h [o, cp, rs] ∧ own_Ob Z a0 h o "com/example/stablemate/stablemate/FlowNetwork" [("deadMark", "I", (.int (5 : Int32))), ("deadFrom", "I", (.int (-1 : Int32))), ("deadTo", "I", (.int (-1 : Int32))), ("heads", "[I", (.ref hd)), ("marks", "[I", (.ref r1)), ("cursors", "[I", (.ref r2)), ("searchPath", "[I", (.ref r3)), ("reached", "[I", (.ref r4)), ("distances", "[I", (.ref r5)), ("deadMarks", "[I", (.ref r6)), ("nexts", "[I", (.ref nx)), ("targets", "[I", (.ref tg)), ("capacities", "[J", (.ref cp)), ("residuals", "[J", (.ref rs)), ("arcs", "I", (.int (4 : Int32)))] ∧ own_JA Z h cp (own_L4 c0 c1 c2 c3) ∧ own_JA Z h rs (own_L4 (e0 - e0) (e1 + e0) e2 e3))) (T.setTop (mkF m 4 #[.val (.ref o), .val (.ref pa)] []))
  refine own_aloadN C X own_d11_4 rfl rfl (pc' := 5) rfl ?_
  refine own_aloadN C X own_d11_5 rfl rfl (pc' := 6) rfl ?_
  refine own_iconst C X own_d11_6 (v := 0) (by decide) (pc' := 7) rfl ?_
  refine own_aloadN C X own_d11_7 rfl rfl (pc' := 8) rfl ?_
  refine own_alenI C X own_d11_8 (n := 1) B rfl (pc' := 9) rfl ?_
  refine own_callP C X own_d11_9 (own_m_ag3_0 l Z a0 hw o pa _ n0 (own_big C X) hd r1 r2 r3 r4 r5 r6 nx tg cp rs (5 : Int32) c0 c1 c2 c3 e0 e1 e2 e3 O P S B ge_o ge_cp ge_rs ne_o_cp ne_o_rs ne_cp_rs ne_rs_pa ho) O.1 (hw _ (List.mem_of_getElem? (i := 84) rfl)) (hw _ (List.mem_of_getElem? (i := 3) rfl)) (hw _ (List.mem_of_getElem? (i := 86) rfl)) (hw _ (List.mem_of_getElem? (i := 85) rfl)) (hw _ (List.mem_of_getElem? (i := 4) rfl)) (hw _ (List.mem_of_getElem? (i := 87) rfl)) (by decide) own_pd_4652 rfl rfl (Nat.le_of_ble_eq_true rfl) (Nat.le_of_ble_eq_true rfl) (Nat.le_of_ble_eq_true rfl) (Nat.le_of_ble_eq_true rfl) (av := [(.ref pa), (.int (0 : Int32)), (.int (1 : Int32))]) (S := []) rfl (pc' := 12) rfl ?_
  intro T h v X hQ
  obtain ⟨rfl, K_, O, P, S⟩ := hQ
  have KK := KK.trans K_ (allS (Or.inl (by simp)) (allS (Or.inl (by simp)) (allS (Or.inl (by simp)) all0)))
  show own_Go p e below n0 (own_Fin ({ frames := 2, cells := 0, slots := 0, locals := 80 } : Room) s (fun v h => v = some (.long e0) ∧ Keep h0 h [o, cp, rs] ∧ own_Ob Z a0 h o "com/example/stablemate/stablemate/FlowNetwork" [("deadMark", "I", (.int (5 : Int32))), ("deadFrom", "I", (.int (-1 : Int32))), ("deadTo", "I", (.int (-1 : Int32))), ("heads", "[I", (.ref hd)), ("marks", "[I", (.ref r1)), ("cursors", "[I", (.ref r2)), ("searchPath", "[I", (.ref r3)), ("reached", "[I", (.ref r4)), ("distances", "[I", (.ref r5)), ("deadMarks", "[I", (.ref r6)), ("nexts", "[I", (.ref nx)), ("targets", "[I", (.ref tg)), ("capacities", "[J", (.ref cp)), ("residuals", "[J", (.ref rs)), ("arcs", "I", (.int (4 : Int32)))] ∧ own_JA Z h cp (own_L4 c0 c1 c2 c3) ∧ own_JA Z h rs (own_L4 (e0 - e0) (e1 + e0) e2 e3))) (T.setTop (mkF m 12 #[.val (.ref o), .val (.ref pa)] [(.long e0)]))
  exact own_lreturn C X own_d11_12 (Nat.le_of_ble_eq_true rfl) (Nat.le_of_ble_eq_true rfl) (⟨rfl, KK, O, P, S⟩)
theorem own_ef_ag0_5 (o : Addr) (pa : Addr) (m : MethodId) : entryFrame m #[(.ref o), (.ref pa)] 2 = mkF m 0 #[.val (.ref o), .val (.ref pa)] [] := by first | (simp [entryFrame, mkF, argsToLocals, Value.category]; done) | rfl
set_option maxRecDepth 65536 in
set_option maxHeartbeats 40000000 in
theorem own_m_ag0_5 (l : Launch) (Z : State) (a0 : Array Value) (hw : ∀ d ∈ tables_1, d.before a0 Z = true) (o : Addr) (pa : Addr) (h0 : Heap) (n0 : Nat) (hn0 : n0 ≤ h0.size) (hd r1 r2 r3 r4 r5 r6 nx tg cp rs : Addr) (c0 c1 c2 c3 e0 e1 e2 e3 : Int64) (O : own_Ob Z a0 h0 o "com/example/stablemate/stablemate/FlowNetwork" [("deadMark", "I", (.int (5 : Int32))), ("deadFrom", "I", (.int (-1 : Int32))), ("deadTo", "I", (.int (-1 : Int32))), ("heads", "[I", (.ref hd)), ("marks", "[I", (.ref r1)), ("cursors", "[I", (.ref r2)), ("searchPath", "[I", (.ref r3)), ("reached", "[I", (.ref r4)), ("distances", "[I", (.ref r5)), ("deadMarks", "[I", (.ref r6)), ("nexts", "[I", (.ref nx)), ("targets", "[I", (.ref tg)), ("capacities", "[J", (.ref cp)), ("residuals", "[J", (.ref rs)), ("arcs", "I", (.int (4 : Int32)))]) (P : own_JA Z h0 cp (own_L4 c0 c1 c2 c3)) (S : own_JA Z h0 rs (own_L4 e0 e1 e2 e3)) (B : own_IA Z h0 pa .int [(0 : Int32)]) (ge_o : n0 ≤ o) (ge_cp : n0 ≤ cp) (ge_rs : n0 ≤ rs) (ne_o_cp : o ≠ cp) (ne_o_rs : o ≠ rs) (ne_cp_rs : cp ≠ rs) (ne_rs_pa : rs ≠ pa) (ne_o_pa : o ≠ pa) (ne_cp_pa : cp ≠ pa) (ho : ¬ ((e1 ^^^ (e1 + e0)) &&& (e0 ^^^ (e1 + e0))) < 0) : own_Met l Z n0 (⟨"com/example/stablemate/stablemate/FlowNetwork", "augment", "([I)J"⟩ : MethodName) prog_12_method_19_code 2 (some .long) [] ({ frames := 2, cells := 0, slots := 0, locals := 80 } : Room) #[(.ref o), (.ref pa)] h0 (fun v h => v = some (.long e0) ∧ Keep h0 h [o, cp, rs] ∧ own_Ob Z a0 h o "com/example/stablemate/stablemate/FlowNetwork" [("deadMark", "I", (.int (6 : Int32))), ("deadFrom", "I", (.int (-1 : Int32))), ("deadTo", "I", (.int (-1 : Int32))), ("heads", "[I", (.ref hd)), ("marks", "[I", (.ref r1)), ("cursors", "[I", (.ref r2)), ("searchPath", "[I", (.ref r3)), ("reached", "[I", (.ref r4)), ("distances", "[I", (.ref r5)), ("deadMarks", "[I", (.ref r6)), ("nexts", "[I", (.ref nx)), ("targets", "[I", (.ref tg)), ("capacities", "[J", (.ref cp)), ("residuals", "[J", (.ref rs)), ("arcs", "I", (.int (4 : Int32)))] ∧ own_JA Z h cp (own_L4 c0 c1 c2 c3) ∧ own_JA Z h rs (own_L4 (e0 - e0) (e1 + e0) e2 e3)) := by
  refine own_body (plainFor_of_name own_pn_com_example_stablemate_stablemate_FlowNetwork) hn0 (own_ef_ag0_5 o pa) ?_
  intro p e s m below meth c T C X
  have KK := Keep.refl h0 [o, cp, rs]
  refine own_aloadN C X own_d11_0 rfl rfl (pc' := 1) rfl ?_
  refine own_callP C X own_d11_1 (own_m_fd l Z a0 hw o _ n0 (own_big C X) hd r1 r2 r3 r4 r5 r6 nx tg cp rs (5 : Int32) (6 : Int32) (4 : Int32) (by decide) (by decide) O ge_o) O.1 (hw _ (List.mem_of_getElem? (i := 53) rfl)) (hw _ (List.mem_of_getElem? (i := 3) rfl)) (hw _ (List.mem_of_getElem? (i := 55) rfl)) (hw _ (List.mem_of_getElem? (i := 54) rfl)) (hw _ (List.mem_of_getElem? (i := 4) rfl)) (hw _ (List.mem_of_getElem? (i := 56) rfl)) (by decide) own_pd_1382 rfl rfl (Nat.le_of_ble_eq_true rfl) (Nat.le_of_ble_eq_true rfl) (Nat.le_of_ble_eq_true rfl) (Nat.le_of_ble_eq_true rfl) (av := []) (S := []) rfl (pc' := 4) rfl ?_
  intro T h v X hQ
  obtain ⟨rfl, K_, O⟩ := hQ
  have P := P.keep K_ (ninS (Ne.symm ne_o_cp) nin0)
  have S := S.keep K_ (ninS (Ne.symm ne_o_rs) nin0)
  have B := B.keep K_ (ninS (Ne.symm ne_o_pa) nin0)
  have KK := KK.trans K_ (allS (Or.inl (by simp)) all0)
  show own_Go p e below n0 (own_Fin ({ frames := 2, cells := 0, slots := 0, locals := 80 } : Room) s (fun v h => v = some (.long e0) ∧ Keep h0 h [o, cp, rs] ∧ own_Ob Z a0 h o "com/example/stablemate/stablemate/FlowNetwork" [("deadMark", "I", (.int (6 : Int32))), ("deadFrom", "I", (.int (-1 : Int32))), ("deadTo", "I", (.int (-1 : Int32))), ("heads", "[I", (.ref hd)), ("marks", "[I", (.ref r1)), ("cursors", "[I", (.ref r2)), ("searchPath", "[I", (.ref r3)), ("reached", "[I", (.ref r4)), ("distances", "[I", (.ref r5)), ("deadMarks", "[I", (.ref r6)), ("nexts", "[I", (.ref nx)), ("targets", "[I", (.ref tg)), ("capacities", "[J", (.ref cp)), ("residuals", "[J", (.ref rs)), ("arcs", "I", (.int (4 : Int32)))] ∧ own_JA Z h cp (own_L4 c0 c1 c2 c3) ∧ own_JA Z h rs (own_L4 (e0 - e0) (e1 + e0) e2 e3))) (T.setTop (mkF m 4 #[.val (.ref o), .val (.ref pa)] []))
  refine own_aloadN C X own_d11_4 rfl rfl (pc' := 5) rfl ?_
  refine own_aloadN C X own_d11_5 rfl rfl (pc' := 6) rfl ?_
  refine own_iconst C X own_d11_6 (v := 0) (by decide) (pc' := 7) rfl ?_
  refine own_aloadN C X own_d11_7 rfl rfl (pc' := 8) rfl ?_
  refine own_alenI C X own_d11_8 (n := 1) B rfl (pc' := 9) rfl ?_
  refine own_callP C X own_d11_9 (own_m_ag3_0 l Z a0 hw o pa _ n0 (own_big C X) hd r1 r2 r3 r4 r5 r6 nx tg cp rs (6 : Int32) c0 c1 c2 c3 e0 e1 e2 e3 O P S B ge_o ge_cp ge_rs ne_o_cp ne_o_rs ne_cp_rs ne_rs_pa ho) O.1 (hw _ (List.mem_of_getElem? (i := 84) rfl)) (hw _ (List.mem_of_getElem? (i := 3) rfl)) (hw _ (List.mem_of_getElem? (i := 86) rfl)) (hw _ (List.mem_of_getElem? (i := 85) rfl)) (hw _ (List.mem_of_getElem? (i := 4) rfl)) (hw _ (List.mem_of_getElem? (i := 87) rfl)) (by decide) own_pd_4652 rfl rfl (Nat.le_of_ble_eq_true rfl) (Nat.le_of_ble_eq_true rfl) (Nat.le_of_ble_eq_true rfl) (Nat.le_of_ble_eq_true rfl) (av := [(.ref pa), (.int (0 : Int32)), (.int (1 : Int32))]) (S := []) rfl (pc' := 12) rfl ?_
  intro T h v X hQ
  obtain ⟨rfl, K_, O, P, S⟩ := hQ
  have KK := KK.trans K_ (allS (Or.inl (by simp)) (allS (Or.inl (by simp)) (allS (Or.inl (by simp)) all0)))
  show own_Go p e below n0 (own_Fin ({ frames := 2, cells := 0, slots := 0, locals := 80 } : Room) s (fun v h => v = some (.long e0) ∧ Keep h0 h [o, cp, rs] ∧ own_Ob Z a0 h o "com/example/stablemate/stablemate/FlowNetwork" [("deadMark", "I", (.int (6 : Int32))), ("deadFrom", "I", (.int (-1 : Int32))), ("deadTo", "I", (.int (-1 : Int32))), ("heads", "[I", (.ref hd)), ("marks", "[I", (.ref r1)), ("cursors", "[I", (.ref r2)), ("searchPath", "[I", (.ref r3)), ("reached", "[I", (.ref r4)), ("distances", "[I", (.ref r5)), ("deadMarks", "[I", (.ref r6)), ("nexts", "[I", (.ref nx)), ("targets", "[I", (.ref tg)), ("capacities", "[J", (.ref cp)), ("residuals", "[J", (.ref rs)), ("arcs", "I", (.int (4 : Int32)))] ∧ own_JA Z h cp (own_L4 c0 c1 c2 c3) ∧ own_JA Z h rs (own_L4 (e0 - e0) (e1 + e0) e2 e3))) (T.setTop (mkF m 12 #[.val (.ref o), .val (.ref pa)] [(.long e0)]))
  exact own_lreturn C X own_d11_12 (Nat.le_of_ble_eq_true rfl) (Nat.le_of_ble_eq_true rfl) (⟨rfl, KK, O, P, S⟩)
theorem own_ef_ag3_1 (o : Addr) (pa : Addr) (m : MethodId) : entryFrame m #[(.ref o), (.ref pa), (.int (0 : Int32)), (.int (1 : Int32))] 7 = mkF m 0 #[.val (.ref o), .val (.ref pa), .val (.int (0 : Int32)), .val (.int (1 : Int32)), .unset, .unset, .unset] [] := by first | (simp [entryFrame, mkF, argsToLocals, Value.category]; done) | rfl
set_option maxRecDepth 65536 in
set_option maxHeartbeats 40000000 in
theorem own_m_ag3_1 (l : Launch) (Z : State) (a0 : Array Value) (hw : ∀ d ∈ tables_1, d.before a0 Z = true) (o : Addr) (pa : Addr) (h0 : Heap) (n0 : Nat) (hn0 : n0 ≤ h0.size) (hd r1 r2 r3 r4 r5 r6 nx tg cp rs : Addr) (dm : Int32) (c0 c1 c2 c3 e0 e1 e2 e3 : Int64) (O : own_Ob Z a0 h0 o "com/example/stablemate/stablemate/FlowNetwork" [("deadMark", "I", (.int dm)), ("deadFrom", "I", (.int (-1 : Int32))), ("deadTo", "I", (.int (-1 : Int32))), ("heads", "[I", (.ref hd)), ("marks", "[I", (.ref r1)), ("cursors", "[I", (.ref r2)), ("searchPath", "[I", (.ref r3)), ("reached", "[I", (.ref r4)), ("distances", "[I", (.ref r5)), ("deadMarks", "[I", (.ref r6)), ("nexts", "[I", (.ref nx)), ("targets", "[I", (.ref tg)), ("capacities", "[J", (.ref cp)), ("residuals", "[J", (.ref rs)), ("arcs", "I", (.int (4 : Int32)))]) (P : own_JA Z h0 cp (own_L4 c0 c1 c2 c3)) (S : own_JA Z h0 rs (own_L4 e0 e1 e2 e3)) (B : own_IA Z h0 pa .int [(1 : Int32)]) (ge_o : n0 ≤ o) (ge_cp : n0 ≤ cp) (ge_rs : n0 ≤ rs) (ne_o_cp : o ≠ cp) (ne_o_rs : o ≠ rs) (ne_cp_rs : cp ≠ rs) (ne_rs_pa : rs ≠ pa) (ho : ¬ ((e0 ^^^ (e0 + e1)) &&& (e1 ^^^ (e0 + e1))) < 0) : own_Met l Z n0 (⟨"com/example/stablemate/stablemate/FlowNetwork", "augment", "([III)J"⟩ : MethodName) prog_12_method_25_code 7 (some .long) [] ({ frames := 1, cells := 0, slots := 0, locals := 40 } : Room) #[(.ref o), (.ref pa), (.int (0 : Int32)), (.int (1 : Int32))] h0 (fun v h => v = some (.long e1) ∧ Keep h0 h [o, cp, rs] ∧ own_Ob Z a0 h o "com/example/stablemate/stablemate/FlowNetwork" [("deadMark", "I", (.int dm)), ("deadFrom", "I", (.int (-1 : Int32))), ("deadTo", "I", (.int (-1 : Int32))), ("heads", "[I", (.ref hd)), ("marks", "[I", (.ref r1)), ("cursors", "[I", (.ref r2)), ("searchPath", "[I", (.ref r3)), ("reached", "[I", (.ref r4)), ("distances", "[I", (.ref r5)), ("deadMarks", "[I", (.ref r6)), ("nexts", "[I", (.ref nx)), ("targets", "[I", (.ref tg)), ("capacities", "[J", (.ref cp)), ("residuals", "[J", (.ref rs)), ("arcs", "I", (.int (4 : Int32)))] ∧ own_JA Z h cp (own_L4 c0 c1 c2 c3) ∧ own_JA Z h rs (own_L4 (e0 + e1) (e1 - e1) e2 e3)) := by
  refine own_body (plainFor_of_name own_pn_com_example_stablemate_stablemate_FlowNetwork) hn0 (own_ef_ag3_1 o pa) ?_
  intro p e s m below meth c T C X
  have KK := Keep.refl h0 [o, cp, rs]
  refine own_ldc2L C X own_d12_0 (hw _ (List.mem_of_getElem? (i := 88) rfl)) (pc' := 3) rfl ?_
  refine own_lstore C X own_d12_3 (L' := #[.val (.ref o), .val (.ref pa), .val (.int (0 : Int32)), .val (.int (1 : Int32)), .val (.long (9223372036854775807 : Int64)), .second, .unset]) rfl (pc' := 5) rfl ?_
  refine own_iloadN C X own_d12_5 rfl (pc' := 6) rfl ?_
  refine own_istore C X own_d12_6 (L' := #[.val (.ref o), .val (.ref pa), .val (.int (0 : Int32)), .val (.int (1 : Int32)), .val (.long (9223372036854775807 : Int64)), .second, .val (.int (0 : Int32))]) rfl (pc' := 8) rfl ?_
  refine own_iload C X own_d12_8 rfl (pc' := 10) rfl ?_
  refine own_iloadN C X own_d12_10 rfl (pc' := 11) rfl ?_
  refine own_icmp_ge C X own_d12_11 (pcT := 36) (pc' := 14) (by decide) (by decide) rfl (fun hc11 => absurd hc11 (by decide)) (fun hc11 => ?_)
  refine own_lload C X own_d12_14 rfl (pc' := 16) rfl ?_
  refine own_aloadN C X own_d12_16 rfl rfl (pc' := 17) rfl ?_
  refine own_getfield C X own_d12_17 (hw _ (List.mem_of_getElem? (i := 46) rfl)) O (i := 13) rfl (pc' := 20) rfl ?_
  intro T X
  refine own_aloadN C X own_d12_20 rfl rfl (pc' := 21) rfl ?_
  refine own_iload C X own_d12_21 rfl (pc' := 23) rfl ?_
  refine own_iaload C X own_d12_23 B (by decide) (i := 0) rfl (pc' := 24) rfl ?_
  refine own_laload C X own_d12_24 S (by decide) (i := 1) rfl (pc' := 25) rfl ?_
  refine own_callS C X own_d12_25 (own_m_min l Z a0 hw (9223372036854775807 : Int64) e1 _ n0 (own_big C X)) (hw _ (List.mem_of_getElem? (i := 89) rfl)) (hw _ (List.mem_of_getElem? (i := 90) rfl)) (hw _ (List.mem_of_getElem? (i := 37) rfl)) (hw _ (List.mem_of_getElem? (i := 91) rfl)) (by decide) own_pd_2762 rfl rfl (Nat.le_of_ble_eq_true rfl) (Nat.le_of_ble_eq_true rfl) (Nat.le_of_ble_eq_true rfl) (Nat.le_of_ble_eq_true rfl) (av := [(.long (9223372036854775807 : Int64)), (.long e1)]) (S := []) rfl (pc' := 28) rfl ?_
  intro T h v X hQ
  obtain ⟨rfl, rfl⟩ := hQ
  rw [own_minM]
  show own_Go p e below n0 (own_Fin ({ frames := 1, cells := 0, slots := 0, locals := 40 } : Room) s (fun v h => v = some (.long e1) ∧ Keep h0 h [o, cp, rs] ∧ own_Ob Z a0 h o "com/example/stablemate/stablemate/FlowNetwork" [("deadMark", "I", (.int dm)), ("deadFrom", "I", (.int (-1 : Int32))), ("deadTo", "I", (.int (-1 : Int32))), ("heads", "[I", (.ref hd)), ("marks", "[I", (.ref r1)), ("cursors", "[I", (.ref r2)), ("searchPath", "[I", (.ref r3)), ("reached", "[I", (.ref r4)), ("distances", "[I", (.ref r5)), ("deadMarks", "[I", (.ref r6)), ("nexts", "[I", (.ref nx)), ("targets", "[I", (.ref tg)), ("capacities", "[J", (.ref cp)), ("residuals", "[J", (.ref rs)), ("arcs", "I", (.int (4 : Int32)))] ∧ own_JA Z h cp (own_L4 c0 c1 c2 c3) ∧ own_JA Z h rs (own_L4 (e0 + e1) (e1 - e1) e2 e3))) (T.setTop (mkF m 28 #[.val (.ref o), .val (.ref pa), .val (.int (0 : Int32)), .val (.int (1 : Int32)), .val (.long (9223372036854775807 : Int64)), .second, .val (.int (0 : Int32))] [(.long e1)]))
  refine own_lstore C X own_d12_28 (L' := #[.val (.ref o), .val (.ref pa), .val (.int (0 : Int32)), .val (.int (1 : Int32)), .val (.long e1), .second, .val (.int (0 : Int32))]) rfl (pc' := 30) rfl ?_
  refine own_iinc C X own_d12_30 rfl (d := 1) (by decide) (z := 1) (by decide) (L' := #[.val (.ref o), .val (.ref pa), .val (.int (0 : Int32)), .val (.int (1 : Int32)), .val (.long e1), .second, .val (.int (1 : Int32))]) rfl (pc' := 33) rfl ?_
  refine own_goto C X own_d12_33 (pc' := 8) (by decide) (by decide) ?_
  refine own_iload C X own_d12_8 rfl (pc' := 10) rfl ?_
  refine own_iloadN C X own_d12_10 rfl (pc' := 11) rfl ?_
  refine own_icmp_ge C X own_d12_11 (pcT := 36) (pc' := 14) (by decide) (by decide) rfl (fun hc11_2 => ?_) (fun hc11_2 => absurd hc11_2 (by decide))
  refine own_iloadN C X own_d12_36 rfl (pc' := 37) rfl ?_
  refine own_istore C X own_d12_37 (L' := #[.val (.ref o), .val (.ref pa), .val (.int (0 : Int32)), .val (.int (1 : Int32)), .val (.long e1), .second, .val (.int (0 : Int32))]) rfl (pc' := 39) rfl ?_
  refine own_iload C X own_d12_39 rfl (pc' := 41) rfl ?_
  refine own_iloadN C X own_d12_41 rfl (pc' := 42) rfl ?_
  refine own_icmp_ge C X own_d12_42 (pcT := 92) (pc' := 45) (by decide) (by decide) rfl (fun hc42 => absurd hc42 (by decide)) (fun hc42 => ?_)
  refine own_aloadN C X own_d12_45 rfl rfl (pc' := 46) rfl ?_
  refine own_getfield C X own_d12_46 (hw _ (List.mem_of_getElem? (i := 46) rfl)) O (i := 13) rfl (pc' := 49) rfl ?_
  intro T X
  refine own_aloadN C X own_d12_49 rfl rfl (pc' := 50) rfl ?_
  refine own_iload C X own_d12_50 rfl (pc' := 52) rfl ?_
  refine own_iaload C X own_d12_52 B (by decide) (i := 0) rfl (pc' := 53) rfl ?_
  refine own_dup2 C X own_d12_53 rfl rfl (pc' := 54) rfl ?_
  refine own_laload C X own_d12_54 S (by decide) (i := 1) rfl (pc' := 55) rfl ?_
  refine own_lload C X own_d12_55 rfl (pc' := 57) rfl ?_
  refine own_lsub C X own_d12_57 rfl (pc' := 58) rfl ?_
  refine own_lastore C X own_d12_58 S (by decide) (i := 1) (Nat.le_of_ble_eq_true rfl) ge_rs (pc' := 59) rfl ?_
  intro T h X K_ S_
  have S : own_JA Z h rs (own_L4 e0 (e1 - e1) e2 e3) := S_
  have O := O.keep K_ (ninS ne_o_rs nin0)
  have P := P.keep K_ (ninS ne_cp_rs nin0)
  have B := B.keep K_ (ninS (Ne.symm ne_rs_pa) nin0)
  have KK := KK.trans K_ (allS (Or.inl (by simp)) all0)
  refine own_aloadN C X own_d12_59 rfl rfl (pc' := 60) rfl ?_
  refine own_getfield C X own_d12_60 (hw _ (List.mem_of_getElem? (i := 46) rfl)) O (i := 13) rfl (pc' := 63) rfl ?_
  intro T X
  refine own_aloadN C X own_d12_63 rfl rfl (pc' := 64) rfl ?_
  refine own_iload C X own_d12_64 rfl (pc' := 66) rfl ?_
  refine own_iaload C X own_d12_66 B (by decide) (i := 0) rfl (pc' := 67) rfl ?_
  refine own_iconst C X own_d12_67 (v := 1) (by decide) (pc' := 68) rfl ?_
  refine own_ixor C X own_d12_68 (z := 0) (by decide) (pc' := 69) rfl ?_
  refine own_aloadN C X own_d12_69 rfl rfl (pc' := 70) rfl ?_
  refine own_getfield C X own_d12_70 (hw _ (List.mem_of_getElem? (i := 46) rfl)) O (i := 13) rfl (pc' := 73) rfl ?_
  intro T X
  refine own_aloadN C X own_d12_73 rfl rfl (pc' := 74) rfl ?_
  refine own_iload C X own_d12_74 rfl (pc' := 76) rfl ?_
  refine own_iaload C X own_d12_76 B (by decide) (i := 0) rfl (pc' := 77) rfl ?_
  refine own_iconst C X own_d12_77 (v := 1) (by decide) (pc' := 78) rfl ?_
  refine own_ixor C X own_d12_78 (z := 0) (by decide) (pc' := 79) rfl ?_
  refine own_laload C X own_d12_79 S (by decide) (i := 0) rfl (pc' := 80) rfl ?_
  refine own_lload C X own_d12_80 rfl (pc' := 82) rfl ?_
  refine own_callS C X own_d12_82 (own_m_addx l Z a0 hw e0 e1 _ n0 (own_big C X) ho) (hw _ (List.mem_of_getElem? (i := 92) rfl)) (hw _ (List.mem_of_getElem? (i := 93) rfl)) (hw _ (List.mem_of_getElem? (i := 37) rfl)) (hw _ (List.mem_of_getElem? (i := 94) rfl)) (by decide) own_pd_2762 rfl rfl (Nat.le_of_ble_eq_true rfl) (Nat.le_of_ble_eq_true rfl) (Nat.le_of_ble_eq_true rfl) (Nat.le_of_ble_eq_true rfl) (av := [(.long e0), (.long e1)]) (S := [(.int (0 : Int32)), (.ref rs)]) rfl (pc' := 85) rfl ?_
  intro T h v X hQ
  obtain ⟨rfl, rfl⟩ := hQ
  show own_Go p e below n0 (own_Fin ({ frames := 1, cells := 0, slots := 0, locals := 40 } : Room) s (fun v h => v = some (.long e1) ∧ Keep h0 h [o, cp, rs] ∧ own_Ob Z a0 h o "com/example/stablemate/stablemate/FlowNetwork" [("deadMark", "I", (.int dm)), ("deadFrom", "I", (.int (-1 : Int32))), ("deadTo", "I", (.int (-1 : Int32))), ("heads", "[I", (.ref hd)), ("marks", "[I", (.ref r1)), ("cursors", "[I", (.ref r2)), ("searchPath", "[I", (.ref r3)), ("reached", "[I", (.ref r4)), ("distances", "[I", (.ref r5)), ("deadMarks", "[I", (.ref r6)), ("nexts", "[I", (.ref nx)), ("targets", "[I", (.ref tg)), ("capacities", "[J", (.ref cp)), ("residuals", "[J", (.ref rs)), ("arcs", "I", (.int (4 : Int32)))] ∧ own_JA Z h cp (own_L4 c0 c1 c2 c3) ∧ own_JA Z h rs (own_L4 (e0 + e1) (e1 - e1) e2 e3))) (T.setTop (mkF m 85 #[.val (.ref o), .val (.ref pa), .val (.int (0 : Int32)), .val (.int (1 : Int32)), .val (.long e1), .second, .val (.int (0 : Int32))] [(.long (e0 + e1)), (.int (0 : Int32)), (.ref rs)]))
  refine own_lastore C X own_d12_85 S (by decide) (i := 0) (Nat.le_of_ble_eq_true rfl) ge_rs (pc' := 86) rfl ?_
  intro T h X K_ S_
  have S : own_JA Z h rs (own_L4 (e0 + e1) (e1 - e1) e2 e3) := S_
  have O := O.keep K_ (ninS ne_o_rs nin0)
  have P := P.keep K_ (ninS ne_cp_rs nin0)
  have B := B.keep K_ (ninS (Ne.symm ne_rs_pa) nin0)
  have KK := KK.trans K_ (allS (Or.inl (by simp)) all0)
  refine own_iinc C X own_d12_86 rfl (d := 1) (by decide) (z := 1) (by decide) (L' := #[.val (.ref o), .val (.ref pa), .val (.int (0 : Int32)), .val (.int (1 : Int32)), .val (.long e1), .second, .val (.int (1 : Int32))]) rfl (pc' := 89) rfl ?_
  refine own_goto C X own_d12_89 (pc' := 39) (by decide) (by decide) ?_
  refine own_iload C X own_d12_39 rfl (pc' := 41) rfl ?_
  refine own_iloadN C X own_d12_41 rfl (pc' := 42) rfl ?_
  refine own_icmp_ge C X own_d12_42 (pcT := 92) (pc' := 45) (by decide) (by decide) rfl (fun hc42_2 => ?_) (fun hc42_2 => absurd hc42_2 (by decide))
  refine own_lload C X own_d12_92 rfl (pc' := 94) rfl ?_
  exact own_lreturn C X own_d12_94 (Nat.le_of_ble_eq_true rfl) (Nat.le_of_ble_eq_true rfl) (⟨rfl, KK, O, P, S⟩)
theorem own_ef_ag1_4 (o : Addr) (pa : Addr) (m : MethodId) : entryFrame m #[(.ref o), (.ref pa)] 2 = mkF m 0 #[.val (.ref o), .val (.ref pa)] [] := by first | (simp [entryFrame, mkF, argsToLocals, Value.category]; done) | rfl
set_option maxRecDepth 65536 in
set_option maxHeartbeats 40000000 in
theorem own_m_ag1_4 (l : Launch) (Z : State) (a0 : Array Value) (hw : ∀ d ∈ tables_1, d.before a0 Z = true) (o : Addr) (pa : Addr) (h0 : Heap) (n0 : Nat) (hn0 : n0 ≤ h0.size) (hd r1 r2 r3 r4 r5 r6 nx tg cp rs : Addr) (c0 c1 c2 c3 e0 e1 e2 e3 : Int64) (O : own_Ob Z a0 h0 o "com/example/stablemate/stablemate/FlowNetwork" [("deadMark", "I", (.int (4 : Int32))), ("deadFrom", "I", (.int (-1 : Int32))), ("deadTo", "I", (.int (-1 : Int32))), ("heads", "[I", (.ref hd)), ("marks", "[I", (.ref r1)), ("cursors", "[I", (.ref r2)), ("searchPath", "[I", (.ref r3)), ("reached", "[I", (.ref r4)), ("distances", "[I", (.ref r5)), ("deadMarks", "[I", (.ref r6)), ("nexts", "[I", (.ref nx)), ("targets", "[I", (.ref tg)), ("capacities", "[J", (.ref cp)), ("residuals", "[J", (.ref rs)), ("arcs", "I", (.int (4 : Int32)))]) (P : own_JA Z h0 cp (own_L4 c0 c1 c2 c3)) (S : own_JA Z h0 rs (own_L4 e0 e1 e2 e3)) (B : own_IA Z h0 pa .int [(1 : Int32)]) (ge_o : n0 ≤ o) (ge_cp : n0 ≤ cp) (ge_rs : n0 ≤ rs) (ne_o_cp : o ≠ cp) (ne_o_rs : o ≠ rs) (ne_cp_rs : cp ≠ rs) (ne_rs_pa : rs ≠ pa) (ne_o_pa : o ≠ pa) (ne_cp_pa : cp ≠ pa) (ho : ¬ ((e0 ^^^ (e0 + e1)) &&& (e1 ^^^ (e0 + e1))) < 0) : own_Met l Z n0 (⟨"com/example/stablemate/stablemate/FlowNetwork", "augment", "([I)J"⟩ : MethodName) prog_12_method_19_code 2 (some .long) [] ({ frames := 2, cells := 0, slots := 0, locals := 80 } : Room) #[(.ref o), (.ref pa)] h0 (fun v h => v = some (.long e1) ∧ Keep h0 h [o, cp, rs] ∧ own_Ob Z a0 h o "com/example/stablemate/stablemate/FlowNetwork" [("deadMark", "I", (.int (5 : Int32))), ("deadFrom", "I", (.int (-1 : Int32))), ("deadTo", "I", (.int (-1 : Int32))), ("heads", "[I", (.ref hd)), ("marks", "[I", (.ref r1)), ("cursors", "[I", (.ref r2)), ("searchPath", "[I", (.ref r3)), ("reached", "[I", (.ref r4)), ("distances", "[I", (.ref r5)), ("deadMarks", "[I", (.ref r6)), ("nexts", "[I", (.ref nx)), ("targets", "[I", (.ref tg)), ("capacities", "[J", (.ref cp)), ("residuals", "[J", (.ref rs)), ("arcs", "I", (.int (4 : Int32)))] ∧ own_JA Z h cp (own_L4 c0 c1 c2 c3) ∧ own_JA Z h rs (own_L4 (e0 + e1) (e1 - e1) e2 e3)) := by
  refine own_body (plainFor_of_name own_pn_com_example_stablemate_stablemate_FlowNetwork) hn0 (own_ef_ag1_4 o pa) ?_
  intro p e s m below meth c T C X
  have KK := Keep.refl h0 [o, cp, rs]
  refine own_aloadN C X own_d11_0 rfl rfl (pc' := 1) rfl ?_
  refine own_callP C X own_d11_1 (own_m_fd l Z a0 hw o _ n0 (own_big C X) hd r1 r2 r3 r4 r5 r6 nx tg cp rs (4 : Int32) (5 : Int32) (4 : Int32) (by decide) (by decide) O ge_o) O.1 (hw _ (List.mem_of_getElem? (i := 53) rfl)) (hw _ (List.mem_of_getElem? (i := 3) rfl)) (hw _ (List.mem_of_getElem? (i := 55) rfl)) (hw _ (List.mem_of_getElem? (i := 54) rfl)) (hw _ (List.mem_of_getElem? (i := 4) rfl)) (hw _ (List.mem_of_getElem? (i := 56) rfl)) (by decide) own_pd_1382 rfl rfl (Nat.le_of_ble_eq_true rfl) (Nat.le_of_ble_eq_true rfl) (Nat.le_of_ble_eq_true rfl) (Nat.le_of_ble_eq_true rfl) (av := []) (S := []) rfl (pc' := 4) rfl ?_
  intro T h v X hQ
  obtain ⟨rfl, K_, O⟩ := hQ
  have P := P.keep K_ (ninS (Ne.symm ne_o_cp) nin0)
  have S := S.keep K_ (ninS (Ne.symm ne_o_rs) nin0)
  have B := B.keep K_ (ninS (Ne.symm ne_o_pa) nin0)
  have KK := KK.trans K_ (allS (Or.inl (by simp)) all0)
  show own_Go p e below n0 (own_Fin ({ frames := 2, cells := 0, slots := 0, locals := 80 } : Room) s (fun v h => v = some (.long e1) ∧ Keep h0 h [o, cp, rs] ∧ own_Ob Z a0 h o "com/example/stablemate/stablemate/FlowNetwork" [("deadMark", "I", (.int (5 : Int32))), ("deadFrom", "I", (.int (-1 : Int32))), ("deadTo", "I", (.int (-1 : Int32))), ("heads", "[I", (.ref hd)), ("marks", "[I", (.ref r1)), ("cursors", "[I", (.ref r2)), ("searchPath", "[I", (.ref r3)), ("reached", "[I", (.ref r4)), ("distances", "[I", (.ref r5)), ("deadMarks", "[I", (.ref r6)), ("nexts", "[I", (.ref nx)), ("targets", "[I", (.ref tg)), ("capacities", "[J", (.ref cp)), ("residuals", "[J", (.ref rs)), ("arcs", "I", (.int (4 : Int32)))] ∧ own_JA Z h cp (own_L4 c0 c1 c2 c3) ∧ own_JA Z h rs (own_L4 (e0 + e1) (e1 - e1) e2 e3))) (T.setTop (mkF m 4 #[.val (.ref o), .val (.ref pa)] []))
  refine own_aloadN C X own_d11_4 rfl rfl (pc' := 5) rfl ?_
  refine own_aloadN C X own_d11_5 rfl rfl (pc' := 6) rfl ?_
  refine own_iconst C X own_d11_6 (v := 0) (by decide) (pc' := 7) rfl ?_
  refine own_aloadN C X own_d11_7 rfl rfl (pc' := 8) rfl ?_
  refine own_alenI C X own_d11_8 (n := 1) B rfl (pc' := 9) rfl ?_
  refine own_callP C X own_d11_9 (own_m_ag3_1 l Z a0 hw o pa _ n0 (own_big C X) hd r1 r2 r3 r4 r5 r6 nx tg cp rs (5 : Int32) c0 c1 c2 c3 e0 e1 e2 e3 O P S B ge_o ge_cp ge_rs ne_o_cp ne_o_rs ne_cp_rs ne_rs_pa ho) O.1 (hw _ (List.mem_of_getElem? (i := 84) rfl)) (hw _ (List.mem_of_getElem? (i := 3) rfl)) (hw _ (List.mem_of_getElem? (i := 86) rfl)) (hw _ (List.mem_of_getElem? (i := 85) rfl)) (hw _ (List.mem_of_getElem? (i := 4) rfl)) (hw _ (List.mem_of_getElem? (i := 87) rfl)) (by decide) own_pd_4652 rfl rfl (Nat.le_of_ble_eq_true rfl) (Nat.le_of_ble_eq_true rfl) (Nat.le_of_ble_eq_true rfl) (Nat.le_of_ble_eq_true rfl) (av := [(.ref pa), (.int (0 : Int32)), (.int (1 : Int32))]) (S := []) rfl (pc' := 12) rfl ?_
  intro T h v X hQ
  obtain ⟨rfl, K_, O, P, S⟩ := hQ
  have KK := KK.trans K_ (allS (Or.inl (by simp)) (allS (Or.inl (by simp)) (allS (Or.inl (by simp)) all0)))
  show own_Go p e below n0 (own_Fin ({ frames := 2, cells := 0, slots := 0, locals := 80 } : Room) s (fun v h => v = some (.long e1) ∧ Keep h0 h [o, cp, rs] ∧ own_Ob Z a0 h o "com/example/stablemate/stablemate/FlowNetwork" [("deadMark", "I", (.int (5 : Int32))), ("deadFrom", "I", (.int (-1 : Int32))), ("deadTo", "I", (.int (-1 : Int32))), ("heads", "[I", (.ref hd)), ("marks", "[I", (.ref r1)), ("cursors", "[I", (.ref r2)), ("searchPath", "[I", (.ref r3)), ("reached", "[I", (.ref r4)), ("distances", "[I", (.ref r5)), ("deadMarks", "[I", (.ref r6)), ("nexts", "[I", (.ref nx)), ("targets", "[I", (.ref tg)), ("capacities", "[J", (.ref cp)), ("residuals", "[J", (.ref rs)), ("arcs", "I", (.int (4 : Int32)))] ∧ own_JA Z h cp (own_L4 c0 c1 c2 c3) ∧ own_JA Z h rs (own_L4 (e0 + e1) (e1 - e1) e2 e3))) (T.setTop (mkF m 12 #[.val (.ref o), .val (.ref pa)] [(.long e1)]))
  exact own_lreturn C X own_d11_12 (Nat.le_of_ble_eq_true rfl) (Nat.le_of_ble_eq_true rfl) (⟨rfl, KK, O, P, S⟩)
theorem own_ef_ag1_5 (o : Addr) (pa : Addr) (m : MethodId) : entryFrame m #[(.ref o), (.ref pa)] 2 = mkF m 0 #[.val (.ref o), .val (.ref pa)] [] := by first | (simp [entryFrame, mkF, argsToLocals, Value.category]; done) | rfl
set_option maxRecDepth 65536 in
set_option maxHeartbeats 40000000 in
theorem own_m_ag1_5 (l : Launch) (Z : State) (a0 : Array Value) (hw : ∀ d ∈ tables_1, d.before a0 Z = true) (o : Addr) (pa : Addr) (h0 : Heap) (n0 : Nat) (hn0 : n0 ≤ h0.size) (hd r1 r2 r3 r4 r5 r6 nx tg cp rs : Addr) (c0 c1 c2 c3 e0 e1 e2 e3 : Int64) (O : own_Ob Z a0 h0 o "com/example/stablemate/stablemate/FlowNetwork" [("deadMark", "I", (.int (5 : Int32))), ("deadFrom", "I", (.int (-1 : Int32))), ("deadTo", "I", (.int (-1 : Int32))), ("heads", "[I", (.ref hd)), ("marks", "[I", (.ref r1)), ("cursors", "[I", (.ref r2)), ("searchPath", "[I", (.ref r3)), ("reached", "[I", (.ref r4)), ("distances", "[I", (.ref r5)), ("deadMarks", "[I", (.ref r6)), ("nexts", "[I", (.ref nx)), ("targets", "[I", (.ref tg)), ("capacities", "[J", (.ref cp)), ("residuals", "[J", (.ref rs)), ("arcs", "I", (.int (4 : Int32)))]) (P : own_JA Z h0 cp (own_L4 c0 c1 c2 c3)) (S : own_JA Z h0 rs (own_L4 e0 e1 e2 e3)) (B : own_IA Z h0 pa .int [(1 : Int32)]) (ge_o : n0 ≤ o) (ge_cp : n0 ≤ cp) (ge_rs : n0 ≤ rs) (ne_o_cp : o ≠ cp) (ne_o_rs : o ≠ rs) (ne_cp_rs : cp ≠ rs) (ne_rs_pa : rs ≠ pa) (ne_o_pa : o ≠ pa) (ne_cp_pa : cp ≠ pa) (ho : ¬ ((e0 ^^^ (e0 + e1)) &&& (e1 ^^^ (e0 + e1))) < 0) : own_Met l Z n0 (⟨"com/example/stablemate/stablemate/FlowNetwork", "augment", "([I)J"⟩ : MethodName) prog_12_method_19_code 2 (some .long) [] ({ frames := 2, cells := 0, slots := 0, locals := 80 } : Room) #[(.ref o), (.ref pa)] h0 (fun v h => v = some (.long e1) ∧ Keep h0 h [o, cp, rs] ∧ own_Ob Z a0 h o "com/example/stablemate/stablemate/FlowNetwork" [("deadMark", "I", (.int (6 : Int32))), ("deadFrom", "I", (.int (-1 : Int32))), ("deadTo", "I", (.int (-1 : Int32))), ("heads", "[I", (.ref hd)), ("marks", "[I", (.ref r1)), ("cursors", "[I", (.ref r2)), ("searchPath", "[I", (.ref r3)), ("reached", "[I", (.ref r4)), ("distances", "[I", (.ref r5)), ("deadMarks", "[I", (.ref r6)), ("nexts", "[I", (.ref nx)), ("targets", "[I", (.ref tg)), ("capacities", "[J", (.ref cp)), ("residuals", "[J", (.ref rs)), ("arcs", "I", (.int (4 : Int32)))] ∧ own_JA Z h cp (own_L4 c0 c1 c2 c3) ∧ own_JA Z h rs (own_L4 (e0 + e1) (e1 - e1) e2 e3)) := by
  refine own_body (plainFor_of_name own_pn_com_example_stablemate_stablemate_FlowNetwork) hn0 (own_ef_ag1_5 o pa) ?_
  intro p e s m below meth c T C X
  have KK := Keep.refl h0 [o, cp, rs]
  refine own_aloadN C X own_d11_0 rfl rfl (pc' := 1) rfl ?_
  refine own_callP C X own_d11_1 (own_m_fd l Z a0 hw o _ n0 (own_big C X) hd r1 r2 r3 r4 r5 r6 nx tg cp rs (5 : Int32) (6 : Int32) (4 : Int32) (by decide) (by decide) O ge_o) O.1 (hw _ (List.mem_of_getElem? (i := 53) rfl)) (hw _ (List.mem_of_getElem? (i := 3) rfl)) (hw _ (List.mem_of_getElem? (i := 55) rfl)) (hw _ (List.mem_of_getElem? (i := 54) rfl)) (hw _ (List.mem_of_getElem? (i := 4) rfl)) (hw _ (List.mem_of_getElem? (i := 56) rfl)) (by decide) own_pd_1382 rfl rfl (Nat.le_of_ble_eq_true rfl) (Nat.le_of_ble_eq_true rfl) (Nat.le_of_ble_eq_true rfl) (Nat.le_of_ble_eq_true rfl) (av := []) (S := []) rfl (pc' := 4) rfl ?_
  intro T h v X hQ
  obtain ⟨rfl, K_, O⟩ := hQ
  have P := P.keep K_ (ninS (Ne.symm ne_o_cp) nin0)
  have S := S.keep K_ (ninS (Ne.symm ne_o_rs) nin0)
  have B := B.keep K_ (ninS (Ne.symm ne_o_pa) nin0)
  have KK := KK.trans K_ (allS (Or.inl (by simp)) all0)
  show own_Go p e below n0 (own_Fin ({ frames := 2, cells := 0, slots := 0, locals := 80 } : Room) s (fun v h => v = some (.long e1) ∧ Keep h0 h [o, cp, rs] ∧ own_Ob Z a0 h o "com/example/stablemate/stablemate/FlowNetwork" [("deadMark", "I", (.int (6 : Int32))), ("deadFrom", "I", (.int (-1 : Int32))), ("deadTo", "I", (.int (-1 : Int32))), ("heads", "[I", (.ref hd)), ("marks", "[I", (.ref r1)), ("cursors", "[I", (.ref r2)), ("searchPath", "[I", (.ref r3)), ("reached", "[I", (.ref r4)), ("distances", "[I", (.ref r5)), ("deadMarks", "[I", (.ref r6)), ("nexts", "[I", (.ref nx)), ("targets", "[I", (.ref tg)), ("capacities", "[J", (.ref cp)), ("residuals", "[J", (.ref rs)), ("arcs", "I", (.int (4 : Int32)))] ∧ own_JA Z h cp (own_L4 c0 c1 c2 c3) ∧ own_JA Z h rs (own_L4 (e0 + e1) (e1 - e1) e2 e3))) (T.setTop (mkF m 4 #[.val (.ref o), .val (.ref pa)] []))
  refine own_aloadN C X own_d11_4 rfl rfl (pc' := 5) rfl ?_
  refine own_aloadN C X own_d11_5 rfl rfl (pc' := 6) rfl ?_
  refine own_iconst C X own_d11_6 (v := 0) (by decide) (pc' := 7) rfl ?_
  refine own_aloadN C X own_d11_7 rfl rfl (pc' := 8) rfl ?_
  refine own_alenI C X own_d11_8 (n := 1) B rfl (pc' := 9) rfl ?_
  refine own_callP C X own_d11_9 (own_m_ag3_1 l Z a0 hw o pa _ n0 (own_big C X) hd r1 r2 r3 r4 r5 r6 nx tg cp rs (6 : Int32) c0 c1 c2 c3 e0 e1 e2 e3 O P S B ge_o ge_cp ge_rs ne_o_cp ne_o_rs ne_cp_rs ne_rs_pa ho) O.1 (hw _ (List.mem_of_getElem? (i := 84) rfl)) (hw _ (List.mem_of_getElem? (i := 3) rfl)) (hw _ (List.mem_of_getElem? (i := 86) rfl)) (hw _ (List.mem_of_getElem? (i := 85) rfl)) (hw _ (List.mem_of_getElem? (i := 4) rfl)) (hw _ (List.mem_of_getElem? (i := 87) rfl)) (by decide) own_pd_4652 rfl rfl (Nat.le_of_ble_eq_true rfl) (Nat.le_of_ble_eq_true rfl) (Nat.le_of_ble_eq_true rfl) (Nat.le_of_ble_eq_true rfl) (av := [(.ref pa), (.int (0 : Int32)), (.int (1 : Int32))]) (S := []) rfl (pc' := 12) rfl ?_
  intro T h v X hQ
  obtain ⟨rfl, K_, O, P, S⟩ := hQ
  have KK := KK.trans K_ (allS (Or.inl (by simp)) (allS (Or.inl (by simp)) (allS (Or.inl (by simp)) all0)))
  show own_Go p e below n0 (own_Fin ({ frames := 2, cells := 0, slots := 0, locals := 80 } : Room) s (fun v h => v = some (.long e1) ∧ Keep h0 h [o, cp, rs] ∧ own_Ob Z a0 h o "com/example/stablemate/stablemate/FlowNetwork" [("deadMark", "I", (.int (6 : Int32))), ("deadFrom", "I", (.int (-1 : Int32))), ("deadTo", "I", (.int (-1 : Int32))), ("heads", "[I", (.ref hd)), ("marks", "[I", (.ref r1)), ("cursors", "[I", (.ref r2)), ("searchPath", "[I", (.ref r3)), ("reached", "[I", (.ref r4)), ("distances", "[I", (.ref r5)), ("deadMarks", "[I", (.ref r6)), ("nexts", "[I", (.ref nx)), ("targets", "[I", (.ref tg)), ("capacities", "[J", (.ref cp)), ("residuals", "[J", (.ref rs)), ("arcs", "I", (.int (4 : Int32)))] ∧ own_JA Z h cp (own_L4 c0 c1 c2 c3) ∧ own_JA Z h rs (own_L4 (e0 + e1) (e1 - e1) e2 e3))) (T.setTop (mkF m 12 #[.val (.ref o), .val (.ref pa)] [(.long e1)]))
  exact own_lreturn C X own_d11_12 (Nat.le_of_ble_eq_true rfl) (Nat.le_of_ble_eq_true rfl) (⟨rfl, KK, O, P, S⟩)
theorem own_ef_ag3_2 (o : Addr) (pa : Addr) (m : MethodId) : entryFrame m #[(.ref o), (.ref pa), (.int (0 : Int32)), (.int (1 : Int32))] 7 = mkF m 0 #[.val (.ref o), .val (.ref pa), .val (.int (0 : Int32)), .val (.int (1 : Int32)), .unset, .unset, .unset] [] := by first | (simp [entryFrame, mkF, argsToLocals, Value.category]; done) | rfl
set_option maxRecDepth 65536 in
set_option maxHeartbeats 40000000 in
theorem own_m_ag3_2 (l : Launch) (Z : State) (a0 : Array Value) (hw : ∀ d ∈ tables_1, d.before a0 Z = true) (o : Addr) (pa : Addr) (h0 : Heap) (n0 : Nat) (hn0 : n0 ≤ h0.size) (hd r1 r2 r3 r4 r5 r6 nx tg cp rs : Addr) (dm : Int32) (c0 c1 c2 c3 e0 e1 e2 e3 : Int64) (O : own_Ob Z a0 h0 o "com/example/stablemate/stablemate/FlowNetwork" [("deadMark", "I", (.int dm)), ("deadFrom", "I", (.int (-1 : Int32))), ("deadTo", "I", (.int (-1 : Int32))), ("heads", "[I", (.ref hd)), ("marks", "[I", (.ref r1)), ("cursors", "[I", (.ref r2)), ("searchPath", "[I", (.ref r3)), ("reached", "[I", (.ref r4)), ("distances", "[I", (.ref r5)), ("deadMarks", "[I", (.ref r6)), ("nexts", "[I", (.ref nx)), ("targets", "[I", (.ref tg)), ("capacities", "[J", (.ref cp)), ("residuals", "[J", (.ref rs)), ("arcs", "I", (.int (4 : Int32)))]) (P : own_JA Z h0 cp (own_L4 c0 c1 c2 c3)) (S : own_JA Z h0 rs (own_L4 e0 e1 e2 e3)) (B : own_IA Z h0 pa .int [(2 : Int32)]) (ge_o : n0 ≤ o) (ge_cp : n0 ≤ cp) (ge_rs : n0 ≤ rs) (ne_o_cp : o ≠ cp) (ne_o_rs : o ≠ rs) (ne_cp_rs : cp ≠ rs) (ne_rs_pa : rs ≠ pa) (ho : ¬ ((e3 ^^^ (e3 + e2)) &&& (e2 ^^^ (e3 + e2))) < 0) : own_Met l Z n0 (⟨"com/example/stablemate/stablemate/FlowNetwork", "augment", "([III)J"⟩ : MethodName) prog_12_method_25_code 7 (some .long) [] ({ frames := 1, cells := 0, slots := 0, locals := 40 } : Room) #[(.ref o), (.ref pa), (.int (0 : Int32)), (.int (1 : Int32))] h0 (fun v h => v = some (.long e2) ∧ Keep h0 h [o, cp, rs] ∧ own_Ob Z a0 h o "com/example/stablemate/stablemate/FlowNetwork" [("deadMark", "I", (.int dm)), ("deadFrom", "I", (.int (-1 : Int32))), ("deadTo", "I", (.int (-1 : Int32))), ("heads", "[I", (.ref hd)), ("marks", "[I", (.ref r1)), ("cursors", "[I", (.ref r2)), ("searchPath", "[I", (.ref r3)), ("reached", "[I", (.ref r4)), ("distances", "[I", (.ref r5)), ("deadMarks", "[I", (.ref r6)), ("nexts", "[I", (.ref nx)), ("targets", "[I", (.ref tg)), ("capacities", "[J", (.ref cp)), ("residuals", "[J", (.ref rs)), ("arcs", "I", (.int (4 : Int32)))] ∧ own_JA Z h cp (own_L4 c0 c1 c2 c3) ∧ own_JA Z h rs (own_L4 e0 e1 (e2 - e2) (e3 + e2))) := by
  refine own_body (plainFor_of_name own_pn_com_example_stablemate_stablemate_FlowNetwork) hn0 (own_ef_ag3_2 o pa) ?_
  intro p e s m below meth c T C X
  have KK := Keep.refl h0 [o, cp, rs]
  refine own_ldc2L C X own_d12_0 (hw _ (List.mem_of_getElem? (i := 88) rfl)) (pc' := 3) rfl ?_
  refine own_lstore C X own_d12_3 (L' := #[.val (.ref o), .val (.ref pa), .val (.int (0 : Int32)), .val (.int (1 : Int32)), .val (.long (9223372036854775807 : Int64)), .second, .unset]) rfl (pc' := 5) rfl ?_
  refine own_iloadN C X own_d12_5 rfl (pc' := 6) rfl ?_
  refine own_istore C X own_d12_6 (L' := #[.val (.ref o), .val (.ref pa), .val (.int (0 : Int32)), .val (.int (1 : Int32)), .val (.long (9223372036854775807 : Int64)), .second, .val (.int (0 : Int32))]) rfl (pc' := 8) rfl ?_
  refine own_iload C X own_d12_8 rfl (pc' := 10) rfl ?_
  refine own_iloadN C X own_d12_10 rfl (pc' := 11) rfl ?_
  refine own_icmp_ge C X own_d12_11 (pcT := 36) (pc' := 14) (by decide) (by decide) rfl (fun hc11 => absurd hc11 (by decide)) (fun hc11 => ?_)
  refine own_lload C X own_d12_14 rfl (pc' := 16) rfl ?_
  refine own_aloadN C X own_d12_16 rfl rfl (pc' := 17) rfl ?_
  refine own_getfield C X own_d12_17 (hw _ (List.mem_of_getElem? (i := 46) rfl)) O (i := 13) rfl (pc' := 20) rfl ?_
  intro T X
  refine own_aloadN C X own_d12_20 rfl rfl (pc' := 21) rfl ?_
  refine own_iload C X own_d12_21 rfl (pc' := 23) rfl ?_
  refine own_iaload C X own_d12_23 B (by decide) (i := 0) rfl (pc' := 24) rfl ?_
  refine own_laload C X own_d12_24 S (by decide) (i := 2) rfl (pc' := 25) rfl ?_
  refine own_callS C X own_d12_25 (own_m_min l Z a0 hw (9223372036854775807 : Int64) e2 _ n0 (own_big C X)) (hw _ (List.mem_of_getElem? (i := 89) rfl)) (hw _ (List.mem_of_getElem? (i := 90) rfl)) (hw _ (List.mem_of_getElem? (i := 37) rfl)) (hw _ (List.mem_of_getElem? (i := 91) rfl)) (by decide) own_pd_2762 rfl rfl (Nat.le_of_ble_eq_true rfl) (Nat.le_of_ble_eq_true rfl) (Nat.le_of_ble_eq_true rfl) (Nat.le_of_ble_eq_true rfl) (av := [(.long (9223372036854775807 : Int64)), (.long e2)]) (S := []) rfl (pc' := 28) rfl ?_
  intro T h v X hQ
  obtain ⟨rfl, rfl⟩ := hQ
  rw [own_minM]
  show own_Go p e below n0 (own_Fin ({ frames := 1, cells := 0, slots := 0, locals := 40 } : Room) s (fun v h => v = some (.long e2) ∧ Keep h0 h [o, cp, rs] ∧ own_Ob Z a0 h o "com/example/stablemate/stablemate/FlowNetwork" [("deadMark", "I", (.int dm)), ("deadFrom", "I", (.int (-1 : Int32))), ("deadTo", "I", (.int (-1 : Int32))), ("heads", "[I", (.ref hd)), ("marks", "[I", (.ref r1)), ("cursors", "[I", (.ref r2)), ("searchPath", "[I", (.ref r3)), ("reached", "[I", (.ref r4)), ("distances", "[I", (.ref r5)), ("deadMarks", "[I", (.ref r6)), ("nexts", "[I", (.ref nx)), ("targets", "[I", (.ref tg)), ("capacities", "[J", (.ref cp)), ("residuals", "[J", (.ref rs)), ("arcs", "I", (.int (4 : Int32)))] ∧ own_JA Z h cp (own_L4 c0 c1 c2 c3) ∧ own_JA Z h rs (own_L4 e0 e1 (e2 - e2) (e3 + e2)))) (T.setTop (mkF m 28 #[.val (.ref o), .val (.ref pa), .val (.int (0 : Int32)), .val (.int (1 : Int32)), .val (.long (9223372036854775807 : Int64)), .second, .val (.int (0 : Int32))] [(.long e2)]))
  refine own_lstore C X own_d12_28 (L' := #[.val (.ref o), .val (.ref pa), .val (.int (0 : Int32)), .val (.int (1 : Int32)), .val (.long e2), .second, .val (.int (0 : Int32))]) rfl (pc' := 30) rfl ?_
  refine own_iinc C X own_d12_30 rfl (d := 1) (by decide) (z := 1) (by decide) (L' := #[.val (.ref o), .val (.ref pa), .val (.int (0 : Int32)), .val (.int (1 : Int32)), .val (.long e2), .second, .val (.int (1 : Int32))]) rfl (pc' := 33) rfl ?_
  refine own_goto C X own_d12_33 (pc' := 8) (by decide) (by decide) ?_
  refine own_iload C X own_d12_8 rfl (pc' := 10) rfl ?_
  refine own_iloadN C X own_d12_10 rfl (pc' := 11) rfl ?_
  refine own_icmp_ge C X own_d12_11 (pcT := 36) (pc' := 14) (by decide) (by decide) rfl (fun hc11_2 => ?_) (fun hc11_2 => absurd hc11_2 (by decide))
  refine own_iloadN C X own_d12_36 rfl (pc' := 37) rfl ?_
  refine own_istore C X own_d12_37 (L' := #[.val (.ref o), .val (.ref pa), .val (.int (0 : Int32)), .val (.int (1 : Int32)), .val (.long e2), .second, .val (.int (0 : Int32))]) rfl (pc' := 39) rfl ?_
  refine own_iload C X own_d12_39 rfl (pc' := 41) rfl ?_
  refine own_iloadN C X own_d12_41 rfl (pc' := 42) rfl ?_
  refine own_icmp_ge C X own_d12_42 (pcT := 92) (pc' := 45) (by decide) (by decide) rfl (fun hc42 => absurd hc42 (by decide)) (fun hc42 => ?_)
  refine own_aloadN C X own_d12_45 rfl rfl (pc' := 46) rfl ?_
  refine own_getfield C X own_d12_46 (hw _ (List.mem_of_getElem? (i := 46) rfl)) O (i := 13) rfl (pc' := 49) rfl ?_
  intro T X
  refine own_aloadN C X own_d12_49 rfl rfl (pc' := 50) rfl ?_
  refine own_iload C X own_d12_50 rfl (pc' := 52) rfl ?_
  refine own_iaload C X own_d12_52 B (by decide) (i := 0) rfl (pc' := 53) rfl ?_
  refine own_dup2 C X own_d12_53 rfl rfl (pc' := 54) rfl ?_
  refine own_laload C X own_d12_54 S (by decide) (i := 2) rfl (pc' := 55) rfl ?_
  refine own_lload C X own_d12_55 rfl (pc' := 57) rfl ?_
  refine own_lsub C X own_d12_57 rfl (pc' := 58) rfl ?_
  refine own_lastore C X own_d12_58 S (by decide) (i := 2) (Nat.le_of_ble_eq_true rfl) ge_rs (pc' := 59) rfl ?_
  intro T h X K_ S_
  have S : own_JA Z h rs (own_L4 e0 e1 (e2 - e2) e3) := S_
  have O := O.keep K_ (ninS ne_o_rs nin0)
  have P := P.keep K_ (ninS ne_cp_rs nin0)
  have B := B.keep K_ (ninS (Ne.symm ne_rs_pa) nin0)
  have KK := KK.trans K_ (allS (Or.inl (by simp)) all0)
  refine own_aloadN C X own_d12_59 rfl rfl (pc' := 60) rfl ?_
  refine own_getfield C X own_d12_60 (hw _ (List.mem_of_getElem? (i := 46) rfl)) O (i := 13) rfl (pc' := 63) rfl ?_
  intro T X
  refine own_aloadN C X own_d12_63 rfl rfl (pc' := 64) rfl ?_
  refine own_iload C X own_d12_64 rfl (pc' := 66) rfl ?_
  refine own_iaload C X own_d12_66 B (by decide) (i := 0) rfl (pc' := 67) rfl ?_
  refine own_iconst C X own_d12_67 (v := 1) (by decide) (pc' := 68) rfl ?_
  refine own_ixor C X own_d12_68 (z := 3) (by decide) (pc' := 69) rfl ?_
  refine own_aloadN C X own_d12_69 rfl rfl (pc' := 70) rfl ?_
  refine own_getfield C X own_d12_70 (hw _ (List.mem_of_getElem? (i := 46) rfl)) O (i := 13) rfl (pc' := 73) rfl ?_
  intro T X
  refine own_aloadN C X own_d12_73 rfl rfl (pc' := 74) rfl ?_
  refine own_iload C X own_d12_74 rfl (pc' := 76) rfl ?_
  refine own_iaload C X own_d12_76 B (by decide) (i := 0) rfl (pc' := 77) rfl ?_
  refine own_iconst C X own_d12_77 (v := 1) (by decide) (pc' := 78) rfl ?_
  refine own_ixor C X own_d12_78 (z := 3) (by decide) (pc' := 79) rfl ?_
  refine own_laload C X own_d12_79 S (by decide) (i := 3) rfl (pc' := 80) rfl ?_
  refine own_lload C X own_d12_80 rfl (pc' := 82) rfl ?_
  refine own_callS C X own_d12_82 (own_m_addx l Z a0 hw e3 e2 _ n0 (own_big C X) ho) (hw _ (List.mem_of_getElem? (i := 92) rfl)) (hw _ (List.mem_of_getElem? (i := 93) rfl)) (hw _ (List.mem_of_getElem? (i := 37) rfl)) (hw _ (List.mem_of_getElem? (i := 94) rfl)) (by decide) own_pd_2762 rfl rfl (Nat.le_of_ble_eq_true rfl) (Nat.le_of_ble_eq_true rfl) (Nat.le_of_ble_eq_true rfl) (Nat.le_of_ble_eq_true rfl) (av := [(.long e3), (.long e2)]) (S := [(.int (3 : Int32)), (.ref rs)]) rfl (pc' := 85) rfl ?_
  intro T h v X hQ
  obtain ⟨rfl, rfl⟩ := hQ
  show own_Go p e below n0 (own_Fin ({ frames := 1, cells := 0, slots := 0, locals := 40 } : Room) s (fun v h => v = some (.long e2) ∧ Keep h0 h [o, cp, rs] ∧ own_Ob Z a0 h o "com/example/stablemate/stablemate/FlowNetwork" [("deadMark", "I", (.int dm)), ("deadFrom", "I", (.int (-1 : Int32))), ("deadTo", "I", (.int (-1 : Int32))), ("heads", "[I", (.ref hd)), ("marks", "[I", (.ref r1)), ("cursors", "[I", (.ref r2)), ("searchPath", "[I", (.ref r3)), ("reached", "[I", (.ref r4)), ("distances", "[I", (.ref r5)), ("deadMarks", "[I", (.ref r6)), ("nexts", "[I", (.ref nx)), ("targets", "[I", (.ref tg)), ("capacities", "[J", (.ref cp)), ("residuals", "[J", (.ref rs)), ("arcs", "I", (.int (4 : Int32)))] ∧ own_JA Z h cp (own_L4 c0 c1 c2 c3) ∧ own_JA Z h rs (own_L4 e0 e1 (e2 - e2) (e3 + e2)))) (T.setTop (mkF m 85 #[.val (.ref o), .val (.ref pa), .val (.int (0 : Int32)), .val (.int (1 : Int32)), .val (.long e2), .second, .val (.int (0 : Int32))] [(.long (e3 + e2)), (.int (3 : Int32)), (.ref rs)]))
  refine own_lastore C X own_d12_85 S (by decide) (i := 3) (Nat.le_of_ble_eq_true rfl) ge_rs (pc' := 86) rfl ?_
  intro T h X K_ S_
  have S : own_JA Z h rs (own_L4 e0 e1 (e2 - e2) (e3 + e2)) := S_
  have O := O.keep K_ (ninS ne_o_rs nin0)
  have P := P.keep K_ (ninS ne_cp_rs nin0)
  have B := B.keep K_ (ninS (Ne.symm ne_rs_pa) nin0)
  have KK := KK.trans K_ (allS (Or.inl (by simp)) all0)
  refine own_iinc C X own_d12_86 rfl (d := 1) (by decide) (z := 1) (by decide) (L' := #[.val (.ref o), .val (.ref pa), .val (.int (0 : Int32)), .val (.int (1 : Int32)), .val (.long e2), .second, .val (.int (1 : Int32))]) rfl (pc' := 89) rfl ?_
  refine own_goto C X own_d12_89 (pc' := 39) (by decide) (by decide) ?_
  refine own_iload C X own_d12_39 rfl (pc' := 41) rfl ?_
  refine own_iloadN C X own_d12_41 rfl (pc' := 42) rfl ?_
  refine own_icmp_ge C X own_d12_42 (pcT := 92) (pc' := 45) (by decide) (by decide) rfl (fun hc42_2 => ?_) (fun hc42_2 => absurd hc42_2 (by decide))
  refine own_lload C X own_d12_92 rfl (pc' := 94) rfl ?_
  exact own_lreturn C X own_d12_94 (Nat.le_of_ble_eq_true rfl) (Nat.le_of_ble_eq_true rfl) (⟨rfl, KK, O, P, S⟩)
theorem own_ef_ag2_6 (o : Addr) (pa : Addr) (m : MethodId) : entryFrame m #[(.ref o), (.ref pa)] 2 = mkF m 0 #[.val (.ref o), .val (.ref pa)] [] := by first | (simp [entryFrame, mkF, argsToLocals, Value.category]; done) | rfl
set_option maxRecDepth 65536 in
set_option maxHeartbeats 40000000 in
theorem own_m_ag2_6 (l : Launch) (Z : State) (a0 : Array Value) (hw : ∀ d ∈ tables_1, d.before a0 Z = true) (o : Addr) (pa : Addr) (h0 : Heap) (n0 : Nat) (hn0 : n0 ≤ h0.size) (hd r1 r2 r3 r4 r5 r6 nx tg cp rs : Addr) (c0 c1 c2 c3 e0 e1 e2 e3 : Int64) (O : own_Ob Z a0 h0 o "com/example/stablemate/stablemate/FlowNetwork" [("deadMark", "I", (.int (6 : Int32))), ("deadFrom", "I", (.int (-1 : Int32))), ("deadTo", "I", (.int (-1 : Int32))), ("heads", "[I", (.ref hd)), ("marks", "[I", (.ref r1)), ("cursors", "[I", (.ref r2)), ("searchPath", "[I", (.ref r3)), ("reached", "[I", (.ref r4)), ("distances", "[I", (.ref r5)), ("deadMarks", "[I", (.ref r6)), ("nexts", "[I", (.ref nx)), ("targets", "[I", (.ref tg)), ("capacities", "[J", (.ref cp)), ("residuals", "[J", (.ref rs)), ("arcs", "I", (.int (4 : Int32)))]) (P : own_JA Z h0 cp (own_L4 c0 c1 c2 c3)) (S : own_JA Z h0 rs (own_L4 e0 e1 e2 e3)) (B : own_IA Z h0 pa .int [(2 : Int32)]) (ge_o : n0 ≤ o) (ge_cp : n0 ≤ cp) (ge_rs : n0 ≤ rs) (ne_o_cp : o ≠ cp) (ne_o_rs : o ≠ rs) (ne_cp_rs : cp ≠ rs) (ne_rs_pa : rs ≠ pa) (ne_o_pa : o ≠ pa) (ne_cp_pa : cp ≠ pa) (ho : ¬ ((e3 ^^^ (e3 + e2)) &&& (e2 ^^^ (e3 + e2))) < 0) : own_Met l Z n0 (⟨"com/example/stablemate/stablemate/FlowNetwork", "augment", "([I)J"⟩ : MethodName) prog_12_method_19_code 2 (some .long) [] ({ frames := 2, cells := 0, slots := 0, locals := 80 } : Room) #[(.ref o), (.ref pa)] h0 (fun v h => v = some (.long e2) ∧ Keep h0 h [o, cp, rs] ∧ own_Ob Z a0 h o "com/example/stablemate/stablemate/FlowNetwork" [("deadMark", "I", (.int (7 : Int32))), ("deadFrom", "I", (.int (-1 : Int32))), ("deadTo", "I", (.int (-1 : Int32))), ("heads", "[I", (.ref hd)), ("marks", "[I", (.ref r1)), ("cursors", "[I", (.ref r2)), ("searchPath", "[I", (.ref r3)), ("reached", "[I", (.ref r4)), ("distances", "[I", (.ref r5)), ("deadMarks", "[I", (.ref r6)), ("nexts", "[I", (.ref nx)), ("targets", "[I", (.ref tg)), ("capacities", "[J", (.ref cp)), ("residuals", "[J", (.ref rs)), ("arcs", "I", (.int (4 : Int32)))] ∧ own_JA Z h cp (own_L4 c0 c1 c2 c3) ∧ own_JA Z h rs (own_L4 e0 e1 (e2 - e2) (e3 + e2))) := by
  refine own_body (plainFor_of_name own_pn_com_example_stablemate_stablemate_FlowNetwork) hn0 (own_ef_ag2_6 o pa) ?_
  intro p e s m below meth c T C X
  have KK := Keep.refl h0 [o, cp, rs]
  refine own_aloadN C X own_d11_0 rfl rfl (pc' := 1) rfl ?_
  refine own_callP C X own_d11_1 (own_m_fd l Z a0 hw o _ n0 (own_big C X) hd r1 r2 r3 r4 r5 r6 nx tg cp rs (6 : Int32) (7 : Int32) (4 : Int32) (by decide) (by decide) O ge_o) O.1 (hw _ (List.mem_of_getElem? (i := 53) rfl)) (hw _ (List.mem_of_getElem? (i := 3) rfl)) (hw _ (List.mem_of_getElem? (i := 55) rfl)) (hw _ (List.mem_of_getElem? (i := 54) rfl)) (hw _ (List.mem_of_getElem? (i := 4) rfl)) (hw _ (List.mem_of_getElem? (i := 56) rfl)) (by decide) own_pd_1382 rfl rfl (Nat.le_of_ble_eq_true rfl) (Nat.le_of_ble_eq_true rfl) (Nat.le_of_ble_eq_true rfl) (Nat.le_of_ble_eq_true rfl) (av := []) (S := []) rfl (pc' := 4) rfl ?_
  intro T h v X hQ
  obtain ⟨rfl, K_, O⟩ := hQ
  have P := P.keep K_ (ninS (Ne.symm ne_o_cp) nin0)
  have S := S.keep K_ (ninS (Ne.symm ne_o_rs) nin0)
  have B := B.keep K_ (ninS (Ne.symm ne_o_pa) nin0)
  have KK := KK.trans K_ (allS (Or.inl (by simp)) all0)
  show own_Go p e below n0 (own_Fin ({ frames := 2, cells := 0, slots := 0, locals := 80 } : Room) s (fun v h => v = some (.long e2) ∧ Keep h0 h [o, cp, rs] ∧ own_Ob Z a0 h o "com/example/stablemate/stablemate/FlowNetwork" [("deadMark", "I", (.int (7 : Int32))), ("deadFrom", "I", (.int (-1 : Int32))), ("deadTo", "I", (.int (-1 : Int32))), ("heads", "[I", (.ref hd)), ("marks", "[I", (.ref r1)), ("cursors", "[I", (.ref r2)), ("searchPath", "[I", (.ref r3)), ("reached", "[I", (.ref r4)), ("distances", "[I", (.ref r5)), ("deadMarks", "[I", (.ref r6)), ("nexts", "[I", (.ref nx)), ("targets", "[I", (.ref tg)), ("capacities", "[J", (.ref cp)), ("residuals", "[J", (.ref rs)), ("arcs", "I", (.int (4 : Int32)))] ∧ own_JA Z h cp (own_L4 c0 c1 c2 c3) ∧ own_JA Z h rs (own_L4 e0 e1 (e2 - e2) (e3 + e2)))) (T.setTop (mkF m 4 #[.val (.ref o), .val (.ref pa)] []))
  refine own_aloadN C X own_d11_4 rfl rfl (pc' := 5) rfl ?_
  refine own_aloadN C X own_d11_5 rfl rfl (pc' := 6) rfl ?_
  refine own_iconst C X own_d11_6 (v := 0) (by decide) (pc' := 7) rfl ?_
  refine own_aloadN C X own_d11_7 rfl rfl (pc' := 8) rfl ?_
  refine own_alenI C X own_d11_8 (n := 1) B rfl (pc' := 9) rfl ?_
  refine own_callP C X own_d11_9 (own_m_ag3_2 l Z a0 hw o pa _ n0 (own_big C X) hd r1 r2 r3 r4 r5 r6 nx tg cp rs (7 : Int32) c0 c1 c2 c3 e0 e1 e2 e3 O P S B ge_o ge_cp ge_rs ne_o_cp ne_o_rs ne_cp_rs ne_rs_pa ho) O.1 (hw _ (List.mem_of_getElem? (i := 84) rfl)) (hw _ (List.mem_of_getElem? (i := 3) rfl)) (hw _ (List.mem_of_getElem? (i := 86) rfl)) (hw _ (List.mem_of_getElem? (i := 85) rfl)) (hw _ (List.mem_of_getElem? (i := 4) rfl)) (hw _ (List.mem_of_getElem? (i := 87) rfl)) (by decide) own_pd_4652 rfl rfl (Nat.le_of_ble_eq_true rfl) (Nat.le_of_ble_eq_true rfl) (Nat.le_of_ble_eq_true rfl) (Nat.le_of_ble_eq_true rfl) (av := [(.ref pa), (.int (0 : Int32)), (.int (1 : Int32))]) (S := []) rfl (pc' := 12) rfl ?_
  intro T h v X hQ
  obtain ⟨rfl, K_, O, P, S⟩ := hQ
  have KK := KK.trans K_ (allS (Or.inl (by simp)) (allS (Or.inl (by simp)) (allS (Or.inl (by simp)) all0)))
  show own_Go p e below n0 (own_Fin ({ frames := 2, cells := 0, slots := 0, locals := 80 } : Room) s (fun v h => v = some (.long e2) ∧ Keep h0 h [o, cp, rs] ∧ own_Ob Z a0 h o "com/example/stablemate/stablemate/FlowNetwork" [("deadMark", "I", (.int (7 : Int32))), ("deadFrom", "I", (.int (-1 : Int32))), ("deadTo", "I", (.int (-1 : Int32))), ("heads", "[I", (.ref hd)), ("marks", "[I", (.ref r1)), ("cursors", "[I", (.ref r2)), ("searchPath", "[I", (.ref r3)), ("reached", "[I", (.ref r4)), ("distances", "[I", (.ref r5)), ("deadMarks", "[I", (.ref r6)), ("nexts", "[I", (.ref nx)), ("targets", "[I", (.ref tg)), ("capacities", "[J", (.ref cp)), ("residuals", "[J", (.ref rs)), ("arcs", "I", (.int (4 : Int32)))] ∧ own_JA Z h cp (own_L4 c0 c1 c2 c3) ∧ own_JA Z h rs (own_L4 e0 e1 (e2 - e2) (e3 + e2)))) (T.setTop (mkF m 12 #[.val (.ref o), .val (.ref pa)] [(.long e2)]))
  exact own_lreturn C X own_d11_12 (Nat.le_of_ble_eq_true rfl) (Nat.le_of_ble_eq_true rfl) (⟨rfl, KK, O, P, S⟩)
theorem own_pn_com_example_stablemate_stablemate_FlowNetworkFixPinLaw : plainName "com/example/stablemate/stablemate/FlowNetworkFixPinLaw" = true := by first | (simp [plainName, overriddenIn]; done) | decide +kernel
theorem own_ef_law (q0 : Int64) (q1 : Int64) (q2 : Int64) (q3 : Int64) (i4 : Int32) (m : MethodId) : entryFrame m #[(.long q0), (.long q1), (.long q2), (.long q3), (.int i4)] maxLocals = mkF m 0 #[.val (.long q0), .second, .val (.long q1), .second, .val (.long q2), .second, .val (.long q3), .second, .val (.int i4), .unset, .unset, .unset, .unset, .unset, .unset, .unset, .unset, .unset, .unset, .unset, .unset, .unset, .unset, .unset, .unset, .unset, .unset, .unset, .unset, .unset, .unset, .unset, .unset, .unset, .unset, .unset, .unset, .unset, .unset] [] := by first | (simp [entryFrame, mkF, argsToLocals, Value.category, maxLocals]; done) | rfl
theorem own_pd_2877 : parseMethodDescriptor "(II)V" = some ⟨[.int, .int], none⟩ := by decide +kernel
theorem own_pd_4516 : parseMethodDescriptor "(IIJJ)I" = some ⟨[.int, .int, .long, .long], some .int⟩ := by decide +kernel
theorem own_pd_2886 : parseMethodDescriptor "(IJ)V" = some ⟨[.int, .long], none⟩ := by decide +kernel
theorem own_pd_2093 : parseMethodDescriptor "(I)V" = some ⟨[.int], none⟩ := by decide +kernel
theorem own_pd_1973 : parseMethodDescriptor "(I)J" = some ⟨[.int], some .long⟩ := by decide +kernel
theorem own_pd_2889 : parseMethodDescriptor "([I)J" = some ⟨[(.array .int)], some .long⟩ := by decide +kernel
set_option maxRecDepth 65536 in
set_option maxHeartbeats 40000000 in
theorem own_m_law (l : Launch) (Z : State) (a0 : Array Value) (hw : ∀ d ∈ tables_1, d.before a0 Z = true) (ws : List Jvm.Cond) (q0 : Int64) (q1 : Int64) (q2 : Int64) (q3 : Int64) (i4 : Int32) (h0 : Heap) (n0 : Nat) (hn0 : n0 ≤ h0.size)  : own_Met l Z n0 x code maxLocals ret ws room_1 #[(.long q0), (.long q1), (.long q2), (.long q3), (.int i4)] h0 (fun v h => v = some (.int 1)) := by
  refine own_body (plainFor_of_name own_pn_com_example_stablemate_stablemate_FlowNetworkFixPinLaw) hn0 (own_ef_law q0 q1 q2 q3 i4) ?_
  intro p e s m below meth c T C X
  refine own_lloadN C X at_0 rfl (pc' := 1) rfl ?_
  refine own_ldc2L C X at_1 (hw _ (List.mem_of_getElem? (i := 0) rfl)) (pc' := 4) rfl ?_
  obtain ⟨cv, e_cv⟩ : ∃ z : Int64, (q0 &&& (4611686018427387903 : Int64)) = z := ⟨_, rfl⟩
  refine own_land C X at_4 e_cv (pc' := 5) rfl ?_
  have hq_cv := own_ms q0
  rw [e_cv] at hq_cv
  refine own_lstore C X at_5 (L' := #[.val (.long q0), .second, .val (.long q1), .second, .val (.long q2), .second, .val (.long q3), .second, .val (.int i4), .val (.long cv), .second, .unset, .unset, .unset, .unset, .unset, .unset, .unset, .unset, .unset, .unset, .unset, .unset, .unset, .unset, .unset, .unset, .unset, .unset, .unset, .unset, .unset, .unset, .unset, .unset, .unset, .unset, .unset, .unset]) rfl (pc' := 7) rfl ?_
  refine own_lloadN C X at_7 rfl (pc' := 8) rfl ?_
  refine own_ldc2L C X at_8 (hw _ (List.mem_of_getElem? (i := 0) rfl)) (pc' := 11) rfl ?_
  obtain ⟨rv, e_rv⟩ : ∃ z : Int64, (q1 &&& (4611686018427387903 : Int64)) = z := ⟨_, rfl⟩
  refine own_land C X at_11 e_rv (pc' := 12) rfl ?_
  have hq_rv := own_ms q1
  rw [e_rv] at hq_rv
  refine own_lstore C X at_12 (L' := #[.val (.long q0), .second, .val (.long q1), .second, .val (.long q2), .second, .val (.long q3), .second, .val (.int i4), .val (.long cv), .second, .val (.long rv), .second, .unset, .unset, .unset, .unset, .unset, .unset, .unset, .unset, .unset, .unset, .unset, .unset, .unset, .unset, .unset, .unset, .unset, .unset, .unset, .unset, .unset, .unset, .unset, .unset, .unset, .unset]) rfl (pc' := 14) rfl ?_
  refine own_lload C X at_14 rfl (pc' := 16) rfl ?_
  refine own_ldc2L C X at_16 (hw _ (List.mem_of_getElem? (i := 0) rfl)) (pc' := 19) rfl ?_
  obtain ⟨dv, e_dv⟩ : ∃ z : Int64, (q3 &&& (4611686018427387903 : Int64)) = z := ⟨_, rfl⟩
  refine own_land C X at_19 e_dv (pc' := 20) rfl ?_
  have hq_dv := own_ms q3
  rw [e_dv] at hq_dv
  have hc2 := hq_dv.1
  refine own_lstore C X at_20 (L' := #[.val (.long q0), .second, .val (.long q1), .second, .val (.long q2), .second, .val (.long q3), .second, .val (.int i4), .val (.long cv), .second, .val (.long rv), .second, .val (.long dv), .second, .unset, .unset, .unset, .unset, .unset, .unset, .unset, .unset, .unset, .unset, .unset, .unset, .unset, .unset, .unset, .unset, .unset, .unset, .unset, .unset, .unset, .unset, .unset, .unset]) rfl (pc' := 22) rfl ?_
  refine own_iload C X at_22 rfl (pc' := 24) rfl ?_
  refine own_iconst C X at_24 (v := 1) (by decide) (pc' := 25) rfl ?_
  obtain ⟨av, e_av⟩ : ∃ z : Int32, (i4 &&& (1 : Int32)) = z := ⟨_, rfl⟩
  refine own_iand C X at_25 e_av (pc' := 26) rfl ?_
  refine own_istore C X at_26 (L' := #[.val (.long q0), .second, .val (.long q1), .second, .val (.long q2), .second, .val (.long q3), .second, .val (.int i4), .val (.long cv), .second, .val (.long rv), .second, .val (.long dv), .second, .val (.int av), .unset, .unset, .unset, .unset, .unset, .unset, .unset, .unset, .unset, .unset, .unset, .unset, .unset, .unset, .unset, .unset, .unset, .unset, .unset, .unset, .unset, .unset, .unset]) rfl (pc' := 28) rfl ?_
  refine own_iload C X at_28 rfl (pc' := 30) rfl ?_
  refine own_iconst C X at_30 (v := 1) (by decide) (pc' := 31) rfl ?_
  refine own_ishr C X at_31 rfl (pc' := 32) rfl ?_
  refine own_iconst C X at_32 (v := 1) (by decide) (pc' := 33) rfl ?_
  obtain ⟨sa, e_sa⟩ : ∃ z : Int32, ((i4 >>> ((1 : Int32) &&& 31)) &&& (1 : Int32)) = z := ⟨_, rfl⟩
  refine own_iand C X at_33 e_sa (pc' := 34) rfl ?_
  refine own_istore C X at_34 (L' := #[.val (.long q0), .second, .val (.long q1), .second, .val (.long q2), .second, .val (.long q3), .second, .val (.int i4), .val (.long cv), .second, .val (.long rv), .second, .val (.long dv), .second, .val (.int av), .val (.int sa), .unset, .unset, .unset, .unset, .unset, .unset, .unset, .unset, .unset, .unset, .unset, .unset, .unset, .unset, .unset, .unset, .unset, .unset, .unset, .unset, .unset, .unset]) rfl (pc' := 36) rfl ?_
  rcases own_z4 _ av e_av with rfl | rfl
  · rcases own_z4 _ sa e_sa with rfl | rfl
    · refine own_iload C X at_36 rfl (pc' := 38) rfl ?_
      refine own_if_ne C X at_38 (pcT := 46) (pc' := 41) (by decide) (by decide) rfl (fun hc38 => absurd hc38 (by decide)) (fun hc38 => ?_)
      refine own_lload C X at_41 rfl (pc' := 43) rfl ?_
      refine own_goto C X at_43 (pc' := 48) (by decide) (by decide) ?_
      refine own_lstore C X at_48 (L' := #[.val (.long q0), .second, .val (.long q1), .second, .val (.long q2), .second, .val (.long q3), .second, .val (.int i4), .val (.long cv), .second, .val (.long rv), .second, .val (.long dv), .second, .val (.int (0 : Int32)), .val (.int (0 : Int32)), .val (.long cv), .second, .unset, .unset, .unset, .unset, .unset, .unset, .unset, .unset, .unset, .unset, .unset, .unset, .unset, .unset, .unset, .unset, .unset, .unset, .unset, .unset]) rfl (pc' := 50) rfl ?_
      refine own_lload C X at_50 rfl (pc' := 52) rfl ?_
      refine own_ldc2L C X at_52 (hw _ (List.mem_of_getElem? (i := 0) rfl)) (pc' := 55) rfl ?_
      refine own_land C X at_55 rfl (pc' := 56) rfl ?_
      refine own_lload C X at_56 rfl (pc' := 58) rfl ?_
      refine own_lconst C X at_58 (v := 1) (by decide) (pc' := 59) rfl ?_
      refine own_ladd C X at_59 rfl (pc' := 60) rfl ?_
      have hnz := own_nz cv hq_cv.1 hq_cv.2
      obtain ⟨sv, e_sv⟩ : ∃ z : Int64, ((q2 &&& (4611686018427387903 : Int64)) % (cv + (1 : Int64))) = z := ⟨_, rfl⟩
      refine own_lrem C X at_60 hnz e_sv (pc' := 61) rfl ?_
      obtain ⟨hs0, hs1⟩ := own_rem q2 cv sv hq_cv.1 hq_cv.2 e_sv
      refine own_lstore C X at_61 (L' := #[.val (.long q0), .second, .val (.long q1), .second, .val (.long q2), .second, .val (.long q3), .second, .val (.int i4), .val (.long cv), .second, .val (.long rv), .second, .val (.long dv), .second, .val (.int (0 : Int32)), .val (.int (0 : Int32)), .val (.long cv), .second, .val (.long sv), .second, .unset, .unset, .unset, .unset, .unset, .unset, .unset, .unset, .unset, .unset, .unset, .unset, .unset, .unset, .unset, .unset, .unset, .unset]) rfl (pc' := 63) rfl ?_
      refine own_iload C X at_63 rfl (pc' := 65) rfl ?_
      refine own_if_ne C X at_65 (pcT := 73) (pc' := 68) (by decide) (by decide) rfl (fun hc65 => absurd hc65 (by decide)) (fun hc65 => ?_)
      refine own_lload C X at_68 rfl (pc' := 70) rfl ?_
      refine own_goto C X at_70 (pc' := 76) (by decide) (by decide) ?_
      refine own_lstore C X at_76 (L' := #[.val (.long q0), .second, .val (.long q1), .second, .val (.long q2), .second, .val (.long q3), .second, .val (.int i4), .val (.long cv), .second, .val (.long rv), .second, .val (.long dv), .second, .val (.int (0 : Int32)), .val (.int (0 : Int32)), .val (.long cv), .second, .val (.long sv), .second, .val (.long sv), .second, .unset, .unset, .unset, .unset, .unset, .unset, .unset, .unset, .unset, .unset, .unset, .unset, .unset, .unset, .unset, .unset]) rfl (pc' := 78) rfl ?_
      refine own_iconst C X at_78 (v := 1) (by decide) (pc' := 79) rfl ?_
      refine own_newI C X at_79 (ty := .int) rfl (hw _ (List.mem_of_getElem? (i := 1) rfl)) (by decide) (k := 1) (cap := 1) (Nat.le_of_ble_eq_true rfl) (by decide) (Nat.le_of_ble_eq_true rfl) (Nat.le_of_ble_eq_true rfl) rfl rfl (pc' := 81) rfl ?_
      intro T h pa e_pa X K_ ge_pa A_pa_
      have A_pa : own_IA Z h pa .int [(0 : Int32)] := A_pa_
      refine own_dup C X at_81 rfl (pc' := 82) rfl ?_
      refine own_iconst C X at_82 (v := 0) (by decide) (pc' := 83) rfl ?_
      refine own_iload C X at_83 rfl (pc' := 85) rfl ?_
      refine own_iastore C X at_85 A_pa (by decide) (i := 0) (Nat.le_of_ble_eq_true rfl) ge_pa (pc' := 86) rfl ?_
      intro T h X K_ A_pa_
      have A_pa : own_IA Z h pa .int [(0 : Int32)] := A_pa_
      refine own_astore C X at_86 rfl (L' := #[.val (.long q0), .second, .val (.long q1), .second, .val (.long q2), .second, .val (.long q3), .second, .val (.int i4), .val (.long cv), .second, .val (.long rv), .second, .val (.long dv), .second, .val (.int (0 : Int32)), .val (.int (0 : Int32)), .val (.long cv), .second, .val (.long sv), .second, .val (.long sv), .second, .val (.ref pa), .unset, .unset, .unset, .unset, .unset, .unset, .unset, .unset, .unset, .unset, .unset, .unset, .unset, .unset, .unset]) rfl (pc' := 88) rfl ?_
      refine own_iconst C X at_88 (v := 1) (by decide) (pc' := 89) rfl ?_
      refine own_newI C X at_89 (ty := .int) rfl (hw _ (List.mem_of_getElem? (i := 1) rfl)) (by decide) (k := 1) (cap := 1) (Nat.le_of_ble_eq_true rfl) (by decide) (Nat.le_of_ble_eq_true rfl) (Nat.le_of_ble_eq_true rfl) rfl rfl (pc' := 91) rfl ?_
      intro T h pb e_pb X K_ ge_pb A_pb_
      have ne_pa_pb : pa ≠ pb := by rw [e_pb]; exact Nat.ne_of_lt A_pa.lt
      have A_pb : own_IA Z h pb .int [(0 : Int32)] := A_pb_
      have A_pa := A_pa.keep K_ nin0
      refine own_dup C X at_91 rfl (pc' := 92) rfl ?_
      refine own_iconst C X at_92 (v := 0) (by decide) (pc' := 93) rfl ?_
      refine own_iload C X at_93 rfl (pc' := 95) rfl ?_
      refine own_iconst C X at_95 (v := 1) (by decide) (pc' := 96) rfl ?_
      refine own_ixor C X at_96 (z := 1) (by decide) (pc' := 97) rfl ?_
      refine own_iastore C X at_97 A_pb (by decide) (i := 0) (Nat.le_of_ble_eq_true rfl) ge_pb (pc' := 98) rfl ?_
      intro T h X K_ A_pb_
      have A_pb : own_IA Z h pb .int [(1 : Int32)] := A_pb_
      have A_pa := A_pa.keep K_ (ninS ne_pa_pb nin0)
      refine own_astore C X at_98 rfl (L' := #[.val (.long q0), .second, .val (.long q1), .second, .val (.long q2), .second, .val (.long q3), .second, .val (.int i4), .val (.long cv), .second, .val (.long rv), .second, .val (.long dv), .second, .val (.int (0 : Int32)), .val (.int (0 : Int32)), .val (.long cv), .second, .val (.long sv), .second, .val (.long sv), .second, .val (.ref pa), .val (.ref pb), .unset, .unset, .unset, .unset, .unset, .unset, .unset, .unset, .unset, .unset, .unset, .unset, .unset, .unset]) rfl (pc' := 100) rfl ?_
      refine own_iconst C X at_100 (v := 1) (by decide) (pc' := 101) rfl ?_
      refine own_newI C X at_101 (ty := .int) rfl (hw _ (List.mem_of_getElem? (i := 1) rfl)) (by decide) (k := 1) (cap := 1) (Nat.le_of_ble_eq_true rfl) (by decide) (Nat.le_of_ble_eq_true rfl) (Nat.le_of_ble_eq_true rfl) rfl rfl (pc' := 103) rfl ?_
      intro T h pc e_pc X K_ ge_pc A_pc_
      have ne_pa_pc : pa ≠ pc := by rw [e_pc]; exact Nat.ne_of_lt A_pa.lt
      have ne_pb_pc : pb ≠ pc := by rw [e_pc]; exact Nat.ne_of_lt A_pb.lt
      have A_pc : own_IA Z h pc .int [(0 : Int32)] := A_pc_
      have A_pa := A_pa.keep K_ nin0
      have A_pb := A_pb.keep K_ nin0
      refine own_dup C X at_103 rfl (pc' := 104) rfl ?_
      refine own_iconst C X at_104 (v := 0) (by decide) (pc' := 105) rfl ?_
      refine own_iconst C X at_105 (v := 2) (by decide) (pc' := 106) rfl ?_
      refine own_iastore C X at_106 A_pc (by decide) (i := 0) (Nat.le_of_ble_eq_true rfl) ge_pc (pc' := 107) rfl ?_
      intro T h X K_ A_pc_
      have A_pc : own_IA Z h pc .int [(2 : Int32)] := A_pc_
      have A_pa := A_pa.keep K_ (ninS ne_pa_pc nin0)
      have A_pb := A_pb.keep K_ (ninS ne_pb_pc nin0)
      refine own_astore C X at_107 rfl (L' := #[.val (.long q0), .second, .val (.long q1), .second, .val (.long q2), .second, .val (.long q3), .second, .val (.int i4), .val (.long cv), .second, .val (.long rv), .second, .val (.long dv), .second, .val (.int (0 : Int32)), .val (.int (0 : Int32)), .val (.long cv), .second, .val (.long sv), .second, .val (.long sv), .second, .val (.ref pa), .val (.ref pb), .val (.ref pc), .unset, .unset, .unset, .unset, .unset, .unset, .unset, .unset, .unset, .unset, .unset, .unset, .unset]) rfl (pc' := 109) rfl ?_
      refine own_new C X at_109 (hw _ (List.mem_of_getElem? (i := 2) rfl)) (hw _ (List.mem_of_getElem? (i := 3) rfl)) (hw _ (List.mem_of_getElem? (i := 4) rfl)) (Nat.le_of_ble_eq_true rfl) (Nat.le_of_ble_eq_true rfl) [("deadMark", "I", (.int (0 : Int32))), ("deadFrom", "I", (.int (0 : Int32))), ("deadTo", "I", (.int (0 : Int32))), ("heads", "[I", .null), ("marks", "[I", .null), ("cursors", "[I", .null), ("searchPath", "[I", .null), ("reached", "[I", .null), ("distances", "[I", .null), ("deadMarks", "[I", .null), ("nexts", "[I", .null), ("targets", "[I", .null), ("capacities", "[J", .null), ("residuals", "[J", .null), ("arcs", "I", (.int (0 : Int32)))] (by decide) ?_ (pc' := 112) rfl ?_
      · intro f hf; simp only [List.mem_cons, List.not_mem_nil, or_false] at hf
        rcases hf with rfl | rfl | rfl | rfl | rfl | rfl | rfl | rfl | rfl | rfl | rfl | rfl | rfl | rfl | rfl
        · exact ⟨(Or.inl (hw _ (List.mem_of_getElem? (i := 12) rfl))), .int, by decide, rfl⟩
        · exact ⟨(Or.inl (hw _ (List.mem_of_getElem? (i := 14) rfl))), .int, by decide, rfl⟩
        · exact ⟨(Or.inl (hw _ (List.mem_of_getElem? (i := 16) rfl))), .int, by decide, rfl⟩
        · exact ⟨(Or.inr (hw _ (List.mem_of_getElem? (i := 18) rfl))), (.array .int), by decide, rfl⟩
        · exact ⟨(Or.inr (hw _ (List.mem_of_getElem? (i := 24) rfl))), (.array .int), by decide, rfl⟩
        · exact ⟨(Or.inr (hw _ (List.mem_of_getElem? (i := 26) rfl))), (.array .int), by decide, rfl⟩
        · exact ⟨(Or.inr (hw _ (List.mem_of_getElem? (i := 28) rfl))), (.array .int), by decide, rfl⟩
        · exact ⟨(Or.inr (hw _ (List.mem_of_getElem? (i := 30) rfl))), (.array .int), by decide, rfl⟩
        · exact ⟨(Or.inr (hw _ (List.mem_of_getElem? (i := 32) rfl))), (.array .int), by decide, rfl⟩
        · exact ⟨(Or.inr (hw _ (List.mem_of_getElem? (i := 34) rfl))), (.array .int), by decide, rfl⟩
        · exact ⟨(Or.inl (hw _ (List.mem_of_getElem? (i := 40) rfl))), (.array .int), by decide, rfl⟩
        · exact ⟨(Or.inl (hw _ (List.mem_of_getElem? (i := 42) rfl))), (.array .int), by decide, rfl⟩
        · exact ⟨(Or.inl (hw _ (List.mem_of_getElem? (i := 45) rfl))), (.array .long), by decide, rfl⟩
        · exact ⟨(Or.inl (hw _ (List.mem_of_getElem? (i := 47) rfl))), (.array .long), by decide, rfl⟩
        · exact ⟨(Or.inl (hw _ (List.mem_of_getElem? (i := 59) rfl))), .int, by decide, rfl⟩
      intro T h o e_o X K_ ge_o O_o
      have ne_pa_o : pa ≠ o := by rw [e_o]; exact Nat.ne_of_lt A_pa.lt
      have ne_pb_o : pb ≠ o := by rw [e_o]; exact Nat.ne_of_lt A_pb.lt
      have ne_pc_o : pc ≠ o := by rw [e_o]; exact Nat.ne_of_lt A_pc.lt
      have A_pa := A_pa.keep K_ nin0
      have A_pb := A_pb.keep K_ nin0
      have A_pc := A_pc.keep K_ nin0
      refine own_dup C X at_112 rfl (pc' := 113) rfl ?_
      refine own_iconst C X at_113 (v := 2) (by decide) (pc' := 114) rfl ?_
      refine own_iconst C X at_114 (v := 2) (by decide) (pc' := 115) rfl ?_
      have hbg := own_big C X
      have O := O_o
      refine own_callInit C X at_115 (own_m_init l Z a0 hw o _ n0 hbg O ge_o) rfl (hw _ (List.mem_of_getElem? (i := 5) rfl)) (hw _ (List.mem_of_getElem? (i := 6) rfl)) (hw _ (List.mem_of_getElem? (i := 4) rfl)) (hw _ (List.mem_of_getElem? (i := 7) rfl)) (by decide) own_pd_2877 rfl rfl (Nat.le_of_ble_eq_true rfl) (Nat.le_of_ble_eq_true rfl) (Nat.le_of_ble_eq_true rfl) (Nat.le_of_ble_eq_true rfl) (av := [(.int (2 : Int32)), (.int (2 : Int32))]) (S := [(.ref o)]) rfl (pc' := 118) rfl ?_
      intro T h v X hQ
      obtain ⟨rfl, hd, r1, r2, r3, r4, r5, r6, nx, tg, cp, rs, gh, g1, g2, g3, g4, K_, O_n, H, N, G, P, S⟩ := hQ
      have q_o : @LT.lt Nat instLTNat o _ := O.lt
      have q_pa : @LT.lt Nat instLTNat pa _ := A_pa.lt
      have q_pb : @LT.lt Nat instLTNat pb _ := A_pb.lt
      have q_pc : @LT.lt Nat instLTNat pc _ := A_pc.lt
      have ge_hd : n0 ≤ hd := by omega
      have ge_nx : n0 ≤ nx := by omega
      have ge_tg : n0 ≤ tg := by omega
      have ge_cp : n0 ≤ cp := by omega
      have ge_rs : n0 ≤ rs := by omega
      have ne_o_hd : o ≠ hd := Nat.ne_of_lt (by omega)
      have ne_o_nx : o ≠ nx := Nat.ne_of_lt (by omega)
      have ne_o_tg : o ≠ tg := Nat.ne_of_lt (by omega)
      have ne_o_cp : o ≠ cp := Nat.ne_of_lt (by omega)
      have ne_o_rs : o ≠ rs := Nat.ne_of_lt (by omega)
      have ne_hd_nx : hd ≠ nx := Nat.ne_of_lt (by omega)
      have ne_hd_tg : hd ≠ tg := Nat.ne_of_lt (by omega)
      have ne_hd_cp : hd ≠ cp := Nat.ne_of_lt (by omega)
      have ne_hd_rs : hd ≠ rs := Nat.ne_of_lt (by omega)
      have ne_nx_tg : nx ≠ tg := Nat.ne_of_lt (by omega)
      have ne_nx_cp : nx ≠ cp := Nat.ne_of_lt (by omega)
      have ne_nx_rs : nx ≠ rs := Nat.ne_of_lt (by omega)
      have ne_tg_cp : tg ≠ cp := Nat.ne_of_lt (by omega)
      have ne_tg_rs : tg ≠ rs := Nat.ne_of_lt (by omega)
      have ne_cp_rs : cp ≠ rs := Nat.ne_of_lt (by omega)
      have ne_hd_pa : hd ≠ pa := Nat.ne_of_gt (by omega)
      have ne_nx_pa : nx ≠ pa := Nat.ne_of_gt (by omega)
      have ne_tg_pa : tg ≠ pa := Nat.ne_of_gt (by omega)
      have ne_cp_pa : cp ≠ pa := Nat.ne_of_gt (by omega)
      have ne_rs_pa : rs ≠ pa := Nat.ne_of_gt (by omega)
      have ne_hd_pb : hd ≠ pb := Nat.ne_of_gt (by omega)
      have ne_nx_pb : nx ≠ pb := Nat.ne_of_gt (by omega)
      have ne_tg_pb : tg ≠ pb := Nat.ne_of_gt (by omega)
      have ne_cp_pb : cp ≠ pb := Nat.ne_of_gt (by omega)
      have ne_rs_pb : rs ≠ pb := Nat.ne_of_gt (by omega)
      have ne_hd_pc : hd ≠ pc := Nat.ne_of_gt (by omega)
      have ne_nx_pc : nx ≠ pc := Nat.ne_of_gt (by omega)
      have ne_tg_pc : tg ≠ pc := Nat.ne_of_gt (by omega)
      have ne_cp_pc : cp ≠ pc := Nat.ne_of_gt (by omega)
      have ne_rs_pc : rs ≠ pc := Nat.ne_of_gt (by omega)
      have O := O_n
      have A_pa := A_pa.keep K_ (ninS ne_pa_o nin0)
      have A_pb := A_pb.keep K_ (ninS ne_pb_o nin0)
      have A_pc := A_pc.keep K_ (ninS ne_pc_o nin0)
      show own_Go p e below n0 (own_Fin room_1 s (fun v h => v = some (.int 1))) (T.setTop (mkF m 118 #[.val (.long q0), .second, .val (.long q1), .second, .val (.long q2), .second, .val (.long q3), .second, .val (.int i4), .val (.long cv), .second, .val (.long rv), .second, .val (.long dv), .second, .val (.int (0 : Int32)), .val (.int (0 : Int32)), .val (.long cv), .second, .val (.long sv), .second, .val (.long sv), .second, .val (.ref pa), .val (.ref pb), .val (.ref pc), .unset, .unset, .unset, .unset, .unset, .unset, .unset, .unset, .unset, .unset, .unset, .unset, .unset] [(.ref o)]))
      refine own_astore C X at_118 rfl (L' := #[.val (.long q0), .second, .val (.long q1), .second, .val (.long q2), .second, .val (.long q3), .second, .val (.int i4), .val (.long cv), .second, .val (.long rv), .second, .val (.long dv), .second, .val (.int (0 : Int32)), .val (.int (0 : Int32)), .val (.long cv), .second, .val (.long sv), .second, .val (.long sv), .second, .val (.ref pa), .val (.ref pb), .val (.ref pc), .val (.ref o), .unset, .unset, .unset, .unset, .unset, .unset, .unset, .unset, .unset, .unset, .unset, .unset]) rfl (pc' := 120) rfl ?_
      refine own_aload C X at_120 rfl rfl (pc' := 122) rfl ?_
      refine own_iconst C X at_122 (v := 0) (by decide) (pc' := 123) rfl ?_
      refine own_iconst C X at_123 (v := 1) (by decide) (pc' := 124) rfl ?_
      refine own_lload C X at_124 rfl (pc' := 126) rfl ?_
      refine own_lload C X at_126 rfl (pc' := 128) rfl ?_
      refine own_callV C X at_128 (own_m_arc0 l Z a0 hw o cv rv _ n0 (own_big C X) hd r1 r2 r3 r4 r5 r6 nx tg cp rs (-1 : Int32) (-1 : Int32) (0 : Int32) (0 : Int32) (0 : Int32) (0 : Int32) (0 : Int32) (0 : Int32) (0 : Int32) (0 : Int32) (0 : Int64) (0 : Int64) (0 : Int64) (0 : Int64) (0 : Int64) (0 : Int64) (0 : Int64) (0 : Int64) O H N G P S ge_o ge_hd ge_nx ge_tg ge_cp ge_rs ne_o_hd ne_o_nx ne_o_tg ne_o_cp ne_o_rs ne_hd_nx ne_hd_tg ne_hd_cp ne_hd_rs ne_nx_tg ne_nx_cp ne_nx_rs ne_tg_cp ne_tg_rs ne_cp_rs) O.1 (hw _ (List.mem_of_getElem? (i := 48) rfl)) (hw _ (List.mem_of_getElem? (i := 49) rfl)) (hw _ (List.mem_of_getElem? (i := 51) rfl)) (hw _ (List.mem_of_getElem? (i := 50) rfl)) (hw _ (List.mem_of_getElem? (i := 4) rfl)) (hw _ (List.mem_of_getElem? (i := 52) rfl)) (by decide) own_pd_4516 rfl rfl (Nat.le_of_ble_eq_true rfl) (Nat.le_of_ble_eq_true rfl) (Nat.le_of_ble_eq_true rfl) (Nat.le_of_ble_eq_true rfl) (av := [(.int (0 : Int32)), (.int (1 : Int32)), (.long cv), (.long rv)]) (S := []) rfl (pc' := 131) rfl ?_
      intro T h v X hQ
      obtain ⟨rfl, K_, O, H, N, G, P, S⟩ := hQ
      have A_pa := A_pa.keep K_ (ninS ne_pa_o (ninS (Ne.symm ne_hd_pa) (ninS (Ne.symm ne_nx_pa) (ninS (Ne.symm ne_tg_pa) (ninS (Ne.symm ne_cp_pa) (ninS (Ne.symm ne_rs_pa) nin0))))))
      have A_pb := A_pb.keep K_ (ninS ne_pb_o (ninS (Ne.symm ne_hd_pb) (ninS (Ne.symm ne_nx_pb) (ninS (Ne.symm ne_tg_pb) (ninS (Ne.symm ne_cp_pb) (ninS (Ne.symm ne_rs_pb) nin0))))))
      have A_pc := A_pc.keep K_ (ninS ne_pc_o (ninS (Ne.symm ne_hd_pc) (ninS (Ne.symm ne_nx_pc) (ninS (Ne.symm ne_tg_pc) (ninS (Ne.symm ne_cp_pc) (ninS (Ne.symm ne_rs_pc) nin0))))))
      show own_Go p e below n0 (own_Fin room_1 s (fun v h => v = some (.int 1))) (T.setTop (mkF m 131 #[.val (.long q0), .second, .val (.long q1), .second, .val (.long q2), .second, .val (.long q3), .second, .val (.int i4), .val (.long cv), .second, .val (.long rv), .second, .val (.long dv), .second, .val (.int (0 : Int32)), .val (.int (0 : Int32)), .val (.long cv), .second, .val (.long sv), .second, .val (.long sv), .second, .val (.ref pa), .val (.ref pb), .val (.ref pc), .val (.ref o), .unset, .unset, .unset, .unset, .unset, .unset, .unset, .unset, .unset, .unset, .unset, .unset] [(.int (0 : Int32))]))
      refine own_pop C X at_131 rfl (pc' := 132) rfl ?_
      refine own_aload C X at_132 rfl rfl (pc' := 134) rfl ?_
      refine own_iconst C X at_134 (v := 1) (by decide) (pc' := 135) rfl ?_
      refine own_iconst C X at_135 (v := 0) (by decide) (pc' := 136) rfl ?_
      refine own_lload C X at_136 rfl (pc' := 138) rfl ?_
      refine own_lconst C X at_138 (v := 0) (by decide) (pc' := 139) rfl ?_
      refine own_callV C X at_139 (own_m_arc2 l Z a0 hw o dv (0 : Int64) _ n0 (own_big C X) hd r1 r2 r3 r4 r5 r6 nx tg cp rs (0 : Int32) (1 : Int32) (-1 : Int32) (-1 : Int32) (0 : Int32) (0 : Int32) (1 : Int32) (0 : Int32) (0 : Int32) (0 : Int32) cv rv (0 : Int64) (0 : Int64) cv rv (0 : Int64) (0 : Int64) O H N G P S ge_o ge_hd ge_nx ge_tg ge_cp ge_rs ne_o_hd ne_o_nx ne_o_tg ne_o_cp ne_o_rs ne_hd_nx ne_hd_tg ne_hd_cp ne_hd_rs ne_nx_tg ne_nx_cp ne_nx_rs ne_tg_cp ne_tg_rs ne_cp_rs) O.1 (hw _ (List.mem_of_getElem? (i := 48) rfl)) (hw _ (List.mem_of_getElem? (i := 49) rfl)) (hw _ (List.mem_of_getElem? (i := 51) rfl)) (hw _ (List.mem_of_getElem? (i := 50) rfl)) (hw _ (List.mem_of_getElem? (i := 4) rfl)) (hw _ (List.mem_of_getElem? (i := 52) rfl)) (by decide) own_pd_4516 rfl rfl (Nat.le_of_ble_eq_true rfl) (Nat.le_of_ble_eq_true rfl) (Nat.le_of_ble_eq_true rfl) (Nat.le_of_ble_eq_true rfl) (av := [(.int (1 : Int32)), (.int (0 : Int32)), (.long dv), (.long (0 : Int64))]) (S := []) rfl (pc' := 142) rfl ?_
      intro T h v X hQ
      obtain ⟨rfl, K_, O, H, N, G, P, S⟩ := hQ
      have A_pa := A_pa.keep K_ (ninS ne_pa_o (ninS (Ne.symm ne_hd_pa) (ninS (Ne.symm ne_nx_pa) (ninS (Ne.symm ne_tg_pa) (ninS (Ne.symm ne_cp_pa) (ninS (Ne.symm ne_rs_pa) nin0))))))
      have A_pb := A_pb.keep K_ (ninS ne_pb_o (ninS (Ne.symm ne_hd_pb) (ninS (Ne.symm ne_nx_pb) (ninS (Ne.symm ne_tg_pb) (ninS (Ne.symm ne_cp_pb) (ninS (Ne.symm ne_rs_pb) nin0))))))
      have A_pc := A_pc.keep K_ (ninS ne_pc_o (ninS (Ne.symm ne_hd_pc) (ninS (Ne.symm ne_nx_pc) (ninS (Ne.symm ne_tg_pc) (ninS (Ne.symm ne_cp_pc) (ninS (Ne.symm ne_rs_pc) nin0))))))
      show own_Go p e below n0 (own_Fin room_1 s (fun v h => v = some (.int 1))) (T.setTop (mkF m 142 #[.val (.long q0), .second, .val (.long q1), .second, .val (.long q2), .second, .val (.long q3), .second, .val (.int i4), .val (.long cv), .second, .val (.long rv), .second, .val (.long dv), .second, .val (.int (0 : Int32)), .val (.int (0 : Int32)), .val (.long cv), .second, .val (.long sv), .second, .val (.long sv), .second, .val (.ref pa), .val (.ref pb), .val (.ref pc), .val (.ref o), .unset, .unset, .unset, .unset, .unset, .unset, .unset, .unset, .unset, .unset, .unset, .unset] [(.int (2 : Int32))]))
      refine own_pop C X at_142 rfl (pc' := 143) rfl ?_
      refine own_aload C X at_143 rfl rfl (pc' := 145) rfl ?_
      refine own_iload C X at_145 rfl (pc' := 147) rfl ?_
      refine own_lload C X at_147 rfl (pc' := 149) rfl ?_
      refine own_callV C X at_149 (own_m_send0 l Z a0 hw o sv _ n0 (own_big C X) hd r1 r2 r3 r4 r5 r6 nx tg cp rs cv rv dv (0 : Int64) cv rv dv (0 : Int64) O P S ge_o ge_cp ge_rs ne_o_cp ne_o_rs ne_cp_rs (own_lt0 _ hs0) (own_le _ _ hs1)) O.1 (hw _ (List.mem_of_getElem? (i := 64) rfl)) (hw _ (List.mem_of_getElem? (i := 65) rfl)) (hw _ (List.mem_of_getElem? (i := 67) rfl)) (hw _ (List.mem_of_getElem? (i := 66) rfl)) (hw _ (List.mem_of_getElem? (i := 4) rfl)) (hw _ (List.mem_of_getElem? (i := 68) rfl)) (by decide) own_pd_2886 rfl rfl (Nat.le_of_ble_eq_true rfl) (Nat.le_of_ble_eq_true rfl) (Nat.le_of_ble_eq_true rfl) (Nat.le_of_ble_eq_true rfl) (av := [(.int (0 : Int32)), (.long sv)]) (S := []) rfl (pc' := 152) rfl ?_
      intro T h v X hQ
      obtain ⟨rfl, K_, O, P, S⟩ := hQ
      have A_pa := A_pa.keep K_ (ninS ne_pa_o (ninS (Ne.symm ne_cp_pa) (ninS (Ne.symm ne_rs_pa) nin0)))
      have A_pb := A_pb.keep K_ (ninS ne_pb_o (ninS (Ne.symm ne_cp_pb) (ninS (Ne.symm ne_rs_pb) nin0)))
      have A_pc := A_pc.keep K_ (ninS ne_pc_o (ninS (Ne.symm ne_cp_pc) (ninS (Ne.symm ne_rs_pc) nin0)))
      show own_Go p e below n0 (own_Fin room_1 s (fun v h => v = some (.int 1))) (T.setTop (mkF m 152 #[.val (.long q0), .second, .val (.long q1), .second, .val (.long q2), .second, .val (.long q3), .second, .val (.int i4), .val (.long cv), .second, .val (.long rv), .second, .val (.long dv), .second, .val (.int (0 : Int32)), .val (.int (0 : Int32)), .val (.long cv), .second, .val (.long sv), .second, .val (.long sv), .second, .val (.ref pa), .val (.ref pb), .val (.ref pc), .val (.ref o), .unset, .unset, .unset, .unset, .unset, .unset, .unset, .unset, .unset, .unset, .unset, .unset] []))
      refine own_aload C X at_152 rfl rfl (pc' := 154) rfl ?_
      refine own_iload C X at_154 rfl (pc' := 156) rfl ?_
      refine own_callV C X at_156 (own_m_fix0 l Z a0 hw o _ n0 (own_big C X) hd r1 r2 r3 r4 r5 r6 nx tg cp rs cv rv dv (0 : Int64) (cv - sv) (rv + sv) dv (0 : Int64) O P S ge_o ge_cp ge_rs ne_o_cp ne_o_rs ne_cp_rs) O.1 (hw _ (List.mem_of_getElem? (i := 69) rfl)) (hw _ (List.mem_of_getElem? (i := 70) rfl)) (hw _ (List.mem_of_getElem? (i := 72) rfl)) (hw _ (List.mem_of_getElem? (i := 71) rfl)) (hw _ (List.mem_of_getElem? (i := 4) rfl)) (hw _ (List.mem_of_getElem? (i := 73) rfl)) (by decide) own_pd_2093 rfl rfl (Nat.le_of_ble_eq_true rfl) (Nat.le_of_ble_eq_true rfl) (Nat.le_of_ble_eq_true rfl) (Nat.le_of_ble_eq_true rfl) (av := [(.int (0 : Int32))]) (S := []) rfl (pc' := 159) rfl ?_
      intro T h v X hQ
      obtain ⟨rfl, K_, O, P, S⟩ := hQ
      have A_pa := A_pa.keep K_ (ninS ne_pa_o (ninS (Ne.symm ne_cp_pa) (ninS (Ne.symm ne_rs_pa) nin0)))
      have A_pb := A_pb.keep K_ (ninS ne_pb_o (ninS (Ne.symm ne_cp_pb) (ninS (Ne.symm ne_rs_pb) nin0)))
      have A_pc := A_pc.keep K_ (ninS ne_pc_o (ninS (Ne.symm ne_cp_pc) (ninS (Ne.symm ne_rs_pc) nin0)))
      show own_Go p e below n0 (own_Fin room_1 s (fun v h => v = some (.int 1))) (T.setTop (mkF m 159 #[.val (.long q0), .second, .val (.long q1), .second, .val (.long q2), .second, .val (.long q3), .second, .val (.int i4), .val (.long cv), .second, .val (.long rv), .second, .val (.long dv), .second, .val (.int (0 : Int32)), .val (.int (0 : Int32)), .val (.long cv), .second, .val (.long sv), .second, .val (.long sv), .second, .val (.ref pa), .val (.ref pb), .val (.ref pc), .val (.ref o), .unset, .unset, .unset, .unset, .unset, .unset, .unset, .unset, .unset, .unset, .unset, .unset] []))
      rw [own_a1, own_a2] at P
      replace P : own_JA Z h cp (own_L4 sv (-sv) dv (0 : Int64)) := P
      refine own_aload C X at_159 rfl rfl (pc' := 161) rfl ?_
      refine own_iconst C X at_161 (v := 0) (by decide) (pc' := 162) rfl ?_
      refine own_callV C X at_162 (own_m_flow0 l Z a0 hw o _ n0 (own_big C X) hd r1 r2 r3 r4 r5 r6 nx tg cp rs (4 : Int32) sv (-sv) dv (0 : Int64) (0 : Int64) (0 : Int64) dv (0 : Int64) O P S) O.1 (hw _ (List.mem_of_getElem? (i := 74) rfl)) (hw _ (List.mem_of_getElem? (i := 75) rfl)) (hw _ (List.mem_of_getElem? (i := 77) rfl)) (hw _ (List.mem_of_getElem? (i := 76) rfl)) (hw _ (List.mem_of_getElem? (i := 4) rfl)) (hw _ (List.mem_of_getElem? (i := 78) rfl)) (by decide) own_pd_1973 rfl rfl (Nat.le_of_ble_eq_true rfl) (Nat.le_of_ble_eq_true rfl) (Nat.le_of_ble_eq_true rfl) (Nat.le_of_ble_eq_true rfl) (av := [(.int (0 : Int32))]) (S := []) rfl (pc' := 165) rfl ?_
      intro T h v X hQ
      obtain ⟨rfl, rfl⟩ := hQ
      rw [own_a3]
      show own_Go p e below n0 (own_Fin room_1 s (fun v h => v = some (.int 1))) (T.setTop (mkF m 165 #[.val (.long q0), .second, .val (.long q1), .second, .val (.long q2), .second, .val (.long q3), .second, .val (.int i4), .val (.long cv), .second, .val (.long rv), .second, .val (.long dv), .second, .val (.int (0 : Int32)), .val (.int (0 : Int32)), .val (.long cv), .second, .val (.long sv), .second, .val (.long sv), .second, .val (.ref pa), .val (.ref pb), .val (.ref pc), .val (.ref o), .unset, .unset, .unset, .unset, .unset, .unset, .unset, .unset, .unset, .unset, .unset, .unset] [(.long sv)]))
      refine own_lstore C X at_165 (L' := #[.val (.long q0), .second, .val (.long q1), .second, .val (.long q2), .second, .val (.long q3), .second, .val (.int i4), .val (.long cv), .second, .val (.long rv), .second, .val (.long dv), .second, .val (.int (0 : Int32)), .val (.int (0 : Int32)), .val (.long cv), .second, .val (.long sv), .second, .val (.long sv), .second, .val (.ref pa), .val (.ref pb), .val (.ref pc), .val (.ref o), .val (.long sv), .second, .unset, .unset, .unset, .unset, .unset, .unset, .unset, .unset, .unset, .unset]) rfl (pc' := 167) rfl ?_
      refine own_aload C X at_167 rfl rfl (pc' := 169) rfl ?_
      refine own_iconst C X at_169 (v := 1) (by decide) (pc' := 170) rfl ?_
      refine own_callV C X at_170 (own_m_flow1 l Z a0 hw o _ n0 (own_big C X) hd r1 r2 r3 r4 r5 r6 nx tg cp rs (4 : Int32) sv (-sv) dv (0 : Int64) (0 : Int64) (0 : Int64) dv (0 : Int64) O P S) O.1 (hw _ (List.mem_of_getElem? (i := 74) rfl)) (hw _ (List.mem_of_getElem? (i := 75) rfl)) (hw _ (List.mem_of_getElem? (i := 77) rfl)) (hw _ (List.mem_of_getElem? (i := 76) rfl)) (hw _ (List.mem_of_getElem? (i := 4) rfl)) (hw _ (List.mem_of_getElem? (i := 78) rfl)) (by decide) own_pd_1973 rfl rfl (Nat.le_of_ble_eq_true rfl) (Nat.le_of_ble_eq_true rfl) (Nat.le_of_ble_eq_true rfl) (Nat.le_of_ble_eq_true rfl) (av := [(.int (1 : Int32))]) (S := []) rfl (pc' := 173) rfl ?_
      intro T h v X hQ
      obtain ⟨rfl, rfl⟩ := hQ
      rw [own_a3]
      show own_Go p e below n0 (own_Fin room_1 s (fun v h => v = some (.int 1))) (T.setTop (mkF m 173 #[.val (.long q0), .second, .val (.long q1), .second, .val (.long q2), .second, .val (.long q3), .second, .val (.int i4), .val (.long cv), .second, .val (.long rv), .second, .val (.long dv), .second, .val (.int (0 : Int32)), .val (.int (0 : Int32)), .val (.long cv), .second, .val (.long sv), .second, .val (.long sv), .second, .val (.ref pa), .val (.ref pb), .val (.ref pc), .val (.ref o), .val (.long sv), .second, .unset, .unset, .unset, .unset, .unset, .unset, .unset, .unset, .unset, .unset] [(.long (-sv))]))
      refine own_lstore C X at_173 (L' := #[.val (.long q0), .second, .val (.long q1), .second, .val (.long q2), .second, .val (.long q3), .second, .val (.int i4), .val (.long cv), .second, .val (.long rv), .second, .val (.long dv), .second, .val (.int (0 : Int32)), .val (.int (0 : Int32)), .val (.long cv), .second, .val (.long sv), .second, .val (.long sv), .second, .val (.ref pa), .val (.ref pb), .val (.ref pc), .val (.ref o), .val (.long sv), .second, .val (.long (-sv)), .second, .unset, .unset, .unset, .unset, .unset, .unset, .unset, .unset]) rfl (pc' := 175) rfl ?_
      refine own_aload C X at_175 rfl rfl (pc' := 177) rfl ?_
      refine own_aload C X at_177 rfl rfl (pc' := 179) rfl ?_
      refine own_callV C X at_179 (own_m_ag0_4 l Z a0 hw o pa _ n0 (own_big C X) hd r1 r2 r3 r4 r5 r6 nx tg cp rs sv (-sv) dv (0 : Int64) (0 : Int64) (0 : Int64) dv (0 : Int64) O P S A_pa ge_o ge_cp ge_rs ne_o_cp ne_o_rs ne_cp_rs ne_rs_pa (Ne.symm ne_pa_o) ne_cp_pa (by decide)) O.1 (hw _ (List.mem_of_getElem? (i := 79) rfl)) (hw _ (List.mem_of_getElem? (i := 80) rfl)) (hw _ (List.mem_of_getElem? (i := 82) rfl)) (hw _ (List.mem_of_getElem? (i := 81) rfl)) (hw _ (List.mem_of_getElem? (i := 4) rfl)) (hw _ (List.mem_of_getElem? (i := 83) rfl)) (by decide) own_pd_2889 rfl rfl (Nat.le_of_ble_eq_true rfl) (Nat.le_of_ble_eq_true rfl) (Nat.le_of_ble_eq_true rfl) (Nat.le_of_ble_eq_true rfl) (av := [(.ref pa)]) (S := []) rfl (pc' := 182) rfl ?_
      intro T h v X hQ
      obtain ⟨rfl, K_, O, P, S⟩ := hQ
      have A_pa := A_pa.keep K_ (ninS ne_pa_o (ninS (Ne.symm ne_cp_pa) (ninS (Ne.symm ne_rs_pa) nin0)))
      have A_pb := A_pb.keep K_ (ninS ne_pb_o (ninS (Ne.symm ne_cp_pb) (ninS (Ne.symm ne_rs_pb) nin0)))
      have A_pc := A_pc.keep K_ (ninS ne_pc_o (ninS (Ne.symm ne_cp_pc) (ninS (Ne.symm ne_rs_pc) nin0)))
      show own_Go p e below n0 (own_Fin room_1 s (fun v h => v = some (.int 1))) (T.setTop (mkF m 182 #[.val (.long q0), .second, .val (.long q1), .second, .val (.long q2), .second, .val (.long q3), .second, .val (.int i4), .val (.long cv), .second, .val (.long rv), .second, .val (.long dv), .second, .val (.int (0 : Int32)), .val (.int (0 : Int32)), .val (.long cv), .second, .val (.long sv), .second, .val (.long sv), .second, .val (.ref pa), .val (.ref pb), .val (.ref pc), .val (.ref o), .val (.long sv), .second, .val (.long (-sv)), .second, .unset, .unset, .unset, .unset, .unset, .unset, .unset, .unset] [(.long (0 : Int64))]))
      replace S : own_JA Z h rs (own_L4 (0 : Int64) (0 : Int64) dv (0 : Int64)) := S
      refine own_lstore C X at_182 (L' := #[.val (.long q0), .second, .val (.long q1), .second, .val (.long q2), .second, .val (.long q3), .second, .val (.int i4), .val (.long cv), .second, .val (.long rv), .second, .val (.long dv), .second, .val (.int (0 : Int32)), .val (.int (0 : Int32)), .val (.long cv), .second, .val (.long sv), .second, .val (.long sv), .second, .val (.ref pa), .val (.ref pb), .val (.ref pc), .val (.ref o), .val (.long sv), .second, .val (.long (-sv)), .second, .val (.long (0 : Int64)), .second, .unset, .unset, .unset, .unset, .unset, .unset]) rfl (pc' := 184) rfl ?_
      refine own_aload C X at_184 rfl rfl (pc' := 186) rfl ?_
      refine own_aload C X at_186 rfl rfl (pc' := 188) rfl ?_
      refine own_callV C X at_188 (own_m_ag1_5 l Z a0 hw o pb _ n0 (own_big C X) hd r1 r2 r3 r4 r5 r6 nx tg cp rs sv (-sv) dv (0 : Int64) (0 : Int64) (0 : Int64) dv (0 : Int64) O P S A_pb ge_o ge_cp ge_rs ne_o_cp ne_o_rs ne_cp_rs ne_rs_pb (Ne.symm ne_pb_o) ne_cp_pb (by decide)) O.1 (hw _ (List.mem_of_getElem? (i := 79) rfl)) (hw _ (List.mem_of_getElem? (i := 80) rfl)) (hw _ (List.mem_of_getElem? (i := 82) rfl)) (hw _ (List.mem_of_getElem? (i := 81) rfl)) (hw _ (List.mem_of_getElem? (i := 4) rfl)) (hw _ (List.mem_of_getElem? (i := 83) rfl)) (by decide) own_pd_2889 rfl rfl (Nat.le_of_ble_eq_true rfl) (Nat.le_of_ble_eq_true rfl) (Nat.le_of_ble_eq_true rfl) (Nat.le_of_ble_eq_true rfl) (av := [(.ref pb)]) (S := []) rfl (pc' := 191) rfl ?_
      intro T h v X hQ
      obtain ⟨rfl, K_, O, P, S⟩ := hQ
      have A_pa := A_pa.keep K_ (ninS ne_pa_o (ninS (Ne.symm ne_cp_pa) (ninS (Ne.symm ne_rs_pa) nin0)))
      have A_pb := A_pb.keep K_ (ninS ne_pb_o (ninS (Ne.symm ne_cp_pb) (ninS (Ne.symm ne_rs_pb) nin0)))
      have A_pc := A_pc.keep K_ (ninS ne_pc_o (ninS (Ne.symm ne_cp_pc) (ninS (Ne.symm ne_rs_pc) nin0)))
      show own_Go p e below n0 (own_Fin room_1 s (fun v h => v = some (.int 1))) (T.setTop (mkF m 191 #[.val (.long q0), .second, .val (.long q1), .second, .val (.long q2), .second, .val (.long q3), .second, .val (.int i4), .val (.long cv), .second, .val (.long rv), .second, .val (.long dv), .second, .val (.int (0 : Int32)), .val (.int (0 : Int32)), .val (.long cv), .second, .val (.long sv), .second, .val (.long sv), .second, .val (.ref pa), .val (.ref pb), .val (.ref pc), .val (.ref o), .val (.long sv), .second, .val (.long (-sv)), .second, .val (.long (0 : Int64)), .second, .unset, .unset, .unset, .unset, .unset, .unset] [(.long (0 : Int64))]))
      replace S : own_JA Z h rs (own_L4 (0 : Int64) (0 : Int64) dv (0 : Int64)) := S
      refine own_lstore C X at_191 (L' := #[.val (.long q0), .second, .val (.long q1), .second, .val (.long q2), .second, .val (.long q3), .second, .val (.int i4), .val (.long cv), .second, .val (.long rv), .second, .val (.long dv), .second, .val (.int (0 : Int32)), .val (.int (0 : Int32)), .val (.long cv), .second, .val (.long sv), .second, .val (.long sv), .second, .val (.ref pa), .val (.ref pb), .val (.ref pc), .val (.ref o), .val (.long sv), .second, .val (.long (-sv)), .second, .val (.long (0 : Int64)), .second, .val (.long (0 : Int64)), .second, .unset, .unset, .unset, .unset]) rfl (pc' := 193) rfl ?_
      refine own_aload C X at_193 rfl rfl (pc' := 195) rfl ?_
      refine own_aload C X at_195 rfl rfl (pc' := 197) rfl ?_
      refine own_callV C X at_197 (own_m_ag2_6 l Z a0 hw o pc _ n0 (own_big C X) hd r1 r2 r3 r4 r5 r6 nx tg cp rs sv (-sv) dv (0 : Int64) (0 : Int64) (0 : Int64) dv (0 : Int64) O P S A_pc ge_o ge_cp ge_rs ne_o_cp ne_o_rs ne_cp_rs ne_rs_pc (Ne.symm ne_pc_o) ne_cp_pc (own_ax _ hc2)) O.1 (hw _ (List.mem_of_getElem? (i := 79) rfl)) (hw _ (List.mem_of_getElem? (i := 80) rfl)) (hw _ (List.mem_of_getElem? (i := 82) rfl)) (hw _ (List.mem_of_getElem? (i := 81) rfl)) (hw _ (List.mem_of_getElem? (i := 4) rfl)) (hw _ (List.mem_of_getElem? (i := 83) rfl)) (by decide) own_pd_2889 rfl rfl (Nat.le_of_ble_eq_true rfl) (Nat.le_of_ble_eq_true rfl) (Nat.le_of_ble_eq_true rfl) (Nat.le_of_ble_eq_true rfl) (av := [(.ref pc)]) (S := []) rfl (pc' := 200) rfl ?_
      intro T h v X hQ
      obtain ⟨rfl, K_, O, P, S⟩ := hQ
      have A_pa := A_pa.keep K_ (ninS ne_pa_o (ninS (Ne.symm ne_cp_pa) (ninS (Ne.symm ne_rs_pa) nin0)))
      have A_pb := A_pb.keep K_ (ninS ne_pb_o (ninS (Ne.symm ne_cp_pb) (ninS (Ne.symm ne_rs_pb) nin0)))
      have A_pc := A_pc.keep K_ (ninS ne_pc_o (ninS (Ne.symm ne_cp_pc) (ninS (Ne.symm ne_rs_pc) nin0)))
      show own_Go p e below n0 (own_Fin room_1 s (fun v h => v = some (.int 1))) (T.setTop (mkF m 200 #[.val (.long q0), .second, .val (.long q1), .second, .val (.long q2), .second, .val (.long q3), .second, .val (.int i4), .val (.long cv), .second, .val (.long rv), .second, .val (.long dv), .second, .val (.int (0 : Int32)), .val (.int (0 : Int32)), .val (.long cv), .second, .val (.long sv), .second, .val (.long sv), .second, .val (.ref pa), .val (.ref pb), .val (.ref pc), .val (.ref o), .val (.long sv), .second, .val (.long (-sv)), .second, .val (.long (0 : Int64)), .second, .val (.long (0 : Int64)), .second, .unset, .unset, .unset, .unset] [(.long dv)]))
      refine own_lstore C X at_200 (L' := #[.val (.long q0), .second, .val (.long q1), .second, .val (.long q2), .second, .val (.long q3), .second, .val (.int i4), .val (.long cv), .second, .val (.long rv), .second, .val (.long dv), .second, .val (.int (0 : Int32)), .val (.int (0 : Int32)), .val (.long cv), .second, .val (.long sv), .second, .val (.long sv), .second, .val (.ref pa), .val (.ref pb), .val (.ref pc), .val (.ref o), .val (.long sv), .second, .val (.long (-sv)), .second, .val (.long (0 : Int64)), .second, .val (.long (0 : Int64)), .second, .val (.long dv), .second, .unset, .unset]) rfl (pc' := 202) rfl ?_
      refine own_aload C X at_202 rfl rfl (pc' := 204) rfl ?_
      refine own_iconst C X at_204 (v := 0) (by decide) (pc' := 205) rfl ?_
      refine own_callV C X at_205 (own_m_flow0 l Z a0 hw o _ n0 (own_big C X) hd r1 r2 r3 r4 r5 r6 nx tg cp rs (7 : Int32) sv (-sv) dv (0 : Int64) (0 : Int64) (0 : Int64) (dv - dv) ((0 : Int64) + dv) O P S) O.1 (hw _ (List.mem_of_getElem? (i := 74) rfl)) (hw _ (List.mem_of_getElem? (i := 75) rfl)) (hw _ (List.mem_of_getElem? (i := 77) rfl)) (hw _ (List.mem_of_getElem? (i := 76) rfl)) (hw _ (List.mem_of_getElem? (i := 4) rfl)) (hw _ (List.mem_of_getElem? (i := 78) rfl)) (by decide) own_pd_1973 rfl rfl (Nat.le_of_ble_eq_true rfl) (Nat.le_of_ble_eq_true rfl) (Nat.le_of_ble_eq_true rfl) (Nat.le_of_ble_eq_true rfl) (av := [(.int (0 : Int32))]) (S := []) rfl (pc' := 208) rfl ?_
      intro T h v X hQ
      obtain ⟨rfl, rfl⟩ := hQ
      rw [own_a3]
      show own_Go p e below n0 (own_Fin room_1 s (fun v h => v = some (.int 1))) (T.setTop (mkF m 208 #[.val (.long q0), .second, .val (.long q1), .second, .val (.long q2), .second, .val (.long q3), .second, .val (.int i4), .val (.long cv), .second, .val (.long rv), .second, .val (.long dv), .second, .val (.int (0 : Int32)), .val (.int (0 : Int32)), .val (.long cv), .second, .val (.long sv), .second, .val (.long sv), .second, .val (.ref pa), .val (.ref pb), .val (.ref pc), .val (.ref o), .val (.long sv), .second, .val (.long (-sv)), .second, .val (.long (0 : Int64)), .second, .val (.long (0 : Int64)), .second, .val (.long dv), .second, .unset, .unset] [(.long sv)]))
      refine own_lstore C X at_208 (L' := #[.val (.long q0), .second, .val (.long q1), .second, .val (.long q2), .second, .val (.long q3), .second, .val (.int i4), .val (.long cv), .second, .val (.long rv), .second, .val (.long dv), .second, .val (.int (0 : Int32)), .val (.int (0 : Int32)), .val (.long cv), .second, .val (.long sv), .second, .val (.long sv), .second, .val (.ref pa), .val (.ref pb), .val (.ref pc), .val (.ref o), .val (.long sv), .second, .val (.long (-sv)), .second, .val (.long (0 : Int64)), .second, .val (.long (0 : Int64)), .second, .val (.long dv), .second, .val (.long sv), .second]) rfl (pc' := 210) rfl ?_
      refine own_lload C X at_210 rfl (pc' := 212) rfl ?_
      refine own_lload C X at_212 rfl (pc' := 214) rfl ?_
      refine own_lcmp_ne C X at_214 at_215 (pcT := 261) (pc' := 218) (by decide) (by decide) rfl (fun hc214 => absurd hc214 (not_not_intro (rfl))) (fun hc214 => ?_)
      refine own_lload C X at_218 rfl (pc' := 220) rfl ?_
      refine own_lload C X at_220 rfl (pc' := 222) rfl ?_
      refine own_lneg C X at_222 rfl (pc' := 223) rfl ?_
      refine own_lcmp_ne C X at_223 at_224 (pcT := 261) (pc' := 227) (by decide) (by decide) rfl (fun hc223 => absurd hc223 (not_not_intro (rfl))) (fun hc223 => ?_)
      refine own_lload C X at_227 rfl (pc' := 229) rfl ?_
      refine own_lconst C X at_229 (v := 0) (by decide) (pc' := 230) rfl ?_
      refine own_lcmp_ne C X at_230 at_231 (pcT := 261) (pc' := 234) (by decide) (by decide) rfl (fun hc230 => absurd hc230 (by decide)) (fun hc230 => ?_)
      refine own_lload C X at_234 rfl (pc' := 236) rfl ?_
      refine own_lconst C X at_236 (v := 0) (by decide) (pc' := 237) rfl ?_
      refine own_lcmp_ne C X at_237 at_238 (pcT := 261) (pc' := 241) (by decide) (by decide) rfl (fun hc237 => absurd hc237 (by decide)) (fun hc237 => ?_)
      refine own_lload C X at_241 rfl (pc' := 243) rfl ?_
      refine own_lload C X at_243 rfl (pc' := 245) rfl ?_
      refine own_lcmp_ne C X at_245 at_246 (pcT := 261) (pc' := 249) (by decide) (by decide) rfl (fun hc245 => absurd hc245 (not_not_intro (rfl))) (fun hc245 => ?_)
      refine own_lload C X at_249 rfl (pc' := 251) rfl ?_
      refine own_lload C X at_251 rfl (pc' := 253) rfl ?_
      refine own_lcmp_ne C X at_253 at_254 (pcT := 261) (pc' := 257) (by decide) (by decide) rfl (fun hc253 => absurd hc253 (not_not_intro (rfl))) (fun hc253 => ?_)
      refine own_iconst C X at_257 (v := 1) (by decide) (pc' := 258) rfl ?_
      refine own_goto C X at_258 (pc' := 262) (by decide) (by decide) ?_
      exact own_ireturn_z C X at_262 (Nat.le_of_ble_eq_true rfl) (Nat.le_of_ble_eq_true rfl) (rfl)
    · refine own_iload C X at_36 rfl (pc' := 38) rfl ?_
      refine own_if_ne C X at_38 (pcT := 46) (pc' := 41) (by decide) (by decide) rfl (fun hc38 => ?_) (fun hc38 => absurd hc38 (by decide))
      refine own_lload C X at_46 rfl (pc' := 48) rfl ?_
      refine own_lstore C X at_48 (L' := #[.val (.long q0), .second, .val (.long q1), .second, .val (.long q2), .second, .val (.long q3), .second, .val (.int i4), .val (.long cv), .second, .val (.long rv), .second, .val (.long dv), .second, .val (.int (0 : Int32)), .val (.int (1 : Int32)), .val (.long rv), .second, .unset, .unset, .unset, .unset, .unset, .unset, .unset, .unset, .unset, .unset, .unset, .unset, .unset, .unset, .unset, .unset, .unset, .unset, .unset, .unset]) rfl (pc' := 50) rfl ?_
      refine own_lload C X at_50 rfl (pc' := 52) rfl ?_
      refine own_ldc2L C X at_52 (hw _ (List.mem_of_getElem? (i := 0) rfl)) (pc' := 55) rfl ?_
      refine own_land C X at_55 rfl (pc' := 56) rfl ?_
      refine own_lload C X at_56 rfl (pc' := 58) rfl ?_
      refine own_lconst C X at_58 (v := 1) (by decide) (pc' := 59) rfl ?_
      refine own_ladd C X at_59 rfl (pc' := 60) rfl ?_
      have hnz := own_nz rv hq_rv.1 hq_rv.2
      obtain ⟨sv, e_sv⟩ : ∃ z : Int64, ((q2 &&& (4611686018427387903 : Int64)) % (rv + (1 : Int64))) = z := ⟨_, rfl⟩
      refine own_lrem C X at_60 hnz e_sv (pc' := 61) rfl ?_
      obtain ⟨hs0, hs1⟩ := own_rem q2 rv sv hq_rv.1 hq_rv.2 e_sv
      refine own_lstore C X at_61 (L' := #[.val (.long q0), .second, .val (.long q1), .second, .val (.long q2), .second, .val (.long q3), .second, .val (.int i4), .val (.long cv), .second, .val (.long rv), .second, .val (.long dv), .second, .val (.int (0 : Int32)), .val (.int (1 : Int32)), .val (.long rv), .second, .val (.long sv), .second, .unset, .unset, .unset, .unset, .unset, .unset, .unset, .unset, .unset, .unset, .unset, .unset, .unset, .unset, .unset, .unset, .unset, .unset]) rfl (pc' := 63) rfl ?_
      refine own_iload C X at_63 rfl (pc' := 65) rfl ?_
      refine own_if_ne C X at_65 (pcT := 73) (pc' := 68) (by decide) (by decide) rfl (fun hc65 => ?_) (fun hc65 => absurd hc65 (by decide))
      refine own_lload C X at_73 rfl (pc' := 75) rfl ?_
      refine own_lneg C X at_75 rfl (pc' := 76) rfl ?_
      refine own_lstore C X at_76 (L' := #[.val (.long q0), .second, .val (.long q1), .second, .val (.long q2), .second, .val (.long q3), .second, .val (.int i4), .val (.long cv), .second, .val (.long rv), .second, .val (.long dv), .second, .val (.int (0 : Int32)), .val (.int (1 : Int32)), .val (.long rv), .second, .val (.long sv), .second, .val (.long (-sv)), .second, .unset, .unset, .unset, .unset, .unset, .unset, .unset, .unset, .unset, .unset, .unset, .unset, .unset, .unset, .unset, .unset]) rfl (pc' := 78) rfl ?_
      refine own_iconst C X at_78 (v := 1) (by decide) (pc' := 79) rfl ?_
      refine own_newI C X at_79 (ty := .int) rfl (hw _ (List.mem_of_getElem? (i := 1) rfl)) (by decide) (k := 1) (cap := 1) (Nat.le_of_ble_eq_true rfl) (by decide) (Nat.le_of_ble_eq_true rfl) (Nat.le_of_ble_eq_true rfl) rfl rfl (pc' := 81) rfl ?_
      intro T h pa e_pa X K_ ge_pa A_pa_
      have A_pa : own_IA Z h pa .int [(0 : Int32)] := A_pa_
      refine own_dup C X at_81 rfl (pc' := 82) rfl ?_
      refine own_iconst C X at_82 (v := 0) (by decide) (pc' := 83) rfl ?_
      refine own_iload C X at_83 rfl (pc' := 85) rfl ?_
      refine own_iastore C X at_85 A_pa (by decide) (i := 0) (Nat.le_of_ble_eq_true rfl) ge_pa (pc' := 86) rfl ?_
      intro T h X K_ A_pa_
      have A_pa : own_IA Z h pa .int [(0 : Int32)] := A_pa_
      refine own_astore C X at_86 rfl (L' := #[.val (.long q0), .second, .val (.long q1), .second, .val (.long q2), .second, .val (.long q3), .second, .val (.int i4), .val (.long cv), .second, .val (.long rv), .second, .val (.long dv), .second, .val (.int (0 : Int32)), .val (.int (1 : Int32)), .val (.long rv), .second, .val (.long sv), .second, .val (.long (-sv)), .second, .val (.ref pa), .unset, .unset, .unset, .unset, .unset, .unset, .unset, .unset, .unset, .unset, .unset, .unset, .unset, .unset, .unset]) rfl (pc' := 88) rfl ?_
      refine own_iconst C X at_88 (v := 1) (by decide) (pc' := 89) rfl ?_
      refine own_newI C X at_89 (ty := .int) rfl (hw _ (List.mem_of_getElem? (i := 1) rfl)) (by decide) (k := 1) (cap := 1) (Nat.le_of_ble_eq_true rfl) (by decide) (Nat.le_of_ble_eq_true rfl) (Nat.le_of_ble_eq_true rfl) rfl rfl (pc' := 91) rfl ?_
      intro T h pb e_pb X K_ ge_pb A_pb_
      have ne_pa_pb : pa ≠ pb := by rw [e_pb]; exact Nat.ne_of_lt A_pa.lt
      have A_pb : own_IA Z h pb .int [(0 : Int32)] := A_pb_
      have A_pa := A_pa.keep K_ nin0
      refine own_dup C X at_91 rfl (pc' := 92) rfl ?_
      refine own_iconst C X at_92 (v := 0) (by decide) (pc' := 93) rfl ?_
      refine own_iload C X at_93 rfl (pc' := 95) rfl ?_
      refine own_iconst C X at_95 (v := 1) (by decide) (pc' := 96) rfl ?_
      refine own_ixor C X at_96 (z := 1) (by decide) (pc' := 97) rfl ?_
      refine own_iastore C X at_97 A_pb (by decide) (i := 0) (Nat.le_of_ble_eq_true rfl) ge_pb (pc' := 98) rfl ?_
      intro T h X K_ A_pb_
      have A_pb : own_IA Z h pb .int [(1 : Int32)] := A_pb_
      have A_pa := A_pa.keep K_ (ninS ne_pa_pb nin0)
      refine own_astore C X at_98 rfl (L' := #[.val (.long q0), .second, .val (.long q1), .second, .val (.long q2), .second, .val (.long q3), .second, .val (.int i4), .val (.long cv), .second, .val (.long rv), .second, .val (.long dv), .second, .val (.int (0 : Int32)), .val (.int (1 : Int32)), .val (.long rv), .second, .val (.long sv), .second, .val (.long (-sv)), .second, .val (.ref pa), .val (.ref pb), .unset, .unset, .unset, .unset, .unset, .unset, .unset, .unset, .unset, .unset, .unset, .unset, .unset, .unset]) rfl (pc' := 100) rfl ?_
      refine own_iconst C X at_100 (v := 1) (by decide) (pc' := 101) rfl ?_
      refine own_newI C X at_101 (ty := .int) rfl (hw _ (List.mem_of_getElem? (i := 1) rfl)) (by decide) (k := 1) (cap := 1) (Nat.le_of_ble_eq_true rfl) (by decide) (Nat.le_of_ble_eq_true rfl) (Nat.le_of_ble_eq_true rfl) rfl rfl (pc' := 103) rfl ?_
      intro T h pc e_pc X K_ ge_pc A_pc_
      have ne_pa_pc : pa ≠ pc := by rw [e_pc]; exact Nat.ne_of_lt A_pa.lt
      have ne_pb_pc : pb ≠ pc := by rw [e_pc]; exact Nat.ne_of_lt A_pb.lt
      have A_pc : own_IA Z h pc .int [(0 : Int32)] := A_pc_
      have A_pa := A_pa.keep K_ nin0
      have A_pb := A_pb.keep K_ nin0
      refine own_dup C X at_103 rfl (pc' := 104) rfl ?_
      refine own_iconst C X at_104 (v := 0) (by decide) (pc' := 105) rfl ?_
      refine own_iconst C X at_105 (v := 2) (by decide) (pc' := 106) rfl ?_
      refine own_iastore C X at_106 A_pc (by decide) (i := 0) (Nat.le_of_ble_eq_true rfl) ge_pc (pc' := 107) rfl ?_
      intro T h X K_ A_pc_
      have A_pc : own_IA Z h pc .int [(2 : Int32)] := A_pc_
      have A_pa := A_pa.keep K_ (ninS ne_pa_pc nin0)
      have A_pb := A_pb.keep K_ (ninS ne_pb_pc nin0)
      refine own_astore C X at_107 rfl (L' := #[.val (.long q0), .second, .val (.long q1), .second, .val (.long q2), .second, .val (.long q3), .second, .val (.int i4), .val (.long cv), .second, .val (.long rv), .second, .val (.long dv), .second, .val (.int (0 : Int32)), .val (.int (1 : Int32)), .val (.long rv), .second, .val (.long sv), .second, .val (.long (-sv)), .second, .val (.ref pa), .val (.ref pb), .val (.ref pc), .unset, .unset, .unset, .unset, .unset, .unset, .unset, .unset, .unset, .unset, .unset, .unset, .unset]) rfl (pc' := 109) rfl ?_
      refine own_new C X at_109 (hw _ (List.mem_of_getElem? (i := 2) rfl)) (hw _ (List.mem_of_getElem? (i := 3) rfl)) (hw _ (List.mem_of_getElem? (i := 4) rfl)) (Nat.le_of_ble_eq_true rfl) (Nat.le_of_ble_eq_true rfl) [("deadMark", "I", (.int (0 : Int32))), ("deadFrom", "I", (.int (0 : Int32))), ("deadTo", "I", (.int (0 : Int32))), ("heads", "[I", .null), ("marks", "[I", .null), ("cursors", "[I", .null), ("searchPath", "[I", .null), ("reached", "[I", .null), ("distances", "[I", .null), ("deadMarks", "[I", .null), ("nexts", "[I", .null), ("targets", "[I", .null), ("capacities", "[J", .null), ("residuals", "[J", .null), ("arcs", "I", (.int (0 : Int32)))] (by decide) ?_ (pc' := 112) rfl ?_
      · intro f hf; simp only [List.mem_cons, List.not_mem_nil, or_false] at hf
        rcases hf with rfl | rfl | rfl | rfl | rfl | rfl | rfl | rfl | rfl | rfl | rfl | rfl | rfl | rfl | rfl
        · exact ⟨(Or.inl (hw _ (List.mem_of_getElem? (i := 12) rfl))), .int, by decide, rfl⟩
        · exact ⟨(Or.inl (hw _ (List.mem_of_getElem? (i := 14) rfl))), .int, by decide, rfl⟩
        · exact ⟨(Or.inl (hw _ (List.mem_of_getElem? (i := 16) rfl))), .int, by decide, rfl⟩
        · exact ⟨(Or.inr (hw _ (List.mem_of_getElem? (i := 18) rfl))), (.array .int), by decide, rfl⟩
        · exact ⟨(Or.inr (hw _ (List.mem_of_getElem? (i := 24) rfl))), (.array .int), by decide, rfl⟩
        · exact ⟨(Or.inr (hw _ (List.mem_of_getElem? (i := 26) rfl))), (.array .int), by decide, rfl⟩
        · exact ⟨(Or.inr (hw _ (List.mem_of_getElem? (i := 28) rfl))), (.array .int), by decide, rfl⟩
        · exact ⟨(Or.inr (hw _ (List.mem_of_getElem? (i := 30) rfl))), (.array .int), by decide, rfl⟩
        · exact ⟨(Or.inr (hw _ (List.mem_of_getElem? (i := 32) rfl))), (.array .int), by decide, rfl⟩
        · exact ⟨(Or.inr (hw _ (List.mem_of_getElem? (i := 34) rfl))), (.array .int), by decide, rfl⟩
        · exact ⟨(Or.inl (hw _ (List.mem_of_getElem? (i := 40) rfl))), (.array .int), by decide, rfl⟩
        · exact ⟨(Or.inl (hw _ (List.mem_of_getElem? (i := 42) rfl))), (.array .int), by decide, rfl⟩
        · exact ⟨(Or.inl (hw _ (List.mem_of_getElem? (i := 45) rfl))), (.array .long), by decide, rfl⟩
        · exact ⟨(Or.inl (hw _ (List.mem_of_getElem? (i := 47) rfl))), (.array .long), by decide, rfl⟩
        · exact ⟨(Or.inl (hw _ (List.mem_of_getElem? (i := 59) rfl))), .int, by decide, rfl⟩
      intro T h o e_o X K_ ge_o O_o
      have ne_pa_o : pa ≠ o := by rw [e_o]; exact Nat.ne_of_lt A_pa.lt
      have ne_pb_o : pb ≠ o := by rw [e_o]; exact Nat.ne_of_lt A_pb.lt
      have ne_pc_o : pc ≠ o := by rw [e_o]; exact Nat.ne_of_lt A_pc.lt
      have A_pa := A_pa.keep K_ nin0
      have A_pb := A_pb.keep K_ nin0
      have A_pc := A_pc.keep K_ nin0
      refine own_dup C X at_112 rfl (pc' := 113) rfl ?_
      refine own_iconst C X at_113 (v := 2) (by decide) (pc' := 114) rfl ?_
      refine own_iconst C X at_114 (v := 2) (by decide) (pc' := 115) rfl ?_
      have hbg := own_big C X
      have O := O_o
      refine own_callInit C X at_115 (own_m_init l Z a0 hw o _ n0 hbg O ge_o) rfl (hw _ (List.mem_of_getElem? (i := 5) rfl)) (hw _ (List.mem_of_getElem? (i := 6) rfl)) (hw _ (List.mem_of_getElem? (i := 4) rfl)) (hw _ (List.mem_of_getElem? (i := 7) rfl)) (by decide) own_pd_2877 rfl rfl (Nat.le_of_ble_eq_true rfl) (Nat.le_of_ble_eq_true rfl) (Nat.le_of_ble_eq_true rfl) (Nat.le_of_ble_eq_true rfl) (av := [(.int (2 : Int32)), (.int (2 : Int32))]) (S := [(.ref o)]) rfl (pc' := 118) rfl ?_
      intro T h v X hQ
      obtain ⟨rfl, hd, r1, r2, r3, r4, r5, r6, nx, tg, cp, rs, gh, g1, g2, g3, g4, K_, O_n, H, N, G, P, S⟩ := hQ
      have q_o : @LT.lt Nat instLTNat o _ := O.lt
      have q_pa : @LT.lt Nat instLTNat pa _ := A_pa.lt
      have q_pb : @LT.lt Nat instLTNat pb _ := A_pb.lt
      have q_pc : @LT.lt Nat instLTNat pc _ := A_pc.lt
      have ge_hd : n0 ≤ hd := by omega
      have ge_nx : n0 ≤ nx := by omega
      have ge_tg : n0 ≤ tg := by omega
      have ge_cp : n0 ≤ cp := by omega
      have ge_rs : n0 ≤ rs := by omega
      have ne_o_hd : o ≠ hd := Nat.ne_of_lt (by omega)
      have ne_o_nx : o ≠ nx := Nat.ne_of_lt (by omega)
      have ne_o_tg : o ≠ tg := Nat.ne_of_lt (by omega)
      have ne_o_cp : o ≠ cp := Nat.ne_of_lt (by omega)
      have ne_o_rs : o ≠ rs := Nat.ne_of_lt (by omega)
      have ne_hd_nx : hd ≠ nx := Nat.ne_of_lt (by omega)
      have ne_hd_tg : hd ≠ tg := Nat.ne_of_lt (by omega)
      have ne_hd_cp : hd ≠ cp := Nat.ne_of_lt (by omega)
      have ne_hd_rs : hd ≠ rs := Nat.ne_of_lt (by omega)
      have ne_nx_tg : nx ≠ tg := Nat.ne_of_lt (by omega)
      have ne_nx_cp : nx ≠ cp := Nat.ne_of_lt (by omega)
      have ne_nx_rs : nx ≠ rs := Nat.ne_of_lt (by omega)
      have ne_tg_cp : tg ≠ cp := Nat.ne_of_lt (by omega)
      have ne_tg_rs : tg ≠ rs := Nat.ne_of_lt (by omega)
      have ne_cp_rs : cp ≠ rs := Nat.ne_of_lt (by omega)
      have ne_hd_pa : hd ≠ pa := Nat.ne_of_gt (by omega)
      have ne_nx_pa : nx ≠ pa := Nat.ne_of_gt (by omega)
      have ne_tg_pa : tg ≠ pa := Nat.ne_of_gt (by omega)
      have ne_cp_pa : cp ≠ pa := Nat.ne_of_gt (by omega)
      have ne_rs_pa : rs ≠ pa := Nat.ne_of_gt (by omega)
      have ne_hd_pb : hd ≠ pb := Nat.ne_of_gt (by omega)
      have ne_nx_pb : nx ≠ pb := Nat.ne_of_gt (by omega)
      have ne_tg_pb : tg ≠ pb := Nat.ne_of_gt (by omega)
      have ne_cp_pb : cp ≠ pb := Nat.ne_of_gt (by omega)
      have ne_rs_pb : rs ≠ pb := Nat.ne_of_gt (by omega)
      have ne_hd_pc : hd ≠ pc := Nat.ne_of_gt (by omega)
      have ne_nx_pc : nx ≠ pc := Nat.ne_of_gt (by omega)
      have ne_tg_pc : tg ≠ pc := Nat.ne_of_gt (by omega)
      have ne_cp_pc : cp ≠ pc := Nat.ne_of_gt (by omega)
      have ne_rs_pc : rs ≠ pc := Nat.ne_of_gt (by omega)
      have O := O_n
      have A_pa := A_pa.keep K_ (ninS ne_pa_o nin0)
      have A_pb := A_pb.keep K_ (ninS ne_pb_o nin0)
      have A_pc := A_pc.keep K_ (ninS ne_pc_o nin0)
      show own_Go p e below n0 (own_Fin room_1 s (fun v h => v = some (.int 1))) (T.setTop (mkF m 118 #[.val (.long q0), .second, .val (.long q1), .second, .val (.long q2), .second, .val (.long q3), .second, .val (.int i4), .val (.long cv), .second, .val (.long rv), .second, .val (.long dv), .second, .val (.int (0 : Int32)), .val (.int (1 : Int32)), .val (.long rv), .second, .val (.long sv), .second, .val (.long (-sv)), .second, .val (.ref pa), .val (.ref pb), .val (.ref pc), .unset, .unset, .unset, .unset, .unset, .unset, .unset, .unset, .unset, .unset, .unset, .unset, .unset] [(.ref o)]))
      refine own_astore C X at_118 rfl (L' := #[.val (.long q0), .second, .val (.long q1), .second, .val (.long q2), .second, .val (.long q3), .second, .val (.int i4), .val (.long cv), .second, .val (.long rv), .second, .val (.long dv), .second, .val (.int (0 : Int32)), .val (.int (1 : Int32)), .val (.long rv), .second, .val (.long sv), .second, .val (.long (-sv)), .second, .val (.ref pa), .val (.ref pb), .val (.ref pc), .val (.ref o), .unset, .unset, .unset, .unset, .unset, .unset, .unset, .unset, .unset, .unset, .unset, .unset]) rfl (pc' := 120) rfl ?_
      refine own_aload C X at_120 rfl rfl (pc' := 122) rfl ?_
      refine own_iconst C X at_122 (v := 0) (by decide) (pc' := 123) rfl ?_
      refine own_iconst C X at_123 (v := 1) (by decide) (pc' := 124) rfl ?_
      refine own_lload C X at_124 rfl (pc' := 126) rfl ?_
      refine own_lload C X at_126 rfl (pc' := 128) rfl ?_
      refine own_callV C X at_128 (own_m_arc0 l Z a0 hw o cv rv _ n0 (own_big C X) hd r1 r2 r3 r4 r5 r6 nx tg cp rs (-1 : Int32) (-1 : Int32) (0 : Int32) (0 : Int32) (0 : Int32) (0 : Int32) (0 : Int32) (0 : Int32) (0 : Int32) (0 : Int32) (0 : Int64) (0 : Int64) (0 : Int64) (0 : Int64) (0 : Int64) (0 : Int64) (0 : Int64) (0 : Int64) O H N G P S ge_o ge_hd ge_nx ge_tg ge_cp ge_rs ne_o_hd ne_o_nx ne_o_tg ne_o_cp ne_o_rs ne_hd_nx ne_hd_tg ne_hd_cp ne_hd_rs ne_nx_tg ne_nx_cp ne_nx_rs ne_tg_cp ne_tg_rs ne_cp_rs) O.1 (hw _ (List.mem_of_getElem? (i := 48) rfl)) (hw _ (List.mem_of_getElem? (i := 49) rfl)) (hw _ (List.mem_of_getElem? (i := 51) rfl)) (hw _ (List.mem_of_getElem? (i := 50) rfl)) (hw _ (List.mem_of_getElem? (i := 4) rfl)) (hw _ (List.mem_of_getElem? (i := 52) rfl)) (by decide) own_pd_4516 rfl rfl (Nat.le_of_ble_eq_true rfl) (Nat.le_of_ble_eq_true rfl) (Nat.le_of_ble_eq_true rfl) (Nat.le_of_ble_eq_true rfl) (av := [(.int (0 : Int32)), (.int (1 : Int32)), (.long cv), (.long rv)]) (S := []) rfl (pc' := 131) rfl ?_
      intro T h v X hQ
      obtain ⟨rfl, K_, O, H, N, G, P, S⟩ := hQ
      have A_pa := A_pa.keep K_ (ninS ne_pa_o (ninS (Ne.symm ne_hd_pa) (ninS (Ne.symm ne_nx_pa) (ninS (Ne.symm ne_tg_pa) (ninS (Ne.symm ne_cp_pa) (ninS (Ne.symm ne_rs_pa) nin0))))))
      have A_pb := A_pb.keep K_ (ninS ne_pb_o (ninS (Ne.symm ne_hd_pb) (ninS (Ne.symm ne_nx_pb) (ninS (Ne.symm ne_tg_pb) (ninS (Ne.symm ne_cp_pb) (ninS (Ne.symm ne_rs_pb) nin0))))))
      have A_pc := A_pc.keep K_ (ninS ne_pc_o (ninS (Ne.symm ne_hd_pc) (ninS (Ne.symm ne_nx_pc) (ninS (Ne.symm ne_tg_pc) (ninS (Ne.symm ne_cp_pc) (ninS (Ne.symm ne_rs_pc) nin0))))))
      show own_Go p e below n0 (own_Fin room_1 s (fun v h => v = some (.int 1))) (T.setTop (mkF m 131 #[.val (.long q0), .second, .val (.long q1), .second, .val (.long q2), .second, .val (.long q3), .second, .val (.int i4), .val (.long cv), .second, .val (.long rv), .second, .val (.long dv), .second, .val (.int (0 : Int32)), .val (.int (1 : Int32)), .val (.long rv), .second, .val (.long sv), .second, .val (.long (-sv)), .second, .val (.ref pa), .val (.ref pb), .val (.ref pc), .val (.ref o), .unset, .unset, .unset, .unset, .unset, .unset, .unset, .unset, .unset, .unset, .unset, .unset] [(.int (0 : Int32))]))
      refine own_pop C X at_131 rfl (pc' := 132) rfl ?_
      refine own_aload C X at_132 rfl rfl (pc' := 134) rfl ?_
      refine own_iconst C X at_134 (v := 1) (by decide) (pc' := 135) rfl ?_
      refine own_iconst C X at_135 (v := 0) (by decide) (pc' := 136) rfl ?_
      refine own_lload C X at_136 rfl (pc' := 138) rfl ?_
      refine own_lconst C X at_138 (v := 0) (by decide) (pc' := 139) rfl ?_
      refine own_callV C X at_139 (own_m_arc2 l Z a0 hw o dv (0 : Int64) _ n0 (own_big C X) hd r1 r2 r3 r4 r5 r6 nx tg cp rs (0 : Int32) (1 : Int32) (-1 : Int32) (-1 : Int32) (0 : Int32) (0 : Int32) (1 : Int32) (0 : Int32) (0 : Int32) (0 : Int32) cv rv (0 : Int64) (0 : Int64) cv rv (0 : Int64) (0 : Int64) O H N G P S ge_o ge_hd ge_nx ge_tg ge_cp ge_rs ne_o_hd ne_o_nx ne_o_tg ne_o_cp ne_o_rs ne_hd_nx ne_hd_tg ne_hd_cp ne_hd_rs ne_nx_tg ne_nx_cp ne_nx_rs ne_tg_cp ne_tg_rs ne_cp_rs) O.1 (hw _ (List.mem_of_getElem? (i := 48) rfl)) (hw _ (List.mem_of_getElem? (i := 49) rfl)) (hw _ (List.mem_of_getElem? (i := 51) rfl)) (hw _ (List.mem_of_getElem? (i := 50) rfl)) (hw _ (List.mem_of_getElem? (i := 4) rfl)) (hw _ (List.mem_of_getElem? (i := 52) rfl)) (by decide) own_pd_4516 rfl rfl (Nat.le_of_ble_eq_true rfl) (Nat.le_of_ble_eq_true rfl) (Nat.le_of_ble_eq_true rfl) (Nat.le_of_ble_eq_true rfl) (av := [(.int (1 : Int32)), (.int (0 : Int32)), (.long dv), (.long (0 : Int64))]) (S := []) rfl (pc' := 142) rfl ?_
      intro T h v X hQ
      obtain ⟨rfl, K_, O, H, N, G, P, S⟩ := hQ
      have A_pa := A_pa.keep K_ (ninS ne_pa_o (ninS (Ne.symm ne_hd_pa) (ninS (Ne.symm ne_nx_pa) (ninS (Ne.symm ne_tg_pa) (ninS (Ne.symm ne_cp_pa) (ninS (Ne.symm ne_rs_pa) nin0))))))
      have A_pb := A_pb.keep K_ (ninS ne_pb_o (ninS (Ne.symm ne_hd_pb) (ninS (Ne.symm ne_nx_pb) (ninS (Ne.symm ne_tg_pb) (ninS (Ne.symm ne_cp_pb) (ninS (Ne.symm ne_rs_pb) nin0))))))
      have A_pc := A_pc.keep K_ (ninS ne_pc_o (ninS (Ne.symm ne_hd_pc) (ninS (Ne.symm ne_nx_pc) (ninS (Ne.symm ne_tg_pc) (ninS (Ne.symm ne_cp_pc) (ninS (Ne.symm ne_rs_pc) nin0))))))
      show own_Go p e below n0 (own_Fin room_1 s (fun v h => v = some (.int 1))) (T.setTop (mkF m 142 #[.val (.long q0), .second, .val (.long q1), .second, .val (.long q2), .second, .val (.long q3), .second, .val (.int i4), .val (.long cv), .second, .val (.long rv), .second, .val (.long dv), .second, .val (.int (0 : Int32)), .val (.int (1 : Int32)), .val (.long rv), .second, .val (.long sv), .second, .val (.long (-sv)), .second, .val (.ref pa), .val (.ref pb), .val (.ref pc), .val (.ref o), .unset, .unset, .unset, .unset, .unset, .unset, .unset, .unset, .unset, .unset, .unset, .unset] [(.int (2 : Int32))]))
      refine own_pop C X at_142 rfl (pc' := 143) rfl ?_
      refine own_aload C X at_143 rfl rfl (pc' := 145) rfl ?_
      refine own_iload C X at_145 rfl (pc' := 147) rfl ?_
      refine own_lload C X at_147 rfl (pc' := 149) rfl ?_
      refine own_callV C X at_149 (own_m_send1 l Z a0 hw o sv _ n0 (own_big C X) hd r1 r2 r3 r4 r5 r6 nx tg cp rs cv rv dv (0 : Int64) cv rv dv (0 : Int64) O P S ge_o ge_cp ge_rs ne_o_cp ne_o_rs ne_cp_rs (own_lt0 _ hs0) (own_le _ _ hs1)) O.1 (hw _ (List.mem_of_getElem? (i := 64) rfl)) (hw _ (List.mem_of_getElem? (i := 65) rfl)) (hw _ (List.mem_of_getElem? (i := 67) rfl)) (hw _ (List.mem_of_getElem? (i := 66) rfl)) (hw _ (List.mem_of_getElem? (i := 4) rfl)) (hw _ (List.mem_of_getElem? (i := 68) rfl)) (by decide) own_pd_2886 rfl rfl (Nat.le_of_ble_eq_true rfl) (Nat.le_of_ble_eq_true rfl) (Nat.le_of_ble_eq_true rfl) (Nat.le_of_ble_eq_true rfl) (av := [(.int (1 : Int32)), (.long sv)]) (S := []) rfl (pc' := 152) rfl ?_
      intro T h v X hQ
      obtain ⟨rfl, K_, O, P, S⟩ := hQ
      have A_pa := A_pa.keep K_ (ninS ne_pa_o (ninS (Ne.symm ne_cp_pa) (ninS (Ne.symm ne_rs_pa) nin0)))
      have A_pb := A_pb.keep K_ (ninS ne_pb_o (ninS (Ne.symm ne_cp_pb) (ninS (Ne.symm ne_rs_pb) nin0)))
      have A_pc := A_pc.keep K_ (ninS ne_pc_o (ninS (Ne.symm ne_cp_pc) (ninS (Ne.symm ne_rs_pc) nin0)))
      show own_Go p e below n0 (own_Fin room_1 s (fun v h => v = some (.int 1))) (T.setTop (mkF m 152 #[.val (.long q0), .second, .val (.long q1), .second, .val (.long q2), .second, .val (.long q3), .second, .val (.int i4), .val (.long cv), .second, .val (.long rv), .second, .val (.long dv), .second, .val (.int (0 : Int32)), .val (.int (1 : Int32)), .val (.long rv), .second, .val (.long sv), .second, .val (.long (-sv)), .second, .val (.ref pa), .val (.ref pb), .val (.ref pc), .val (.ref o), .unset, .unset, .unset, .unset, .unset, .unset, .unset, .unset, .unset, .unset, .unset, .unset] []))
      refine own_aload C X at_152 rfl rfl (pc' := 154) rfl ?_
      refine own_iload C X at_154 rfl (pc' := 156) rfl ?_
      refine own_callV C X at_156 (own_m_fix0 l Z a0 hw o _ n0 (own_big C X) hd r1 r2 r3 r4 r5 r6 nx tg cp rs cv rv dv (0 : Int64) (cv + sv) (rv - sv) dv (0 : Int64) O P S ge_o ge_cp ge_rs ne_o_cp ne_o_rs ne_cp_rs) O.1 (hw _ (List.mem_of_getElem? (i := 69) rfl)) (hw _ (List.mem_of_getElem? (i := 70) rfl)) (hw _ (List.mem_of_getElem? (i := 72) rfl)) (hw _ (List.mem_of_getElem? (i := 71) rfl)) (hw _ (List.mem_of_getElem? (i := 4) rfl)) (hw _ (List.mem_of_getElem? (i := 73) rfl)) (by decide) own_pd_2093 rfl rfl (Nat.le_of_ble_eq_true rfl) (Nat.le_of_ble_eq_true rfl) (Nat.le_of_ble_eq_true rfl) (Nat.le_of_ble_eq_true rfl) (av := [(.int (0 : Int32))]) (S := []) rfl (pc' := 159) rfl ?_
      intro T h v X hQ
      obtain ⟨rfl, K_, O, P, S⟩ := hQ
      have A_pa := A_pa.keep K_ (ninS ne_pa_o (ninS (Ne.symm ne_cp_pa) (ninS (Ne.symm ne_rs_pa) nin0)))
      have A_pb := A_pb.keep K_ (ninS ne_pb_o (ninS (Ne.symm ne_cp_pb) (ninS (Ne.symm ne_rs_pb) nin0)))
      have A_pc := A_pc.keep K_ (ninS ne_pc_o (ninS (Ne.symm ne_cp_pc) (ninS (Ne.symm ne_rs_pc) nin0)))
      show own_Go p e below n0 (own_Fin room_1 s (fun v h => v = some (.int 1))) (T.setTop (mkF m 159 #[.val (.long q0), .second, .val (.long q1), .second, .val (.long q2), .second, .val (.long q3), .second, .val (.int i4), .val (.long cv), .second, .val (.long rv), .second, .val (.long dv), .second, .val (.int (0 : Int32)), .val (.int (1 : Int32)), .val (.long rv), .second, .val (.long sv), .second, .val (.long (-sv)), .second, .val (.ref pa), .val (.ref pb), .val (.ref pc), .val (.ref o), .unset, .unset, .unset, .unset, .unset, .unset, .unset, .unset, .unset, .unset, .unset, .unset] []))
      rw [own_a1, own_a2] at P
      replace P : own_JA Z h cp (own_L4 (-sv) sv dv (0 : Int64)) := P
      refine own_aload C X at_159 rfl rfl (pc' := 161) rfl ?_
      refine own_iconst C X at_161 (v := 0) (by decide) (pc' := 162) rfl ?_
      refine own_callV C X at_162 (own_m_flow0 l Z a0 hw o _ n0 (own_big C X) hd r1 r2 r3 r4 r5 r6 nx tg cp rs (4 : Int32) (-sv) sv dv (0 : Int64) (0 : Int64) (0 : Int64) dv (0 : Int64) O P S) O.1 (hw _ (List.mem_of_getElem? (i := 74) rfl)) (hw _ (List.mem_of_getElem? (i := 75) rfl)) (hw _ (List.mem_of_getElem? (i := 77) rfl)) (hw _ (List.mem_of_getElem? (i := 76) rfl)) (hw _ (List.mem_of_getElem? (i := 4) rfl)) (hw _ (List.mem_of_getElem? (i := 78) rfl)) (by decide) own_pd_1973 rfl rfl (Nat.le_of_ble_eq_true rfl) (Nat.le_of_ble_eq_true rfl) (Nat.le_of_ble_eq_true rfl) (Nat.le_of_ble_eq_true rfl) (av := [(.int (0 : Int32))]) (S := []) rfl (pc' := 165) rfl ?_
      intro T h v X hQ
      obtain ⟨rfl, rfl⟩ := hQ
      rw [own_a3]
      show own_Go p e below n0 (own_Fin room_1 s (fun v h => v = some (.int 1))) (T.setTop (mkF m 165 #[.val (.long q0), .second, .val (.long q1), .second, .val (.long q2), .second, .val (.long q3), .second, .val (.int i4), .val (.long cv), .second, .val (.long rv), .second, .val (.long dv), .second, .val (.int (0 : Int32)), .val (.int (1 : Int32)), .val (.long rv), .second, .val (.long sv), .second, .val (.long (-sv)), .second, .val (.ref pa), .val (.ref pb), .val (.ref pc), .val (.ref o), .unset, .unset, .unset, .unset, .unset, .unset, .unset, .unset, .unset, .unset, .unset, .unset] [(.long (-sv))]))
      refine own_lstore C X at_165 (L' := #[.val (.long q0), .second, .val (.long q1), .second, .val (.long q2), .second, .val (.long q3), .second, .val (.int i4), .val (.long cv), .second, .val (.long rv), .second, .val (.long dv), .second, .val (.int (0 : Int32)), .val (.int (1 : Int32)), .val (.long rv), .second, .val (.long sv), .second, .val (.long (-sv)), .second, .val (.ref pa), .val (.ref pb), .val (.ref pc), .val (.ref o), .val (.long (-sv)), .second, .unset, .unset, .unset, .unset, .unset, .unset, .unset, .unset, .unset, .unset]) rfl (pc' := 167) rfl ?_
      refine own_aload C X at_167 rfl rfl (pc' := 169) rfl ?_
      refine own_iconst C X at_169 (v := 1) (by decide) (pc' := 170) rfl ?_
      refine own_callV C X at_170 (own_m_flow1 l Z a0 hw o _ n0 (own_big C X) hd r1 r2 r3 r4 r5 r6 nx tg cp rs (4 : Int32) (-sv) sv dv (0 : Int64) (0 : Int64) (0 : Int64) dv (0 : Int64) O P S) O.1 (hw _ (List.mem_of_getElem? (i := 74) rfl)) (hw _ (List.mem_of_getElem? (i := 75) rfl)) (hw _ (List.mem_of_getElem? (i := 77) rfl)) (hw _ (List.mem_of_getElem? (i := 76) rfl)) (hw _ (List.mem_of_getElem? (i := 4) rfl)) (hw _ (List.mem_of_getElem? (i := 78) rfl)) (by decide) own_pd_1973 rfl rfl (Nat.le_of_ble_eq_true rfl) (Nat.le_of_ble_eq_true rfl) (Nat.le_of_ble_eq_true rfl) (Nat.le_of_ble_eq_true rfl) (av := [(.int (1 : Int32))]) (S := []) rfl (pc' := 173) rfl ?_
      intro T h v X hQ
      obtain ⟨rfl, rfl⟩ := hQ
      rw [own_a3]
      show own_Go p e below n0 (own_Fin room_1 s (fun v h => v = some (.int 1))) (T.setTop (mkF m 173 #[.val (.long q0), .second, .val (.long q1), .second, .val (.long q2), .second, .val (.long q3), .second, .val (.int i4), .val (.long cv), .second, .val (.long rv), .second, .val (.long dv), .second, .val (.int (0 : Int32)), .val (.int (1 : Int32)), .val (.long rv), .second, .val (.long sv), .second, .val (.long (-sv)), .second, .val (.ref pa), .val (.ref pb), .val (.ref pc), .val (.ref o), .val (.long (-sv)), .second, .unset, .unset, .unset, .unset, .unset, .unset, .unset, .unset, .unset, .unset] [(.long sv)]))
      refine own_lstore C X at_173 (L' := #[.val (.long q0), .second, .val (.long q1), .second, .val (.long q2), .second, .val (.long q3), .second, .val (.int i4), .val (.long cv), .second, .val (.long rv), .second, .val (.long dv), .second, .val (.int (0 : Int32)), .val (.int (1 : Int32)), .val (.long rv), .second, .val (.long sv), .second, .val (.long (-sv)), .second, .val (.ref pa), .val (.ref pb), .val (.ref pc), .val (.ref o), .val (.long (-sv)), .second, .val (.long sv), .second, .unset, .unset, .unset, .unset, .unset, .unset, .unset, .unset]) rfl (pc' := 175) rfl ?_
      refine own_aload C X at_175 rfl rfl (pc' := 177) rfl ?_
      refine own_aload C X at_177 rfl rfl (pc' := 179) rfl ?_
      refine own_callV C X at_179 (own_m_ag0_4 l Z a0 hw o pa _ n0 (own_big C X) hd r1 r2 r3 r4 r5 r6 nx tg cp rs (-sv) sv dv (0 : Int64) (0 : Int64) (0 : Int64) dv (0 : Int64) O P S A_pa ge_o ge_cp ge_rs ne_o_cp ne_o_rs ne_cp_rs ne_rs_pa (Ne.symm ne_pa_o) ne_cp_pa (by decide)) O.1 (hw _ (List.mem_of_getElem? (i := 79) rfl)) (hw _ (List.mem_of_getElem? (i := 80) rfl)) (hw _ (List.mem_of_getElem? (i := 82) rfl)) (hw _ (List.mem_of_getElem? (i := 81) rfl)) (hw _ (List.mem_of_getElem? (i := 4) rfl)) (hw _ (List.mem_of_getElem? (i := 83) rfl)) (by decide) own_pd_2889 rfl rfl (Nat.le_of_ble_eq_true rfl) (Nat.le_of_ble_eq_true rfl) (Nat.le_of_ble_eq_true rfl) (Nat.le_of_ble_eq_true rfl) (av := [(.ref pa)]) (S := []) rfl (pc' := 182) rfl ?_
      intro T h v X hQ
      obtain ⟨rfl, K_, O, P, S⟩ := hQ
      have A_pa := A_pa.keep K_ (ninS ne_pa_o (ninS (Ne.symm ne_cp_pa) (ninS (Ne.symm ne_rs_pa) nin0)))
      have A_pb := A_pb.keep K_ (ninS ne_pb_o (ninS (Ne.symm ne_cp_pb) (ninS (Ne.symm ne_rs_pb) nin0)))
      have A_pc := A_pc.keep K_ (ninS ne_pc_o (ninS (Ne.symm ne_cp_pc) (ninS (Ne.symm ne_rs_pc) nin0)))
      show own_Go p e below n0 (own_Fin room_1 s (fun v h => v = some (.int 1))) (T.setTop (mkF m 182 #[.val (.long q0), .second, .val (.long q1), .second, .val (.long q2), .second, .val (.long q3), .second, .val (.int i4), .val (.long cv), .second, .val (.long rv), .second, .val (.long dv), .second, .val (.int (0 : Int32)), .val (.int (1 : Int32)), .val (.long rv), .second, .val (.long sv), .second, .val (.long (-sv)), .second, .val (.ref pa), .val (.ref pb), .val (.ref pc), .val (.ref o), .val (.long (-sv)), .second, .val (.long sv), .second, .unset, .unset, .unset, .unset, .unset, .unset, .unset, .unset] [(.long (0 : Int64))]))
      replace S : own_JA Z h rs (own_L4 (0 : Int64) (0 : Int64) dv (0 : Int64)) := S
      refine own_lstore C X at_182 (L' := #[.val (.long q0), .second, .val (.long q1), .second, .val (.long q2), .second, .val (.long q3), .second, .val (.int i4), .val (.long cv), .second, .val (.long rv), .second, .val (.long dv), .second, .val (.int (0 : Int32)), .val (.int (1 : Int32)), .val (.long rv), .second, .val (.long sv), .second, .val (.long (-sv)), .second, .val (.ref pa), .val (.ref pb), .val (.ref pc), .val (.ref o), .val (.long (-sv)), .second, .val (.long sv), .second, .val (.long (0 : Int64)), .second, .unset, .unset, .unset, .unset, .unset, .unset]) rfl (pc' := 184) rfl ?_
      refine own_aload C X at_184 rfl rfl (pc' := 186) rfl ?_
      refine own_aload C X at_186 rfl rfl (pc' := 188) rfl ?_
      refine own_callV C X at_188 (own_m_ag1_5 l Z a0 hw o pb _ n0 (own_big C X) hd r1 r2 r3 r4 r5 r6 nx tg cp rs (-sv) sv dv (0 : Int64) (0 : Int64) (0 : Int64) dv (0 : Int64) O P S A_pb ge_o ge_cp ge_rs ne_o_cp ne_o_rs ne_cp_rs ne_rs_pb (Ne.symm ne_pb_o) ne_cp_pb (by decide)) O.1 (hw _ (List.mem_of_getElem? (i := 79) rfl)) (hw _ (List.mem_of_getElem? (i := 80) rfl)) (hw _ (List.mem_of_getElem? (i := 82) rfl)) (hw _ (List.mem_of_getElem? (i := 81) rfl)) (hw _ (List.mem_of_getElem? (i := 4) rfl)) (hw _ (List.mem_of_getElem? (i := 83) rfl)) (by decide) own_pd_2889 rfl rfl (Nat.le_of_ble_eq_true rfl) (Nat.le_of_ble_eq_true rfl) (Nat.le_of_ble_eq_true rfl) (Nat.le_of_ble_eq_true rfl) (av := [(.ref pb)]) (S := []) rfl (pc' := 191) rfl ?_
      intro T h v X hQ
      obtain ⟨rfl, K_, O, P, S⟩ := hQ
      have A_pa := A_pa.keep K_ (ninS ne_pa_o (ninS (Ne.symm ne_cp_pa) (ninS (Ne.symm ne_rs_pa) nin0)))
      have A_pb := A_pb.keep K_ (ninS ne_pb_o (ninS (Ne.symm ne_cp_pb) (ninS (Ne.symm ne_rs_pb) nin0)))
      have A_pc := A_pc.keep K_ (ninS ne_pc_o (ninS (Ne.symm ne_cp_pc) (ninS (Ne.symm ne_rs_pc) nin0)))
      show own_Go p e below n0 (own_Fin room_1 s (fun v h => v = some (.int 1))) (T.setTop (mkF m 191 #[.val (.long q0), .second, .val (.long q1), .second, .val (.long q2), .second, .val (.long q3), .second, .val (.int i4), .val (.long cv), .second, .val (.long rv), .second, .val (.long dv), .second, .val (.int (0 : Int32)), .val (.int (1 : Int32)), .val (.long rv), .second, .val (.long sv), .second, .val (.long (-sv)), .second, .val (.ref pa), .val (.ref pb), .val (.ref pc), .val (.ref o), .val (.long (-sv)), .second, .val (.long sv), .second, .val (.long (0 : Int64)), .second, .unset, .unset, .unset, .unset, .unset, .unset] [(.long (0 : Int64))]))
      replace S : own_JA Z h rs (own_L4 (0 : Int64) (0 : Int64) dv (0 : Int64)) := S
      refine own_lstore C X at_191 (L' := #[.val (.long q0), .second, .val (.long q1), .second, .val (.long q2), .second, .val (.long q3), .second, .val (.int i4), .val (.long cv), .second, .val (.long rv), .second, .val (.long dv), .second, .val (.int (0 : Int32)), .val (.int (1 : Int32)), .val (.long rv), .second, .val (.long sv), .second, .val (.long (-sv)), .second, .val (.ref pa), .val (.ref pb), .val (.ref pc), .val (.ref o), .val (.long (-sv)), .second, .val (.long sv), .second, .val (.long (0 : Int64)), .second, .val (.long (0 : Int64)), .second, .unset, .unset, .unset, .unset]) rfl (pc' := 193) rfl ?_
      refine own_aload C X at_193 rfl rfl (pc' := 195) rfl ?_
      refine own_aload C X at_195 rfl rfl (pc' := 197) rfl ?_
      refine own_callV C X at_197 (own_m_ag2_6 l Z a0 hw o pc _ n0 (own_big C X) hd r1 r2 r3 r4 r5 r6 nx tg cp rs (-sv) sv dv (0 : Int64) (0 : Int64) (0 : Int64) dv (0 : Int64) O P S A_pc ge_o ge_cp ge_rs ne_o_cp ne_o_rs ne_cp_rs ne_rs_pc (Ne.symm ne_pc_o) ne_cp_pc (own_ax _ hc2)) O.1 (hw _ (List.mem_of_getElem? (i := 79) rfl)) (hw _ (List.mem_of_getElem? (i := 80) rfl)) (hw _ (List.mem_of_getElem? (i := 82) rfl)) (hw _ (List.mem_of_getElem? (i := 81) rfl)) (hw _ (List.mem_of_getElem? (i := 4) rfl)) (hw _ (List.mem_of_getElem? (i := 83) rfl)) (by decide) own_pd_2889 rfl rfl (Nat.le_of_ble_eq_true rfl) (Nat.le_of_ble_eq_true rfl) (Nat.le_of_ble_eq_true rfl) (Nat.le_of_ble_eq_true rfl) (av := [(.ref pc)]) (S := []) rfl (pc' := 200) rfl ?_
      intro T h v X hQ
      obtain ⟨rfl, K_, O, P, S⟩ := hQ
      have A_pa := A_pa.keep K_ (ninS ne_pa_o (ninS (Ne.symm ne_cp_pa) (ninS (Ne.symm ne_rs_pa) nin0)))
      have A_pb := A_pb.keep K_ (ninS ne_pb_o (ninS (Ne.symm ne_cp_pb) (ninS (Ne.symm ne_rs_pb) nin0)))
      have A_pc := A_pc.keep K_ (ninS ne_pc_o (ninS (Ne.symm ne_cp_pc) (ninS (Ne.symm ne_rs_pc) nin0)))
      show own_Go p e below n0 (own_Fin room_1 s (fun v h => v = some (.int 1))) (T.setTop (mkF m 200 #[.val (.long q0), .second, .val (.long q1), .second, .val (.long q2), .second, .val (.long q3), .second, .val (.int i4), .val (.long cv), .second, .val (.long rv), .second, .val (.long dv), .second, .val (.int (0 : Int32)), .val (.int (1 : Int32)), .val (.long rv), .second, .val (.long sv), .second, .val (.long (-sv)), .second, .val (.ref pa), .val (.ref pb), .val (.ref pc), .val (.ref o), .val (.long (-sv)), .second, .val (.long sv), .second, .val (.long (0 : Int64)), .second, .val (.long (0 : Int64)), .second, .unset, .unset, .unset, .unset] [(.long dv)]))
      refine own_lstore C X at_200 (L' := #[.val (.long q0), .second, .val (.long q1), .second, .val (.long q2), .second, .val (.long q3), .second, .val (.int i4), .val (.long cv), .second, .val (.long rv), .second, .val (.long dv), .second, .val (.int (0 : Int32)), .val (.int (1 : Int32)), .val (.long rv), .second, .val (.long sv), .second, .val (.long (-sv)), .second, .val (.ref pa), .val (.ref pb), .val (.ref pc), .val (.ref o), .val (.long (-sv)), .second, .val (.long sv), .second, .val (.long (0 : Int64)), .second, .val (.long (0 : Int64)), .second, .val (.long dv), .second, .unset, .unset]) rfl (pc' := 202) rfl ?_
      refine own_aload C X at_202 rfl rfl (pc' := 204) rfl ?_
      refine own_iconst C X at_204 (v := 0) (by decide) (pc' := 205) rfl ?_
      refine own_callV C X at_205 (own_m_flow0 l Z a0 hw o _ n0 (own_big C X) hd r1 r2 r3 r4 r5 r6 nx tg cp rs (7 : Int32) (-sv) sv dv (0 : Int64) (0 : Int64) (0 : Int64) (dv - dv) ((0 : Int64) + dv) O P S) O.1 (hw _ (List.mem_of_getElem? (i := 74) rfl)) (hw _ (List.mem_of_getElem? (i := 75) rfl)) (hw _ (List.mem_of_getElem? (i := 77) rfl)) (hw _ (List.mem_of_getElem? (i := 76) rfl)) (hw _ (List.mem_of_getElem? (i := 4) rfl)) (hw _ (List.mem_of_getElem? (i := 78) rfl)) (by decide) own_pd_1973 rfl rfl (Nat.le_of_ble_eq_true rfl) (Nat.le_of_ble_eq_true rfl) (Nat.le_of_ble_eq_true rfl) (Nat.le_of_ble_eq_true rfl) (av := [(.int (0 : Int32))]) (S := []) rfl (pc' := 208) rfl ?_
      intro T h v X hQ
      obtain ⟨rfl, rfl⟩ := hQ
      rw [own_a3]
      show own_Go p e below n0 (own_Fin room_1 s (fun v h => v = some (.int 1))) (T.setTop (mkF m 208 #[.val (.long q0), .second, .val (.long q1), .second, .val (.long q2), .second, .val (.long q3), .second, .val (.int i4), .val (.long cv), .second, .val (.long rv), .second, .val (.long dv), .second, .val (.int (0 : Int32)), .val (.int (1 : Int32)), .val (.long rv), .second, .val (.long sv), .second, .val (.long (-sv)), .second, .val (.ref pa), .val (.ref pb), .val (.ref pc), .val (.ref o), .val (.long (-sv)), .second, .val (.long sv), .second, .val (.long (0 : Int64)), .second, .val (.long (0 : Int64)), .second, .val (.long dv), .second, .unset, .unset] [(.long (-sv))]))
      refine own_lstore C X at_208 (L' := #[.val (.long q0), .second, .val (.long q1), .second, .val (.long q2), .second, .val (.long q3), .second, .val (.int i4), .val (.long cv), .second, .val (.long rv), .second, .val (.long dv), .second, .val (.int (0 : Int32)), .val (.int (1 : Int32)), .val (.long rv), .second, .val (.long sv), .second, .val (.long (-sv)), .second, .val (.ref pa), .val (.ref pb), .val (.ref pc), .val (.ref o), .val (.long (-sv)), .second, .val (.long sv), .second, .val (.long (0 : Int64)), .second, .val (.long (0 : Int64)), .second, .val (.long dv), .second, .val (.long (-sv)), .second]) rfl (pc' := 210) rfl ?_
      refine own_lload C X at_210 rfl (pc' := 212) rfl ?_
      refine own_lload C X at_212 rfl (pc' := 214) rfl ?_
      refine own_lcmp_ne C X at_214 at_215 (pcT := 261) (pc' := 218) (by decide) (by decide) rfl (fun hc214 => absurd hc214 (not_not_intro (rfl))) (fun hc214 => ?_)
      refine own_lload C X at_218 rfl (pc' := 220) rfl ?_
      refine own_lload C X at_220 rfl (pc' := 222) rfl ?_
      refine own_lneg C X at_222 rfl (pc' := 223) rfl ?_
      refine own_lcmp_ne C X at_223 at_224 (pcT := 261) (pc' := 227) (by decide) (by decide) rfl (fun hc223 => absurd hc223 (not_not_intro ((own_a4 sv).symm))) (fun hc223 => ?_)
      refine own_lload C X at_227 rfl (pc' := 229) rfl ?_
      refine own_lconst C X at_229 (v := 0) (by decide) (pc' := 230) rfl ?_
      refine own_lcmp_ne C X at_230 at_231 (pcT := 261) (pc' := 234) (by decide) (by decide) rfl (fun hc230 => absurd hc230 (by decide)) (fun hc230 => ?_)
      refine own_lload C X at_234 rfl (pc' := 236) rfl ?_
      refine own_lconst C X at_236 (v := 0) (by decide) (pc' := 237) rfl ?_
      refine own_lcmp_ne C X at_237 at_238 (pcT := 261) (pc' := 241) (by decide) (by decide) rfl (fun hc237 => absurd hc237 (by decide)) (fun hc237 => ?_)
      refine own_lload C X at_241 rfl (pc' := 243) rfl ?_
      refine own_lload C X at_243 rfl (pc' := 245) rfl ?_
      refine own_lcmp_ne C X at_245 at_246 (pcT := 261) (pc' := 249) (by decide) (by decide) rfl (fun hc245 => absurd hc245 (not_not_intro (rfl))) (fun hc245 => ?_)
      refine own_lload C X at_249 rfl (pc' := 251) rfl ?_
      refine own_lload C X at_251 rfl (pc' := 253) rfl ?_
      refine own_lcmp_ne C X at_253 at_254 (pcT := 261) (pc' := 257) (by decide) (by decide) rfl (fun hc253 => absurd hc253 (not_not_intro (rfl))) (fun hc253 => ?_)
      refine own_iconst C X at_257 (v := 1) (by decide) (pc' := 258) rfl ?_
      refine own_goto C X at_258 (pc' := 262) (by decide) (by decide) ?_
      exact own_ireturn_z C X at_262 (Nat.le_of_ble_eq_true rfl) (Nat.le_of_ble_eq_true rfl) (rfl)
  · rcases own_z4 _ sa e_sa with rfl | rfl
    · refine own_iload C X at_36 rfl (pc' := 38) rfl ?_
      refine own_if_ne C X at_38 (pcT := 46) (pc' := 41) (by decide) (by decide) rfl (fun hc38 => absurd hc38 (by decide)) (fun hc38 => ?_)
      refine own_lload C X at_41 rfl (pc' := 43) rfl ?_
      refine own_goto C X at_43 (pc' := 48) (by decide) (by decide) ?_
      refine own_lstore C X at_48 (L' := #[.val (.long q0), .second, .val (.long q1), .second, .val (.long q2), .second, .val (.long q3), .second, .val (.int i4), .val (.long cv), .second, .val (.long rv), .second, .val (.long dv), .second, .val (.int (1 : Int32)), .val (.int (0 : Int32)), .val (.long cv), .second, .unset, .unset, .unset, .unset, .unset, .unset, .unset, .unset, .unset, .unset, .unset, .unset, .unset, .unset, .unset, .unset, .unset, .unset, .unset, .unset]) rfl (pc' := 50) rfl ?_
      refine own_lload C X at_50 rfl (pc' := 52) rfl ?_
      refine own_ldc2L C X at_52 (hw _ (List.mem_of_getElem? (i := 0) rfl)) (pc' := 55) rfl ?_
      refine own_land C X at_55 rfl (pc' := 56) rfl ?_
      refine own_lload C X at_56 rfl (pc' := 58) rfl ?_
      refine own_lconst C X at_58 (v := 1) (by decide) (pc' := 59) rfl ?_
      refine own_ladd C X at_59 rfl (pc' := 60) rfl ?_
      have hnz := own_nz cv hq_cv.1 hq_cv.2
      obtain ⟨sv, e_sv⟩ : ∃ z : Int64, ((q2 &&& (4611686018427387903 : Int64)) % (cv + (1 : Int64))) = z := ⟨_, rfl⟩
      refine own_lrem C X at_60 hnz e_sv (pc' := 61) rfl ?_
      obtain ⟨hs0, hs1⟩ := own_rem q2 cv sv hq_cv.1 hq_cv.2 e_sv
      refine own_lstore C X at_61 (L' := #[.val (.long q0), .second, .val (.long q1), .second, .val (.long q2), .second, .val (.long q3), .second, .val (.int i4), .val (.long cv), .second, .val (.long rv), .second, .val (.long dv), .second, .val (.int (1 : Int32)), .val (.int (0 : Int32)), .val (.long cv), .second, .val (.long sv), .second, .unset, .unset, .unset, .unset, .unset, .unset, .unset, .unset, .unset, .unset, .unset, .unset, .unset, .unset, .unset, .unset, .unset, .unset]) rfl (pc' := 63) rfl ?_
      refine own_iload C X at_63 rfl (pc' := 65) rfl ?_
      refine own_if_ne C X at_65 (pcT := 73) (pc' := 68) (by decide) (by decide) rfl (fun hc65 => absurd hc65 (by decide)) (fun hc65 => ?_)
      refine own_lload C X at_68 rfl (pc' := 70) rfl ?_
      refine own_goto C X at_70 (pc' := 76) (by decide) (by decide) ?_
      refine own_lstore C X at_76 (L' := #[.val (.long q0), .second, .val (.long q1), .second, .val (.long q2), .second, .val (.long q3), .second, .val (.int i4), .val (.long cv), .second, .val (.long rv), .second, .val (.long dv), .second, .val (.int (1 : Int32)), .val (.int (0 : Int32)), .val (.long cv), .second, .val (.long sv), .second, .val (.long sv), .second, .unset, .unset, .unset, .unset, .unset, .unset, .unset, .unset, .unset, .unset, .unset, .unset, .unset, .unset, .unset, .unset]) rfl (pc' := 78) rfl ?_
      refine own_iconst C X at_78 (v := 1) (by decide) (pc' := 79) rfl ?_
      refine own_newI C X at_79 (ty := .int) rfl (hw _ (List.mem_of_getElem? (i := 1) rfl)) (by decide) (k := 1) (cap := 1) (Nat.le_of_ble_eq_true rfl) (by decide) (Nat.le_of_ble_eq_true rfl) (Nat.le_of_ble_eq_true rfl) rfl rfl (pc' := 81) rfl ?_
      intro T h pa e_pa X K_ ge_pa A_pa_
      have A_pa : own_IA Z h pa .int [(0 : Int32)] := A_pa_
      refine own_dup C X at_81 rfl (pc' := 82) rfl ?_
      refine own_iconst C X at_82 (v := 0) (by decide) (pc' := 83) rfl ?_
      refine own_iload C X at_83 rfl (pc' := 85) rfl ?_
      refine own_iastore C X at_85 A_pa (by decide) (i := 0) (Nat.le_of_ble_eq_true rfl) ge_pa (pc' := 86) rfl ?_
      intro T h X K_ A_pa_
      have A_pa : own_IA Z h pa .int [(1 : Int32)] := A_pa_
      refine own_astore C X at_86 rfl (L' := #[.val (.long q0), .second, .val (.long q1), .second, .val (.long q2), .second, .val (.long q3), .second, .val (.int i4), .val (.long cv), .second, .val (.long rv), .second, .val (.long dv), .second, .val (.int (1 : Int32)), .val (.int (0 : Int32)), .val (.long cv), .second, .val (.long sv), .second, .val (.long sv), .second, .val (.ref pa), .unset, .unset, .unset, .unset, .unset, .unset, .unset, .unset, .unset, .unset, .unset, .unset, .unset, .unset, .unset]) rfl (pc' := 88) rfl ?_
      refine own_iconst C X at_88 (v := 1) (by decide) (pc' := 89) rfl ?_
      refine own_newI C X at_89 (ty := .int) rfl (hw _ (List.mem_of_getElem? (i := 1) rfl)) (by decide) (k := 1) (cap := 1) (Nat.le_of_ble_eq_true rfl) (by decide) (Nat.le_of_ble_eq_true rfl) (Nat.le_of_ble_eq_true rfl) rfl rfl (pc' := 91) rfl ?_
      intro T h pb e_pb X K_ ge_pb A_pb_
      have ne_pa_pb : pa ≠ pb := by rw [e_pb]; exact Nat.ne_of_lt A_pa.lt
      have A_pb : own_IA Z h pb .int [(0 : Int32)] := A_pb_
      have A_pa := A_pa.keep K_ nin0
      refine own_dup C X at_91 rfl (pc' := 92) rfl ?_
      refine own_iconst C X at_92 (v := 0) (by decide) (pc' := 93) rfl ?_
      refine own_iload C X at_93 rfl (pc' := 95) rfl ?_
      refine own_iconst C X at_95 (v := 1) (by decide) (pc' := 96) rfl ?_
      refine own_ixor C X at_96 (z := 0) (by decide) (pc' := 97) rfl ?_
      refine own_iastore C X at_97 A_pb (by decide) (i := 0) (Nat.le_of_ble_eq_true rfl) ge_pb (pc' := 98) rfl ?_
      intro T h X K_ A_pb_
      have A_pb : own_IA Z h pb .int [(0 : Int32)] := A_pb_
      have A_pa := A_pa.keep K_ (ninS ne_pa_pb nin0)
      refine own_astore C X at_98 rfl (L' := #[.val (.long q0), .second, .val (.long q1), .second, .val (.long q2), .second, .val (.long q3), .second, .val (.int i4), .val (.long cv), .second, .val (.long rv), .second, .val (.long dv), .second, .val (.int (1 : Int32)), .val (.int (0 : Int32)), .val (.long cv), .second, .val (.long sv), .second, .val (.long sv), .second, .val (.ref pa), .val (.ref pb), .unset, .unset, .unset, .unset, .unset, .unset, .unset, .unset, .unset, .unset, .unset, .unset, .unset, .unset]) rfl (pc' := 100) rfl ?_
      refine own_iconst C X at_100 (v := 1) (by decide) (pc' := 101) rfl ?_
      refine own_newI C X at_101 (ty := .int) rfl (hw _ (List.mem_of_getElem? (i := 1) rfl)) (by decide) (k := 1) (cap := 1) (Nat.le_of_ble_eq_true rfl) (by decide) (Nat.le_of_ble_eq_true rfl) (Nat.le_of_ble_eq_true rfl) rfl rfl (pc' := 103) rfl ?_
      intro T h pc e_pc X K_ ge_pc A_pc_
      have ne_pa_pc : pa ≠ pc := by rw [e_pc]; exact Nat.ne_of_lt A_pa.lt
      have ne_pb_pc : pb ≠ pc := by rw [e_pc]; exact Nat.ne_of_lt A_pb.lt
      have A_pc : own_IA Z h pc .int [(0 : Int32)] := A_pc_
      have A_pa := A_pa.keep K_ nin0
      have A_pb := A_pb.keep K_ nin0
      refine own_dup C X at_103 rfl (pc' := 104) rfl ?_
      refine own_iconst C X at_104 (v := 0) (by decide) (pc' := 105) rfl ?_
      refine own_iconst C X at_105 (v := 2) (by decide) (pc' := 106) rfl ?_
      refine own_iastore C X at_106 A_pc (by decide) (i := 0) (Nat.le_of_ble_eq_true rfl) ge_pc (pc' := 107) rfl ?_
      intro T h X K_ A_pc_
      have A_pc : own_IA Z h pc .int [(2 : Int32)] := A_pc_
      have A_pa := A_pa.keep K_ (ninS ne_pa_pc nin0)
      have A_pb := A_pb.keep K_ (ninS ne_pb_pc nin0)
      refine own_astore C X at_107 rfl (L' := #[.val (.long q0), .second, .val (.long q1), .second, .val (.long q2), .second, .val (.long q3), .second, .val (.int i4), .val (.long cv), .second, .val (.long rv), .second, .val (.long dv), .second, .val (.int (1 : Int32)), .val (.int (0 : Int32)), .val (.long cv), .second, .val (.long sv), .second, .val (.long sv), .second, .val (.ref pa), .val (.ref pb), .val (.ref pc), .unset, .unset, .unset, .unset, .unset, .unset, .unset, .unset, .unset, .unset, .unset, .unset, .unset]) rfl (pc' := 109) rfl ?_
      refine own_new C X at_109 (hw _ (List.mem_of_getElem? (i := 2) rfl)) (hw _ (List.mem_of_getElem? (i := 3) rfl)) (hw _ (List.mem_of_getElem? (i := 4) rfl)) (Nat.le_of_ble_eq_true rfl) (Nat.le_of_ble_eq_true rfl) [("deadMark", "I", (.int (0 : Int32))), ("deadFrom", "I", (.int (0 : Int32))), ("deadTo", "I", (.int (0 : Int32))), ("heads", "[I", .null), ("marks", "[I", .null), ("cursors", "[I", .null), ("searchPath", "[I", .null), ("reached", "[I", .null), ("distances", "[I", .null), ("deadMarks", "[I", .null), ("nexts", "[I", .null), ("targets", "[I", .null), ("capacities", "[J", .null), ("residuals", "[J", .null), ("arcs", "I", (.int (0 : Int32)))] (by decide) ?_ (pc' := 112) rfl ?_
      · intro f hf; simp only [List.mem_cons, List.not_mem_nil, or_false] at hf
        rcases hf with rfl | rfl | rfl | rfl | rfl | rfl | rfl | rfl | rfl | rfl | rfl | rfl | rfl | rfl | rfl
        · exact ⟨(Or.inl (hw _ (List.mem_of_getElem? (i := 12) rfl))), .int, by decide, rfl⟩
        · exact ⟨(Or.inl (hw _ (List.mem_of_getElem? (i := 14) rfl))), .int, by decide, rfl⟩
        · exact ⟨(Or.inl (hw _ (List.mem_of_getElem? (i := 16) rfl))), .int, by decide, rfl⟩
        · exact ⟨(Or.inr (hw _ (List.mem_of_getElem? (i := 18) rfl))), (.array .int), by decide, rfl⟩
        · exact ⟨(Or.inr (hw _ (List.mem_of_getElem? (i := 24) rfl))), (.array .int), by decide, rfl⟩
        · exact ⟨(Or.inr (hw _ (List.mem_of_getElem? (i := 26) rfl))), (.array .int), by decide, rfl⟩
        · exact ⟨(Or.inr (hw _ (List.mem_of_getElem? (i := 28) rfl))), (.array .int), by decide, rfl⟩
        · exact ⟨(Or.inr (hw _ (List.mem_of_getElem? (i := 30) rfl))), (.array .int), by decide, rfl⟩
        · exact ⟨(Or.inr (hw _ (List.mem_of_getElem? (i := 32) rfl))), (.array .int), by decide, rfl⟩
        · exact ⟨(Or.inr (hw _ (List.mem_of_getElem? (i := 34) rfl))), (.array .int), by decide, rfl⟩
        · exact ⟨(Or.inl (hw _ (List.mem_of_getElem? (i := 40) rfl))), (.array .int), by decide, rfl⟩
        · exact ⟨(Or.inl (hw _ (List.mem_of_getElem? (i := 42) rfl))), (.array .int), by decide, rfl⟩
        · exact ⟨(Or.inl (hw _ (List.mem_of_getElem? (i := 45) rfl))), (.array .long), by decide, rfl⟩
        · exact ⟨(Or.inl (hw _ (List.mem_of_getElem? (i := 47) rfl))), (.array .long), by decide, rfl⟩
        · exact ⟨(Or.inl (hw _ (List.mem_of_getElem? (i := 59) rfl))), .int, by decide, rfl⟩
      intro T h o e_o X K_ ge_o O_o
      have ne_pa_o : pa ≠ o := by rw [e_o]; exact Nat.ne_of_lt A_pa.lt
      have ne_pb_o : pb ≠ o := by rw [e_o]; exact Nat.ne_of_lt A_pb.lt
      have ne_pc_o : pc ≠ o := by rw [e_o]; exact Nat.ne_of_lt A_pc.lt
      have A_pa := A_pa.keep K_ nin0
      have A_pb := A_pb.keep K_ nin0
      have A_pc := A_pc.keep K_ nin0
      refine own_dup C X at_112 rfl (pc' := 113) rfl ?_
      refine own_iconst C X at_113 (v := 2) (by decide) (pc' := 114) rfl ?_
      refine own_iconst C X at_114 (v := 2) (by decide) (pc' := 115) rfl ?_
      have hbg := own_big C X
      have O := O_o
      refine own_callInit C X at_115 (own_m_init l Z a0 hw o _ n0 hbg O ge_o) rfl (hw _ (List.mem_of_getElem? (i := 5) rfl)) (hw _ (List.mem_of_getElem? (i := 6) rfl)) (hw _ (List.mem_of_getElem? (i := 4) rfl)) (hw _ (List.mem_of_getElem? (i := 7) rfl)) (by decide) own_pd_2877 rfl rfl (Nat.le_of_ble_eq_true rfl) (Nat.le_of_ble_eq_true rfl) (Nat.le_of_ble_eq_true rfl) (Nat.le_of_ble_eq_true rfl) (av := [(.int (2 : Int32)), (.int (2 : Int32))]) (S := [(.ref o)]) rfl (pc' := 118) rfl ?_
      intro T h v X hQ
      obtain ⟨rfl, hd, r1, r2, r3, r4, r5, r6, nx, tg, cp, rs, gh, g1, g2, g3, g4, K_, O_n, H, N, G, P, S⟩ := hQ
      have q_o : @LT.lt Nat instLTNat o _ := O.lt
      have q_pa : @LT.lt Nat instLTNat pa _ := A_pa.lt
      have q_pb : @LT.lt Nat instLTNat pb _ := A_pb.lt
      have q_pc : @LT.lt Nat instLTNat pc _ := A_pc.lt
      have ge_hd : n0 ≤ hd := by omega
      have ge_nx : n0 ≤ nx := by omega
      have ge_tg : n0 ≤ tg := by omega
      have ge_cp : n0 ≤ cp := by omega
      have ge_rs : n0 ≤ rs := by omega
      have ne_o_hd : o ≠ hd := Nat.ne_of_lt (by omega)
      have ne_o_nx : o ≠ nx := Nat.ne_of_lt (by omega)
      have ne_o_tg : o ≠ tg := Nat.ne_of_lt (by omega)
      have ne_o_cp : o ≠ cp := Nat.ne_of_lt (by omega)
      have ne_o_rs : o ≠ rs := Nat.ne_of_lt (by omega)
      have ne_hd_nx : hd ≠ nx := Nat.ne_of_lt (by omega)
      have ne_hd_tg : hd ≠ tg := Nat.ne_of_lt (by omega)
      have ne_hd_cp : hd ≠ cp := Nat.ne_of_lt (by omega)
      have ne_hd_rs : hd ≠ rs := Nat.ne_of_lt (by omega)
      have ne_nx_tg : nx ≠ tg := Nat.ne_of_lt (by omega)
      have ne_nx_cp : nx ≠ cp := Nat.ne_of_lt (by omega)
      have ne_nx_rs : nx ≠ rs := Nat.ne_of_lt (by omega)
      have ne_tg_cp : tg ≠ cp := Nat.ne_of_lt (by omega)
      have ne_tg_rs : tg ≠ rs := Nat.ne_of_lt (by omega)
      have ne_cp_rs : cp ≠ rs := Nat.ne_of_lt (by omega)
      have ne_hd_pa : hd ≠ pa := Nat.ne_of_gt (by omega)
      have ne_nx_pa : nx ≠ pa := Nat.ne_of_gt (by omega)
      have ne_tg_pa : tg ≠ pa := Nat.ne_of_gt (by omega)
      have ne_cp_pa : cp ≠ pa := Nat.ne_of_gt (by omega)
      have ne_rs_pa : rs ≠ pa := Nat.ne_of_gt (by omega)
      have ne_hd_pb : hd ≠ pb := Nat.ne_of_gt (by omega)
      have ne_nx_pb : nx ≠ pb := Nat.ne_of_gt (by omega)
      have ne_tg_pb : tg ≠ pb := Nat.ne_of_gt (by omega)
      have ne_cp_pb : cp ≠ pb := Nat.ne_of_gt (by omega)
      have ne_rs_pb : rs ≠ pb := Nat.ne_of_gt (by omega)
      have ne_hd_pc : hd ≠ pc := Nat.ne_of_gt (by omega)
      have ne_nx_pc : nx ≠ pc := Nat.ne_of_gt (by omega)
      have ne_tg_pc : tg ≠ pc := Nat.ne_of_gt (by omega)
      have ne_cp_pc : cp ≠ pc := Nat.ne_of_gt (by omega)
      have ne_rs_pc : rs ≠ pc := Nat.ne_of_gt (by omega)
      have O := O_n
      have A_pa := A_pa.keep K_ (ninS ne_pa_o nin0)
      have A_pb := A_pb.keep K_ (ninS ne_pb_o nin0)
      have A_pc := A_pc.keep K_ (ninS ne_pc_o nin0)
      show own_Go p e below n0 (own_Fin room_1 s (fun v h => v = some (.int 1))) (T.setTop (mkF m 118 #[.val (.long q0), .second, .val (.long q1), .second, .val (.long q2), .second, .val (.long q3), .second, .val (.int i4), .val (.long cv), .second, .val (.long rv), .second, .val (.long dv), .second, .val (.int (1 : Int32)), .val (.int (0 : Int32)), .val (.long cv), .second, .val (.long sv), .second, .val (.long sv), .second, .val (.ref pa), .val (.ref pb), .val (.ref pc), .unset, .unset, .unset, .unset, .unset, .unset, .unset, .unset, .unset, .unset, .unset, .unset, .unset] [(.ref o)]))
      refine own_astore C X at_118 rfl (L' := #[.val (.long q0), .second, .val (.long q1), .second, .val (.long q2), .second, .val (.long q3), .second, .val (.int i4), .val (.long cv), .second, .val (.long rv), .second, .val (.long dv), .second, .val (.int (1 : Int32)), .val (.int (0 : Int32)), .val (.long cv), .second, .val (.long sv), .second, .val (.long sv), .second, .val (.ref pa), .val (.ref pb), .val (.ref pc), .val (.ref o), .unset, .unset, .unset, .unset, .unset, .unset, .unset, .unset, .unset, .unset, .unset, .unset]) rfl (pc' := 120) rfl ?_
      refine own_aload C X at_120 rfl rfl (pc' := 122) rfl ?_
      refine own_iconst C X at_122 (v := 0) (by decide) (pc' := 123) rfl ?_
      refine own_iconst C X at_123 (v := 1) (by decide) (pc' := 124) rfl ?_
      refine own_lload C X at_124 rfl (pc' := 126) rfl ?_
      refine own_lload C X at_126 rfl (pc' := 128) rfl ?_
      refine own_callV C X at_128 (own_m_arc0 l Z a0 hw o cv rv _ n0 (own_big C X) hd r1 r2 r3 r4 r5 r6 nx tg cp rs (-1 : Int32) (-1 : Int32) (0 : Int32) (0 : Int32) (0 : Int32) (0 : Int32) (0 : Int32) (0 : Int32) (0 : Int32) (0 : Int32) (0 : Int64) (0 : Int64) (0 : Int64) (0 : Int64) (0 : Int64) (0 : Int64) (0 : Int64) (0 : Int64) O H N G P S ge_o ge_hd ge_nx ge_tg ge_cp ge_rs ne_o_hd ne_o_nx ne_o_tg ne_o_cp ne_o_rs ne_hd_nx ne_hd_tg ne_hd_cp ne_hd_rs ne_nx_tg ne_nx_cp ne_nx_rs ne_tg_cp ne_tg_rs ne_cp_rs) O.1 (hw _ (List.mem_of_getElem? (i := 48) rfl)) (hw _ (List.mem_of_getElem? (i := 49) rfl)) (hw _ (List.mem_of_getElem? (i := 51) rfl)) (hw _ (List.mem_of_getElem? (i := 50) rfl)) (hw _ (List.mem_of_getElem? (i := 4) rfl)) (hw _ (List.mem_of_getElem? (i := 52) rfl)) (by decide) own_pd_4516 rfl rfl (Nat.le_of_ble_eq_true rfl) (Nat.le_of_ble_eq_true rfl) (Nat.le_of_ble_eq_true rfl) (Nat.le_of_ble_eq_true rfl) (av := [(.int (0 : Int32)), (.int (1 : Int32)), (.long cv), (.long rv)]) (S := []) rfl (pc' := 131) rfl ?_
      intro T h v X hQ
      obtain ⟨rfl, K_, O, H, N, G, P, S⟩ := hQ
      have A_pa := A_pa.keep K_ (ninS ne_pa_o (ninS (Ne.symm ne_hd_pa) (ninS (Ne.symm ne_nx_pa) (ninS (Ne.symm ne_tg_pa) (ninS (Ne.symm ne_cp_pa) (ninS (Ne.symm ne_rs_pa) nin0))))))
      have A_pb := A_pb.keep K_ (ninS ne_pb_o (ninS (Ne.symm ne_hd_pb) (ninS (Ne.symm ne_nx_pb) (ninS (Ne.symm ne_tg_pb) (ninS (Ne.symm ne_cp_pb) (ninS (Ne.symm ne_rs_pb) nin0))))))
      have A_pc := A_pc.keep K_ (ninS ne_pc_o (ninS (Ne.symm ne_hd_pc) (ninS (Ne.symm ne_nx_pc) (ninS (Ne.symm ne_tg_pc) (ninS (Ne.symm ne_cp_pc) (ninS (Ne.symm ne_rs_pc) nin0))))))
      show own_Go p e below n0 (own_Fin room_1 s (fun v h => v = some (.int 1))) (T.setTop (mkF m 131 #[.val (.long q0), .second, .val (.long q1), .second, .val (.long q2), .second, .val (.long q3), .second, .val (.int i4), .val (.long cv), .second, .val (.long rv), .second, .val (.long dv), .second, .val (.int (1 : Int32)), .val (.int (0 : Int32)), .val (.long cv), .second, .val (.long sv), .second, .val (.long sv), .second, .val (.ref pa), .val (.ref pb), .val (.ref pc), .val (.ref o), .unset, .unset, .unset, .unset, .unset, .unset, .unset, .unset, .unset, .unset, .unset, .unset] [(.int (0 : Int32))]))
      refine own_pop C X at_131 rfl (pc' := 132) rfl ?_
      refine own_aload C X at_132 rfl rfl (pc' := 134) rfl ?_
      refine own_iconst C X at_134 (v := 1) (by decide) (pc' := 135) rfl ?_
      refine own_iconst C X at_135 (v := 0) (by decide) (pc' := 136) rfl ?_
      refine own_lload C X at_136 rfl (pc' := 138) rfl ?_
      refine own_lconst C X at_138 (v := 0) (by decide) (pc' := 139) rfl ?_
      refine own_callV C X at_139 (own_m_arc2 l Z a0 hw o dv (0 : Int64) _ n0 (own_big C X) hd r1 r2 r3 r4 r5 r6 nx tg cp rs (0 : Int32) (1 : Int32) (-1 : Int32) (-1 : Int32) (0 : Int32) (0 : Int32) (1 : Int32) (0 : Int32) (0 : Int32) (0 : Int32) cv rv (0 : Int64) (0 : Int64) cv rv (0 : Int64) (0 : Int64) O H N G P S ge_o ge_hd ge_nx ge_tg ge_cp ge_rs ne_o_hd ne_o_nx ne_o_tg ne_o_cp ne_o_rs ne_hd_nx ne_hd_tg ne_hd_cp ne_hd_rs ne_nx_tg ne_nx_cp ne_nx_rs ne_tg_cp ne_tg_rs ne_cp_rs) O.1 (hw _ (List.mem_of_getElem? (i := 48) rfl)) (hw _ (List.mem_of_getElem? (i := 49) rfl)) (hw _ (List.mem_of_getElem? (i := 51) rfl)) (hw _ (List.mem_of_getElem? (i := 50) rfl)) (hw _ (List.mem_of_getElem? (i := 4) rfl)) (hw _ (List.mem_of_getElem? (i := 52) rfl)) (by decide) own_pd_4516 rfl rfl (Nat.le_of_ble_eq_true rfl) (Nat.le_of_ble_eq_true rfl) (Nat.le_of_ble_eq_true rfl) (Nat.le_of_ble_eq_true rfl) (av := [(.int (1 : Int32)), (.int (0 : Int32)), (.long dv), (.long (0 : Int64))]) (S := []) rfl (pc' := 142) rfl ?_
      intro T h v X hQ
      obtain ⟨rfl, K_, O, H, N, G, P, S⟩ := hQ
      have A_pa := A_pa.keep K_ (ninS ne_pa_o (ninS (Ne.symm ne_hd_pa) (ninS (Ne.symm ne_nx_pa) (ninS (Ne.symm ne_tg_pa) (ninS (Ne.symm ne_cp_pa) (ninS (Ne.symm ne_rs_pa) nin0))))))
      have A_pb := A_pb.keep K_ (ninS ne_pb_o (ninS (Ne.symm ne_hd_pb) (ninS (Ne.symm ne_nx_pb) (ninS (Ne.symm ne_tg_pb) (ninS (Ne.symm ne_cp_pb) (ninS (Ne.symm ne_rs_pb) nin0))))))
      have A_pc := A_pc.keep K_ (ninS ne_pc_o (ninS (Ne.symm ne_hd_pc) (ninS (Ne.symm ne_nx_pc) (ninS (Ne.symm ne_tg_pc) (ninS (Ne.symm ne_cp_pc) (ninS (Ne.symm ne_rs_pc) nin0))))))
      show own_Go p e below n0 (own_Fin room_1 s (fun v h => v = some (.int 1))) (T.setTop (mkF m 142 #[.val (.long q0), .second, .val (.long q1), .second, .val (.long q2), .second, .val (.long q3), .second, .val (.int i4), .val (.long cv), .second, .val (.long rv), .second, .val (.long dv), .second, .val (.int (1 : Int32)), .val (.int (0 : Int32)), .val (.long cv), .second, .val (.long sv), .second, .val (.long sv), .second, .val (.ref pa), .val (.ref pb), .val (.ref pc), .val (.ref o), .unset, .unset, .unset, .unset, .unset, .unset, .unset, .unset, .unset, .unset, .unset, .unset] [(.int (2 : Int32))]))
      refine own_pop C X at_142 rfl (pc' := 143) rfl ?_
      refine own_aload C X at_143 rfl rfl (pc' := 145) rfl ?_
      refine own_iload C X at_145 rfl (pc' := 147) rfl ?_
      refine own_lload C X at_147 rfl (pc' := 149) rfl ?_
      refine own_callV C X at_149 (own_m_send0 l Z a0 hw o sv _ n0 (own_big C X) hd r1 r2 r3 r4 r5 r6 nx tg cp rs cv rv dv (0 : Int64) cv rv dv (0 : Int64) O P S ge_o ge_cp ge_rs ne_o_cp ne_o_rs ne_cp_rs (own_lt0 _ hs0) (own_le _ _ hs1)) O.1 (hw _ (List.mem_of_getElem? (i := 64) rfl)) (hw _ (List.mem_of_getElem? (i := 65) rfl)) (hw _ (List.mem_of_getElem? (i := 67) rfl)) (hw _ (List.mem_of_getElem? (i := 66) rfl)) (hw _ (List.mem_of_getElem? (i := 4) rfl)) (hw _ (List.mem_of_getElem? (i := 68) rfl)) (by decide) own_pd_2886 rfl rfl (Nat.le_of_ble_eq_true rfl) (Nat.le_of_ble_eq_true rfl) (Nat.le_of_ble_eq_true rfl) (Nat.le_of_ble_eq_true rfl) (av := [(.int (0 : Int32)), (.long sv)]) (S := []) rfl (pc' := 152) rfl ?_
      intro T h v X hQ
      obtain ⟨rfl, K_, O, P, S⟩ := hQ
      have A_pa := A_pa.keep K_ (ninS ne_pa_o (ninS (Ne.symm ne_cp_pa) (ninS (Ne.symm ne_rs_pa) nin0)))
      have A_pb := A_pb.keep K_ (ninS ne_pb_o (ninS (Ne.symm ne_cp_pb) (ninS (Ne.symm ne_rs_pb) nin0)))
      have A_pc := A_pc.keep K_ (ninS ne_pc_o (ninS (Ne.symm ne_cp_pc) (ninS (Ne.symm ne_rs_pc) nin0)))
      show own_Go p e below n0 (own_Fin room_1 s (fun v h => v = some (.int 1))) (T.setTop (mkF m 152 #[.val (.long q0), .second, .val (.long q1), .second, .val (.long q2), .second, .val (.long q3), .second, .val (.int i4), .val (.long cv), .second, .val (.long rv), .second, .val (.long dv), .second, .val (.int (1 : Int32)), .val (.int (0 : Int32)), .val (.long cv), .second, .val (.long sv), .second, .val (.long sv), .second, .val (.ref pa), .val (.ref pb), .val (.ref pc), .val (.ref o), .unset, .unset, .unset, .unset, .unset, .unset, .unset, .unset, .unset, .unset, .unset, .unset] []))
      refine own_aload C X at_152 rfl rfl (pc' := 154) rfl ?_
      refine own_iload C X at_154 rfl (pc' := 156) rfl ?_
      refine own_callV C X at_156 (own_m_fix1 l Z a0 hw o _ n0 (own_big C X) hd r1 r2 r3 r4 r5 r6 nx tg cp rs cv rv dv (0 : Int64) (cv - sv) (rv + sv) dv (0 : Int64) O P S ge_o ge_cp ge_rs ne_o_cp ne_o_rs ne_cp_rs) O.1 (hw _ (List.mem_of_getElem? (i := 69) rfl)) (hw _ (List.mem_of_getElem? (i := 70) rfl)) (hw _ (List.mem_of_getElem? (i := 72) rfl)) (hw _ (List.mem_of_getElem? (i := 71) rfl)) (hw _ (List.mem_of_getElem? (i := 4) rfl)) (hw _ (List.mem_of_getElem? (i := 73) rfl)) (by decide) own_pd_2093 rfl rfl (Nat.le_of_ble_eq_true rfl) (Nat.le_of_ble_eq_true rfl) (Nat.le_of_ble_eq_true rfl) (Nat.le_of_ble_eq_true rfl) (av := [(.int (1 : Int32))]) (S := []) rfl (pc' := 159) rfl ?_
      intro T h v X hQ
      obtain ⟨rfl, K_, O, P, S⟩ := hQ
      have A_pa := A_pa.keep K_ (ninS ne_pa_o (ninS (Ne.symm ne_cp_pa) (ninS (Ne.symm ne_rs_pa) nin0)))
      have A_pb := A_pb.keep K_ (ninS ne_pb_o (ninS (Ne.symm ne_cp_pb) (ninS (Ne.symm ne_rs_pb) nin0)))
      have A_pc := A_pc.keep K_ (ninS ne_pc_o (ninS (Ne.symm ne_cp_pc) (ninS (Ne.symm ne_rs_pc) nin0)))
      show own_Go p e below n0 (own_Fin room_1 s (fun v h => v = some (.int 1))) (T.setTop (mkF m 159 #[.val (.long q0), .second, .val (.long q1), .second, .val (.long q2), .second, .val (.long q3), .second, .val (.int i4), .val (.long cv), .second, .val (.long rv), .second, .val (.long dv), .second, .val (.int (1 : Int32)), .val (.int (0 : Int32)), .val (.long cv), .second, .val (.long sv), .second, .val (.long sv), .second, .val (.ref pa), .val (.ref pb), .val (.ref pc), .val (.ref o), .unset, .unset, .unset, .unset, .unset, .unset, .unset, .unset, .unset, .unset, .unset, .unset] []))
      rw [own_a1, own_a2] at P
      replace P : own_JA Z h cp (own_L4 sv (-sv) dv (0 : Int64)) := P
      refine own_aload C X at_159 rfl rfl (pc' := 161) rfl ?_
      refine own_iconst C X at_161 (v := 0) (by decide) (pc' := 162) rfl ?_
      refine own_callV C X at_162 (own_m_flow0 l Z a0 hw o _ n0 (own_big C X) hd r1 r2 r3 r4 r5 r6 nx tg cp rs (4 : Int32) sv (-sv) dv (0 : Int64) (0 : Int64) (0 : Int64) dv (0 : Int64) O P S) O.1 (hw _ (List.mem_of_getElem? (i := 74) rfl)) (hw _ (List.mem_of_getElem? (i := 75) rfl)) (hw _ (List.mem_of_getElem? (i := 77) rfl)) (hw _ (List.mem_of_getElem? (i := 76) rfl)) (hw _ (List.mem_of_getElem? (i := 4) rfl)) (hw _ (List.mem_of_getElem? (i := 78) rfl)) (by decide) own_pd_1973 rfl rfl (Nat.le_of_ble_eq_true rfl) (Nat.le_of_ble_eq_true rfl) (Nat.le_of_ble_eq_true rfl) (Nat.le_of_ble_eq_true rfl) (av := [(.int (0 : Int32))]) (S := []) rfl (pc' := 165) rfl ?_
      intro T h v X hQ
      obtain ⟨rfl, rfl⟩ := hQ
      rw [own_a3]
      show own_Go p e below n0 (own_Fin room_1 s (fun v h => v = some (.int 1))) (T.setTop (mkF m 165 #[.val (.long q0), .second, .val (.long q1), .second, .val (.long q2), .second, .val (.long q3), .second, .val (.int i4), .val (.long cv), .second, .val (.long rv), .second, .val (.long dv), .second, .val (.int (1 : Int32)), .val (.int (0 : Int32)), .val (.long cv), .second, .val (.long sv), .second, .val (.long sv), .second, .val (.ref pa), .val (.ref pb), .val (.ref pc), .val (.ref o), .unset, .unset, .unset, .unset, .unset, .unset, .unset, .unset, .unset, .unset, .unset, .unset] [(.long sv)]))
      refine own_lstore C X at_165 (L' := #[.val (.long q0), .second, .val (.long q1), .second, .val (.long q2), .second, .val (.long q3), .second, .val (.int i4), .val (.long cv), .second, .val (.long rv), .second, .val (.long dv), .second, .val (.int (1 : Int32)), .val (.int (0 : Int32)), .val (.long cv), .second, .val (.long sv), .second, .val (.long sv), .second, .val (.ref pa), .val (.ref pb), .val (.ref pc), .val (.ref o), .val (.long sv), .second, .unset, .unset, .unset, .unset, .unset, .unset, .unset, .unset, .unset, .unset]) rfl (pc' := 167) rfl ?_
      refine own_aload C X at_167 rfl rfl (pc' := 169) rfl ?_
      refine own_iconst C X at_169 (v := 1) (by decide) (pc' := 170) rfl ?_
      refine own_callV C X at_170 (own_m_flow1 l Z a0 hw o _ n0 (own_big C X) hd r1 r2 r3 r4 r5 r6 nx tg cp rs (4 : Int32) sv (-sv) dv (0 : Int64) (0 : Int64) (0 : Int64) dv (0 : Int64) O P S) O.1 (hw _ (List.mem_of_getElem? (i := 74) rfl)) (hw _ (List.mem_of_getElem? (i := 75) rfl)) (hw _ (List.mem_of_getElem? (i := 77) rfl)) (hw _ (List.mem_of_getElem? (i := 76) rfl)) (hw _ (List.mem_of_getElem? (i := 4) rfl)) (hw _ (List.mem_of_getElem? (i := 78) rfl)) (by decide) own_pd_1973 rfl rfl (Nat.le_of_ble_eq_true rfl) (Nat.le_of_ble_eq_true rfl) (Nat.le_of_ble_eq_true rfl) (Nat.le_of_ble_eq_true rfl) (av := [(.int (1 : Int32))]) (S := []) rfl (pc' := 173) rfl ?_
      intro T h v X hQ
      obtain ⟨rfl, rfl⟩ := hQ
      rw [own_a3]
      show own_Go p e below n0 (own_Fin room_1 s (fun v h => v = some (.int 1))) (T.setTop (mkF m 173 #[.val (.long q0), .second, .val (.long q1), .second, .val (.long q2), .second, .val (.long q3), .second, .val (.int i4), .val (.long cv), .second, .val (.long rv), .second, .val (.long dv), .second, .val (.int (1 : Int32)), .val (.int (0 : Int32)), .val (.long cv), .second, .val (.long sv), .second, .val (.long sv), .second, .val (.ref pa), .val (.ref pb), .val (.ref pc), .val (.ref o), .val (.long sv), .second, .unset, .unset, .unset, .unset, .unset, .unset, .unset, .unset, .unset, .unset] [(.long (-sv))]))
      refine own_lstore C X at_173 (L' := #[.val (.long q0), .second, .val (.long q1), .second, .val (.long q2), .second, .val (.long q3), .second, .val (.int i4), .val (.long cv), .second, .val (.long rv), .second, .val (.long dv), .second, .val (.int (1 : Int32)), .val (.int (0 : Int32)), .val (.long cv), .second, .val (.long sv), .second, .val (.long sv), .second, .val (.ref pa), .val (.ref pb), .val (.ref pc), .val (.ref o), .val (.long sv), .second, .val (.long (-sv)), .second, .unset, .unset, .unset, .unset, .unset, .unset, .unset, .unset]) rfl (pc' := 175) rfl ?_
      refine own_aload C X at_175 rfl rfl (pc' := 177) rfl ?_
      refine own_aload C X at_177 rfl rfl (pc' := 179) rfl ?_
      refine own_callV C X at_179 (own_m_ag1_4 l Z a0 hw o pa _ n0 (own_big C X) hd r1 r2 r3 r4 r5 r6 nx tg cp rs sv (-sv) dv (0 : Int64) (0 : Int64) (0 : Int64) dv (0 : Int64) O P S A_pa ge_o ge_cp ge_rs ne_o_cp ne_o_rs ne_cp_rs ne_rs_pa (Ne.symm ne_pa_o) ne_cp_pa (by decide)) O.1 (hw _ (List.mem_of_getElem? (i := 79) rfl)) (hw _ (List.mem_of_getElem? (i := 80) rfl)) (hw _ (List.mem_of_getElem? (i := 82) rfl)) (hw _ (List.mem_of_getElem? (i := 81) rfl)) (hw _ (List.mem_of_getElem? (i := 4) rfl)) (hw _ (List.mem_of_getElem? (i := 83) rfl)) (by decide) own_pd_2889 rfl rfl (Nat.le_of_ble_eq_true rfl) (Nat.le_of_ble_eq_true rfl) (Nat.le_of_ble_eq_true rfl) (Nat.le_of_ble_eq_true rfl) (av := [(.ref pa)]) (S := []) rfl (pc' := 182) rfl ?_
      intro T h v X hQ
      obtain ⟨rfl, K_, O, P, S⟩ := hQ
      have A_pa := A_pa.keep K_ (ninS ne_pa_o (ninS (Ne.symm ne_cp_pa) (ninS (Ne.symm ne_rs_pa) nin0)))
      have A_pb := A_pb.keep K_ (ninS ne_pb_o (ninS (Ne.symm ne_cp_pb) (ninS (Ne.symm ne_rs_pb) nin0)))
      have A_pc := A_pc.keep K_ (ninS ne_pc_o (ninS (Ne.symm ne_cp_pc) (ninS (Ne.symm ne_rs_pc) nin0)))
      show own_Go p e below n0 (own_Fin room_1 s (fun v h => v = some (.int 1))) (T.setTop (mkF m 182 #[.val (.long q0), .second, .val (.long q1), .second, .val (.long q2), .second, .val (.long q3), .second, .val (.int i4), .val (.long cv), .second, .val (.long rv), .second, .val (.long dv), .second, .val (.int (1 : Int32)), .val (.int (0 : Int32)), .val (.long cv), .second, .val (.long sv), .second, .val (.long sv), .second, .val (.ref pa), .val (.ref pb), .val (.ref pc), .val (.ref o), .val (.long sv), .second, .val (.long (-sv)), .second, .unset, .unset, .unset, .unset, .unset, .unset, .unset, .unset] [(.long (0 : Int64))]))
      replace S : own_JA Z h rs (own_L4 (0 : Int64) (0 : Int64) dv (0 : Int64)) := S
      refine own_lstore C X at_182 (L' := #[.val (.long q0), .second, .val (.long q1), .second, .val (.long q2), .second, .val (.long q3), .second, .val (.int i4), .val (.long cv), .second, .val (.long rv), .second, .val (.long dv), .second, .val (.int (1 : Int32)), .val (.int (0 : Int32)), .val (.long cv), .second, .val (.long sv), .second, .val (.long sv), .second, .val (.ref pa), .val (.ref pb), .val (.ref pc), .val (.ref o), .val (.long sv), .second, .val (.long (-sv)), .second, .val (.long (0 : Int64)), .second, .unset, .unset, .unset, .unset, .unset, .unset]) rfl (pc' := 184) rfl ?_
      refine own_aload C X at_184 rfl rfl (pc' := 186) rfl ?_
      refine own_aload C X at_186 rfl rfl (pc' := 188) rfl ?_
      refine own_callV C X at_188 (own_m_ag0_5 l Z a0 hw o pb _ n0 (own_big C X) hd r1 r2 r3 r4 r5 r6 nx tg cp rs sv (-sv) dv (0 : Int64) (0 : Int64) (0 : Int64) dv (0 : Int64) O P S A_pb ge_o ge_cp ge_rs ne_o_cp ne_o_rs ne_cp_rs ne_rs_pb (Ne.symm ne_pb_o) ne_cp_pb (by decide)) O.1 (hw _ (List.mem_of_getElem? (i := 79) rfl)) (hw _ (List.mem_of_getElem? (i := 80) rfl)) (hw _ (List.mem_of_getElem? (i := 82) rfl)) (hw _ (List.mem_of_getElem? (i := 81) rfl)) (hw _ (List.mem_of_getElem? (i := 4) rfl)) (hw _ (List.mem_of_getElem? (i := 83) rfl)) (by decide) own_pd_2889 rfl rfl (Nat.le_of_ble_eq_true rfl) (Nat.le_of_ble_eq_true rfl) (Nat.le_of_ble_eq_true rfl) (Nat.le_of_ble_eq_true rfl) (av := [(.ref pb)]) (S := []) rfl (pc' := 191) rfl ?_
      intro T h v X hQ
      obtain ⟨rfl, K_, O, P, S⟩ := hQ
      have A_pa := A_pa.keep K_ (ninS ne_pa_o (ninS (Ne.symm ne_cp_pa) (ninS (Ne.symm ne_rs_pa) nin0)))
      have A_pb := A_pb.keep K_ (ninS ne_pb_o (ninS (Ne.symm ne_cp_pb) (ninS (Ne.symm ne_rs_pb) nin0)))
      have A_pc := A_pc.keep K_ (ninS ne_pc_o (ninS (Ne.symm ne_cp_pc) (ninS (Ne.symm ne_rs_pc) nin0)))
      show own_Go p e below n0 (own_Fin room_1 s (fun v h => v = some (.int 1))) (T.setTop (mkF m 191 #[.val (.long q0), .second, .val (.long q1), .second, .val (.long q2), .second, .val (.long q3), .second, .val (.int i4), .val (.long cv), .second, .val (.long rv), .second, .val (.long dv), .second, .val (.int (1 : Int32)), .val (.int (0 : Int32)), .val (.long cv), .second, .val (.long sv), .second, .val (.long sv), .second, .val (.ref pa), .val (.ref pb), .val (.ref pc), .val (.ref o), .val (.long sv), .second, .val (.long (-sv)), .second, .val (.long (0 : Int64)), .second, .unset, .unset, .unset, .unset, .unset, .unset] [(.long (0 : Int64))]))
      replace S : own_JA Z h rs (own_L4 (0 : Int64) (0 : Int64) dv (0 : Int64)) := S
      refine own_lstore C X at_191 (L' := #[.val (.long q0), .second, .val (.long q1), .second, .val (.long q2), .second, .val (.long q3), .second, .val (.int i4), .val (.long cv), .second, .val (.long rv), .second, .val (.long dv), .second, .val (.int (1 : Int32)), .val (.int (0 : Int32)), .val (.long cv), .second, .val (.long sv), .second, .val (.long sv), .second, .val (.ref pa), .val (.ref pb), .val (.ref pc), .val (.ref o), .val (.long sv), .second, .val (.long (-sv)), .second, .val (.long (0 : Int64)), .second, .val (.long (0 : Int64)), .second, .unset, .unset, .unset, .unset]) rfl (pc' := 193) rfl ?_
      refine own_aload C X at_193 rfl rfl (pc' := 195) rfl ?_
      refine own_aload C X at_195 rfl rfl (pc' := 197) rfl ?_
      refine own_callV C X at_197 (own_m_ag2_6 l Z a0 hw o pc _ n0 (own_big C X) hd r1 r2 r3 r4 r5 r6 nx tg cp rs sv (-sv) dv (0 : Int64) (0 : Int64) (0 : Int64) dv (0 : Int64) O P S A_pc ge_o ge_cp ge_rs ne_o_cp ne_o_rs ne_cp_rs ne_rs_pc (Ne.symm ne_pc_o) ne_cp_pc (own_ax _ hc2)) O.1 (hw _ (List.mem_of_getElem? (i := 79) rfl)) (hw _ (List.mem_of_getElem? (i := 80) rfl)) (hw _ (List.mem_of_getElem? (i := 82) rfl)) (hw _ (List.mem_of_getElem? (i := 81) rfl)) (hw _ (List.mem_of_getElem? (i := 4) rfl)) (hw _ (List.mem_of_getElem? (i := 83) rfl)) (by decide) own_pd_2889 rfl rfl (Nat.le_of_ble_eq_true rfl) (Nat.le_of_ble_eq_true rfl) (Nat.le_of_ble_eq_true rfl) (Nat.le_of_ble_eq_true rfl) (av := [(.ref pc)]) (S := []) rfl (pc' := 200) rfl ?_
      intro T h v X hQ
      obtain ⟨rfl, K_, O, P, S⟩ := hQ
      have A_pa := A_pa.keep K_ (ninS ne_pa_o (ninS (Ne.symm ne_cp_pa) (ninS (Ne.symm ne_rs_pa) nin0)))
      have A_pb := A_pb.keep K_ (ninS ne_pb_o (ninS (Ne.symm ne_cp_pb) (ninS (Ne.symm ne_rs_pb) nin0)))
      have A_pc := A_pc.keep K_ (ninS ne_pc_o (ninS (Ne.symm ne_cp_pc) (ninS (Ne.symm ne_rs_pc) nin0)))
      show own_Go p e below n0 (own_Fin room_1 s (fun v h => v = some (.int 1))) (T.setTop (mkF m 200 #[.val (.long q0), .second, .val (.long q1), .second, .val (.long q2), .second, .val (.long q3), .second, .val (.int i4), .val (.long cv), .second, .val (.long rv), .second, .val (.long dv), .second, .val (.int (1 : Int32)), .val (.int (0 : Int32)), .val (.long cv), .second, .val (.long sv), .second, .val (.long sv), .second, .val (.ref pa), .val (.ref pb), .val (.ref pc), .val (.ref o), .val (.long sv), .second, .val (.long (-sv)), .second, .val (.long (0 : Int64)), .second, .val (.long (0 : Int64)), .second, .unset, .unset, .unset, .unset] [(.long dv)]))
      refine own_lstore C X at_200 (L' := #[.val (.long q0), .second, .val (.long q1), .second, .val (.long q2), .second, .val (.long q3), .second, .val (.int i4), .val (.long cv), .second, .val (.long rv), .second, .val (.long dv), .second, .val (.int (1 : Int32)), .val (.int (0 : Int32)), .val (.long cv), .second, .val (.long sv), .second, .val (.long sv), .second, .val (.ref pa), .val (.ref pb), .val (.ref pc), .val (.ref o), .val (.long sv), .second, .val (.long (-sv)), .second, .val (.long (0 : Int64)), .second, .val (.long (0 : Int64)), .second, .val (.long dv), .second, .unset, .unset]) rfl (pc' := 202) rfl ?_
      refine own_aload C X at_202 rfl rfl (pc' := 204) rfl ?_
      refine own_iconst C X at_204 (v := 0) (by decide) (pc' := 205) rfl ?_
      refine own_callV C X at_205 (own_m_flow0 l Z a0 hw o _ n0 (own_big C X) hd r1 r2 r3 r4 r5 r6 nx tg cp rs (7 : Int32) sv (-sv) dv (0 : Int64) (0 : Int64) (0 : Int64) (dv - dv) ((0 : Int64) + dv) O P S) O.1 (hw _ (List.mem_of_getElem? (i := 74) rfl)) (hw _ (List.mem_of_getElem? (i := 75) rfl)) (hw _ (List.mem_of_getElem? (i := 77) rfl)) (hw _ (List.mem_of_getElem? (i := 76) rfl)) (hw _ (List.mem_of_getElem? (i := 4) rfl)) (hw _ (List.mem_of_getElem? (i := 78) rfl)) (by decide) own_pd_1973 rfl rfl (Nat.le_of_ble_eq_true rfl) (Nat.le_of_ble_eq_true rfl) (Nat.le_of_ble_eq_true rfl) (Nat.le_of_ble_eq_true rfl) (av := [(.int (0 : Int32))]) (S := []) rfl (pc' := 208) rfl ?_
      intro T h v X hQ
      obtain ⟨rfl, rfl⟩ := hQ
      rw [own_a3]
      show own_Go p e below n0 (own_Fin room_1 s (fun v h => v = some (.int 1))) (T.setTop (mkF m 208 #[.val (.long q0), .second, .val (.long q1), .second, .val (.long q2), .second, .val (.long q3), .second, .val (.int i4), .val (.long cv), .second, .val (.long rv), .second, .val (.long dv), .second, .val (.int (1 : Int32)), .val (.int (0 : Int32)), .val (.long cv), .second, .val (.long sv), .second, .val (.long sv), .second, .val (.ref pa), .val (.ref pb), .val (.ref pc), .val (.ref o), .val (.long sv), .second, .val (.long (-sv)), .second, .val (.long (0 : Int64)), .second, .val (.long (0 : Int64)), .second, .val (.long dv), .second, .unset, .unset] [(.long sv)]))
      refine own_lstore C X at_208 (L' := #[.val (.long q0), .second, .val (.long q1), .second, .val (.long q2), .second, .val (.long q3), .second, .val (.int i4), .val (.long cv), .second, .val (.long rv), .second, .val (.long dv), .second, .val (.int (1 : Int32)), .val (.int (0 : Int32)), .val (.long cv), .second, .val (.long sv), .second, .val (.long sv), .second, .val (.ref pa), .val (.ref pb), .val (.ref pc), .val (.ref o), .val (.long sv), .second, .val (.long (-sv)), .second, .val (.long (0 : Int64)), .second, .val (.long (0 : Int64)), .second, .val (.long dv), .second, .val (.long sv), .second]) rfl (pc' := 210) rfl ?_
      refine own_lload C X at_210 rfl (pc' := 212) rfl ?_
      refine own_lload C X at_212 rfl (pc' := 214) rfl ?_
      refine own_lcmp_ne C X at_214 at_215 (pcT := 261) (pc' := 218) (by decide) (by decide) rfl (fun hc214 => absurd hc214 (not_not_intro (rfl))) (fun hc214 => ?_)
      refine own_lload C X at_218 rfl (pc' := 220) rfl ?_
      refine own_lload C X at_220 rfl (pc' := 222) rfl ?_
      refine own_lneg C X at_222 rfl (pc' := 223) rfl ?_
      refine own_lcmp_ne C X at_223 at_224 (pcT := 261) (pc' := 227) (by decide) (by decide) rfl (fun hc223 => absurd hc223 (not_not_intro (rfl))) (fun hc223 => ?_)
      refine own_lload C X at_227 rfl (pc' := 229) rfl ?_
      refine own_lconst C X at_229 (v := 0) (by decide) (pc' := 230) rfl ?_
      refine own_lcmp_ne C X at_230 at_231 (pcT := 261) (pc' := 234) (by decide) (by decide) rfl (fun hc230 => absurd hc230 (by decide)) (fun hc230 => ?_)
      refine own_lload C X at_234 rfl (pc' := 236) rfl ?_
      refine own_lconst C X at_236 (v := 0) (by decide) (pc' := 237) rfl ?_
      refine own_lcmp_ne C X at_237 at_238 (pcT := 261) (pc' := 241) (by decide) (by decide) rfl (fun hc237 => absurd hc237 (by decide)) (fun hc237 => ?_)
      refine own_lload C X at_241 rfl (pc' := 243) rfl ?_
      refine own_lload C X at_243 rfl (pc' := 245) rfl ?_
      refine own_lcmp_ne C X at_245 at_246 (pcT := 261) (pc' := 249) (by decide) (by decide) rfl (fun hc245 => absurd hc245 (not_not_intro (rfl))) (fun hc245 => ?_)
      refine own_lload C X at_249 rfl (pc' := 251) rfl ?_
      refine own_lload C X at_251 rfl (pc' := 253) rfl ?_
      refine own_lcmp_ne C X at_253 at_254 (pcT := 261) (pc' := 257) (by decide) (by decide) rfl (fun hc253 => absurd hc253 (not_not_intro (rfl))) (fun hc253 => ?_)
      refine own_iconst C X at_257 (v := 1) (by decide) (pc' := 258) rfl ?_
      refine own_goto C X at_258 (pc' := 262) (by decide) (by decide) ?_
      exact own_ireturn_z C X at_262 (Nat.le_of_ble_eq_true rfl) (Nat.le_of_ble_eq_true rfl) (rfl)
    · refine own_iload C X at_36 rfl (pc' := 38) rfl ?_
      refine own_if_ne C X at_38 (pcT := 46) (pc' := 41) (by decide) (by decide) rfl (fun hc38 => ?_) (fun hc38 => absurd hc38 (by decide))
      refine own_lload C X at_46 rfl (pc' := 48) rfl ?_
      refine own_lstore C X at_48 (L' := #[.val (.long q0), .second, .val (.long q1), .second, .val (.long q2), .second, .val (.long q3), .second, .val (.int i4), .val (.long cv), .second, .val (.long rv), .second, .val (.long dv), .second, .val (.int (1 : Int32)), .val (.int (1 : Int32)), .val (.long rv), .second, .unset, .unset, .unset, .unset, .unset, .unset, .unset, .unset, .unset, .unset, .unset, .unset, .unset, .unset, .unset, .unset, .unset, .unset, .unset, .unset]) rfl (pc' := 50) rfl ?_
      refine own_lload C X at_50 rfl (pc' := 52) rfl ?_
      refine own_ldc2L C X at_52 (hw _ (List.mem_of_getElem? (i := 0) rfl)) (pc' := 55) rfl ?_
      refine own_land C X at_55 rfl (pc' := 56) rfl ?_
      refine own_lload C X at_56 rfl (pc' := 58) rfl ?_
      refine own_lconst C X at_58 (v := 1) (by decide) (pc' := 59) rfl ?_
      refine own_ladd C X at_59 rfl (pc' := 60) rfl ?_
      have hnz := own_nz rv hq_rv.1 hq_rv.2
      obtain ⟨sv, e_sv⟩ : ∃ z : Int64, ((q2 &&& (4611686018427387903 : Int64)) % (rv + (1 : Int64))) = z := ⟨_, rfl⟩
      refine own_lrem C X at_60 hnz e_sv (pc' := 61) rfl ?_
      obtain ⟨hs0, hs1⟩ := own_rem q2 rv sv hq_rv.1 hq_rv.2 e_sv
      refine own_lstore C X at_61 (L' := #[.val (.long q0), .second, .val (.long q1), .second, .val (.long q2), .second, .val (.long q3), .second, .val (.int i4), .val (.long cv), .second, .val (.long rv), .second, .val (.long dv), .second, .val (.int (1 : Int32)), .val (.int (1 : Int32)), .val (.long rv), .second, .val (.long sv), .second, .unset, .unset, .unset, .unset, .unset, .unset, .unset, .unset, .unset, .unset, .unset, .unset, .unset, .unset, .unset, .unset, .unset, .unset]) rfl (pc' := 63) rfl ?_
      refine own_iload C X at_63 rfl (pc' := 65) rfl ?_
      refine own_if_ne C X at_65 (pcT := 73) (pc' := 68) (by decide) (by decide) rfl (fun hc65 => ?_) (fun hc65 => absurd hc65 (by decide))
      refine own_lload C X at_73 rfl (pc' := 75) rfl ?_
      refine own_lneg C X at_75 rfl (pc' := 76) rfl ?_
      refine own_lstore C X at_76 (L' := #[.val (.long q0), .second, .val (.long q1), .second, .val (.long q2), .second, .val (.long q3), .second, .val (.int i4), .val (.long cv), .second, .val (.long rv), .second, .val (.long dv), .second, .val (.int (1 : Int32)), .val (.int (1 : Int32)), .val (.long rv), .second, .val (.long sv), .second, .val (.long (-sv)), .second, .unset, .unset, .unset, .unset, .unset, .unset, .unset, .unset, .unset, .unset, .unset, .unset, .unset, .unset, .unset, .unset]) rfl (pc' := 78) rfl ?_
      refine own_iconst C X at_78 (v := 1) (by decide) (pc' := 79) rfl ?_
      refine own_newI C X at_79 (ty := .int) rfl (hw _ (List.mem_of_getElem? (i := 1) rfl)) (by decide) (k := 1) (cap := 1) (Nat.le_of_ble_eq_true rfl) (by decide) (Nat.le_of_ble_eq_true rfl) (Nat.le_of_ble_eq_true rfl) rfl rfl (pc' := 81) rfl ?_
      intro T h pa e_pa X K_ ge_pa A_pa_
      have A_pa : own_IA Z h pa .int [(0 : Int32)] := A_pa_
      refine own_dup C X at_81 rfl (pc' := 82) rfl ?_
      refine own_iconst C X at_82 (v := 0) (by decide) (pc' := 83) rfl ?_
      refine own_iload C X at_83 rfl (pc' := 85) rfl ?_
      refine own_iastore C X at_85 A_pa (by decide) (i := 0) (Nat.le_of_ble_eq_true rfl) ge_pa (pc' := 86) rfl ?_
      intro T h X K_ A_pa_
      have A_pa : own_IA Z h pa .int [(1 : Int32)] := A_pa_
      refine own_astore C X at_86 rfl (L' := #[.val (.long q0), .second, .val (.long q1), .second, .val (.long q2), .second, .val (.long q3), .second, .val (.int i4), .val (.long cv), .second, .val (.long rv), .second, .val (.long dv), .second, .val (.int (1 : Int32)), .val (.int (1 : Int32)), .val (.long rv), .second, .val (.long sv), .second, .val (.long (-sv)), .second, .val (.ref pa), .unset, .unset, .unset, .unset, .unset, .unset, .unset, .unset, .unset, .unset, .unset, .unset, .unset, .unset, .unset]) rfl (pc' := 88) rfl ?_
      refine own_iconst C X at_88 (v := 1) (by decide) (pc' := 89) rfl ?_
      refine own_newI C X at_89 (ty := .int) rfl (hw _ (List.mem_of_getElem? (i := 1) rfl)) (by decide) (k := 1) (cap := 1) (Nat.le_of_ble_eq_true rfl) (by decide) (Nat.le_of_ble_eq_true rfl) (Nat.le_of_ble_eq_true rfl) rfl rfl (pc' := 91) rfl ?_
      intro T h pb e_pb X K_ ge_pb A_pb_
      have ne_pa_pb : pa ≠ pb := by rw [e_pb]; exact Nat.ne_of_lt A_pa.lt
      have A_pb : own_IA Z h pb .int [(0 : Int32)] := A_pb_
      have A_pa := A_pa.keep K_ nin0
      refine own_dup C X at_91 rfl (pc' := 92) rfl ?_
      refine own_iconst C X at_92 (v := 0) (by decide) (pc' := 93) rfl ?_
      refine own_iload C X at_93 rfl (pc' := 95) rfl ?_
      refine own_iconst C X at_95 (v := 1) (by decide) (pc' := 96) rfl ?_
      refine own_ixor C X at_96 (z := 0) (by decide) (pc' := 97) rfl ?_
      refine own_iastore C X at_97 A_pb (by decide) (i := 0) (Nat.le_of_ble_eq_true rfl) ge_pb (pc' := 98) rfl ?_
      intro T h X K_ A_pb_
      have A_pb : own_IA Z h pb .int [(0 : Int32)] := A_pb_
      have A_pa := A_pa.keep K_ (ninS ne_pa_pb nin0)
      refine own_astore C X at_98 rfl (L' := #[.val (.long q0), .second, .val (.long q1), .second, .val (.long q2), .second, .val (.long q3), .second, .val (.int i4), .val (.long cv), .second, .val (.long rv), .second, .val (.long dv), .second, .val (.int (1 : Int32)), .val (.int (1 : Int32)), .val (.long rv), .second, .val (.long sv), .second, .val (.long (-sv)), .second, .val (.ref pa), .val (.ref pb), .unset, .unset, .unset, .unset, .unset, .unset, .unset, .unset, .unset, .unset, .unset, .unset, .unset, .unset]) rfl (pc' := 100) rfl ?_
      refine own_iconst C X at_100 (v := 1) (by decide) (pc' := 101) rfl ?_
      refine own_newI C X at_101 (ty := .int) rfl (hw _ (List.mem_of_getElem? (i := 1) rfl)) (by decide) (k := 1) (cap := 1) (Nat.le_of_ble_eq_true rfl) (by decide) (Nat.le_of_ble_eq_true rfl) (Nat.le_of_ble_eq_true rfl) rfl rfl (pc' := 103) rfl ?_
      intro T h pc e_pc X K_ ge_pc A_pc_
      have ne_pa_pc : pa ≠ pc := by rw [e_pc]; exact Nat.ne_of_lt A_pa.lt
      have ne_pb_pc : pb ≠ pc := by rw [e_pc]; exact Nat.ne_of_lt A_pb.lt
      have A_pc : own_IA Z h pc .int [(0 : Int32)] := A_pc_
      have A_pa := A_pa.keep K_ nin0
      have A_pb := A_pb.keep K_ nin0
      refine own_dup C X at_103 rfl (pc' := 104) rfl ?_
      refine own_iconst C X at_104 (v := 0) (by decide) (pc' := 105) rfl ?_
      refine own_iconst C X at_105 (v := 2) (by decide) (pc' := 106) rfl ?_
      refine own_iastore C X at_106 A_pc (by decide) (i := 0) (Nat.le_of_ble_eq_true rfl) ge_pc (pc' := 107) rfl ?_
      intro T h X K_ A_pc_
      have A_pc : own_IA Z h pc .int [(2 : Int32)] := A_pc_
      have A_pa := A_pa.keep K_ (ninS ne_pa_pc nin0)
      have A_pb := A_pb.keep K_ (ninS ne_pb_pc nin0)
      refine own_astore C X at_107 rfl (L' := #[.val (.long q0), .second, .val (.long q1), .second, .val (.long q2), .second, .val (.long q3), .second, .val (.int i4), .val (.long cv), .second, .val (.long rv), .second, .val (.long dv), .second, .val (.int (1 : Int32)), .val (.int (1 : Int32)), .val (.long rv), .second, .val (.long sv), .second, .val (.long (-sv)), .second, .val (.ref pa), .val (.ref pb), .val (.ref pc), .unset, .unset, .unset, .unset, .unset, .unset, .unset, .unset, .unset, .unset, .unset, .unset, .unset]) rfl (pc' := 109) rfl ?_
      refine own_new C X at_109 (hw _ (List.mem_of_getElem? (i := 2) rfl)) (hw _ (List.mem_of_getElem? (i := 3) rfl)) (hw _ (List.mem_of_getElem? (i := 4) rfl)) (Nat.le_of_ble_eq_true rfl) (Nat.le_of_ble_eq_true rfl) [("deadMark", "I", (.int (0 : Int32))), ("deadFrom", "I", (.int (0 : Int32))), ("deadTo", "I", (.int (0 : Int32))), ("heads", "[I", .null), ("marks", "[I", .null), ("cursors", "[I", .null), ("searchPath", "[I", .null), ("reached", "[I", .null), ("distances", "[I", .null), ("deadMarks", "[I", .null), ("nexts", "[I", .null), ("targets", "[I", .null), ("capacities", "[J", .null), ("residuals", "[J", .null), ("arcs", "I", (.int (0 : Int32)))] (by decide) ?_ (pc' := 112) rfl ?_
      · intro f hf; simp only [List.mem_cons, List.not_mem_nil, or_false] at hf
        rcases hf with rfl | rfl | rfl | rfl | rfl | rfl | rfl | rfl | rfl | rfl | rfl | rfl | rfl | rfl | rfl
        · exact ⟨(Or.inl (hw _ (List.mem_of_getElem? (i := 12) rfl))), .int, by decide, rfl⟩
        · exact ⟨(Or.inl (hw _ (List.mem_of_getElem? (i := 14) rfl))), .int, by decide, rfl⟩
        · exact ⟨(Or.inl (hw _ (List.mem_of_getElem? (i := 16) rfl))), .int, by decide, rfl⟩
        · exact ⟨(Or.inr (hw _ (List.mem_of_getElem? (i := 18) rfl))), (.array .int), by decide, rfl⟩
        · exact ⟨(Or.inr (hw _ (List.mem_of_getElem? (i := 24) rfl))), (.array .int), by decide, rfl⟩
        · exact ⟨(Or.inr (hw _ (List.mem_of_getElem? (i := 26) rfl))), (.array .int), by decide, rfl⟩
        · exact ⟨(Or.inr (hw _ (List.mem_of_getElem? (i := 28) rfl))), (.array .int), by decide, rfl⟩
        · exact ⟨(Or.inr (hw _ (List.mem_of_getElem? (i := 30) rfl))), (.array .int), by decide, rfl⟩
        · exact ⟨(Or.inr (hw _ (List.mem_of_getElem? (i := 32) rfl))), (.array .int), by decide, rfl⟩
        · exact ⟨(Or.inr (hw _ (List.mem_of_getElem? (i := 34) rfl))), (.array .int), by decide, rfl⟩
        · exact ⟨(Or.inl (hw _ (List.mem_of_getElem? (i := 40) rfl))), (.array .int), by decide, rfl⟩
        · exact ⟨(Or.inl (hw _ (List.mem_of_getElem? (i := 42) rfl))), (.array .int), by decide, rfl⟩
        · exact ⟨(Or.inl (hw _ (List.mem_of_getElem? (i := 45) rfl))), (.array .long), by decide, rfl⟩
        · exact ⟨(Or.inl (hw _ (List.mem_of_getElem? (i := 47) rfl))), (.array .long), by decide, rfl⟩
        · exact ⟨(Or.inl (hw _ (List.mem_of_getElem? (i := 59) rfl))), .int, by decide, rfl⟩
      intro T h o e_o X K_ ge_o O_o
      have ne_pa_o : pa ≠ o := by rw [e_o]; exact Nat.ne_of_lt A_pa.lt
      have ne_pb_o : pb ≠ o := by rw [e_o]; exact Nat.ne_of_lt A_pb.lt
      have ne_pc_o : pc ≠ o := by rw [e_o]; exact Nat.ne_of_lt A_pc.lt
      have A_pa := A_pa.keep K_ nin0
      have A_pb := A_pb.keep K_ nin0
      have A_pc := A_pc.keep K_ nin0
      refine own_dup C X at_112 rfl (pc' := 113) rfl ?_
      refine own_iconst C X at_113 (v := 2) (by decide) (pc' := 114) rfl ?_
      refine own_iconst C X at_114 (v := 2) (by decide) (pc' := 115) rfl ?_
      have hbg := own_big C X
      have O := O_o
      refine own_callInit C X at_115 (own_m_init l Z a0 hw o _ n0 hbg O ge_o) rfl (hw _ (List.mem_of_getElem? (i := 5) rfl)) (hw _ (List.mem_of_getElem? (i := 6) rfl)) (hw _ (List.mem_of_getElem? (i := 4) rfl)) (hw _ (List.mem_of_getElem? (i := 7) rfl)) (by decide) own_pd_2877 rfl rfl (Nat.le_of_ble_eq_true rfl) (Nat.le_of_ble_eq_true rfl) (Nat.le_of_ble_eq_true rfl) (Nat.le_of_ble_eq_true rfl) (av := [(.int (2 : Int32)), (.int (2 : Int32))]) (S := [(.ref o)]) rfl (pc' := 118) rfl ?_
      intro T h v X hQ
      obtain ⟨rfl, hd, r1, r2, r3, r4, r5, r6, nx, tg, cp, rs, gh, g1, g2, g3, g4, K_, O_n, H, N, G, P, S⟩ := hQ
      have q_o : @LT.lt Nat instLTNat o _ := O.lt
      have q_pa : @LT.lt Nat instLTNat pa _ := A_pa.lt
      have q_pb : @LT.lt Nat instLTNat pb _ := A_pb.lt
      have q_pc : @LT.lt Nat instLTNat pc _ := A_pc.lt
      have ge_hd : n0 ≤ hd := by omega
      have ge_nx : n0 ≤ nx := by omega
      have ge_tg : n0 ≤ tg := by omega
      have ge_cp : n0 ≤ cp := by omega
      have ge_rs : n0 ≤ rs := by omega
      have ne_o_hd : o ≠ hd := Nat.ne_of_lt (by omega)
      have ne_o_nx : o ≠ nx := Nat.ne_of_lt (by omega)
      have ne_o_tg : o ≠ tg := Nat.ne_of_lt (by omega)
      have ne_o_cp : o ≠ cp := Nat.ne_of_lt (by omega)
      have ne_o_rs : o ≠ rs := Nat.ne_of_lt (by omega)
      have ne_hd_nx : hd ≠ nx := Nat.ne_of_lt (by omega)
      have ne_hd_tg : hd ≠ tg := Nat.ne_of_lt (by omega)
      have ne_hd_cp : hd ≠ cp := Nat.ne_of_lt (by omega)
      have ne_hd_rs : hd ≠ rs := Nat.ne_of_lt (by omega)
      have ne_nx_tg : nx ≠ tg := Nat.ne_of_lt (by omega)
      have ne_nx_cp : nx ≠ cp := Nat.ne_of_lt (by omega)
      have ne_nx_rs : nx ≠ rs := Nat.ne_of_lt (by omega)
      have ne_tg_cp : tg ≠ cp := Nat.ne_of_lt (by omega)
      have ne_tg_rs : tg ≠ rs := Nat.ne_of_lt (by omega)
      have ne_cp_rs : cp ≠ rs := Nat.ne_of_lt (by omega)
      have ne_hd_pa : hd ≠ pa := Nat.ne_of_gt (by omega)
      have ne_nx_pa : nx ≠ pa := Nat.ne_of_gt (by omega)
      have ne_tg_pa : tg ≠ pa := Nat.ne_of_gt (by omega)
      have ne_cp_pa : cp ≠ pa := Nat.ne_of_gt (by omega)
      have ne_rs_pa : rs ≠ pa := Nat.ne_of_gt (by omega)
      have ne_hd_pb : hd ≠ pb := Nat.ne_of_gt (by omega)
      have ne_nx_pb : nx ≠ pb := Nat.ne_of_gt (by omega)
      have ne_tg_pb : tg ≠ pb := Nat.ne_of_gt (by omega)
      have ne_cp_pb : cp ≠ pb := Nat.ne_of_gt (by omega)
      have ne_rs_pb : rs ≠ pb := Nat.ne_of_gt (by omega)
      have ne_hd_pc : hd ≠ pc := Nat.ne_of_gt (by omega)
      have ne_nx_pc : nx ≠ pc := Nat.ne_of_gt (by omega)
      have ne_tg_pc : tg ≠ pc := Nat.ne_of_gt (by omega)
      have ne_cp_pc : cp ≠ pc := Nat.ne_of_gt (by omega)
      have ne_rs_pc : rs ≠ pc := Nat.ne_of_gt (by omega)
      have O := O_n
      have A_pa := A_pa.keep K_ (ninS ne_pa_o nin0)
      have A_pb := A_pb.keep K_ (ninS ne_pb_o nin0)
      have A_pc := A_pc.keep K_ (ninS ne_pc_o nin0)
      show own_Go p e below n0 (own_Fin room_1 s (fun v h => v = some (.int 1))) (T.setTop (mkF m 118 #[.val (.long q0), .second, .val (.long q1), .second, .val (.long q2), .second, .val (.long q3), .second, .val (.int i4), .val (.long cv), .second, .val (.long rv), .second, .val (.long dv), .second, .val (.int (1 : Int32)), .val (.int (1 : Int32)), .val (.long rv), .second, .val (.long sv), .second, .val (.long (-sv)), .second, .val (.ref pa), .val (.ref pb), .val (.ref pc), .unset, .unset, .unset, .unset, .unset, .unset, .unset, .unset, .unset, .unset, .unset, .unset, .unset] [(.ref o)]))
      refine own_astore C X at_118 rfl (L' := #[.val (.long q0), .second, .val (.long q1), .second, .val (.long q2), .second, .val (.long q3), .second, .val (.int i4), .val (.long cv), .second, .val (.long rv), .second, .val (.long dv), .second, .val (.int (1 : Int32)), .val (.int (1 : Int32)), .val (.long rv), .second, .val (.long sv), .second, .val (.long (-sv)), .second, .val (.ref pa), .val (.ref pb), .val (.ref pc), .val (.ref o), .unset, .unset, .unset, .unset, .unset, .unset, .unset, .unset, .unset, .unset, .unset, .unset]) rfl (pc' := 120) rfl ?_
      refine own_aload C X at_120 rfl rfl (pc' := 122) rfl ?_
      refine own_iconst C X at_122 (v := 0) (by decide) (pc' := 123) rfl ?_
      refine own_iconst C X at_123 (v := 1) (by decide) (pc' := 124) rfl ?_
      refine own_lload C X at_124 rfl (pc' := 126) rfl ?_
      refine own_lload C X at_126 rfl (pc' := 128) rfl ?_
      refine own_callV C X at_128 (own_m_arc0 l Z a0 hw o cv rv _ n0 (own_big C X) hd r1 r2 r3 r4 r5 r6 nx tg cp rs (-1 : Int32) (-1 : Int32) (0 : Int32) (0 : Int32) (0 : Int32) (0 : Int32) (0 : Int32) (0 : Int32) (0 : Int32) (0 : Int32) (0 : Int64) (0 : Int64) (0 : Int64) (0 : Int64) (0 : Int64) (0 : Int64) (0 : Int64) (0 : Int64) O H N G P S ge_o ge_hd ge_nx ge_tg ge_cp ge_rs ne_o_hd ne_o_nx ne_o_tg ne_o_cp ne_o_rs ne_hd_nx ne_hd_tg ne_hd_cp ne_hd_rs ne_nx_tg ne_nx_cp ne_nx_rs ne_tg_cp ne_tg_rs ne_cp_rs) O.1 (hw _ (List.mem_of_getElem? (i := 48) rfl)) (hw _ (List.mem_of_getElem? (i := 49) rfl)) (hw _ (List.mem_of_getElem? (i := 51) rfl)) (hw _ (List.mem_of_getElem? (i := 50) rfl)) (hw _ (List.mem_of_getElem? (i := 4) rfl)) (hw _ (List.mem_of_getElem? (i := 52) rfl)) (by decide) own_pd_4516 rfl rfl (Nat.le_of_ble_eq_true rfl) (Nat.le_of_ble_eq_true rfl) (Nat.le_of_ble_eq_true rfl) (Nat.le_of_ble_eq_true rfl) (av := [(.int (0 : Int32)), (.int (1 : Int32)), (.long cv), (.long rv)]) (S := []) rfl (pc' := 131) rfl ?_
      intro T h v X hQ
      obtain ⟨rfl, K_, O, H, N, G, P, S⟩ := hQ
      have A_pa := A_pa.keep K_ (ninS ne_pa_o (ninS (Ne.symm ne_hd_pa) (ninS (Ne.symm ne_nx_pa) (ninS (Ne.symm ne_tg_pa) (ninS (Ne.symm ne_cp_pa) (ninS (Ne.symm ne_rs_pa) nin0))))))
      have A_pb := A_pb.keep K_ (ninS ne_pb_o (ninS (Ne.symm ne_hd_pb) (ninS (Ne.symm ne_nx_pb) (ninS (Ne.symm ne_tg_pb) (ninS (Ne.symm ne_cp_pb) (ninS (Ne.symm ne_rs_pb) nin0))))))
      have A_pc := A_pc.keep K_ (ninS ne_pc_o (ninS (Ne.symm ne_hd_pc) (ninS (Ne.symm ne_nx_pc) (ninS (Ne.symm ne_tg_pc) (ninS (Ne.symm ne_cp_pc) (ninS (Ne.symm ne_rs_pc) nin0))))))
      show own_Go p e below n0 (own_Fin room_1 s (fun v h => v = some (.int 1))) (T.setTop (mkF m 131 #[.val (.long q0), .second, .val (.long q1), .second, .val (.long q2), .second, .val (.long q3), .second, .val (.int i4), .val (.long cv), .second, .val (.long rv), .second, .val (.long dv), .second, .val (.int (1 : Int32)), .val (.int (1 : Int32)), .val (.long rv), .second, .val (.long sv), .second, .val (.long (-sv)), .second, .val (.ref pa), .val (.ref pb), .val (.ref pc), .val (.ref o), .unset, .unset, .unset, .unset, .unset, .unset, .unset, .unset, .unset, .unset, .unset, .unset] [(.int (0 : Int32))]))
      refine own_pop C X at_131 rfl (pc' := 132) rfl ?_
      refine own_aload C X at_132 rfl rfl (pc' := 134) rfl ?_
      refine own_iconst C X at_134 (v := 1) (by decide) (pc' := 135) rfl ?_
      refine own_iconst C X at_135 (v := 0) (by decide) (pc' := 136) rfl ?_
      refine own_lload C X at_136 rfl (pc' := 138) rfl ?_
      refine own_lconst C X at_138 (v := 0) (by decide) (pc' := 139) rfl ?_
      refine own_callV C X at_139 (own_m_arc2 l Z a0 hw o dv (0 : Int64) _ n0 (own_big C X) hd r1 r2 r3 r4 r5 r6 nx tg cp rs (0 : Int32) (1 : Int32) (-1 : Int32) (-1 : Int32) (0 : Int32) (0 : Int32) (1 : Int32) (0 : Int32) (0 : Int32) (0 : Int32) cv rv (0 : Int64) (0 : Int64) cv rv (0 : Int64) (0 : Int64) O H N G P S ge_o ge_hd ge_nx ge_tg ge_cp ge_rs ne_o_hd ne_o_nx ne_o_tg ne_o_cp ne_o_rs ne_hd_nx ne_hd_tg ne_hd_cp ne_hd_rs ne_nx_tg ne_nx_cp ne_nx_rs ne_tg_cp ne_tg_rs ne_cp_rs) O.1 (hw _ (List.mem_of_getElem? (i := 48) rfl)) (hw _ (List.mem_of_getElem? (i := 49) rfl)) (hw _ (List.mem_of_getElem? (i := 51) rfl)) (hw _ (List.mem_of_getElem? (i := 50) rfl)) (hw _ (List.mem_of_getElem? (i := 4) rfl)) (hw _ (List.mem_of_getElem? (i := 52) rfl)) (by decide) own_pd_4516 rfl rfl (Nat.le_of_ble_eq_true rfl) (Nat.le_of_ble_eq_true rfl) (Nat.le_of_ble_eq_true rfl) (Nat.le_of_ble_eq_true rfl) (av := [(.int (1 : Int32)), (.int (0 : Int32)), (.long dv), (.long (0 : Int64))]) (S := []) rfl (pc' := 142) rfl ?_
      intro T h v X hQ
      obtain ⟨rfl, K_, O, H, N, G, P, S⟩ := hQ
      have A_pa := A_pa.keep K_ (ninS ne_pa_o (ninS (Ne.symm ne_hd_pa) (ninS (Ne.symm ne_nx_pa) (ninS (Ne.symm ne_tg_pa) (ninS (Ne.symm ne_cp_pa) (ninS (Ne.symm ne_rs_pa) nin0))))))
      have A_pb := A_pb.keep K_ (ninS ne_pb_o (ninS (Ne.symm ne_hd_pb) (ninS (Ne.symm ne_nx_pb) (ninS (Ne.symm ne_tg_pb) (ninS (Ne.symm ne_cp_pb) (ninS (Ne.symm ne_rs_pb) nin0))))))
      have A_pc := A_pc.keep K_ (ninS ne_pc_o (ninS (Ne.symm ne_hd_pc) (ninS (Ne.symm ne_nx_pc) (ninS (Ne.symm ne_tg_pc) (ninS (Ne.symm ne_cp_pc) (ninS (Ne.symm ne_rs_pc) nin0))))))
      show own_Go p e below n0 (own_Fin room_1 s (fun v h => v = some (.int 1))) (T.setTop (mkF m 142 #[.val (.long q0), .second, .val (.long q1), .second, .val (.long q2), .second, .val (.long q3), .second, .val (.int i4), .val (.long cv), .second, .val (.long rv), .second, .val (.long dv), .second, .val (.int (1 : Int32)), .val (.int (1 : Int32)), .val (.long rv), .second, .val (.long sv), .second, .val (.long (-sv)), .second, .val (.ref pa), .val (.ref pb), .val (.ref pc), .val (.ref o), .unset, .unset, .unset, .unset, .unset, .unset, .unset, .unset, .unset, .unset, .unset, .unset] [(.int (2 : Int32))]))
      refine own_pop C X at_142 rfl (pc' := 143) rfl ?_
      refine own_aload C X at_143 rfl rfl (pc' := 145) rfl ?_
      refine own_iload C X at_145 rfl (pc' := 147) rfl ?_
      refine own_lload C X at_147 rfl (pc' := 149) rfl ?_
      refine own_callV C X at_149 (own_m_send1 l Z a0 hw o sv _ n0 (own_big C X) hd r1 r2 r3 r4 r5 r6 nx tg cp rs cv rv dv (0 : Int64) cv rv dv (0 : Int64) O P S ge_o ge_cp ge_rs ne_o_cp ne_o_rs ne_cp_rs (own_lt0 _ hs0) (own_le _ _ hs1)) O.1 (hw _ (List.mem_of_getElem? (i := 64) rfl)) (hw _ (List.mem_of_getElem? (i := 65) rfl)) (hw _ (List.mem_of_getElem? (i := 67) rfl)) (hw _ (List.mem_of_getElem? (i := 66) rfl)) (hw _ (List.mem_of_getElem? (i := 4) rfl)) (hw _ (List.mem_of_getElem? (i := 68) rfl)) (by decide) own_pd_2886 rfl rfl (Nat.le_of_ble_eq_true rfl) (Nat.le_of_ble_eq_true rfl) (Nat.le_of_ble_eq_true rfl) (Nat.le_of_ble_eq_true rfl) (av := [(.int (1 : Int32)), (.long sv)]) (S := []) rfl (pc' := 152) rfl ?_
      intro T h v X hQ
      obtain ⟨rfl, K_, O, P, S⟩ := hQ
      have A_pa := A_pa.keep K_ (ninS ne_pa_o (ninS (Ne.symm ne_cp_pa) (ninS (Ne.symm ne_rs_pa) nin0)))
      have A_pb := A_pb.keep K_ (ninS ne_pb_o (ninS (Ne.symm ne_cp_pb) (ninS (Ne.symm ne_rs_pb) nin0)))
      have A_pc := A_pc.keep K_ (ninS ne_pc_o (ninS (Ne.symm ne_cp_pc) (ninS (Ne.symm ne_rs_pc) nin0)))
      show own_Go p e below n0 (own_Fin room_1 s (fun v h => v = some (.int 1))) (T.setTop (mkF m 152 #[.val (.long q0), .second, .val (.long q1), .second, .val (.long q2), .second, .val (.long q3), .second, .val (.int i4), .val (.long cv), .second, .val (.long rv), .second, .val (.long dv), .second, .val (.int (1 : Int32)), .val (.int (1 : Int32)), .val (.long rv), .second, .val (.long sv), .second, .val (.long (-sv)), .second, .val (.ref pa), .val (.ref pb), .val (.ref pc), .val (.ref o), .unset, .unset, .unset, .unset, .unset, .unset, .unset, .unset, .unset, .unset, .unset, .unset] []))
      refine own_aload C X at_152 rfl rfl (pc' := 154) rfl ?_
      refine own_iload C X at_154 rfl (pc' := 156) rfl ?_
      refine own_callV C X at_156 (own_m_fix1 l Z a0 hw o _ n0 (own_big C X) hd r1 r2 r3 r4 r5 r6 nx tg cp rs cv rv dv (0 : Int64) (cv + sv) (rv - sv) dv (0 : Int64) O P S ge_o ge_cp ge_rs ne_o_cp ne_o_rs ne_cp_rs) O.1 (hw _ (List.mem_of_getElem? (i := 69) rfl)) (hw _ (List.mem_of_getElem? (i := 70) rfl)) (hw _ (List.mem_of_getElem? (i := 72) rfl)) (hw _ (List.mem_of_getElem? (i := 71) rfl)) (hw _ (List.mem_of_getElem? (i := 4) rfl)) (hw _ (List.mem_of_getElem? (i := 73) rfl)) (by decide) own_pd_2093 rfl rfl (Nat.le_of_ble_eq_true rfl) (Nat.le_of_ble_eq_true rfl) (Nat.le_of_ble_eq_true rfl) (Nat.le_of_ble_eq_true rfl) (av := [(.int (1 : Int32))]) (S := []) rfl (pc' := 159) rfl ?_
      intro T h v X hQ
      obtain ⟨rfl, K_, O, P, S⟩ := hQ
      have A_pa := A_pa.keep K_ (ninS ne_pa_o (ninS (Ne.symm ne_cp_pa) (ninS (Ne.symm ne_rs_pa) nin0)))
      have A_pb := A_pb.keep K_ (ninS ne_pb_o (ninS (Ne.symm ne_cp_pb) (ninS (Ne.symm ne_rs_pb) nin0)))
      have A_pc := A_pc.keep K_ (ninS ne_pc_o (ninS (Ne.symm ne_cp_pc) (ninS (Ne.symm ne_rs_pc) nin0)))
      show own_Go p e below n0 (own_Fin room_1 s (fun v h => v = some (.int 1))) (T.setTop (mkF m 159 #[.val (.long q0), .second, .val (.long q1), .second, .val (.long q2), .second, .val (.long q3), .second, .val (.int i4), .val (.long cv), .second, .val (.long rv), .second, .val (.long dv), .second, .val (.int (1 : Int32)), .val (.int (1 : Int32)), .val (.long rv), .second, .val (.long sv), .second, .val (.long (-sv)), .second, .val (.ref pa), .val (.ref pb), .val (.ref pc), .val (.ref o), .unset, .unset, .unset, .unset, .unset, .unset, .unset, .unset, .unset, .unset, .unset, .unset] []))
      rw [own_a1, own_a2] at P
      replace P : own_JA Z h cp (own_L4 (-sv) sv dv (0 : Int64)) := P
      refine own_aload C X at_159 rfl rfl (pc' := 161) rfl ?_
      refine own_iconst C X at_161 (v := 0) (by decide) (pc' := 162) rfl ?_
      refine own_callV C X at_162 (own_m_flow0 l Z a0 hw o _ n0 (own_big C X) hd r1 r2 r3 r4 r5 r6 nx tg cp rs (4 : Int32) (-sv) sv dv (0 : Int64) (0 : Int64) (0 : Int64) dv (0 : Int64) O P S) O.1 (hw _ (List.mem_of_getElem? (i := 74) rfl)) (hw _ (List.mem_of_getElem? (i := 75) rfl)) (hw _ (List.mem_of_getElem? (i := 77) rfl)) (hw _ (List.mem_of_getElem? (i := 76) rfl)) (hw _ (List.mem_of_getElem? (i := 4) rfl)) (hw _ (List.mem_of_getElem? (i := 78) rfl)) (by decide) own_pd_1973 rfl rfl (Nat.le_of_ble_eq_true rfl) (Nat.le_of_ble_eq_true rfl) (Nat.le_of_ble_eq_true rfl) (Nat.le_of_ble_eq_true rfl) (av := [(.int (0 : Int32))]) (S := []) rfl (pc' := 165) rfl ?_
      intro T h v X hQ
      obtain ⟨rfl, rfl⟩ := hQ
      rw [own_a3]
      show own_Go p e below n0 (own_Fin room_1 s (fun v h => v = some (.int 1))) (T.setTop (mkF m 165 #[.val (.long q0), .second, .val (.long q1), .second, .val (.long q2), .second, .val (.long q3), .second, .val (.int i4), .val (.long cv), .second, .val (.long rv), .second, .val (.long dv), .second, .val (.int (1 : Int32)), .val (.int (1 : Int32)), .val (.long rv), .second, .val (.long sv), .second, .val (.long (-sv)), .second, .val (.ref pa), .val (.ref pb), .val (.ref pc), .val (.ref o), .unset, .unset, .unset, .unset, .unset, .unset, .unset, .unset, .unset, .unset, .unset, .unset] [(.long (-sv))]))
      refine own_lstore C X at_165 (L' := #[.val (.long q0), .second, .val (.long q1), .second, .val (.long q2), .second, .val (.long q3), .second, .val (.int i4), .val (.long cv), .second, .val (.long rv), .second, .val (.long dv), .second, .val (.int (1 : Int32)), .val (.int (1 : Int32)), .val (.long rv), .second, .val (.long sv), .second, .val (.long (-sv)), .second, .val (.ref pa), .val (.ref pb), .val (.ref pc), .val (.ref o), .val (.long (-sv)), .second, .unset, .unset, .unset, .unset, .unset, .unset, .unset, .unset, .unset, .unset]) rfl (pc' := 167) rfl ?_
      refine own_aload C X at_167 rfl rfl (pc' := 169) rfl ?_
      refine own_iconst C X at_169 (v := 1) (by decide) (pc' := 170) rfl ?_
      refine own_callV C X at_170 (own_m_flow1 l Z a0 hw o _ n0 (own_big C X) hd r1 r2 r3 r4 r5 r6 nx tg cp rs (4 : Int32) (-sv) sv dv (0 : Int64) (0 : Int64) (0 : Int64) dv (0 : Int64) O P S) O.1 (hw _ (List.mem_of_getElem? (i := 74) rfl)) (hw _ (List.mem_of_getElem? (i := 75) rfl)) (hw _ (List.mem_of_getElem? (i := 77) rfl)) (hw _ (List.mem_of_getElem? (i := 76) rfl)) (hw _ (List.mem_of_getElem? (i := 4) rfl)) (hw _ (List.mem_of_getElem? (i := 78) rfl)) (by decide) own_pd_1973 rfl rfl (Nat.le_of_ble_eq_true rfl) (Nat.le_of_ble_eq_true rfl) (Nat.le_of_ble_eq_true rfl) (Nat.le_of_ble_eq_true rfl) (av := [(.int (1 : Int32))]) (S := []) rfl (pc' := 173) rfl ?_
      intro T h v X hQ
      obtain ⟨rfl, rfl⟩ := hQ
      rw [own_a3]
      show own_Go p e below n0 (own_Fin room_1 s (fun v h => v = some (.int 1))) (T.setTop (mkF m 173 #[.val (.long q0), .second, .val (.long q1), .second, .val (.long q2), .second, .val (.long q3), .second, .val (.int i4), .val (.long cv), .second, .val (.long rv), .second, .val (.long dv), .second, .val (.int (1 : Int32)), .val (.int (1 : Int32)), .val (.long rv), .second, .val (.long sv), .second, .val (.long (-sv)), .second, .val (.ref pa), .val (.ref pb), .val (.ref pc), .val (.ref o), .val (.long (-sv)), .second, .unset, .unset, .unset, .unset, .unset, .unset, .unset, .unset, .unset, .unset] [(.long sv)]))
      refine own_lstore C X at_173 (L' := #[.val (.long q0), .second, .val (.long q1), .second, .val (.long q2), .second, .val (.long q3), .second, .val (.int i4), .val (.long cv), .second, .val (.long rv), .second, .val (.long dv), .second, .val (.int (1 : Int32)), .val (.int (1 : Int32)), .val (.long rv), .second, .val (.long sv), .second, .val (.long (-sv)), .second, .val (.ref pa), .val (.ref pb), .val (.ref pc), .val (.ref o), .val (.long (-sv)), .second, .val (.long sv), .second, .unset, .unset, .unset, .unset, .unset, .unset, .unset, .unset]) rfl (pc' := 175) rfl ?_
      refine own_aload C X at_175 rfl rfl (pc' := 177) rfl ?_
      refine own_aload C X at_177 rfl rfl (pc' := 179) rfl ?_
      refine own_callV C X at_179 (own_m_ag1_4 l Z a0 hw o pa _ n0 (own_big C X) hd r1 r2 r3 r4 r5 r6 nx tg cp rs (-sv) sv dv (0 : Int64) (0 : Int64) (0 : Int64) dv (0 : Int64) O P S A_pa ge_o ge_cp ge_rs ne_o_cp ne_o_rs ne_cp_rs ne_rs_pa (Ne.symm ne_pa_o) ne_cp_pa (by decide)) O.1 (hw _ (List.mem_of_getElem? (i := 79) rfl)) (hw _ (List.mem_of_getElem? (i := 80) rfl)) (hw _ (List.mem_of_getElem? (i := 82) rfl)) (hw _ (List.mem_of_getElem? (i := 81) rfl)) (hw _ (List.mem_of_getElem? (i := 4) rfl)) (hw _ (List.mem_of_getElem? (i := 83) rfl)) (by decide) own_pd_2889 rfl rfl (Nat.le_of_ble_eq_true rfl) (Nat.le_of_ble_eq_true rfl) (Nat.le_of_ble_eq_true rfl) (Nat.le_of_ble_eq_true rfl) (av := [(.ref pa)]) (S := []) rfl (pc' := 182) rfl ?_
      intro T h v X hQ
      obtain ⟨rfl, K_, O, P, S⟩ := hQ
      have A_pa := A_pa.keep K_ (ninS ne_pa_o (ninS (Ne.symm ne_cp_pa) (ninS (Ne.symm ne_rs_pa) nin0)))
      have A_pb := A_pb.keep K_ (ninS ne_pb_o (ninS (Ne.symm ne_cp_pb) (ninS (Ne.symm ne_rs_pb) nin0)))
      have A_pc := A_pc.keep K_ (ninS ne_pc_o (ninS (Ne.symm ne_cp_pc) (ninS (Ne.symm ne_rs_pc) nin0)))
      show own_Go p e below n0 (own_Fin room_1 s (fun v h => v = some (.int 1))) (T.setTop (mkF m 182 #[.val (.long q0), .second, .val (.long q1), .second, .val (.long q2), .second, .val (.long q3), .second, .val (.int i4), .val (.long cv), .second, .val (.long rv), .second, .val (.long dv), .second, .val (.int (1 : Int32)), .val (.int (1 : Int32)), .val (.long rv), .second, .val (.long sv), .second, .val (.long (-sv)), .second, .val (.ref pa), .val (.ref pb), .val (.ref pc), .val (.ref o), .val (.long (-sv)), .second, .val (.long sv), .second, .unset, .unset, .unset, .unset, .unset, .unset, .unset, .unset] [(.long (0 : Int64))]))
      replace S : own_JA Z h rs (own_L4 (0 : Int64) (0 : Int64) dv (0 : Int64)) := S
      refine own_lstore C X at_182 (L' := #[.val (.long q0), .second, .val (.long q1), .second, .val (.long q2), .second, .val (.long q3), .second, .val (.int i4), .val (.long cv), .second, .val (.long rv), .second, .val (.long dv), .second, .val (.int (1 : Int32)), .val (.int (1 : Int32)), .val (.long rv), .second, .val (.long sv), .second, .val (.long (-sv)), .second, .val (.ref pa), .val (.ref pb), .val (.ref pc), .val (.ref o), .val (.long (-sv)), .second, .val (.long sv), .second, .val (.long (0 : Int64)), .second, .unset, .unset, .unset, .unset, .unset, .unset]) rfl (pc' := 184) rfl ?_
      refine own_aload C X at_184 rfl rfl (pc' := 186) rfl ?_
      refine own_aload C X at_186 rfl rfl (pc' := 188) rfl ?_
      refine own_callV C X at_188 (own_m_ag0_5 l Z a0 hw o pb _ n0 (own_big C X) hd r1 r2 r3 r4 r5 r6 nx tg cp rs (-sv) sv dv (0 : Int64) (0 : Int64) (0 : Int64) dv (0 : Int64) O P S A_pb ge_o ge_cp ge_rs ne_o_cp ne_o_rs ne_cp_rs ne_rs_pb (Ne.symm ne_pb_o) ne_cp_pb (by decide)) O.1 (hw _ (List.mem_of_getElem? (i := 79) rfl)) (hw _ (List.mem_of_getElem? (i := 80) rfl)) (hw _ (List.mem_of_getElem? (i := 82) rfl)) (hw _ (List.mem_of_getElem? (i := 81) rfl)) (hw _ (List.mem_of_getElem? (i := 4) rfl)) (hw _ (List.mem_of_getElem? (i := 83) rfl)) (by decide) own_pd_2889 rfl rfl (Nat.le_of_ble_eq_true rfl) (Nat.le_of_ble_eq_true rfl) (Nat.le_of_ble_eq_true rfl) (Nat.le_of_ble_eq_true rfl) (av := [(.ref pb)]) (S := []) rfl (pc' := 191) rfl ?_
      intro T h v X hQ
      obtain ⟨rfl, K_, O, P, S⟩ := hQ
      have A_pa := A_pa.keep K_ (ninS ne_pa_o (ninS (Ne.symm ne_cp_pa) (ninS (Ne.symm ne_rs_pa) nin0)))
      have A_pb := A_pb.keep K_ (ninS ne_pb_o (ninS (Ne.symm ne_cp_pb) (ninS (Ne.symm ne_rs_pb) nin0)))
      have A_pc := A_pc.keep K_ (ninS ne_pc_o (ninS (Ne.symm ne_cp_pc) (ninS (Ne.symm ne_rs_pc) nin0)))
      show own_Go p e below n0 (own_Fin room_1 s (fun v h => v = some (.int 1))) (T.setTop (mkF m 191 #[.val (.long q0), .second, .val (.long q1), .second, .val (.long q2), .second, .val (.long q3), .second, .val (.int i4), .val (.long cv), .second, .val (.long rv), .second, .val (.long dv), .second, .val (.int (1 : Int32)), .val (.int (1 : Int32)), .val (.long rv), .second, .val (.long sv), .second, .val (.long (-sv)), .second, .val (.ref pa), .val (.ref pb), .val (.ref pc), .val (.ref o), .val (.long (-sv)), .second, .val (.long sv), .second, .val (.long (0 : Int64)), .second, .unset, .unset, .unset, .unset, .unset, .unset] [(.long (0 : Int64))]))
      replace S : own_JA Z h rs (own_L4 (0 : Int64) (0 : Int64) dv (0 : Int64)) := S
      refine own_lstore C X at_191 (L' := #[.val (.long q0), .second, .val (.long q1), .second, .val (.long q2), .second, .val (.long q3), .second, .val (.int i4), .val (.long cv), .second, .val (.long rv), .second, .val (.long dv), .second, .val (.int (1 : Int32)), .val (.int (1 : Int32)), .val (.long rv), .second, .val (.long sv), .second, .val (.long (-sv)), .second, .val (.ref pa), .val (.ref pb), .val (.ref pc), .val (.ref o), .val (.long (-sv)), .second, .val (.long sv), .second, .val (.long (0 : Int64)), .second, .val (.long (0 : Int64)), .second, .unset, .unset, .unset, .unset]) rfl (pc' := 193) rfl ?_
      refine own_aload C X at_193 rfl rfl (pc' := 195) rfl ?_
      refine own_aload C X at_195 rfl rfl (pc' := 197) rfl ?_
      refine own_callV C X at_197 (own_m_ag2_6 l Z a0 hw o pc _ n0 (own_big C X) hd r1 r2 r3 r4 r5 r6 nx tg cp rs (-sv) sv dv (0 : Int64) (0 : Int64) (0 : Int64) dv (0 : Int64) O P S A_pc ge_o ge_cp ge_rs ne_o_cp ne_o_rs ne_cp_rs ne_rs_pc (Ne.symm ne_pc_o) ne_cp_pc (own_ax _ hc2)) O.1 (hw _ (List.mem_of_getElem? (i := 79) rfl)) (hw _ (List.mem_of_getElem? (i := 80) rfl)) (hw _ (List.mem_of_getElem? (i := 82) rfl)) (hw _ (List.mem_of_getElem? (i := 81) rfl)) (hw _ (List.mem_of_getElem? (i := 4) rfl)) (hw _ (List.mem_of_getElem? (i := 83) rfl)) (by decide) own_pd_2889 rfl rfl (Nat.le_of_ble_eq_true rfl) (Nat.le_of_ble_eq_true rfl) (Nat.le_of_ble_eq_true rfl) (Nat.le_of_ble_eq_true rfl) (av := [(.ref pc)]) (S := []) rfl (pc' := 200) rfl ?_
      intro T h v X hQ
      obtain ⟨rfl, K_, O, P, S⟩ := hQ
      have A_pa := A_pa.keep K_ (ninS ne_pa_o (ninS (Ne.symm ne_cp_pa) (ninS (Ne.symm ne_rs_pa) nin0)))
      have A_pb := A_pb.keep K_ (ninS ne_pb_o (ninS (Ne.symm ne_cp_pb) (ninS (Ne.symm ne_rs_pb) nin0)))
      have A_pc := A_pc.keep K_ (ninS ne_pc_o (ninS (Ne.symm ne_cp_pc) (ninS (Ne.symm ne_rs_pc) nin0)))
      show own_Go p e below n0 (own_Fin room_1 s (fun v h => v = some (.int 1))) (T.setTop (mkF m 200 #[.val (.long q0), .second, .val (.long q1), .second, .val (.long q2), .second, .val (.long q3), .second, .val (.int i4), .val (.long cv), .second, .val (.long rv), .second, .val (.long dv), .second, .val (.int (1 : Int32)), .val (.int (1 : Int32)), .val (.long rv), .second, .val (.long sv), .second, .val (.long (-sv)), .second, .val (.ref pa), .val (.ref pb), .val (.ref pc), .val (.ref o), .val (.long (-sv)), .second, .val (.long sv), .second, .val (.long (0 : Int64)), .second, .val (.long (0 : Int64)), .second, .unset, .unset, .unset, .unset] [(.long dv)]))
      refine own_lstore C X at_200 (L' := #[.val (.long q0), .second, .val (.long q1), .second, .val (.long q2), .second, .val (.long q3), .second, .val (.int i4), .val (.long cv), .second, .val (.long rv), .second, .val (.long dv), .second, .val (.int (1 : Int32)), .val (.int (1 : Int32)), .val (.long rv), .second, .val (.long sv), .second, .val (.long (-sv)), .second, .val (.ref pa), .val (.ref pb), .val (.ref pc), .val (.ref o), .val (.long (-sv)), .second, .val (.long sv), .second, .val (.long (0 : Int64)), .second, .val (.long (0 : Int64)), .second, .val (.long dv), .second, .unset, .unset]) rfl (pc' := 202) rfl ?_
      refine own_aload C X at_202 rfl rfl (pc' := 204) rfl ?_
      refine own_iconst C X at_204 (v := 0) (by decide) (pc' := 205) rfl ?_
      refine own_callV C X at_205 (own_m_flow0 l Z a0 hw o _ n0 (own_big C X) hd r1 r2 r3 r4 r5 r6 nx tg cp rs (7 : Int32) (-sv) sv dv (0 : Int64) (0 : Int64) (0 : Int64) (dv - dv) ((0 : Int64) + dv) O P S) O.1 (hw _ (List.mem_of_getElem? (i := 74) rfl)) (hw _ (List.mem_of_getElem? (i := 75) rfl)) (hw _ (List.mem_of_getElem? (i := 77) rfl)) (hw _ (List.mem_of_getElem? (i := 76) rfl)) (hw _ (List.mem_of_getElem? (i := 4) rfl)) (hw _ (List.mem_of_getElem? (i := 78) rfl)) (by decide) own_pd_1973 rfl rfl (Nat.le_of_ble_eq_true rfl) (Nat.le_of_ble_eq_true rfl) (Nat.le_of_ble_eq_true rfl) (Nat.le_of_ble_eq_true rfl) (av := [(.int (0 : Int32))]) (S := []) rfl (pc' := 208) rfl ?_
      intro T h v X hQ
      obtain ⟨rfl, rfl⟩ := hQ
      rw [own_a3]
      show own_Go p e below n0 (own_Fin room_1 s (fun v h => v = some (.int 1))) (T.setTop (mkF m 208 #[.val (.long q0), .second, .val (.long q1), .second, .val (.long q2), .second, .val (.long q3), .second, .val (.int i4), .val (.long cv), .second, .val (.long rv), .second, .val (.long dv), .second, .val (.int (1 : Int32)), .val (.int (1 : Int32)), .val (.long rv), .second, .val (.long sv), .second, .val (.long (-sv)), .second, .val (.ref pa), .val (.ref pb), .val (.ref pc), .val (.ref o), .val (.long (-sv)), .second, .val (.long sv), .second, .val (.long (0 : Int64)), .second, .val (.long (0 : Int64)), .second, .val (.long dv), .second, .unset, .unset] [(.long (-sv))]))
      refine own_lstore C X at_208 (L' := #[.val (.long q0), .second, .val (.long q1), .second, .val (.long q2), .second, .val (.long q3), .second, .val (.int i4), .val (.long cv), .second, .val (.long rv), .second, .val (.long dv), .second, .val (.int (1 : Int32)), .val (.int (1 : Int32)), .val (.long rv), .second, .val (.long sv), .second, .val (.long (-sv)), .second, .val (.ref pa), .val (.ref pb), .val (.ref pc), .val (.ref o), .val (.long (-sv)), .second, .val (.long sv), .second, .val (.long (0 : Int64)), .second, .val (.long (0 : Int64)), .second, .val (.long dv), .second, .val (.long (-sv)), .second]) rfl (pc' := 210) rfl ?_
      refine own_lload C X at_210 rfl (pc' := 212) rfl ?_
      refine own_lload C X at_212 rfl (pc' := 214) rfl ?_
      refine own_lcmp_ne C X at_214 at_215 (pcT := 261) (pc' := 218) (by decide) (by decide) rfl (fun hc214 => absurd hc214 (not_not_intro (rfl))) (fun hc214 => ?_)
      refine own_lload C X at_218 rfl (pc' := 220) rfl ?_
      refine own_lload C X at_220 rfl (pc' := 222) rfl ?_
      refine own_lneg C X at_222 rfl (pc' := 223) rfl ?_
      refine own_lcmp_ne C X at_223 at_224 (pcT := 261) (pc' := 227) (by decide) (by decide) rfl (fun hc223 => absurd hc223 (not_not_intro ((own_a4 sv).symm))) (fun hc223 => ?_)
      refine own_lload C X at_227 rfl (pc' := 229) rfl ?_
      refine own_lconst C X at_229 (v := 0) (by decide) (pc' := 230) rfl ?_
      refine own_lcmp_ne C X at_230 at_231 (pcT := 261) (pc' := 234) (by decide) (by decide) rfl (fun hc230 => absurd hc230 (by decide)) (fun hc230 => ?_)
      refine own_lload C X at_234 rfl (pc' := 236) rfl ?_
      refine own_lconst C X at_236 (v := 0) (by decide) (pc' := 237) rfl ?_
      refine own_lcmp_ne C X at_237 at_238 (pcT := 261) (pc' := 241) (by decide) (by decide) rfl (fun hc237 => absurd hc237 (by decide)) (fun hc237 => ?_)
      refine own_lload C X at_241 rfl (pc' := 243) rfl ?_
      refine own_lload C X at_243 rfl (pc' := 245) rfl ?_
      refine own_lcmp_ne C X at_245 at_246 (pcT := 261) (pc' := 249) (by decide) (by decide) rfl (fun hc245 => absurd hc245 (not_not_intro (rfl))) (fun hc245 => ?_)
      refine own_lload C X at_249 rfl (pc' := 251) rfl ?_
      refine own_lload C X at_251 rfl (pc' := 253) rfl ?_
      refine own_lcmp_ne C X at_253 at_254 (pcT := 261) (pc' := 257) (by decide) (by decide) rfl (fun hc253 => absurd hc253 (not_not_intro (rfl))) (fun hc253 => ?_)
      refine own_iconst C X at_257 (v := 1) (by decide) (pc' := 258) rfl ?_
      refine own_goto C X at_258 (pc' := 262) (by decide) (by decide) ?_
      exact own_ireturn_z C X at_262 (Nat.le_of_ble_eq_true rfl) (Nat.le_of_ble_eq_true rfl) (rfl)
set_option maxRecDepth 65536 in
set_option maxHeartbeats 40000000 in
theorem own_comes {Post : Tables → Env → Array Value → State → Outcome → State → Prop} (hpost : ∀ tb e args s v u, (limb_1_1.after args s (.returned v) u = true ∧ limb_1_2.after args s (.returned v) u = true ∧ True) → FrameEnd s (.returned v) u (Jvm.fieldLocs frame_1_writes args s ++ Jvm.arrayLocs frame_1_arrays args s ++ Jvm.staticLocs frame_1_statics s) 40 320 → Post tb e args s (.returned v) u) :
    ArmFor flags0 classFile x code maxLocals ret World_1 tables_1 room_1 Calls_1 rest_1 Pre_1 Post := by
  intro l hfl _ _ p e ha hc hk s m args below hf hA hF happ hP
  obtain ⟨hcalls, hrest, hpre⟩ := hP
  obtain ⟨-, -, -, hnamed, -, -, -, hat⟩ := (Spec.applies_iff hf).mp happ
  obtain ⟨hg, hn⟩ := and_e (Cond.before_iff.mp (show (Jvm.Cond.and given_1 narrow_1).before args s = true from hpre))
  obtain ⟨gc, g0⟩ := and_e hg
  obtain ⟨k0, g1⟩ := and_e g0
  obtain ⟨k1, g2⟩ := and_e g1
  obtain ⟨k2, g3⟩ := and_e g2
  obtain ⟨k3, g4⟩ := and_e g3
  obtain ⟨w0, w1, w2, w3, w4, rfl⟩ : ∃ w0 w1 w2 w3 w4 : Value, args = #[w0, w1, w2, w3, w4] := by
    have hs : args.size = 5 := by simpa [Cond.value, given_1] using gc
    obtain ⟨L⟩ := args
    match L, hs with
    | [w0, w1, w2, w3, w4], _ => exact ⟨w0, w1, w2, w3, w4, rfl⟩
  have hw := fun d (hd : d ∈ tables_1) => atoms_spec (ws := Jvm.Cond.code x code maxLocals ret :: tables_1) hat d (List.mem_cons_of_mem _ hd)
  obtain ⟨i0, ei0⟩ := isL_v k0
  obtain rfl : w0 = (.long i0) := Option.some.inj ei0
  obtain ⟨i1, ei1⟩ := isL_v k1
  obtain rfl : w1 = (.long i1) := Option.some.inj ei1
  obtain ⟨i2, ei2⟩ := isL_v k2
  obtain rfl : w2 = (.long i2) := Option.some.inj ei2
  obtain ⟨i3, ei3⟩ := isL_v k3
  obtain rfl : w3 = (.long i3) := Option.some.inj ei3
  obtain ⟨i4, ei4⟩ := is_v g4
  obtain rfl : w4 = (.int i4) := Option.some.inj ei4
  obtain ⟨n, o, h1, h2, h3, _, L, rfl, ⟨rfl, N⟩, hq⟩ := own_m_law l s _ hw tables_1 i0 i1 i2 i3 i4 s.heap s.heap.size (Nat.le_refl _)  p e ha hc hk s m _ below hf ((Spec.applies_iff_loose hf).mp happ).1 ⟨rfl, State.Warmed39.refl s, rfl⟩ trivial
  refine ⟨n, _, h1, h2, h3, hpost _ _ _ _ _ _ ⟨Cond.after_iff.mpr rfl, Cond.after_iff.mpr (eq_i res_at (Term.int_eval (1)) rfl), trivial⟩ ⟨hq.1, hq.2.1, (hq.2.2.sift fun y hy => Or.inr (N y hy)).mono (by decide) (by decide)⟩⟩
theorem main_1_1 : Claimed_1_1 := own_comes fun _ _ _ _ _ _ h hF => ⟨h.1, hF⟩
theorem main_1_2 : Claimed_1_2 := own_comes fun _ _ _ _ _ _ h hF => ⟨h.2.1, hF⟩
end Jvm.Pilot.@@N@@
namespace Jvm.Pilot.@@N@@
open Jvm Jvm.ClassFile Sem Op Lib Jvm.Free Jvm.Stand Jvm.Pilot.@@N@@.Jvm.D
/-! MADE BY PROGRAM (witnessworld.py) out of the Statement's table words and the real class files: 13 classes; the members and pool entries that the words name. The judged class is class 1, her method 1. -/
namespace start1
open Jvm.ClassFile
def u (s : String) : CpInfo := .utf8 (stringToUtf16 s)
/-- a pool by its gaps: so many unusable entries, then the entry; so many at the end -/
def gap : Nat → List CpInfo → List CpInfo
  | 0, r => r
  | n + 1, r => .unusable :: gap n r
def poolList (es : List (Nat × CpInfo)) (last : Nat) : List CpInfo := es.foldr (fun e r => gap e.1 (e.2 :: r)) (gap last [])
def pool (es : List (Nat × CpInfo)) (last : Nat) : Array CpInfo := ⟨poolList es last⟩
def fileOf (pool : Array CpInfo) (this : Nat) (attrs : Array Attribute := #[]) (ms : Array MethodInfo := #[]) (fl : Nat := 33) (sup : Nat := 0) (ifs : Array Nat := #[]) (fds : Array FieldInfo := #[]) : ClassFile where
  minorVersion := 0
  majorVersion := 65
  constantPool := pool
  accessFlags := fl
  thisClass := this
  superClass := sup
  interfaces := ifs
  fields := fds
  methods := ms
  attributes := attrs
def plain (name : String) (sup : Option ClassId) : Class where
  name := name
  kind := .ordinary
  loader := none
  accessFlags := 33
  super := sup
  interfaces := #[]
  cf := none
  fields := #[]
  methods := #[]
  instanceTypes := #[]
  staticTypes := #[]
  resolved := #[]
  callSites := []
  init := .initialized
  statics := none
  mirror := none

def pool0 : Array CpInfo := pool [(5, u "<init>"), (0, u "()V"), (1, .class_ 10), (1, u "java/lang/Object")] 113

def k0c0 : Code := { maxStack := 0, maxLocals := 1, code := object_method_1_code, exceptionTable := #[], attributes := #[] }
def k0m0 : Method := { name := "<init>", desc := "()V", sig := { parameters := [], returnType := none }, accessFlags := 1, code := some k0c0 }
/-- java/lang/Object -/
def k0 : Class := { plain "java/lang/Object" none with
  accessFlags := 33
  interfaces := #[]
  cf := some (fileOf pool0 8 #[] #[{ accessFlags := 1, nameIndex := 5, descriptorIndex := 6, attributes := #[] }] 33 0 #[] #[])
  fields := #[]
  methods := #[k0m0]
  instanceTypes := #[]
  staticTypes := #[]
  resolved := Array.replicate 124 none
  statics := none }

def pool1 : Array CpInfo := pool [(2, .class_ 4), (1, u "java/lang/Object"), (0, u "<init>"), (0, u "()V"), (0, .class_ 8), (0, u "com/example/stablemate/stablemate/FlowNetworkFixPinLaw"), (0, .long 4611686018427387903), (1, .class_ 12), (0, u "com/example/stablemate/stablemate/FlowNetwork"), (0, .methodref 11 14), (0, .nameAndType 5 15), (0, u "(II)V"), (0, .methodref 11 17), (0, .nameAndType 18 19), (0, u "addArc"), (0, u "(IIJJ)I"), (0, .methodref 11 21), (0, .nameAndType 22 23), (0, u "send"), (0, u "(IJ)V"), (0, .methodref 11 25), (0, .nameAndType 26 27), (0, u "fix"), (0, u "(I)V"), (0, .methodref 11 29), (0, .nameAndType 30 31), (0, u "flow"), (0, u "(I)J"), (0, .methodref 11 33), (0, .nameAndType 34 35), (0, u "augment"), (0, u "([I)J"), (0, u "M"), (0, u "J"), (3, u "law"), (0, u "(JJJJI)Z")] 5

def k1m0 : Method := { name := "<init>", desc := "()V", sig := { parameters := [], returnType := none }, accessFlags := 1, code := none }
def k1c1 : Code := { maxStack := 7, maxLocals := 39, code := code, exceptionTable := #[], attributes := #[] }
def k1m1 : Method := { name := "law", desc := "(JJJJI)Z", sig := { parameters := [.long, .long, .long, .long, .int], returnType := some .boolean }, accessFlags := 9, code := some k1c1 }
/-- com/example/stablemate/stablemate/FlowNetworkFixPinLaw -/
def k1 : Class := { plain "com/example/stablemate/stablemate/FlowNetworkFixPinLaw" (some 0) with
  accessFlags := 49
  interfaces := #[]
  cf := some (fileOf pool1 7 #[] #[{ accessFlags := 1, nameIndex := 5, descriptorIndex := 6, attributes := #[] }, { accessFlags := 9, nameIndex := 41, descriptorIndex := 42, attributes := #[] }] 49 2 #[] #[{ accessFlags := 26, nameIndex := 36, descriptorIndex := 37, attributes := #[] }])
  fields := #[{ name := "M", type := .long, accessFlags := 26, slot := 0, constantValue := 0 }]
  methods := #[k1m0, k1m1]
  instanceTypes := #[]
  staticTypes := #[.long]
  resolved := Array.replicate 48 none
  statics := none }

def pool2 : Array CpInfo := pool [(2, .class_ 4), (1, u "com/example/stablemate/stablemate/FlowNetwork"), (0, u "<init>"), (0, u "(II)V"), (0, .methodref 8 9), (0, .class_ 10), (0, .nameAndType 5 11), (0, u "java/lang/Object"), (0, u "()V"), (0, .fieldref 2 13), (0, .nameAndType 14 15), (0, u "deadMark"), (0, u "I"), (0, .fieldref 2 17), (0, .nameAndType 18 15), (0, u "deadFrom"), (0, .fieldref 2 20), (0, .nameAndType 21 15), (0, u "deadTo"), (0, .fieldref 2 23), (0, .nameAndType 24 25), (0, u "heads"), (0, u "[I"), (0, .methodref 27 28), (0, .class_ 29), (0, .nameAndType 30 31), (0, u "java/util/Arrays"), (0, u "fill"), (0, u "([II)V"), (0, .fieldref 2 33), (0, .nameAndType 34 25), (0, u "marks"), (0, .fieldref 2 36), (0, .nameAndType 37 25), (0, u "cursors"), (0, .fieldref 2 39), (0, .nameAndType 40 25), (0, u "searchPath"), (0, .fieldref 2 42), (0, .nameAndType 43 25), (0, u "reached"), (0, .fieldref 2 45), (0, .nameAndType 46 25), (0, u "distances"), (0, .fieldref 2 48), (0, .nameAndType 49 25), (0, u "deadMarks"), (0, .methodref 51 52), (0, .class_ 53), (0, .nameAndType 54 55), (0, u "java/lang/Math"), (0, u "max"), (0, u "(II)I"), (0, .fieldref 2 57), (0, .nameAndType 58 25), (0, u "nexts"), (0, .fieldref 2 60), (0, .nameAndType 61 25), (0, u "targets"), (0, .fieldref 2 63), (0, .nameAndType 64 65), (0, u "capacities"), (0, u "[J"), (0, .fieldref 2 67), (0, .nameAndType 68 65), (0, u "residuals"), (0, .methodref 2 70), (0, .nameAndType 71 11), (0, u "forgetDead"), (0, .fieldref 2 73), (0, .nameAndType 74 15), (0, u "arcs"), (7, .methodref 2 83), (0, .nameAndType 84 85), (0, u "link"), (0, u "(IIIJ)V"), (5, u "mark"), (2, u "reachedCount"), (4, .methodref 2 100), (0, .nameAndType 101 102), (0, u "augment"), (0, u "([III)J"), (18, .integer 2147483647), (7, u "(I)V"), (29, .long 9223372036854775807), (1, .methodref 51 162), (0, .nameAndType 163 164), (0, u "min"), (0, u "(JJ)J"), (0, .methodref 51 166), (0, .nameAndType 167 164), (0, u "addExact"), (6, u "addArc"), (0, u "(IIJJ)I"), (3, u "flow"), (0, u "(I)J"), (0, u "fix"), (6, u "send"), (0, u "(IJ)V"), (0, u "([I)J")] 23

def k2c0 : Code := { maxStack := 3, maxLocals := 4, code := prog_12_method_2_code, exceptionTable := #[], attributes := #[] }
def k2m0 : Method := { name := "<init>", desc := "(II)V", sig := { parameters := [.int, .int], returnType := none }, accessFlags := 0, code := some k2c0 }
def k2c1 : Code := { maxStack := 6, maxLocals := 8, code := prog_12_method_3_code, exceptionTable := #[], attributes := #[] }
def k2m1 : Method := { name := "addArc", desc := "(IIJJ)I", sig := { parameters := [.int, .int, .long, .long], returnType := some .int }, accessFlags := 0, code := some k2c1 }
def k2c2 : Code := { maxStack := 4, maxLocals := 6, code := prog_12_method_4_code, exceptionTable := #[], attributes := #[] }
def k2m2 : Method := { name := "link", desc := "(IIIJ)V", sig := { parameters := [.int, .int, .int, .long], returnType := none }, accessFlags := 2, code := some k2c2 }
def k2c3 : Code := { maxStack := 4, maxLocals := 2, code := prog_12_method_6_code, exceptionTable := #[], attributes := #[] }
def k2m3 : Method := { name := "flow", desc := "(I)J", sig := { parameters := [.int], returnType := some .long }, accessFlags := 0, code := some k2c3 }
def k2c4 : Code := { maxStack := 7, maxLocals := 2, code := prog_12_method_7_code, exceptionTable := #[], attributes := #[] }
def k2m4 : Method := { name := "fix", desc := "(I)V", sig := { parameters := [.int], returnType := none }, accessFlags := 0, code := some k2c4 }
def k2c5 : Code := { maxStack := 3, maxLocals := 1, code := prog_12_method_11_code, exceptionTable := #[], attributes := #[] }
def k2m5 : Method := { name := "forgetDead", desc := "()V", sig := { parameters := [], returnType := none }, accessFlags := 2, code := some k2c5 }
def k2c6 : Code := { maxStack := 6, maxLocals := 4, code := prog_12_method_18_code, exceptionTable := #[], attributes := #[] }
def k2m6 : Method := { name := "send", desc := "(IJ)V", sig := { parameters := [.int, .long], returnType := none }, accessFlags := 0, code := some k2c6 }
def k2c7 : Code := { maxStack := 4, maxLocals := 2, code := prog_12_method_19_code, exceptionTable := #[], attributes := #[] }
def k2m7 : Method := { name := "augment", desc := "([I)J", sig := { parameters := [(.array .int)], returnType := some .long }, accessFlags := 0, code := some k2c7 }
def k2c8 : Code := { maxStack := 6, maxLocals := 7, code := prog_12_method_25_code, exceptionTable := #[], attributes := #[] }
def k2m8 : Method := { name := "augment", desc := "([III)J", sig := { parameters := [(.array .int), .int, .int], returnType := some .long }, accessFlags := 2, code := some k2c8 }
/-- com/example/stablemate/stablemate/FlowNetwork -/
def k2 : Class := { plain "com/example/stablemate/stablemate/FlowNetwork" (some 0) with
  accessFlags := 48
  interfaces := #[]
  cf := some (fileOf pool2 2 #[] #[{ accessFlags := 0, nameIndex := 5, descriptorIndex := 6, attributes := #[] }, { accessFlags := 0, nameIndex := 174, descriptorIndex := 175, attributes := #[] }, { accessFlags := 2, nameIndex := 84, descriptorIndex := 85, attributes := #[] }, { accessFlags := 0, nameIndex := 179, descriptorIndex := 180, attributes := #[] }, { accessFlags := 0, nameIndex := 181, descriptorIndex := 129, attributes := #[] }, { accessFlags := 2, nameIndex := 71, descriptorIndex := 11, attributes := #[] }, { accessFlags := 0, nameIndex := 188, descriptorIndex := 189, attributes := #[] }, { accessFlags := 0, nameIndex := 101, descriptorIndex := 190, attributes := #[] }, { accessFlags := 2, nameIndex := 101, descriptorIndex := 102, attributes := #[] }] 48 8 #[] #[{ accessFlags := 18, nameIndex := 24, descriptorIndex := 25, attributes := #[] }, { accessFlags := 2, nameIndex := 58, descriptorIndex := 25, attributes := #[] }, { accessFlags := 2, nameIndex := 61, descriptorIndex := 25, attributes := #[] }, { accessFlags := 2, nameIndex := 64, descriptorIndex := 65, attributes := #[] }, { accessFlags := 2, nameIndex := 68, descriptorIndex := 65, attributes := #[] }, { accessFlags := 2, nameIndex := 74, descriptorIndex := 15, attributes := #[] }, { accessFlags := 18, nameIndex := 34, descriptorIndex := 25, attributes := #[] }, { accessFlags := 18, nameIndex := 37, descriptorIndex := 25, attributes := #[] }, { accessFlags := 18, nameIndex := 40, descriptorIndex := 25, attributes := #[] }, { accessFlags := 18, nameIndex := 43, descriptorIndex := 25, attributes := #[] }, { accessFlags := 18, nameIndex := 46, descriptorIndex := 25, attributes := #[] }, { accessFlags := 2, nameIndex := 94, descriptorIndex := 15, attributes := #[] }, { accessFlags := 2, nameIndex := 91, descriptorIndex := 15, attributes := #[] }, { accessFlags := 18, nameIndex := 49, descriptorIndex := 25, attributes := #[] }, { accessFlags := 2, nameIndex := 14, descriptorIndex := 15, attributes := #[] }, { accessFlags := 2, nameIndex := 18, descriptorIndex := 15, attributes := #[] }, { accessFlags := 2, nameIndex := 21, descriptorIndex := 15, attributes := #[] }])
  fields := #[{ name := "heads", type := (.array .int), accessFlags := 18, slot := 0, constantValue := 0 }, { name := "nexts", type := (.array .int), accessFlags := 2, slot := 1, constantValue := 0 }, { name := "targets", type := (.array .int), accessFlags := 2, slot := 2, constantValue := 0 }, { name := "capacities", type := (.array .long), accessFlags := 2, slot := 3, constantValue := 0 }, { name := "residuals", type := (.array .long), accessFlags := 2, slot := 4, constantValue := 0 }, { name := "arcs", type := .int, accessFlags := 2, slot := 5, constantValue := 0 }, { name := "marks", type := (.array .int), accessFlags := 18, slot := 6, constantValue := 0 }, { name := "cursors", type := (.array .int), accessFlags := 18, slot := 7, constantValue := 0 }, { name := "searchPath", type := (.array .int), accessFlags := 18, slot := 8, constantValue := 0 }, { name := "reached", type := (.array .int), accessFlags := 18, slot := 9, constantValue := 0 }, { name := "distances", type := (.array .int), accessFlags := 18, slot := 10, constantValue := 0 }, { name := "reachedCount", type := .int, accessFlags := 2, slot := 11, constantValue := 0 }, { name := "mark", type := .int, accessFlags := 2, slot := 12, constantValue := 0 }, { name := "deadMarks", type := (.array .int), accessFlags := 18, slot := 13, constantValue := 0 }, { name := "deadMark", type := .int, accessFlags := 2, slot := 14, constantValue := 0 }, { name := "deadFrom", type := .int, accessFlags := 2, slot := 15, constantValue := 0 }, { name := "deadTo", type := .int, accessFlags := 2, slot := 16, constantValue := 0 }]
  methods := #[k2m0, k2m1, k2m2, k2m3, k2m4, k2m5, k2m6, k2m7, k2m8]
  instanceTypes := #[(.array .int), (.array .int), (.array .int), (.array .long), (.array .long), .int, (.array .int), (.array .int), (.array .int), (.array .int), (.array .int), .int, .int, (.array .int), .int, .int, .int]
  staticTypes := #[]
  resolved := Array.replicate 214 none
  statics := none }

def pool3 : Array CpInfo := pool [(2, .class_ 4), (1, u "java/lang/Object"), (0, u "<init>"), (0, u "()V"), (7, .class_ 16), (1, u "java/util/Arrays"), (57, .class_ 76), (1, u "java/util/Arrays$NaturalOrder"), (36, .class_ 115), (1, u "java/util/Arrays$LegacyMergeSort"), (1, u "Z"), (257, .class_ 376), (0, u "java/util/Arrays$ArrayList"), (68, u "$assertionsDisabled"), (269, u "MIN_ARRAY_SORT_GRAN"), (0, u "I"), (2, u "INSERTIONSORT_THRESHOLD"), (120, u "fill"), (4, u "([II)V"), (129, .class_ 976), (0, u "java/util/Arrays$ArrayItr")] 52

def k3m0 : Method := { name := "<init>", desc := "()V", sig := { parameters := [], returnType := none }, accessFlags := 2, code := none }
def k3c1 : Code := { maxStack := 3, maxLocals := 4, code := jdk_65_method_103_code, exceptionTable := #[], attributes := #[] }
def k3m1 : Method := { name := "fill", desc := "([II)V", sig := { parameters := [(.array .int), .int], returnType := none }, accessFlags := 9, code := some k3c1 }
/-- java/util/Arrays -/
def k3 : Class := { plain "java/util/Arrays" (some 0) with
  accessFlags := 49
  interfaces := #[]
  cf := some (fileOf pool3 14 #[.nestMembers #[975, 375, 113, 74]] #[{ accessFlags := 2, nameIndex := 5, descriptorIndex := 6, attributes := #[] }, { accessFlags := 9, nameIndex := 840, descriptorIndex := 845, attributes := #[] }] 49 2 #[] #[{ accessFlags := 26, nameIndex := 715, descriptorIndex := 716, attributes := #[] }, { accessFlags := 26, nameIndex := 719, descriptorIndex := 716, attributes := #[] }, { accessFlags := 4120, nameIndex := 445, descriptorIndex := 117, attributes := #[] }])
  fields := #[{ name := "MIN_ARRAY_SORT_GRAN", type := .int, accessFlags := 26, slot := 0, constantValue := 0 }, { name := "INSERTIONSORT_THRESHOLD", type := .int, accessFlags := 26, slot := 1, constantValue := 0 }, { name := "$assertionsDisabled", type := .boolean, accessFlags := 4120, slot := 2, constantValue := 0 }]
  methods := #[k3m0, k3m1]
  instanceTypes := #[]
  staticTypes := #[.int, .int, .boolean]
  resolved := Array.replicate 1029 none
  statics := none }

def pool4 : Array CpInfo := pool [(1, .class_ 2), (0, u "java/lang/Math"), (1, .class_ 6), (1, u "java/lang/Object"), (0, u "<init>"), (0, u "()V"), (89, .class_ 100), (1, u "java/lang/Math$RandomNumberGeneratorHolder"), (20, u "(JJ)J"), (50, u "negativeZeroFloatBits"), (0, u "J"), (2, u "negativeZeroDoubleBits"), (21, u "max"), (2, u "min"), (43, u "$assertionsDisabled"), (0, u "Z"), (88, u "(II)I"), (2, u "twoToTheDoubleScaleDown"), (0, u "D"), (4, u "twoToTheDoubleScaleUp"), (9, u "E"), (3, u "PI"), (2, u "TAU"), (2, u "DEGREES_TO_RADIANS"), (0, u "RADIANS_TO_DEGREES"), (27, u "addExact")] 66

def k4m0 : Method := { name := "<init>", desc := "()V", sig := { parameters := [], returnType := none }, accessFlags := 2, code := none }
def k4c1 : Code := { maxStack := 6, maxLocals := 6, code := jdk_29_method_25_code, exceptionTable := #[], attributes := #[] }
def k4m1 : Method := { name := "addExact", desc := "(JJ)J", sig := { parameters := [.long, .long], returnType := some .long }, accessFlags := 9, code := some k4c1 }
def k4c2 : Code := { maxStack := 2, maxLocals := 2, code := jdk_29_method_65_code, exceptionTable := #[], attributes := #[] }
def k4m2 : Method := { name := "max", desc := "(II)I", sig := { parameters := [.int, .int], returnType := some .int }, accessFlags := 9, code := some k4c2 }
def k4c3 : Code := { maxStack := 4, maxLocals := 4, code := jdk_29_method_70_code, exceptionTable := #[], attributes := #[] }
def k4m3 : Method := { name := "min", desc := "(JJ)J", sig := { parameters := [.long, .long], returnType := some .long }, accessFlags := 9, code := some k4c3 }
/-- java/lang/Math -/
def k4 : Class := { plain "java/lang/Math" (some 0) with
  accessFlags := 49
  interfaces := #[]
  cf := some (fileOf pool4 1 #[.nestMembers #[98]] #[{ accessFlags := 2, nameIndex := 7, descriptorIndex := 8, attributes := #[] }, { accessFlags := 9, nameIndex := 393, descriptorIndex := 121, attributes := #[] }, { accessFlags := 9, nameIndex := 198, descriptorIndex := 335, attributes := #[] }, { accessFlags := 9, nameIndex := 201, descriptorIndex := 121, attributes := #[] }] 49 4 #[] #[{ accessFlags := 25, nameIndex := 354, descriptorIndex := 339, attributes := #[] }, { accessFlags := 25, nameIndex := 358, descriptorIndex := 339, attributes := #[] }, { accessFlags := 25, nameIndex := 361, descriptorIndex := 339, attributes := #[] }, { accessFlags := 26, nameIndex := 364, descriptorIndex := 339, attributes := #[] }, { accessFlags := 26, nameIndex := 365, descriptorIndex := 339, attributes := #[] }, { accessFlags := 26, nameIndex := 172, descriptorIndex := 173, attributes := #[] }, { accessFlags := 26, nameIndex := 176, descriptorIndex := 173, attributes := #[] }, { accessFlags := 8, nameIndex := 344, descriptorIndex := 339, attributes := #[] }, { accessFlags := 8, nameIndex := 338, descriptorIndex := 339, attributes := #[] }, { accessFlags := 4120, nameIndex := 245, descriptorIndex := 246, attributes := #[] }])
  fields := #[{ name := "E", type := .double, accessFlags := 25, slot := 0, constantValue := 0 }, { name := "PI", type := .double, accessFlags := 25, slot := 1, constantValue := 0 }, { name := "TAU", type := .double, accessFlags := 25, slot := 2, constantValue := 0 }, { name := "DEGREES_TO_RADIANS", type := .double, accessFlags := 26, slot := 3, constantValue := 0 }, { name := "RADIANS_TO_DEGREES", type := .double, accessFlags := 26, slot := 4, constantValue := 0 }, { name := "negativeZeroFloatBits", type := .long, accessFlags := 26, slot := 5, constantValue := 0 }, { name := "negativeZeroDoubleBits", type := .long, accessFlags := 26, slot := 6, constantValue := 0 }, { name := "twoToTheDoubleScaleUp", type := .double, accessFlags := 8, slot := 7, constantValue := 0 }, { name := "twoToTheDoubleScaleDown", type := .double, accessFlags := 8, slot := 8, constantValue := 0 }, { name := "$assertionsDisabled", type := .boolean, accessFlags := 4120, slot := 9, constantValue := 0 }]
  methods := #[k4m0, k4m1, k4m2, k4m3]
  instanceTypes := #[]
  staticTypes := #[.double, .double, .double, .double, .double, .long, .long, .double, .double, .boolean]
  resolved := Array.replicate 460 none
  statics := none }

def pool5 : Array CpInfo := pool [(1, u "java/lang/Cloneable"), (0, .class_ 1), (0, u "java/lang/Object"), (0, .class_ 3)] 3

/-- java/lang/Cloneable -/
def k5 : Class := { plain "java/lang/Cloneable" (some 0) with
  accessFlags := 1537
  interfaces := #[]
  cf := some (fileOf pool5 2 #[] #[] 1537 4 #[] #[])
  fields := #[]
  methods := #[]
  instanceTypes := #[]
  staticTypes := #[]
  resolved := Array.replicate 8 none
  statics := none }

def pool6 : Array CpInfo := pool [(1, u "java/io/Serializable"), (0, .class_ 1), (0, u "java/lang/Object"), (0, .class_ 3)] 3

/-- java/io/Serializable -/
def k6 : Class := { plain "java/io/Serializable" (some 0) with
  accessFlags := 1537
  interfaces := #[]
  cf := some (fileOf pool6 2 #[] #[] 1537 4 #[] #[])
  fields := #[]
  methods := #[]
  instanceTypes := #[]
  staticTypes := #[]
  resolved := Array.replicate 8 none
  statics := none }

/-- the primitive byte -/
def k7 : Class := { plain "byte" none with kind := .primitive 'B', accessFlags := 0x411 }
/-- [B -/
def k8 : Class := { plain "[B" (some 0) with kind := .array 7 .byte, interfaces := #[5, 6], accessFlags := 1041 }

/-- the primitive int -/
def k9 : Class := { plain "int" none with kind := .primitive 'I', accessFlags := 0x411 }
/-- [I -/
def k10 : Class := { plain "[I" (some 0) with kind := .array 9 .int, interfaces := #[5, 6], accessFlags := 1041 }

/-- the primitive long -/
def k11 : Class := { plain "long" none with kind := .primitive 'J', accessFlags := 0x411 }
/-- [J -/
def k12 : Class := { plain "[J" (some 0) with kind := .array 11 .long, interfaces := #[5, 6], accessFlags := 1041 }

def heap : Heap := #[]
def classes : Array Class := #[k0, k1, k2, k3, k4, k5, k6, k7, k8, k9, k10, k11, k12]
def interned : List (Array UInt16 × Addr) := []
def slotsUsed : Nat := 0
def theMethod : MethodId := ⟨1, 1⟩
def args0 : Array Value := #[.long 5, .long 6, .long 7, .long 8, .int 3]
def aboutOver (below : List Frame) : State where
  vm := { classes := classes, interned := interned.toArray }
  heap := heap
  slotsUsed := slotsUsed
  threads := #[{ frames := .invoking theMethod args0 :: below }]
def below0 : List Frame := [.native { method := ⟨0, 0⟩, args := #[] }]
def about1 : State := aboutOver below0
def p0 : Program := .bare "" "" ""
def e0 : Env := launch0.env 0 0 0
theorem w_frames : about1.frames = Frame.invoking theMethod args0 :: below0 := rfl
set_option maxRecDepth 65536 in
theorem w_args : argsFit about1.vm theMethod args0 = true := by decide +kernel
set_option maxRecDepth 65536 in
theorem w_heap : heapFits about1 = true := by decide +kernel
set_option maxRecDepth 65536 in
theorem w_runnable : about1.curStatus? = some .runnable := by decide +kernel
set_option maxRecDepth 65536 in
theorem w_alone : about1.alone = true := by decide +kernel
set_option maxRecDepth 65536 in
theorem w_named : about1.methodNamed? x = some theMethod := by decide +kernel
set_option maxRecDepth 65536 in
theorem w_hears : about1.hears theMethod below0 = true := by decide +kernel
set_option maxRecDepth 65536 in
theorem w_ripe : about1.ripe theMethod args0 below0 = true := by decide +kernel
theorem w_running : about1.status = .running := rfl
set_option maxRecDepth 65536 in
theorem w_room : about1.hasRoom e0.platform room_1 = true :=
  launch0.hasRoom_least _ room_1 (by decide +kernel) (by decide +kernel) (by decide +kernel) (by decide +kernel) (by decide +kernel) (by decide +kernel)
theorem allAtoms_all (ts : List Jvm.Cond) (a : Array Jvm.Value) (st : Jvm.State) : (allAtoms ts).before a st = ts.all (fun c => c.before a st) := by
  induction ts with
  | nil => rfl
  | cons c t ih =>
    show (Jvm.Cond.and c (allAtoms t)).before a st = _
    rw [Jvm.Cond.before_and, ih, List.all_cons]
def words1 : List Jvm.Cond := Jvm.Cond.code x code maxLocals ret :: tables_1
/-- a 'code' word, met by the world's own term for the bytes: nothing is compared byte by byte -/
theorem code_word {y : MethodName} {bytes : ByteArray} {mx : Nat} {rt : Option FieldType} {a : Array Value} {s : State} {m : MethodId} {meth : Method} {c : Code} (h1 : s.methodNamed? y = some m) (h2 : s.vm.method? m = some meth) (h3 : meth.code = some c) (h4 : c.code = bytes)
    (h5 : (c.maxLocals == mx && c.exceptionTable.isEmpty && decide (c.maxStack ≤ mostOperands) && decide (meth.sig.returnType = rt) && !meth.locks && decide (parseMethodDescriptor y.desc = some meth.sig)) = true) : (Jvm.Cond.code y bytes mx rt).before a s = true := by
  simp only [Bool.and_eq_true, beq_iff_eq, Bool.not_eq_true', decide_eq_true_eq] at h5
  obtain ⟨⟨⟨⟨⟨g1, g2⟩, g3⟩, g4⟩, g5⟩, g6⟩ := h5
  simp [Cond.before, Cond.holds, Cond.value, h1, h2, h3, h4, g1, g2, g3, g4, g5, g6]
def isCode : Jvm.Cond → Bool
  | .code _ _ _ _ => true
  | _ => false
theorem all_split {L : List Jvm.Cond} {P : Jvm.Cond → Bool} (h1 : L.all (fun c => isCode c || P c) = true) (h2 : ∀ c ∈ L.filter isCode, P c = true) : L.all P = true := by
  refine List.all_eq_true.mpr fun c hc => ?_
  have h := List.all_eq_true.mp h1 c hc
  rcases Bool.eq_false_or_eq_true (isCode c) with hi | hi
  · exact h2 c (List.mem_filter.mpr ⟨hc, hi⟩)
  · simpa [hi] using h
set_option maxRecDepth 65536 in
theorem w_c0 : (Jvm.Cond.code x code maxLocals ret).before args0 about1 = true := code_word (m := ⟨1, 1⟩) (meth := k1m1) (c := k1c1) (by decide +kernel) rfl rfl rfl (by decide +kernel)
set_option maxRecDepth 65536 in
theorem w_c1 : (Jvm.Cond.code ({ cls := "com/example/stablemate/stablemate/FlowNetwork", name := "<init>", desc := "(II)V" } : Jvm.MethodName) prog_12_method_2_code (4 : Nat) (Option.none : Option Jvm.ClassFile.FieldType)).before args0 about1 = true := code_word (m := ⟨2, 0⟩) (meth := k2m0) (c := k2c0) (by decide +kernel) rfl rfl rfl (by decide +kernel)
set_option maxRecDepth 65536 in
theorem w_c2 : (Jvm.Cond.code ({ cls := "java/lang/Object", name := "<init>", desc := "()V" } : Jvm.MethodName) object_method_1_code (1 : Nat) (Option.none : Option Jvm.ClassFile.FieldType)).before args0 about1 = true := code_word (m := ⟨0, 0⟩) (meth := k0m0) (c := k0c0) (by decide +kernel) rfl rfl rfl (by decide +kernel)
set_option maxRecDepth 65536 in
theorem w_c3 : (Jvm.Cond.code ({ cls := "java/util/Arrays", name := "fill", desc := "([II)V" } : Jvm.MethodName) jdk_65_method_103_code (4 : Nat) (Option.none : Option Jvm.ClassFile.FieldType)).before args0 about1 = true := code_word (m := ⟨3, 1⟩) (meth := k3m1) (c := k3c1) (by decide +kernel) rfl rfl rfl (by decide +kernel)
set_option maxRecDepth 65536 in
theorem w_c4 : (Jvm.Cond.code ({ cls := "java/lang/Math", name := "max", desc := "(II)I" } : Jvm.MethodName) jdk_29_method_65_code (2 : Nat) (Option.some Jvm.ClassFile.FieldType.int)).before args0 about1 = true := code_word (m := ⟨4, 2⟩) (meth := k4m2) (c := k4c2) (by decide +kernel) rfl rfl rfl (by decide +kernel)
set_option maxRecDepth 65536 in
theorem w_c5 : (Jvm.Cond.code ({ cls := "com/example/stablemate/stablemate/FlowNetwork", name := "addArc", desc := "(IIJJ)I" } : Jvm.MethodName) prog_12_method_3_code (8 : Nat) (Option.some Jvm.ClassFile.FieldType.int)).before args0 about1 = true := code_word (m := ⟨2, 1⟩) (meth := k2m1) (c := k2c1) (by decide +kernel) rfl rfl rfl (by decide +kernel)
set_option maxRecDepth 65536 in
theorem w_c6 : (Jvm.Cond.code ({ cls := "com/example/stablemate/stablemate/FlowNetwork", name := "forgetDead", desc := "()V" } : Jvm.MethodName) prog_12_method_11_code (1 : Nat) (Option.none : Option Jvm.ClassFile.FieldType)).before args0 about1 = true := code_word (m := ⟨2, 5⟩) (meth := k2m5) (c := k2c5) (by decide +kernel) rfl rfl rfl (by decide +kernel)
set_option maxRecDepth 65536 in
theorem w_c7 : (Jvm.Cond.code ({ cls := "com/example/stablemate/stablemate/FlowNetwork", name := "link", desc := "(IIIJ)V" } : Jvm.MethodName) prog_12_method_4_code (6 : Nat) (Option.none : Option Jvm.ClassFile.FieldType)).before args0 about1 = true := code_word (m := ⟨2, 2⟩) (meth := k2m2) (c := k2c2) (by decide +kernel) rfl rfl rfl (by decide +kernel)
set_option maxRecDepth 65536 in
theorem w_c8 : (Jvm.Cond.code ({ cls := "com/example/stablemate/stablemate/FlowNetwork", name := "send", desc := "(IJ)V" } : Jvm.MethodName) prog_12_method_18_code (4 : Nat) (Option.none : Option Jvm.ClassFile.FieldType)).before args0 about1 = true := code_word (m := ⟨2, 6⟩) (meth := k2m6) (c := k2c6) (by decide +kernel) rfl rfl rfl (by decide +kernel)
set_option maxRecDepth 65536 in
theorem w_c9 : (Jvm.Cond.code ({ cls := "com/example/stablemate/stablemate/FlowNetwork", name := "fix", desc := "(I)V" } : Jvm.MethodName) prog_12_method_7_code (2 : Nat) (Option.none : Option Jvm.ClassFile.FieldType)).before args0 about1 = true := code_word (m := ⟨2, 4⟩) (meth := k2m4) (c := k2c4) (by decide +kernel) rfl rfl rfl (by decide +kernel)
set_option maxRecDepth 65536 in
theorem w_c10 : (Jvm.Cond.code ({ cls := "com/example/stablemate/stablemate/FlowNetwork", name := "flow", desc := "(I)J" } : Jvm.MethodName) prog_12_method_6_code (2 : Nat) (Option.some Jvm.ClassFile.FieldType.long)).before args0 about1 = true := code_word (m := ⟨2, 3⟩) (meth := k2m3) (c := k2c3) (by decide +kernel) rfl rfl rfl (by decide +kernel)
set_option maxRecDepth 65536 in
theorem w_c11 : (Jvm.Cond.code ({ cls := "com/example/stablemate/stablemate/FlowNetwork", name := "augment", desc := "([I)J" } : Jvm.MethodName) prog_12_method_19_code (2 : Nat) (Option.some Jvm.ClassFile.FieldType.long)).before args0 about1 = true := code_word (m := ⟨2, 7⟩) (meth := k2m7) (c := k2c7) (by decide +kernel) rfl rfl rfl (by decide +kernel)
set_option maxRecDepth 65536 in
theorem w_c12 : (Jvm.Cond.code ({ cls := "com/example/stablemate/stablemate/FlowNetwork", name := "augment", desc := "([III)J" } : Jvm.MethodName) prog_12_method_25_code (7 : Nat) (Option.some Jvm.ClassFile.FieldType.long)).before args0 about1 = true := code_word (m := ⟨2, 8⟩) (meth := k2m8) (c := k2c8) (by decide +kernel) rfl rfl rfl (by decide +kernel)
set_option maxRecDepth 65536 in
theorem w_c13 : (Jvm.Cond.code ({ cls := "java/lang/Math", name := "min", desc := "(JJ)J" } : Jvm.MethodName) jdk_29_method_70_code (4 : Nat) (Option.some Jvm.ClassFile.FieldType.long)).before args0 about1 = true := code_word (m := ⟨4, 3⟩) (meth := k4m3) (c := k4c3) (by decide +kernel) rfl rfl rfl (by decide +kernel)
set_option maxRecDepth 65536 in
theorem w_c14 : (Jvm.Cond.code ({ cls := "java/lang/Math", name := "addExact", desc := "(JJ)J" } : Jvm.MethodName) jdk_29_method_25_code (6 : Nat) (Option.some Jvm.ClassFile.FieldType.long)).before args0 about1 = true := code_word (m := ⟨4, 1⟩) (meth := k4m1) (c := k4c1) (by decide +kernel) rfl rfl rfl (by decide +kernel)
def codes1 : List Jvm.Cond := [Jvm.Cond.code x code maxLocals ret, Jvm.Cond.code ({ cls := "com/example/stablemate/stablemate/FlowNetwork", name := "<init>", desc := "(II)V" } : Jvm.MethodName) prog_12_method_2_code (4 : Nat) (Option.none : Option Jvm.ClassFile.FieldType), Jvm.Cond.code ({ cls := "java/lang/Object", name := "<init>", desc := "()V" } : Jvm.MethodName) object_method_1_code (1 : Nat) (Option.none : Option Jvm.ClassFile.FieldType), Jvm.Cond.code ({ cls := "java/util/Arrays", name := "fill", desc := "([II)V" } : Jvm.MethodName) jdk_65_method_103_code (4 : Nat) (Option.none : Option Jvm.ClassFile.FieldType), Jvm.Cond.code ({ cls := "java/lang/Math", name := "max", desc := "(II)I" } : Jvm.MethodName) jdk_29_method_65_code (2 : Nat) (Option.some Jvm.ClassFile.FieldType.int), Jvm.Cond.code ({ cls := "com/example/stablemate/stablemate/FlowNetwork", name := "addArc", desc := "(IIJJ)I" } : Jvm.MethodName) prog_12_method_3_code (8 : Nat) (Option.some Jvm.ClassFile.FieldType.int), Jvm.Cond.code ({ cls := "com/example/stablemate/stablemate/FlowNetwork", name := "forgetDead", desc := "()V" } : Jvm.MethodName) prog_12_method_11_code (1 : Nat) (Option.none : Option Jvm.ClassFile.FieldType), Jvm.Cond.code ({ cls := "com/example/stablemate/stablemate/FlowNetwork", name := "link", desc := "(IIIJ)V" } : Jvm.MethodName) prog_12_method_4_code (6 : Nat) (Option.none : Option Jvm.ClassFile.FieldType), Jvm.Cond.code ({ cls := "com/example/stablemate/stablemate/FlowNetwork", name := "send", desc := "(IJ)V" } : Jvm.MethodName) prog_12_method_18_code (4 : Nat) (Option.none : Option Jvm.ClassFile.FieldType), Jvm.Cond.code ({ cls := "com/example/stablemate/stablemate/FlowNetwork", name := "fix", desc := "(I)V" } : Jvm.MethodName) prog_12_method_7_code (2 : Nat) (Option.none : Option Jvm.ClassFile.FieldType), Jvm.Cond.code ({ cls := "com/example/stablemate/stablemate/FlowNetwork", name := "flow", desc := "(I)J" } : Jvm.MethodName) prog_12_method_6_code (2 : Nat) (Option.some Jvm.ClassFile.FieldType.long), Jvm.Cond.code ({ cls := "com/example/stablemate/stablemate/FlowNetwork", name := "augment", desc := "([I)J" } : Jvm.MethodName) prog_12_method_19_code (2 : Nat) (Option.some Jvm.ClassFile.FieldType.long), Jvm.Cond.code ({ cls := "com/example/stablemate/stablemate/FlowNetwork", name := "augment", desc := "([III)J" } : Jvm.MethodName) prog_12_method_25_code (7 : Nat) (Option.some Jvm.ClassFile.FieldType.long), Jvm.Cond.code ({ cls := "java/lang/Math", name := "min", desc := "(JJ)J" } : Jvm.MethodName) jdk_29_method_70_code (4 : Nat) (Option.some Jvm.ClassFile.FieldType.long), Jvm.Cond.code ({ cls := "java/lang/Math", name := "addExact", desc := "(JJ)J" } : Jvm.MethodName) jdk_29_method_25_code (6 : Nat) (Option.some Jvm.ClassFile.FieldType.long)]
set_option maxRecDepth 65536 in
theorem codes_eq : words1.filter isCode = codes1 := rfl
theorem w_codes : ∀ c ∈ words1.filter isCode, c.before args0 about1 = true := by
  rw [codes_eq]
  intro c hc
  simp only [codes1, List.mem_cons, List.not_mem_nil, or_false] at hc
  rcases hc with rfl | rfl | rfl | rfl | rfl | rfl | rfl | rfl | rfl | rfl | rfl | rfl | rfl | rfl | rfl
  · exact w_c0
  · exact w_c1
  · exact w_c2
  · exact w_c3
  · exact w_c4
  · exact w_c5
  · exact w_c6
  · exact w_c7
  · exact w_c8
  · exact w_c9
  · exact w_c10
  · exact w_c11
  · exact w_c12
  · exact w_c13
  · exact w_c14
set_option maxRecDepth 65536 in
theorem w_t1 : (words1.take 24).all (fun c => isCode c || c.before args0 about1) = true := by decide +kernel
set_option maxRecDepth 65536 in
theorem w_t2 : ((words1.drop 24).take 24).all (fun c => isCode c || c.before args0 about1) = true := by decide +kernel
set_option maxRecDepth 65536 in
theorem w_t3 : (((words1.drop 24).drop 24).take 24).all (fun c => isCode c || c.before args0 about1) = true := by decide +kernel
set_option maxRecDepth 65536 in
theorem w_t4 : (((words1.drop 24).drop 24).drop 24).all (fun c => isCode c || c.before args0 about1) = true := by decide +kernel
theorem w_tables : (allAtoms (Jvm.Cond.code x code maxLocals ret :: tables_1)).before args0 about1 = true := by
  rw [allAtoms_all]
  show words1.all (fun c => c.before args0 about1) = true
  refine all_split ?_ w_codes
  rw [← List.take_append_drop 24 words1, List.all_append, w_t1, ← List.take_append_drop 24 (words1.drop 24), List.all_append, w_t2, ← List.take_append_drop 24 ((words1.drop 24).drop 24), List.all_append, w_t3, w_t4]
  rfl
set_option maxRecDepth 65536 in
theorem w_case : (Jvm.Cond.and given_1 narrow_1).before args0 about1 = true := by decide +kernel
theorem w_applies : (headSpec (Jvm.Cond.code x code maxLocals ret :: tables_1) room_1).applies x e0.platform about1 = true :=
  (Spec.applies_iff w_frames).mpr ⟨w_running, w_runnable, w_alone, w_named, w_hears, w_ripe, w_room, w_tables⟩
theorem atStart : AtStart classFile x code maxLocals ret World_1 tables_1 room_1 Calls_1 rest_1 Pre_1 launch0 p0 e0 about1 theMethod args0 below0 :=
  ⟨lists_1, trivial, launch0.admits_env _ _ _, launch0.least_env, fairChoices_fair.cas, fairChoices_fair.clock, w_frames, w_args, w_heap, w_applies, trivial, trivial, w_case⟩
end start1
theorem witness_1 : WitnessClaimed_1 := ⟨start1.p0, start1.e0, start1.about1, start1.theMethod, start1.args0, start1.below0, start1.atStart⟩
end Jvm.Pilot.@@N@@

import JvmDerived
import JvmDerived.Pilot.@@N@@Statement
import JvmDerived.Pilot.@@N@@Code
set_option linter.unusedVariables false
set_option linter.unusedSimpArgs false
namespace Jvm.Pilot.@@N@@
open Jvm Jvm.ClassFile Sem Op Lib Jvm.Free Jvm.Stand Jvm.LawKit Jvm.RoadKit Bundle Jvm.Pilot.@@N@@.Jvm.D
section OwnKit
def own_Cx (p : Program) (s : State) (m : MethodId) (meth : Method) (c : Code) (Z : State) (n0 : Nat) (own nm : String) (bytes : ByteArray) (ml : Nat) (ret : Option FieldType) : Prop :=
  p.tables.exec = Jvm.exec ∧ c.code = bytes ∧ c.maxLocals = ml ∧ s.vm.findClass own = some m.cls ∧ meth.name = nm ∧ meth.sig.returnType = ret ∧ meth.locks = false ∧ Z.Warmed39 s.vm ∧ n0 ≤ s.heap.size
def own_St (p : Program) (l : Launch) (e : Env) (R : Room) (s : State) (m : MethodId) (args : Array Value) (below : List Frame) (meth : Method) (c : Code) (n0 : Nat) (T : State) (h : Heap) (cells slots : Nat) : Prop :=
  ∃ locs, Stand p l e R s m args below meth c T locs cells slots ∧ Fr n0 locs ∧ T.heap = h
def own_Go (p : Program) (e : Env) (below : List Frame) (n0 : Nat) (F : Option Value → State → List Loc → Prop) (S : State) : Prop :=
  ∃ t v L, Steps p.tables e below S t ∧ t.status = .running ∧ Ended t below (.returned v) ∧ Fr n0 L ∧ F v t L
def own_Fin (R : Room) (s : State) (Q : Option Value → Heap → Prop) : Option Value → State → List Loc → Prop := fun v t L => Q v t.heap ∧ FrameEnd s (.returned v) t L R.cells R.slots
abbrev own_Met (l : Launch) (Z : State) (n0 : Nat) (y : MethodName) (bytes : ByteArray) (ml : Nat) (ret : Option FieldType) (ws : List Jvm.Cond) (rm : Room) (as' : Array Value) (h0 : Heap) (Q : Option Value → Heap → Prop) : Prop :=
  MetFree l y (head1 (Jvm.Cond.code y bytes ml ret :: ws) rm) (fun a U => a = as' ∧ Z.Warmed39 U.vm ∧ U.heap = h0) (fun _ _ _ _ _ => True) (fun _ U o U' => ∃ v L, o = .returned v ∧ (Q v U'.heap ∧ Fr n0 L) ∧ FrameEnd U o U' L rm.cells rm.slots)
variable {p : Program} {l : Launch} {e : Env} {R : Room} {s : State} {m : MethodId} {args : Array Value} {below : List Frame} {meth : Method} {c : Code} {T : State} {cells slots : Nat} {Z : State} {a0 : Array Value} {h h' : Heap} {n0 : Nat} {own nm : String} {bytes : ByteArray} {ml : Nat} {ret : Option FieldType} {Q : Option Value → Heap → Prop} {F : Option Value → State → List Loc → Prop} {pc pc' pcT : Nat} {L L' : Array Slot} {S : List Value}
theorem own_st {A B : State} (k : ∀ t, Steps p.tables e below B t → Steps p.tables e below A t) (g : own_Go p e below n0 F B) : own_Go p e below n0 F A := by
  obtain ⟨t, v, L, h1, r⟩ := g; exact ⟨t, v, L, k t h1, r⟩
theorem own_big (C : own_Cx p s m meth c Z n0 own nm bytes ml ret) (X : own_St p l e R s m args below meth c n0 T h cells slots) : n0 ≤ h.size := by
  obtain ⟨locs, X, -, rfl⟩ := X; exact Nat.le_trans C.2.2.2.2.2.2.2.2 X.same.2.1
/-- a body's contract out of its run -/
theorem own_body {y : MethodName} {ws : List Jvm.Cond} {rm : Room} {as' : Array Value} {h0 : Heap} {Ls : Array Slot} (hpl : plainFor y = true) (hn : n0 ≤ h0.size) (hef : ∀ m, entryFrame m as' ml = mkF m 0 Ls [])
    (run : ∀ p e s m below meth c T, own_Cx p s m meth c Z n0 y.cls y.name bytes ml ret → own_St p l e rm s m as' below meth c n0 T h0 0 0 → own_Go p e below n0 (own_Fin rm s Q) (T.setTop (mkF m 0 Ls []))) :
    own_Met l Z n0 y bytes ml ret ws rm as' h0 Q := by
  refine MetFree.of_bodySF hpl hisR ?_
  intro p e s m args below meth c s₁ Bd hml0 hP hK
  obtain ⟨rfl, hZ, hh⟩ := hP
  have X0 : Stand p l e rm s m args below meth c s₁ [] 0 0 := Stand.of_body Bd
  have e0 : s₁.heap = h0 := by rw [← hh, Bd.state]; rfl
  obtain ⟨t, v, L, g1, g2, g3, g5, g4, g6⟩ := run p e s m below meth c s₁ ⟨Bd.exec, Bd.bytes, hml0, findClass_of_methodNamed Bd.named, (name_of_methodNamed Bd.named Bd.method).1, Bd.returns, Bd.notSynchronized, hZ, by rw [hh]; exact hn⟩ ⟨[], X0, Fr.nil n0, e0⟩
  exact ⟨t, .returned v, castTop (hef m) g1, g2, g3, v, L, rfl, ⟨g4, g5⟩, g6⟩

theorem own_iload (C : own_Cx p s m meth c Z n0 own nm bytes ml ret) (X : own_St p l e R s m args below meth c n0 T h cells slots) {k : Nat} {v : Int32} (hd : decode bytes pc = .ok (.iload k, 2)) (hl : L[k]? = some (.val (.int v))) (hp : pc + 2 = pc') (g : own_Go p e below n0 F (T.setTop (mkF m pc' L (.int v :: S)))) : own_Go p e below n0 F (T.setTop (mkF m pc L (S))) := by
  obtain ⟨locs, X, -, -⟩ := X; subst hp
  exact own_st (fun t k => XS.iload X.here C.1 rfl (hb C.2.1 hd) hl k) g
theorem own_iloadN (C : own_Cx p s m meth c Z n0 own nm bytes ml ret) (X : own_St p l e R s m args below meth c n0 T h cells slots) {k : Fin 4} {v : Int32} (hd : decode bytes pc = .ok (.iload_n k, 1)) (hl : L[k.val]? = some (.val (.int v))) (hp : pc + 1 = pc') (g : own_Go p e below n0 F (T.setTop (mkF m pc' L (.int v :: S)))) : own_Go p e below n0 F (T.setTop (mkF m pc L (S))) := by
  obtain ⟨locs, X, -, -⟩ := X; subst hp
  exact own_st (fun t k => XS.iloadN X.here C.1 rfl (hb C.2.1 hd) hl k) g
theorem own_istore (C : own_Cx p s m meth c Z n0 own nm bytes ml ret) (X : own_St p l e R s m args below meth c n0 T h cells slots) {k : Nat} {v : Int32} (hd : decode bytes pc = .ok (.istore k, 2)) (hl : storeLocals L k (.int v) = some L') (hp : pc + 2 = pc') (g : own_Go p e below n0 F (T.setTop (mkF m pc' L' (S)))) : own_Go p e below n0 F (T.setTop (mkF m pc L (.int v :: S))) := by
  obtain ⟨locs, X, -, -⟩ := X; subst hp
  exact own_st (fun t k => XS.istore X.here C.1 rfl (hb C.2.1 hd) rfl hl k) g
theorem own_istoreN (C : own_Cx p s m meth c Z n0 own nm bytes ml ret) (X : own_St p l e R s m args below meth c n0 T h cells slots) {k : Fin 4} {v : Int32} (hd : decode bytes pc = .ok (.istore_n k, 1)) (hl : storeLocals L k.val (.int v) = some L') (hp : pc + 1 = pc') (g : own_Go p e below n0 F (T.setTop (mkF m pc' L' (S)))) : own_Go p e below n0 F (T.setTop (mkF m pc L (.int v :: S))) := by
  obtain ⟨locs, X, -, -⟩ := X; subst hp
  exact own_st (fun t k => XS.istoreN X.here C.1 rfl (hb C.2.1 hd) rfl hl k) g
theorem own_lload (C : own_Cx p s m meth c Z n0 own nm bytes ml ret) (X : own_St p l e R s m args below meth c n0 T h cells slots) {k : Nat} {v : Int64} (hd : decode bytes pc = .ok (.lload k, 2)) (hl : L[k]? = some (.val (.long v))) (hp : pc + 2 = pc') (g : own_Go p e below n0 F (T.setTop (mkF m pc' L (.long v :: S)))) : own_Go p e below n0 F (T.setTop (mkF m pc L (S))) := by
  obtain ⟨locs, X, -, -⟩ := X; subst hp
  exact own_st (fun t k => XS.lload X.here C.1 rfl (hb C.2.1 hd) hl k) g
theorem own_lloadN (C : own_Cx p s m meth c Z n0 own nm bytes ml ret) (X : own_St p l e R s m args below meth c n0 T h cells slots) {k : Fin 4} {v : Int64} (hd : decode bytes pc = .ok (.lload_n k, 1)) (hl : L[k.val]? = some (.val (.long v))) (hp : pc + 1 = pc') (g : own_Go p e below n0 F (T.setTop (mkF m pc' L (.long v :: S)))) : own_Go p e below n0 F (T.setTop (mkF m pc L (S))) := by
  obtain ⟨locs, X, -, -⟩ := X; subst hp
  exact own_st (fun t k => XS.lloadN X.here C.1 rfl (hb C.2.1 hd) hl k) g
theorem own_lstore (C : own_Cx p s m meth c Z n0 own nm bytes ml ret) (X : own_St p l e R s m args below meth c n0 T h cells slots) {k : Nat} {v : Int64} (hd : decode bytes pc = .ok (.lstore k, 2)) (hl : storeLocals L k (.long v) = some L') (hp : pc + 2 = pc') (g : own_Go p e below n0 F (T.setTop (mkF m pc' L' (S)))) : own_Go p e below n0 F (T.setTop (mkF m pc L (.long v :: S))) := by
  obtain ⟨locs, X, -, -⟩ := X; subst hp
  exact own_st (fun t k => XS.lstore X.here C.1 rfl (hb C.2.1 hd) rfl hl k) g
theorem own_lstoreN (C : own_Cx p s m meth c Z n0 own nm bytes ml ret) (X : own_St p l e R s m args below meth c n0 T h cells slots) {k : Fin 4} {v : Int64} (hd : decode bytes pc = .ok (.lstore_n k, 1)) (hl : storeLocals L k.val (.long v) = some L') (hp : pc + 1 = pc') (g : own_Go p e below n0 F (T.setTop (mkF m pc' L' (S)))) : own_Go p e below n0 F (T.setTop (mkF m pc L (.long v :: S))) := by
  obtain ⟨locs, X, -, -⟩ := X; subst hp
  exact own_st (fun t k => XS.lstoreN X.here C.1 rfl (hb C.2.1 hd) rfl hl k) g
theorem own_aload (C : own_Cx p s m meth c Z n0 own nm bytes ml ret) (X : own_St p l e R s m args below meth c n0 T h cells slots) {k : Nat} {v : Value} (hd : decode bytes pc = .ok (.aload k, 2)) (hl : L[k]? = some (.val v)) (hv : v.isRef = true) (hp : pc + 2 = pc') (g : own_Go p e below n0 F (T.setTop (mkF m pc' L (v :: S)))) : own_Go p e below n0 F (T.setTop (mkF m pc L (S))) := by
  obtain ⟨locs, X, -, -⟩ := X; subst hp
  exact own_st (fun t k => XS.aload X.here C.1 rfl (hb C.2.1 hd) hl hv k) g
theorem own_aloadN (C : own_Cx p s m meth c Z n0 own nm bytes ml ret) (X : own_St p l e R s m args below meth c n0 T h cells slots) {k : Fin 4} {v : Value} (hd : decode bytes pc = .ok (.aload_n k, 1)) (hl : L[k.val]? = some (.val v)) (hv : v.isRef = true) (hp : pc + 1 = pc') (g : own_Go p e below n0 F (T.setTop (mkF m pc' L (v :: S)))) : own_Go p e below n0 F (T.setTop (mkF m pc L (S))) := by
  obtain ⟨locs, X, -, -⟩ := X; subst hp
  exact own_st (fun t k => XS.aloadN X.here C.1 rfl (hb C.2.1 hd) hl hv k) g
theorem own_astore (C : own_Cx p s m meth c Z n0 own nm bytes ml ret) (X : own_St p l e R s m args below meth c n0 T h cells slots) {k : Nat} {v : Value} (hd : decode bytes pc = .ok (.astore k, 2)) (hv : v.isRef = true) (hl : storeLocals L k v = some L') (hp : pc + 2 = pc') (g : own_Go p e below n0 F (T.setTop (mkF m pc' L' (S)))) : own_Go p e below n0 F (T.setTop (mkF m pc L (v :: S))) := by
  obtain ⟨locs, X, -, -⟩ := X; subst hp
  exact own_st (fun t k => XS.astore X.here C.1 rfl (hb C.2.1 hd) rfl hv hl k) g
theorem own_astoreN (C : own_Cx p s m meth c Z n0 own nm bytes ml ret) (X : own_St p l e R s m args below meth c n0 T h cells slots) {k : Fin 4} {v : Value} (hd : decode bytes pc = .ok (.astore_n k, 1)) (hv : v.isRef = true) (hl : storeLocals L k.val v = some L') (hp : pc + 1 = pc') (g : own_Go p e below n0 F (T.setTop (mkF m pc' L' (S)))) : own_Go p e below n0 F (T.setTop (mkF m pc L (v :: S))) := by
  obtain ⟨locs, X, -, -⟩ := X; subst hp
  exact own_st (fun t k => XS.astoreN X.here C.1 rfl (hb C.2.1 hd) rfl hv hl k) g
theorem own_iconst (C : own_Cx p s m meth c Z n0 own nm bytes ml ret) (X : own_St p l e R s m args below meth c n0 T h cells slots) {i : Int} {v : Int32} (hd : decode bytes pc = .ok (.iconst i, 1)) (hv : Int32.ofInt i = v) (hp : pc + 1 = pc') (g : own_Go p e below n0 F (T.setTop (mkF m pc' L (.int v :: S)))) : own_Go p e below n0 F (T.setTop (mkF m pc L (S))) := by
  obtain ⟨locs, X, -, -⟩ := X; subst hp hv
  exact own_st (fun t k => XS.iconst X.here C.1 rfl (hb C.2.1 hd) k) g
theorem own_bipush (C : own_Cx p s m meth c Z n0 own nm bytes ml ret) (X : own_St p l e R s m args below meth c n0 T h cells slots) {i : Int} {v : Int32} (hd : decode bytes pc = .ok (.bipush i, 2)) (hv : (Int8.ofInt i).toInt32 = v) (hp : pc + 2 = pc') (g : own_Go p e below n0 F (T.setTop (mkF m pc' L (.int v :: S)))) : own_Go p e below n0 F (T.setTop (mkF m pc L (S))) := by
  obtain ⟨locs, X, -, -⟩ := X; subst hp hv
  exact own_st (fun t k => XS.bipush X.here C.1 rfl (hb C.2.1 hd) k) g
theorem own_sipush (C : own_Cx p s m meth c Z n0 own nm bytes ml ret) (X : own_St p l e R s m args below meth c n0 T h cells slots) {i : Int} {v : Int32} (hd : decode bytes pc = .ok (.sipush i, 3)) (hv : (Int16.ofInt i).toInt32 = v) (hp : pc + 3 = pc') (g : own_Go p e below n0 F (T.setTop (mkF m pc' L (.int v :: S)))) : own_Go p e below n0 F (T.setTop (mkF m pc L (S))) := by
  obtain ⟨locs, X, -, -⟩ := X; subst hp hv
  exact own_st (fun t k => XS.sipush X.here C.1 rfl (hb C.2.1 hd) k) g
theorem own_lconst (C : own_Cx p s m meth c Z n0 own nm bytes ml ret) (X : own_St p l e R s m args below meth c n0 T h cells slots) {i : Fin 2} {v : Int64} (hd : decode bytes pc = .ok (.lconst i, 1)) (hv : Int64.ofNat i = v) (hp : pc + 1 = pc') (g : own_Go p e below n0 F (T.setTop (mkF m pc' L (.long v :: S)))) : own_Go p e below n0 F (T.setTop (mkF m pc L (S))) := by
  obtain ⟨locs, X, -, -⟩ := X; subst hp hv
  exact own_st (fun t k => XS.lconst X.here C.1 rfl (hb C.2.1 hd) k) g
theorem own_aconst_null (C : own_Cx p s m meth c Z n0 own nm bytes ml ret) (X : own_St p l e R s m args below meth c n0 T h cells slots)  (hd : decode bytes pc = .ok (.aconst_null, 1))  (hp : pc + 1 = pc') (g : own_Go p e below n0 F (T.setTop (mkF m pc' L (.null :: S)))) : own_Go p e below n0 F (T.setTop (mkF m pc L (S))) := by
  obtain ⟨locs, X, -, -⟩ := X; subst hp
  exact own_st (fun t k => XS.aconstNull X.here C.1 rfl (hb C.2.1 hd) k) g
theorem own_iadd (C : own_Cx p s m meth c Z n0 own nm bytes ml ret) (X : own_St p l e R s m args below meth c n0 T h cells slots) {x y z : Int32} (hd : decode bytes pc = .ok (.iadd, 1)) (hz : x + y = z) (hp : pc + 1 = pc') (g : own_Go p e below n0 F (T.setTop (mkF m pc' L (.int z :: S)))) : own_Go p e below n0 F (T.setTop (mkF m pc L (.int y :: .int x :: S))) := by
  obtain ⟨locs, X, -, -⟩ := X; subst hp hz
  exact own_st (fun t k => XS.iadd X.here C.1 rfl (hb C.2.1 hd) rfl k) g
theorem own_ladd (C : own_Cx p s m meth c Z n0 own nm bytes ml ret) (X : own_St p l e R s m args below meth c n0 T h cells slots) {x y z : Int64} (hd : decode bytes pc = .ok (.ladd, 1)) (hz : x + y = z) (hp : pc + 1 = pc') (g : own_Go p e below n0 F (T.setTop (mkF m pc' L (.long z :: S)))) : own_Go p e below n0 F (T.setTop (mkF m pc L (.long y :: .long x :: S))) := by
  obtain ⟨locs, X, -, -⟩ := X; subst hp hz
  exact own_st (fun t k => XS.ladd X.here C.1 rfl (hb C.2.1 hd) rfl k) g
theorem own_isub (C : own_Cx p s m meth c Z n0 own nm bytes ml ret) (X : own_St p l e R s m args below meth c n0 T h cells slots) {x y z : Int32} (hd : decode bytes pc = .ok (.isub, 1)) (hz : x - y = z) (hp : pc + 1 = pc') (g : own_Go p e below n0 F (T.setTop (mkF m pc' L (.int z :: S)))) : own_Go p e below n0 F (T.setTop (mkF m pc L (.int y :: .int x :: S))) := by
  obtain ⟨locs, X, -, -⟩ := X; subst hp hz
  exact own_st (fun t k => XS.isub X.here C.1 rfl (hb C.2.1 hd) rfl k) g
theorem own_lsub (C : own_Cx p s m meth c Z n0 own nm bytes ml ret) (X : own_St p l e R s m args below meth c n0 T h cells slots) {x y z : Int64} (hd : decode bytes pc = .ok (.lsub, 1)) (hz : x - y = z) (hp : pc + 1 = pc') (g : own_Go p e below n0 F (T.setTop (mkF m pc' L (.long z :: S)))) : own_Go p e below n0 F (T.setTop (mkF m pc L (.long y :: .long x :: S))) := by
  obtain ⟨locs, X, -, -⟩ := X; subst hp hz
  exact own_st (fun t k => XS.lsub X.here C.1 rfl (hb C.2.1 hd) rfl k) g
theorem own_imul (C : own_Cx p s m meth c Z n0 own nm bytes ml ret) (X : own_St p l e R s m args below meth c n0 T h cells slots) {x y z : Int32} (hd : decode bytes pc = .ok (.imul, 1)) (hz : x * y = z) (hp : pc + 1 = pc') (g : own_Go p e below n0 F (T.setTop (mkF m pc' L (.int z :: S)))) : own_Go p e below n0 F (T.setTop (mkF m pc L (.int y :: .int x :: S))) := by
  obtain ⟨locs, X, -, -⟩ := X; subst hp hz
  exact own_st (fun t k => XS.imul X.here C.1 rfl (hb C.2.1 hd) rfl k) g
theorem own_lmul (C : own_Cx p s m meth c Z n0 own nm bytes ml ret) (X : own_St p l e R s m args below meth c n0 T h cells slots) {x y z : Int64} (hd : decode bytes pc = .ok (.lmul, 1)) (hz : x * y = z) (hp : pc + 1 = pc') (g : own_Go p e below n0 F (T.setTop (mkF m pc' L (.long z :: S)))) : own_Go p e below n0 F (T.setTop (mkF m pc L (.long y :: .long x :: S))) := by
  obtain ⟨locs, X, -, -⟩ := X; subst hp hz
  exact own_st (fun t k => XS.lmul X.here C.1 rfl (hb C.2.1 hd) rfl k) g
theorem own_iand (C : own_Cx p s m meth c Z n0 own nm bytes ml ret) (X : own_St p l e R s m args below meth c n0 T h cells slots) {x y z : Int32} (hd : decode bytes pc = .ok (.iand, 1)) (hz : x &&& y = z) (hp : pc + 1 = pc') (g : own_Go p e below n0 F (T.setTop (mkF m pc' L (.int z :: S)))) : own_Go p e below n0 F (T.setTop (mkF m pc L (.int y :: .int x :: S))) := by
  obtain ⟨locs, X, -, -⟩ := X; subst hp hz
  exact own_st (fun t k => XS.iand X.here C.1 rfl (hb C.2.1 hd) rfl k) g
theorem own_land (C : own_Cx p s m meth c Z n0 own nm bytes ml ret) (X : own_St p l e R s m args below meth c n0 T h cells slots) {x y z : Int64} (hd : decode bytes pc = .ok (.land, 1)) (hz : x &&& y = z) (hp : pc + 1 = pc') (g : own_Go p e below n0 F (T.setTop (mkF m pc' L (.long z :: S)))) : own_Go p e below n0 F (T.setTop (mkF m pc L (.long y :: .long x :: S))) := by
  obtain ⟨locs, X, -, -⟩ := X; subst hp hz
  exact own_st (fun t k => XS.land X.here C.1 rfl (hb C.2.1 hd) rfl k) g
theorem own_ior (C : own_Cx p s m meth c Z n0 own nm bytes ml ret) (X : own_St p l e R s m args below meth c n0 T h cells slots) {x y z : Int32} (hd : decode bytes pc = .ok (.ior, 1)) (hz : x ||| y = z) (hp : pc + 1 = pc') (g : own_Go p e below n0 F (T.setTop (mkF m pc' L (.int z :: S)))) : own_Go p e below n0 F (T.setTop (mkF m pc L (.int y :: .int x :: S))) := by
  obtain ⟨locs, X, -, -⟩ := X; subst hp hz
  exact own_st (fun t k => XS.ior X.here C.1 rfl (hb C.2.1 hd) rfl k) g
theorem own_lor (C : own_Cx p s m meth c Z n0 own nm bytes ml ret) (X : own_St p l e R s m args below meth c n0 T h cells slots) {x y z : Int64} (hd : decode bytes pc = .ok (.lor, 1)) (hz : x ||| y = z) (hp : pc + 1 = pc') (g : own_Go p e below n0 F (T.setTop (mkF m pc' L (.long z :: S)))) : own_Go p e below n0 F (T.setTop (mkF m pc L (.long y :: .long x :: S))) := by
  obtain ⟨locs, X, -, -⟩ := X; subst hp hz
  exact own_st (fun t k => XS.lor X.here C.1 rfl (hb C.2.1 hd) rfl k) g
theorem own_ixor (C : own_Cx p s m meth c Z n0 own nm bytes ml ret) (X : own_St p l e R s m args below meth c n0 T h cells slots) {x y z : Int32} (hd : decode bytes pc = .ok (.ixor, 1)) (hz : x ^^^ y = z) (hp : pc + 1 = pc') (g : own_Go p e below n0 F (T.setTop (mkF m pc' L (.int z :: S)))) : own_Go p e below n0 F (T.setTop (mkF m pc L (.int y :: .int x :: S))) := by
  obtain ⟨locs, X, -, -⟩ := X; subst hp hz
  exact own_st (fun t k => XS.ixor X.here C.1 rfl (hb C.2.1 hd) rfl k) g
theorem own_lxor (C : own_Cx p s m meth c Z n0 own nm bytes ml ret) (X : own_St p l e R s m args below meth c n0 T h cells slots) {x y z : Int64} (hd : decode bytes pc = .ok (.lxor, 1)) (hz : x ^^^ y = z) (hp : pc + 1 = pc') (g : own_Go p e below n0 F (T.setTop (mkF m pc' L (.long z :: S)))) : own_Go p e below n0 F (T.setTop (mkF m pc L (.long y :: .long x :: S))) := by
  obtain ⟨locs, X, -, -⟩ := X; subst hp hz
  exact own_st (fun t k => XS.lxor X.here C.1 rfl (hb C.2.1 hd) rfl k) g
theorem own_ishl (C : own_Cx p s m meth c Z n0 own nm bytes ml ret) (X : own_St p l e R s m args below meth c n0 T h cells slots) {x y z : Int32} (hd : decode bytes pc = .ok (.ishl, 1)) (hz : x <<< (y &&& 31) = z) (hp : pc + 1 = pc') (g : own_Go p e below n0 F (T.setTop (mkF m pc' L (.int z :: S)))) : own_Go p e below n0 F (T.setTop (mkF m pc L (.int y :: .int x :: S))) := by
  obtain ⟨locs, X, -, -⟩ := X; subst hp hz
  exact own_st (fun t k => XS.ishl X.here C.1 rfl (hb C.2.1 hd) rfl k) g
theorem own_ishr (C : own_Cx p s m meth c Z n0 own nm bytes ml ret) (X : own_St p l e R s m args below meth c n0 T h cells slots) {x y z : Int32} (hd : decode bytes pc = .ok (.ishr, 1)) (hz : x >>> (y &&& 31) = z) (hp : pc + 1 = pc') (g : own_Go p e below n0 F (T.setTop (mkF m pc' L (.int z :: S)))) : own_Go p e below n0 F (T.setTop (mkF m pc L (.int y :: .int x :: S))) := by
  obtain ⟨locs, X, -, -⟩ := X; subst hp hz
  exact own_st (fun t k => XS.ishr X.here C.1 rfl (hb C.2.1 hd) rfl k) g
theorem own_iushr (C : own_Cx p s m meth c Z n0 own nm bytes ml ret) (X : own_St p l e R s m args below meth c n0 T h cells slots) {x y z : Int32} (hd : decode bytes pc = .ok (.iushr, 1)) (hz : (x.toUInt32 >>> (y &&& 31).toUInt32).toInt32 = z) (hp : pc + 1 = pc') (g : own_Go p e below n0 F (T.setTop (mkF m pc' L (.int z :: S)))) : own_Go p e below n0 F (T.setTop (mkF m pc L (.int y :: .int x :: S))) := by
  obtain ⟨locs, X, -, -⟩ := X; subst hp hz
  exact own_st (fun t k => XS.iushr X.here C.1 rfl (hb C.2.1 hd) rfl k) g
theorem own_lshl (C : own_Cx p s m meth c Z n0 own nm bytes ml ret) (X : own_St p l e R s m args below meth c n0 T h cells slots) {x z : Int64} {y : Int32} (hd : decode bytes pc = .ok (.lshl, 1)) (hz : x <<< (y &&& 0x3f).toInt64 = z) (hp : pc + 1 = pc') (g : own_Go p e below n0 F (T.setTop (mkF m pc' L (.long z :: S)))) : own_Go p e below n0 F (T.setTop (mkF m pc L (.int y :: .long x :: S))) := by
  obtain ⟨locs, X, -, -⟩ := X; subst hp hz
  exact own_st (fun t k => XS.lshl X.here C.1 rfl (hb C.2.1 hd) rfl k) g
theorem own_lshr (C : own_Cx p s m meth c Z n0 own nm bytes ml ret) (X : own_St p l e R s m args below meth c n0 T h cells slots) {x z : Int64} {y : Int32} (hd : decode bytes pc = .ok (.lshr, 1)) (hz : x >>> (y &&& 0x3f).toInt64 = z) (hp : pc + 1 = pc') (g : own_Go p e below n0 F (T.setTop (mkF m pc' L (.long z :: S)))) : own_Go p e below n0 F (T.setTop (mkF m pc L (.int y :: .long x :: S))) := by
  obtain ⟨locs, X, -, -⟩ := X; subst hp hz
  exact own_st (fun t k => XS.lshr X.here C.1 rfl (hb C.2.1 hd) rfl k) g
theorem own_lushr (C : own_Cx p s m meth c Z n0 own nm bytes ml ret) (X : own_St p l e R s m args below meth c n0 T h cells slots) {x z : Int64} {y : Int32} (hd : decode bytes pc = .ok (.lushr, 1)) (hz : (x.toUInt64 >>> (y &&& 0x3f).toInt64.toUInt64).toInt64 = z) (hp : pc + 1 = pc') (g : own_Go p e below n0 F (T.setTop (mkF m pc' L (.long z :: S)))) : own_Go p e below n0 F (T.setTop (mkF m pc L (.int y :: .long x :: S))) := by
  obtain ⟨locs, X, -, -⟩ := X; subst hp hz
  exact own_st (fun t k => XS.lushr X.here C.1 rfl (hb C.2.1 hd) rfl k) g
theorem own_idiv (C : own_Cx p s m meth c Z n0 own nm bytes ml ret) (X : own_St p l e R s m args below meth c n0 T h cells slots) {x y z : Int32} (hd : decode bytes pc = .ok (.idiv, 1)) (hy : y ≠ 0) (hz : x / y = z) (hp : pc + 1 = pc') (g : own_Go p e below n0 F (T.setTop (mkF m pc' L (.int z :: S)))) : own_Go p e below n0 F (T.setTop (mkF m pc L (.int y :: .int x :: S))) := by
  obtain ⟨locs, X, -, -⟩ := X; subst hp hz
  exact own_st (fun t k => XS.idiv X.here C.1 rfl (hb C.2.1 hd) rfl hy k) g
theorem own_irem (C : own_Cx p s m meth c Z n0 own nm bytes ml ret) (X : own_St p l e R s m args below meth c n0 T h cells slots) {x y z : Int32} (hd : decode bytes pc = .ok (.irem, 1)) (hy : y ≠ 0) (hz : x % y = z) (hp : pc + 1 = pc') (g : own_Go p e below n0 F (T.setTop (mkF m pc' L (.int z :: S)))) : own_Go p e below n0 F (T.setTop (mkF m pc L (.int y :: .int x :: S))) := by
  obtain ⟨locs, X, -, -⟩ := X; subst hp hz
  exact own_st (fun t k => iremM X C.1 rfl (hb C.2.1 hd) rfl hy k) g
theorem own_ldiv (C : own_Cx p s m meth c Z n0 own nm bytes ml ret) (X : own_St p l e R s m args below meth c n0 T h cells slots) {x y z : Int64} (hd : decode bytes pc = .ok (.ldiv, 1)) (hy : y ≠ 0) (hz : x / y = z) (hp : pc + 1 = pc') (g : own_Go p e below n0 F (T.setTop (mkF m pc' L (.long z :: S)))) : own_Go p e below n0 F (T.setTop (mkF m pc L (.long y :: .long x :: S))) := by
  obtain ⟨locs, X, -, -⟩ := X; subst hp hz
  exact own_st (fun t k => XS.ldiv X.here C.1 rfl (hb C.2.1 hd) rfl hy k) g
theorem own_lrem (C : own_Cx p s m meth c Z n0 own nm bytes ml ret) (X : own_St p l e R s m args below meth c n0 T h cells slots) {x y z : Int64} (hd : decode bytes pc = .ok (.lrem, 1)) (hy : y ≠ 0) (hz : x % y = z) (hp : pc + 1 = pc') (g : own_Go p e below n0 F (T.setTop (mkF m pc' L (.long z :: S)))) : own_Go p e below n0 F (T.setTop (mkF m pc L (.long y :: .long x :: S))) := by
  obtain ⟨locs, X, -, -⟩ := X; subst hp hz
  exact own_st (fun t k => XS.lrem X.here C.1 rfl (hb C.2.1 hd) rfl hy (by rw [lrem_mod]; exact k)) g
theorem own_ineg (C : own_Cx p s m meth c Z n0 own nm bytes ml ret) (X : own_St p l e R s m args below meth c n0 T h cells slots) {x : Int32} {z : Int32} (hd : decode bytes pc = .ok (.ineg, 1)) (hz : -x = z) (hp : pc + 1 = pc') (g : own_Go p e below n0 F (T.setTop (mkF m pc' L (.int z :: S)))) : own_Go p e below n0 F (T.setTop (mkF m pc L (.int x :: S))) := by
  obtain ⟨locs, X, -, -⟩ := X; subst hp hz
  exact own_st (fun t k => XS.ineg X.here C.1 rfl (hb C.2.1 hd) rfl k) g
theorem own_lneg (C : own_Cx p s m meth c Z n0 own nm bytes ml ret) (X : own_St p l e R s m args below meth c n0 T h cells slots) {x : Int64} {z : Int64} (hd : decode bytes pc = .ok (.lneg, 1)) (hz : -x = z) (hp : pc + 1 = pc') (g : own_Go p e below n0 F (T.setTop (mkF m pc' L (.long z :: S)))) : own_Go p e below n0 F (T.setTop (mkF m pc L (.long x :: S))) := by
  obtain ⟨locs, X, -, -⟩ := X; subst hp hz
  exact own_st (fun t k => XS.lneg X.here C.1 rfl (hb C.2.1 hd) rfl k) g
theorem own_i2l (C : own_Cx p s m meth c Z n0 own nm bytes ml ret) (X : own_St p l e R s m args below meth c n0 T h cells slots) {x : Int32} {z : Int64} (hd : decode bytes pc = .ok (.i2l, 1)) (hz : x.toInt64 = z) (hp : pc + 1 = pc') (g : own_Go p e below n0 F (T.setTop (mkF m pc' L (.long z :: S)))) : own_Go p e below n0 F (T.setTop (mkF m pc L (.int x :: S))) := by
  obtain ⟨locs, X, -, -⟩ := X; subst hp hz
  exact own_st (fun t k => XS.i2l X.here C.1 rfl (hb C.2.1 hd) rfl k) g
theorem own_l2i (C : own_Cx p s m meth c Z n0 own nm bytes ml ret) (X : own_St p l e R s m args below meth c n0 T h cells slots) {x : Int64} {z : Int32} (hd : decode bytes pc = .ok (.l2i, 1)) (hz : x.toInt32 = z) (hp : pc + 1 = pc') (g : own_Go p e below n0 F (T.setTop (mkF m pc' L (.int z :: S)))) : own_Go p e below n0 F (T.setTop (mkF m pc L (.long x :: S))) := by
  obtain ⟨locs, X, -, -⟩ := X; subst hp hz
  exact own_st (fun t k => XS.l2i X.here C.1 rfl (hb C.2.1 hd) rfl k) g
theorem own_i2b (C : own_Cx p s m meth c Z n0 own nm bytes ml ret) (X : own_St p l e R s m args below meth c n0 T h cells slots) {x : Int32} {z : Int32} (hd : decode bytes pc = .ok (.i2b, 1)) (hz : x.toInt8.toInt32 = z) (hp : pc + 1 = pc') (g : own_Go p e below n0 F (T.setTop (mkF m pc' L (.int z :: S)))) : own_Go p e below n0 F (T.setTop (mkF m pc L (.int x :: S))) := by
  obtain ⟨locs, X, -, -⟩ := X; subst hp hz
  exact own_st (fun t k => XS.i2b X.here C.1 rfl (hb C.2.1 hd) rfl k) g
theorem own_i2c (C : own_Cx p s m meth c Z n0 own nm bytes ml ret) (X : own_St p l e R s m args below meth c n0 T h cells slots) {x : Int32} {z : Int32} (hd : decode bytes pc = .ok (.i2c, 1)) (hz : x.toUInt32.toUInt16.toUInt32.toInt32 = z) (hp : pc + 1 = pc') (g : own_Go p e below n0 F (T.setTop (mkF m pc' L (.int z :: S)))) : own_Go p e below n0 F (T.setTop (mkF m pc L (.int x :: S))) := by
  obtain ⟨locs, X, -, -⟩ := X; subst hp hz
  exact own_st (fun t k => XS.i2c X.here C.1 rfl (hb C.2.1 hd) rfl k) g
theorem own_i2s (C : own_Cx p s m meth c Z n0 own nm bytes ml ret) (X : own_St p l e R s m args below meth c n0 T h cells slots) {x : Int32} {z : Int32} (hd : decode bytes pc = .ok (.i2s, 1)) (hz : x.toInt16.toInt32 = z) (hp : pc + 1 = pc') (g : own_Go p e below n0 F (T.setTop (mkF m pc' L (.int z :: S)))) : own_Go p e below n0 F (T.setTop (mkF m pc L (.int x :: S))) := by
  obtain ⟨locs, X, -, -⟩ := X; subst hp hz
  exact own_st (fun t k => XS.i2s X.here C.1 rfl (hb C.2.1 hd) rfl k) g
theorem own_iinc (C : own_Cx p s m meth c Z n0 own nm bytes ml ret) (X : own_St p l e R s m args below meth c n0 T h cells slots) {k : Nat} {i : Int} {x d z : Int32} (hd : decode bytes pc = .ok (.iinc k i, 3)) (hl : L[k]? = some (.val (.int x))) (hv : Int32.ofInt i = d) (hz : x + d = z) (hl' : storeLocals L k (.int z) = some L') (hp : pc + 3 = pc') (g : own_Go p e below n0 F (T.setTop (mkF m pc' L' (S)))) : own_Go p e below n0 F (T.setTop (mkF m pc L (S))) := by
  obtain ⟨locs, X, -, -⟩ := X; subst hp hv hz
  exact own_st (fun t k => XS.iinc X.here C.1 rfl (hb C.2.1 hd) hl hl' k) g
theorem own_dup (C : own_Cx p s m meth c Z n0 own nm bytes ml ret) (X : own_St p l e R s m args below meth c n0 T h cells slots) {v : Value} (hd : decode bytes pc = .ok (.dup, 1)) (hc : v.category = 1) (hp : pc + 1 = pc') (g : own_Go p e below n0 F (T.setTop (mkF m pc' L (v :: v :: S)))) : own_Go p e below n0 F (T.setTop (mkF m pc L (v :: S))) := by
  obtain ⟨locs, X, -, -⟩ := X; subst hp
  exact own_st (fun t k => XS.dup X.here C.1 rfl (hb C.2.1 hd) rfl hc k) g
theorem own_pop (C : own_Cx p s m meth c Z n0 own nm bytes ml ret) (X : own_St p l e R s m args below meth c n0 T h cells slots) {v : Value} (hd : decode bytes pc = .ok (.pop, 1)) (hc : v.category = 1) (hp : pc + 1 = pc') (g : own_Go p e below n0 F (T.setTop (mkF m pc' L (S)))) : own_Go p e below n0 F (T.setTop (mkF m pc L (v :: S))) := by
  obtain ⟨locs, X, -, -⟩ := X; subst hp
  exact own_st (fun t k => XS.pop X.here C.1 rfl (hb C.2.1 hd) rfl hc k) g
theorem own_dup_x1 (C : own_Cx p s m meth c Z n0 own nm bytes ml ret) (X : own_St p l e R s m args below meth c n0 T h cells slots) {v w : Value} (hd : decode bytes pc = .ok (.dup_x1, 1)) (hc : v.category = 1) (hc' : w.category = 1) (hp : pc + 1 = pc') (g : own_Go p e below n0 F (T.setTop (mkF m pc' L (v :: w :: v :: S)))) : own_Go p e below n0 F (T.setTop (mkF m pc L (v :: w :: S))) := by
  obtain ⟨locs, X, -, -⟩ := X; subst hp
  exact own_st (fun t k => XS.dupX1 X.here C.1 rfl (hb C.2.1 hd) rfl hc hc' k) g
theorem own_dup2 (C : own_Cx p s m meth c Z n0 own nm bytes ml ret) (X : own_St p l e R s m args below meth c n0 T h cells slots) {v w : Value} (hd : decode bytes pc = .ok (.dup2, 1)) (hc : v.category = 1) (hc' : w.category = 1) (hp : pc + 1 = pc') (g : own_Go p e below n0 F (T.setTop (mkF m pc' L (v :: w :: v :: w :: S)))) : own_Go p e below n0 F (T.setTop (mkF m pc L (v :: w :: S))) := by
  obtain ⟨locs, X, -, -⟩ := X; subst hp
  exact own_st (fun t k => XT.dup2 X.here C.1 rfl (hb C.2.1 hd) rfl hc hc' k) g
theorem own_dup2L (C : own_Cx p s m meth c Z n0 own nm bytes ml ret) (X : own_St p l e R s m args below meth c n0 T h cells slots) {v : Int64} (hd : decode bytes pc = .ok (.dup2, 1))  (hp : pc + 1 = pc') (g : own_Go p e below n0 F (T.setTop (mkF m pc' L (.long v :: .long v :: S)))) : own_Go p e below n0 F (T.setTop (mkF m pc L (.long v :: S))) := by
  obtain ⟨locs, X, -, -⟩ := X; subst hp
  exact own_st (fun t k => XT.dup2L X.here C.1 rfl (hb C.2.1 hd) rfl k) g
theorem own_pop2L (C : own_Cx p s m meth c Z n0 own nm bytes ml ret) (X : own_St p l e R s m args below meth c n0 T h cells slots) {v : Int64} (hd : decode bytes pc = .ok (.pop2, 1))  (hp : pc + 1 = pc') (g : own_Go p e below n0 F (T.setTop (mkF m pc' L (S)))) : own_Go p e below n0 F (T.setTop (mkF m pc L (.long v :: S))) := by
  obtain ⟨locs, X, -, -⟩ := X; subst hp
  exact own_st (fun t k => (by jvm_step X.here [X.here.top, C.1, hb C.2.1 hd, Value.category]; exact k)) g
theorem own_lcmp (C : own_Cx p s m meth c Z n0 own nm bytes ml ret) (X : own_St p l e R s m args below meth c n0 T h cells slots) {x y : Int64} {z : Int32} (hd : decode bytes pc = .ok (.lcmp, 1)) (hz : lcmpW x y = z) (hp : pc + 1 = pc') (g : own_Go p e below n0 F (T.setTop (mkF m pc' L (.int z :: S)))) : own_Go p e below n0 F (T.setTop (mkF m pc L (.long y :: .long x :: S))) := by
  obtain ⟨locs, X, -, -⟩ := X; subst hp hz
  exact own_st (fun t k => XS.lcmp X.here C.1 rfl (hb C.2.1 hd) rfl k) g
theorem own_ldcI (C : own_Cx p s m meth c Z n0 own nm bytes ml ret) (X : own_St p l e R s m args below meth c n0 T h cells slots) {i : Nat} {v : Int32} (hd : decode bytes pc = .ok (.ldc i, 2)) (w : (Jvm.Cond.constant own i v).before a0 Z = true) (hp : pc + 2 = pc') (g : own_Go p e below n0 F (T.setTop (mkF m pc' L (.int v :: S)))) : own_Go p e below n0 F (T.setTop (mkF m pc L (S))) := by
  obtain ⟨locs, X, -, -⟩ := X; subst hp
  exact own_st (fun t k => X.ldcInt C.1 C.2.2.2.1 (mvT C.2.2.2.2.2.2.2.1 w) (g := mkF m pc L S) rfl (hb C.2.1 hd) t k) g
theorem own_ldc2L (C : own_Cx p s m meth c Z n0 own nm bytes ml ret) (X : own_St p l e R s m args below meth c n0 T h cells slots) {i : Nat} {v : Int64} (hd : decode bytes pc = .ok (.ldc2_w i, 3)) (w : (Jvm.Cond.constantLong own i v).before a0 Z = true) (hp : pc + 3 = pc') (g : own_Go p e below n0 F (T.setTop (mkF m pc' L (.long v :: S)))) : own_Go p e below n0 F (T.setTop (mkF m pc L (S))) := by
  obtain ⟨locs, X, -, -⟩ := X; subst hp
  exact own_st (fun t k => X.ldc2Long C.1 C.2.2.2.1 (mvT C.2.2.2.2.2.2.2.1 w) (g := mkF m pc L S) rfl (hb C.2.1 hd) t k) g
theorem own_goto (C : own_Cx p s m meth c Z n0 own nm bytes ml ret) (X : own_St p l e R s m args below meth c n0 T h cells slots) {o : Int} (hd : decode bytes pc = .ok (.goto o, 3)) (ho : 0 ≤ (pc : Int) + o) (hp : ((pc : Int) + o).toNat = pc') (g : own_Go p e below n0 F (T.setTop (mkF m pc' L (S)))) : own_Go p e below n0 F (T.setTop (mkF m pc L (S))) := by
  obtain ⟨locs, X, -, -⟩ := X
  exact own_st (fun t k => XS.goto X.here C.1 rfl rfl (hb C.2.1 hd) ho hp k) g
theorem own_icmp_lt (C : own_Cx p s m meth c Z n0 own nm bytes ml ret) (X : own_St p l e R s m args below meth c n0 T h cells slots) {x y : Int32} {o : Int} (hd : decode bytes pc = .ok (.if_icmp .lt o, 3)) (ho : 0 ≤ (pc : Int) + o) (hq : ((pc : Int) + o).toNat = pcT) (hp : pc + 3 = pc') (gT : x < y → own_Go p e below n0 F (T.setTop (mkF m pcT L (S)))) (gF : ¬ x < y → own_Go p e below n0 F (T.setTop (mkF m pc' L (S)))) : own_Go p e below n0 F (T.setTop (mkF m pc L (.int y :: .int x :: S))) := by
  obtain ⟨locs, X, -, -⟩ := X; subst hp
  by_cases q : x < y
  · exact own_st (fun t k => XS.icmpYes X.here C.1 rfl rfl (hb C.2.1 hd) rfl (tlt q).1 ho hq k) (gT q)
  · exact own_st (fun t k => XS.icmpNo X.here C.1 rfl (hb C.2.1 hd) rfl (flt q).1 k) (gF q)
theorem own_if_lt (C : own_Cx p s m meth c Z n0 own nm bytes ml ret) (X : own_St p l e R s m args below meth c n0 T h cells slots) {x : Int32} {o : Int} (hd : decode bytes pc = .ok (.ifCond .lt o, 3)) (ho : 0 ≤ (pc : Int) + o) (hq : ((pc : Int) + o).toNat = pcT) (hp : pc + 3 = pc') (gT : x < 0 → own_Go p e below n0 F (T.setTop (mkF m pcT L (S)))) (gF : ¬ x < 0 → own_Go p e below n0 F (T.setTop (mkF m pc' L (S)))) : own_Go p e below n0 F (T.setTop (mkF m pc L (.int x :: S))) := by
  obtain ⟨locs, X, -, -⟩ := X; subst hp
  by_cases q : x < 0
  · exact own_st (fun t k => XS.ifYes X.here C.1 rfl rfl (hb C.2.1 hd) rfl ((if0 _ _).trans (tlt q).1) ho hq k) (gT q)
  · exact own_st (fun t k => XS.ifNo X.here C.1 rfl (hb C.2.1 hd) rfl ((if0 _ _).trans (flt q).1) k) (gF q)
theorem own_lcmp_lt (C : own_Cx p s m meth c Z n0 own nm bytes ml ret) (X : own_St p l e R s m args below meth c n0 T h cells slots) {x y : Int64} {o : Int} (hd1 : decode bytes pc = .ok (.lcmp, 1)) (hd : decode bytes (pc + 1) = .ok (.ifCond .lt o, 3)) (ho : 0 ≤ ((pc + 1 : Nat) : Int) + o) (hq : (((pc + 1 : Nat) : Int) + o).toNat = pcT) (hp : pc + 4 = pc') (gT : x < y → own_Go p e below n0 F (T.setTop (mkF m pcT L (S)))) (gF : ¬ x < y → own_Go p e below n0 F (T.setTop (mkF m pc' L (S)))) : own_Go p e below n0 F (T.setTop (mkF m pc L (.long y :: .long x :: S))) := by
  subst hp
  exact own_lcmp C X hd1 rfl rfl (own_if_lt C X hd ho hq rfl (fun q => gT ((lw_lt x y).mp q)) (fun q => gF (fun r => q ((lw_lt x y).mpr r))))
theorem own_icmp_ge (C : own_Cx p s m meth c Z n0 own nm bytes ml ret) (X : own_St p l e R s m args below meth c n0 T h cells slots) {x y : Int32} {o : Int} (hd : decode bytes pc = .ok (.if_icmp .ge o, 3)) (ho : 0 ≤ (pc : Int) + o) (hq : ((pc : Int) + o).toNat = pcT) (hp : pc + 3 = pc') (gT : ¬ x < y → own_Go p e below n0 F (T.setTop (mkF m pcT L (S)))) (gF : x < y → own_Go p e below n0 F (T.setTop (mkF m pc' L (S)))) : own_Go p e below n0 F (T.setTop (mkF m pc L (.int y :: .int x :: S))) := by
  obtain ⟨locs, X, -, -⟩ := X; subst hp
  by_cases q : x < y
  · exact own_st (fun t k => XS.icmpNo X.here C.1 rfl (hb C.2.1 hd) rfl (tlt q).2.1 k) (gF q)
  · exact own_st (fun t k => XS.icmpYes X.here C.1 rfl rfl (hb C.2.1 hd) rfl (flt q).2.1 ho hq k) (gT q)
theorem own_if_ge (C : own_Cx p s m meth c Z n0 own nm bytes ml ret) (X : own_St p l e R s m args below meth c n0 T h cells slots) {x : Int32} {o : Int} (hd : decode bytes pc = .ok (.ifCond .ge o, 3)) (ho : 0 ≤ (pc : Int) + o) (hq : ((pc : Int) + o).toNat = pcT) (hp : pc + 3 = pc') (gT : ¬ x < 0 → own_Go p e below n0 F (T.setTop (mkF m pcT L (S)))) (gF : x < 0 → own_Go p e below n0 F (T.setTop (mkF m pc' L (S)))) : own_Go p e below n0 F (T.setTop (mkF m pc L (.int x :: S))) := by
  obtain ⟨locs, X, -, -⟩ := X; subst hp
  by_cases q : x < 0
  · exact own_st (fun t k => XS.ifNo X.here C.1 rfl (hb C.2.1 hd) rfl ((if0 _ _).trans (tlt q).2.1) k) (gF q)
  · exact own_st (fun t k => XS.ifYes X.here C.1 rfl rfl (hb C.2.1 hd) rfl ((if0 _ _).trans (flt q).2.1) ho hq k) (gT q)
theorem own_lcmp_ge (C : own_Cx p s m meth c Z n0 own nm bytes ml ret) (X : own_St p l e R s m args below meth c n0 T h cells slots) {x y : Int64} {o : Int} (hd1 : decode bytes pc = .ok (.lcmp, 1)) (hd : decode bytes (pc + 1) = .ok (.ifCond .ge o, 3)) (ho : 0 ≤ ((pc + 1 : Nat) : Int) + o) (hq : (((pc + 1 : Nat) : Int) + o).toNat = pcT) (hp : pc + 4 = pc') (gT : ¬ x < y → own_Go p e below n0 F (T.setTop (mkF m pcT L (S)))) (gF : x < y → own_Go p e below n0 F (T.setTop (mkF m pc' L (S)))) : own_Go p e below n0 F (T.setTop (mkF m pc L (.long y :: .long x :: S))) := by
  subst hp
  exact own_lcmp C X hd1 rfl rfl (own_if_ge C X hd ho hq rfl (fun q => gT (fun r => q ((lw_lt x y).mpr r))) (fun q => gF ((lw_lt x y).mp q)))
theorem own_icmp_gt (C : own_Cx p s m meth c Z n0 own nm bytes ml ret) (X : own_St p l e R s m args below meth c n0 T h cells slots) {x y : Int32} {o : Int} (hd : decode bytes pc = .ok (.if_icmp .gt o, 3)) (ho : 0 ≤ (pc : Int) + o) (hq : ((pc : Int) + o).toNat = pcT) (hp : pc + 3 = pc') (gT : y < x → own_Go p e below n0 F (T.setTop (mkF m pcT L (S)))) (gF : ¬ y < x → own_Go p e below n0 F (T.setTop (mkF m pc' L (S)))) : own_Go p e below n0 F (T.setTop (mkF m pc L (.int y :: .int x :: S))) := by
  obtain ⟨locs, X, -, -⟩ := X; subst hp
  by_cases q : y < x
  · exact own_st (fun t k => XS.icmpYes X.here C.1 rfl rfl (hb C.2.1 hd) rfl (tlt q).2.2.1 ho hq k) (gT q)
  · exact own_st (fun t k => XS.icmpNo X.here C.1 rfl (hb C.2.1 hd) rfl (flt q).2.2.1 k) (gF q)
theorem own_if_gt (C : own_Cx p s m meth c Z n0 own nm bytes ml ret) (X : own_St p l e R s m args below meth c n0 T h cells slots) {x : Int32} {o : Int} (hd : decode bytes pc = .ok (.ifCond .gt o, 3)) (ho : 0 ≤ (pc : Int) + o) (hq : ((pc : Int) + o).toNat = pcT) (hp : pc + 3 = pc') (gT : 0 < x → own_Go p e below n0 F (T.setTop (mkF m pcT L (S)))) (gF : ¬ 0 < x → own_Go p e below n0 F (T.setTop (mkF m pc' L (S)))) : own_Go p e below n0 F (T.setTop (mkF m pc L (.int x :: S))) := by
  obtain ⟨locs, X, -, -⟩ := X; subst hp
  by_cases q : 0 < x
  · exact own_st (fun t k => XS.ifYes X.here C.1 rfl rfl (hb C.2.1 hd) rfl ((if0 _ _).trans (tlt q).2.2.1) ho hq k) (gT q)
  · exact own_st (fun t k => XS.ifNo X.here C.1 rfl (hb C.2.1 hd) rfl ((if0 _ _).trans (flt q).2.2.1) k) (gF q)
theorem own_lcmp_gt (C : own_Cx p s m meth c Z n0 own nm bytes ml ret) (X : own_St p l e R s m args below meth c n0 T h cells slots) {x y : Int64} {o : Int} (hd1 : decode bytes pc = .ok (.lcmp, 1)) (hd : decode bytes (pc + 1) = .ok (.ifCond .gt o, 3)) (ho : 0 ≤ ((pc + 1 : Nat) : Int) + o) (hq : (((pc + 1 : Nat) : Int) + o).toNat = pcT) (hp : pc + 4 = pc') (gT : y < x → own_Go p e below n0 F (T.setTop (mkF m pcT L (S)))) (gF : ¬ y < x → own_Go p e below n0 F (T.setTop (mkF m pc' L (S)))) : own_Go p e below n0 F (T.setTop (mkF m pc L (.long y :: .long x :: S))) := by
  subst hp
  exact own_lcmp C X hd1 rfl rfl (own_if_gt C X hd ho hq rfl (fun q => gT ((lw_gt x y).mp q)) (fun q => gF (fun r => q ((lw_gt x y).mpr r))))
theorem own_icmp_le (C : own_Cx p s m meth c Z n0 own nm bytes ml ret) (X : own_St p l e R s m args below meth c n0 T h cells slots) {x y : Int32} {o : Int} (hd : decode bytes pc = .ok (.if_icmp .le o, 3)) (ho : 0 ≤ (pc : Int) + o) (hq : ((pc : Int) + o).toNat = pcT) (hp : pc + 3 = pc') (gT : ¬ y < x → own_Go p e below n0 F (T.setTop (mkF m pcT L (S)))) (gF : y < x → own_Go p e below n0 F (T.setTop (mkF m pc' L (S)))) : own_Go p e below n0 F (T.setTop (mkF m pc L (.int y :: .int x :: S))) := by
  obtain ⟨locs, X, -, -⟩ := X; subst hp
  by_cases q : y < x
  · exact own_st (fun t k => XS.icmpNo X.here C.1 rfl (hb C.2.1 hd) rfl (tlt q).2.2.2 k) (gF q)
  · exact own_st (fun t k => XS.icmpYes X.here C.1 rfl rfl (hb C.2.1 hd) rfl (flt q).2.2.2 ho hq k) (gT q)
theorem own_if_le (C : own_Cx p s m meth c Z n0 own nm bytes ml ret) (X : own_St p l e R s m args below meth c n0 T h cells slots) {x : Int32} {o : Int} (hd : decode bytes pc = .ok (.ifCond .le o, 3)) (ho : 0 ≤ (pc : Int) + o) (hq : ((pc : Int) + o).toNat = pcT) (hp : pc + 3 = pc') (gT : ¬ 0 < x → own_Go p e below n0 F (T.setTop (mkF m pcT L (S)))) (gF : 0 < x → own_Go p e below n0 F (T.setTop (mkF m pc' L (S)))) : own_Go p e below n0 F (T.setTop (mkF m pc L (.int x :: S))) := by
  obtain ⟨locs, X, -, -⟩ := X; subst hp
  by_cases q : 0 < x
  · exact own_st (fun t k => XS.ifNo X.here C.1 rfl (hb C.2.1 hd) rfl ((if0 _ _).trans (tlt q).2.2.2) k) (gF q)
  · exact own_st (fun t k => XS.ifYes X.here C.1 rfl rfl (hb C.2.1 hd) rfl ((if0 _ _).trans (flt q).2.2.2) ho hq k) (gT q)
theorem own_lcmp_le (C : own_Cx p s m meth c Z n0 own nm bytes ml ret) (X : own_St p l e R s m args below meth c n0 T h cells slots) {x y : Int64} {o : Int} (hd1 : decode bytes pc = .ok (.lcmp, 1)) (hd : decode bytes (pc + 1) = .ok (.ifCond .le o, 3)) (ho : 0 ≤ ((pc + 1 : Nat) : Int) + o) (hq : (((pc + 1 : Nat) : Int) + o).toNat = pcT) (hp : pc + 4 = pc') (gT : ¬ y < x → own_Go p e below n0 F (T.setTop (mkF m pcT L (S)))) (gF : y < x → own_Go p e below n0 F (T.setTop (mkF m pc' L (S)))) : own_Go p e below n0 F (T.setTop (mkF m pc L (.long y :: .long x :: S))) := by
  subst hp
  exact own_lcmp C X hd1 rfl rfl (own_if_le C X hd ho hq rfl (fun q => gT (fun r => q ((lw_gt x y).mpr r))) (fun q => gF ((lw_gt x y).mp q)))
theorem own_icmp_eq (C : own_Cx p s m meth c Z n0 own nm bytes ml ret) (X : own_St p l e R s m args below meth c n0 T h cells slots) {x y : Int32} {o : Int} (hd : decode bytes pc = .ok (.if_icmp .eq o, 3)) (ho : 0 ≤ (pc : Int) + o) (hq : ((pc : Int) + o).toNat = pcT) (hp : pc + 3 = pc') (gT : x = y → own_Go p e below n0 F (T.setTop (mkF m pcT L (S)))) (gF : ¬ x = y → own_Go p e below n0 F (T.setTop (mkF m pc' L (S)))) : own_Go p e below n0 F (T.setTop (mkF m pc L (.int y :: .int x :: S))) := by
  obtain ⟨locs, X, -, -⟩ := X; subst hp
  by_cases q : x = y
  · exact own_st (fun t k => XS.icmpYes X.here C.1 rfl rfl (hb C.2.1 hd) rfl (teq q).1 ho hq k) (gT q)
  · exact own_st (fun t k => XS.icmpNo X.here C.1 rfl (hb C.2.1 hd) rfl (feq q).1 k) (gF q)
theorem own_if_eq (C : own_Cx p s m meth c Z n0 own nm bytes ml ret) (X : own_St p l e R s m args below meth c n0 T h cells slots) {x : Int32} {o : Int} (hd : decode bytes pc = .ok (.ifCond .eq o, 3)) (ho : 0 ≤ (pc : Int) + o) (hq : ((pc : Int) + o).toNat = pcT) (hp : pc + 3 = pc') (gT : x = 0 → own_Go p e below n0 F (T.setTop (mkF m pcT L (S)))) (gF : ¬ x = 0 → own_Go p e below n0 F (T.setTop (mkF m pc' L (S)))) : own_Go p e below n0 F (T.setTop (mkF m pc L (.int x :: S))) := by
  obtain ⟨locs, X, -, -⟩ := X; subst hp
  by_cases q : x = 0
  · exact own_st (fun t k => XS.ifYes X.here C.1 rfl rfl (hb C.2.1 hd) rfl ((if0 _ _).trans (teq q).1) ho hq k) (gT q)
  · exact own_st (fun t k => XS.ifNo X.here C.1 rfl (hb C.2.1 hd) rfl ((if0 _ _).trans (feq q).1) k) (gF q)
theorem own_lcmp_eq (C : own_Cx p s m meth c Z n0 own nm bytes ml ret) (X : own_St p l e R s m args below meth c n0 T h cells slots) {x y : Int64} {o : Int} (hd1 : decode bytes pc = .ok (.lcmp, 1)) (hd : decode bytes (pc + 1) = .ok (.ifCond .eq o, 3)) (ho : 0 ≤ ((pc + 1 : Nat) : Int) + o) (hq : (((pc + 1 : Nat) : Int) + o).toNat = pcT) (hp : pc + 4 = pc') (gT : x = y → own_Go p e below n0 F (T.setTop (mkF m pcT L (S)))) (gF : ¬ x = y → own_Go p e below n0 F (T.setTop (mkF m pc' L (S)))) : own_Go p e below n0 F (T.setTop (mkF m pc L (.long y :: .long x :: S))) := by
  subst hp
  exact own_lcmp C X hd1 rfl rfl (own_if_eq C X hd ho hq rfl (fun q => gT ((lw_eq x y).mp q)) (fun q => gF (fun r => q ((lw_eq x y).mpr r))))
theorem own_icmp_ne (C : own_Cx p s m meth c Z n0 own nm bytes ml ret) (X : own_St p l e R s m args below meth c n0 T h cells slots) {x y : Int32} {o : Int} (hd : decode bytes pc = .ok (.if_icmp .ne o, 3)) (ho : 0 ≤ (pc : Int) + o) (hq : ((pc : Int) + o).toNat = pcT) (hp : pc + 3 = pc') (gT : ¬ x = y → own_Go p e below n0 F (T.setTop (mkF m pcT L (S)))) (gF : x = y → own_Go p e below n0 F (T.setTop (mkF m pc' L (S)))) : own_Go p e below n0 F (T.setTop (mkF m pc L (.int y :: .int x :: S))) := by
  obtain ⟨locs, X, -, -⟩ := X; subst hp
  by_cases q : x = y
  · exact own_st (fun t k => XS.icmpNo X.here C.1 rfl (hb C.2.1 hd) rfl (teq q).2 k) (gF q)
  · exact own_st (fun t k => XS.icmpYes X.here C.1 rfl rfl (hb C.2.1 hd) rfl (feq q).2 ho hq k) (gT q)
theorem own_if_ne (C : own_Cx p s m meth c Z n0 own nm bytes ml ret) (X : own_St p l e R s m args below meth c n0 T h cells slots) {x : Int32} {o : Int} (hd : decode bytes pc = .ok (.ifCond .ne o, 3)) (ho : 0 ≤ (pc : Int) + o) (hq : ((pc : Int) + o).toNat = pcT) (hp : pc + 3 = pc') (gT : ¬ x = 0 → own_Go p e below n0 F (T.setTop (mkF m pcT L (S)))) (gF : x = 0 → own_Go p e below n0 F (T.setTop (mkF m pc' L (S)))) : own_Go p e below n0 F (T.setTop (mkF m pc L (.int x :: S))) := by
  obtain ⟨locs, X, -, -⟩ := X; subst hp
  by_cases q : x = 0
  · exact own_st (fun t k => XS.ifNo X.here C.1 rfl (hb C.2.1 hd) rfl ((if0 _ _).trans (teq q).2) k) (gF q)
  · exact own_st (fun t k => XS.ifYes X.here C.1 rfl rfl (hb C.2.1 hd) rfl ((if0 _ _).trans (feq q).2) ho hq k) (gT q)
theorem own_lcmp_ne (C : own_Cx p s m meth c Z n0 own nm bytes ml ret) (X : own_St p l e R s m args below meth c n0 T h cells slots) {x y : Int64} {o : Int} (hd1 : decode bytes pc = .ok (.lcmp, 1)) (hd : decode bytes (pc + 1) = .ok (.ifCond .ne o, 3)) (ho : 0 ≤ ((pc + 1 : Nat) : Int) + o) (hq : (((pc + 1 : Nat) : Int) + o).toNat = pcT) (hp : pc + 4 = pc') (gT : ¬ x = y → own_Go p e below n0 F (T.setTop (mkF m pcT L (S)))) (gF : x = y → own_Go p e below n0 F (T.setTop (mkF m pc' L (S)))) : own_Go p e below n0 F (T.setTop (mkF m pc L (.long y :: .long x :: S))) := by
  subst hp
  exact own_lcmp C X hd1 rfl rfl (own_if_ne C X hd ho hq rfl (fun q => gT (fun r => q ((lw_eq x y).mpr r))) (fun q => gF ((lw_eq x y).mp q)))
theorem own_acmp_eq (C : own_Cx p s m meth c Z n0 own nm bytes ml ret) (X : own_St p l e R s m args below meth c n0 T h cells slots) {v w : Value} {o : Int} (hd : decode bytes pc = .ok (.if_acmp .eq o, 3)) (hv : v.isRef = true) (hw : w.isRef = true) (ho : 0 ≤ (pc : Int) + o) (hq : ((pc : Int) + o).toNat = pcT) (hp : pc + 3 = pc') (gT : v = w → own_Go p e below n0 F (T.setTop (mkF m pcT L (S)))) (gF : ¬ v = w → own_Go p e below n0 F (T.setTop (mkF m pc' L (S)))) : own_Go p e below n0 F (T.setTop (mkF m pc L (w :: v :: S))) := by
  obtain ⟨locs, X, -, -⟩ := X; subst hp
  by_cases q : v = w
  · exact own_st (fun t k => XT.acmpYes X.here C.1 rfl rfl (hb C.2.1 hd) rfl hv hw (XT.aa_eq_t q) ho hq k) (gT q)
  · exact own_st (fun t k => XT.acmpNo X.here C.1 rfl (hb C.2.1 hd) rfl hv hw (XT.aa_eq_f q) k) (gF q)
theorem own_acmp_ne (C : own_Cx p s m meth c Z n0 own nm bytes ml ret) (X : own_St p l e R s m args below meth c n0 T h cells slots) {v w : Value} {o : Int} (hd : decode bytes pc = .ok (.if_acmp .ne o, 3)) (hv : v.isRef = true) (hw : w.isRef = true) (ho : 0 ≤ (pc : Int) + o) (hq : ((pc : Int) + o).toNat = pcT) (hp : pc + 3 = pc') (gT : ¬ v = w → own_Go p e below n0 F (T.setTop (mkF m pcT L (S)))) (gF : v = w → own_Go p e below n0 F (T.setTop (mkF m pc' L (S)))) : own_Go p e below n0 F (T.setTop (mkF m pc L (w :: v :: S))) := by
  obtain ⟨locs, X, -, -⟩ := X; subst hp
  by_cases q : v = w
  · exact own_st (fun t k => XT.acmpNo X.here C.1 rfl (hb C.2.1 hd) rfl hv hw (XT.aa_ne_f q) k) (gF q)
  · exact own_st (fun t k => XT.acmpYes X.here C.1 rfl rfl (hb C.2.1 hd) rfl hv hw (XT.aa_ne_t q) ho hq k) (gT q)
theorem own_ireturn {z : Int32} (C : own_Cx p s m meth c Z n0 own nm bytes ml (some .int)) (X : own_St p l e R s m args below meth c n0 T h cells slots) (hd : decode bytes pc = .ok (.ireturn, 1))  (hc : cells ≤ R.cells) (hs : slots ≤ R.slots) (hq : Q (some (.int z)) h) : own_Go p e below n0 (own_Fin R s Q) (T.setTop (mkF m pc L (.int z :: S))) := by
  obtain ⟨locs, X, N, rfl⟩ := X
  have hlk : meth.locks = false := C.2.2.2.2.2.2.1
  obtain ⟨fs, hr, hrun, hended, hW, hsame⟩ := X.leave (v := some (.int z)) (fun h => by rw [C.2.2.2.2.2.1] at h; cases h) hlk
  exact ⟨_, _, locs, retOut X C.1 C.2.2.2.2.2.1 rfl (Or.inl ⟨rfl, by simp, _, rfl⟩) (hb C.2.1 hd) hr, hrun, hended, N, hq, ⟨_, rfl⟩, hW, hsame.mono hc hs⟩
theorem own_ireturn_z {z : Int32} (C : own_Cx p s m meth c Z n0 own nm bytes ml (some .boolean)) (X : own_St p l e R s m args below meth c n0 T h cells slots) (hd : decode bytes pc = .ok (.ireturn, 1))  (hc : cells ≤ R.cells) (hs : slots ≤ R.slots) (hq : Q (some (.int (nar .boolean z))) h) : own_Go p e below n0 (own_Fin R s Q) (T.setTop (mkF m pc L (.int z :: S))) := by
  obtain ⟨locs, X, N, rfl⟩ := X
  have hlk : meth.locks = false := C.2.2.2.2.2.2.1
  obtain ⟨fs, hr, hrun, hended, hW, hsame⟩ := X.leave (v := some (.int (nar .boolean z))) (fun h => by rw [C.2.2.2.2.2.1] at h; cases h) hlk
  exact ⟨_, _, locs, retN X C.1 (t := .boolean) C.2.2.2.2.2.1 (by simp) (hb C.2.1 hd) hr, hrun, hended, N, hq, ⟨_, rfl⟩, hW, hsame.mono hc hs⟩
theorem own_ireturn_b {z : Int32} (C : own_Cx p s m meth c Z n0 own nm bytes ml (some .byte)) (X : own_St p l e R s m args below meth c n0 T h cells slots) (hd : decode bytes pc = .ok (.ireturn, 1))  (hc : cells ≤ R.cells) (hs : slots ≤ R.slots) (hq : Q (some (.int (nar .byte z))) h) : own_Go p e below n0 (own_Fin R s Q) (T.setTop (mkF m pc L (.int z :: S))) := by
  obtain ⟨locs, X, N, rfl⟩ := X
  have hlk : meth.locks = false := C.2.2.2.2.2.2.1
  obtain ⟨fs, hr, hrun, hended, hW, hsame⟩ := X.leave (v := some (.int (nar .byte z))) (fun h => by rw [C.2.2.2.2.2.1] at h; cases h) hlk
  exact ⟨_, _, locs, retN X C.1 (t := .byte) C.2.2.2.2.2.1 (by simp) (hb C.2.1 hd) hr, hrun, hended, N, hq, ⟨_, rfl⟩, hW, hsame.mono hc hs⟩
theorem own_ireturn_c {z : Int32} (C : own_Cx p s m meth c Z n0 own nm bytes ml (some .char)) (X : own_St p l e R s m args below meth c n0 T h cells slots) (hd : decode bytes pc = .ok (.ireturn, 1))  (hc : cells ≤ R.cells) (hs : slots ≤ R.slots) (hq : Q (some (.int (nar .char z))) h) : own_Go p e below n0 (own_Fin R s Q) (T.setTop (mkF m pc L (.int z :: S))) := by
  obtain ⟨locs, X, N, rfl⟩ := X
  have hlk : meth.locks = false := C.2.2.2.2.2.2.1
  obtain ⟨fs, hr, hrun, hended, hW, hsame⟩ := X.leave (v := some (.int (nar .char z))) (fun h => by rw [C.2.2.2.2.2.1] at h; cases h) hlk
  exact ⟨_, _, locs, retN X C.1 (t := .char) C.2.2.2.2.2.1 (by simp) (hb C.2.1 hd) hr, hrun, hended, N, hq, ⟨_, rfl⟩, hW, hsame.mono hc hs⟩
theorem own_lreturn {z : Int64} (C : own_Cx p s m meth c Z n0 own nm bytes ml (some .long)) (X : own_St p l e R s m args below meth c n0 T h cells slots) (hd : decode bytes pc = .ok (.lreturn, 1))  (hc : cells ≤ R.cells) (hs : slots ≤ R.slots) (hq : Q (some (.long z)) h) : own_Go p e below n0 (own_Fin R s Q) (T.setTop (mkF m pc L (.long z :: S))) := by
  obtain ⟨locs, X, N, rfl⟩ := X
  have hlk : meth.locks = false := C.2.2.2.2.2.2.1
  obtain ⟨fs, hr, hrun, hended, hW, hsame⟩ := X.leave (v := some (.long z)) (fun h => by rw [C.2.2.2.2.2.1] at h; cases h) hlk
  exact ⟨_, _, locs, retOut X C.1 C.2.2.2.2.2.1 rfl (Or.inr (Or.inl ⟨rfl, rfl, _, rfl⟩)) (hb C.2.1 hd) hr, hrun, hended, N, hq, ⟨_, rfl⟩, hW, hsame.mono hc hs⟩
theorem own_areturn {v : Value} {ty : FieldType} (C : own_Cx p s m meth c Z n0 own nm bytes ml (some ty)) (X : own_St p l e R s m args below meth c n0 T h cells slots) (hd : decode bytes pc = .ok (.areturn, 1)) (ht : ty.isReference = true) (hv : v.isRef = true) (hn : narrow ty v = v) (hc : cells ≤ R.cells) (hs : slots ≤ R.slots) (hq : Q (some v) h) : own_Go p e below n0 (own_Fin R s Q) (T.setTop (mkF m pc L (v :: S))) := by
  obtain ⟨locs, X, N, rfl⟩ := X
  have hlk : meth.locks = false := C.2.2.2.2.2.2.1
  obtain ⟨fs, hr, hrun, hended, hW, hsame⟩ := X.leave (v := some v) (fun h => by rw [C.2.2.2.2.2.1] at h; cases h) hlk
  exact ⟨_, _, locs, retOut X C.1 C.2.2.2.2.2.1 hn (Or.inr (Or.inr (Or.inr (Or.inr ⟨rfl, ht, hv⟩)))) (hb C.2.1 hd) hr, hrun, hended, N, hq, ⟨_, rfl⟩, hW, hsame.mono hc hs⟩
theorem own_return  (C : own_Cx p s m meth c Z n0 own nm bytes ml (none)) (X : own_St p l e R s m args below meth c n0 T h cells slots) (hd : decode bytes pc = .ok (.return_, 1))  (hc : cells ≤ R.cells) (hs : slots ≤ R.slots) (hq : Q (none) h) : own_Go p e below n0 (own_Fin R s Q) (T.setTop (mkF m pc L ([]))) := by
  obtain ⟨locs, X, N, rfl⟩ := X
  have hlk : meth.locks = false := C.2.2.2.2.2.2.1
  obtain ⟨fs, hr, hrun, hended, hW, hsame⟩ := X.leave (v := none) (fun _ => rfl) hlk
  exact ⟨_, _, locs, X.returnOut C.1 C.2.2.2.2.2.1 (hb C.2.1 hd) hr, hrun, hended, N, hq, ⟨_, rfl⟩, hW, hsame.mono hc hs⟩
end OwnKit
end Jvm.Pilot.@@N@@
namespace Jvm.Pilot.@@N@@
open Jvm Jvm.ClassFile Sem Op Lib Jvm.Free Jvm.Stand Jvm.LawKit Jvm.RoadKit Bundle Jvm.Pilot.@@N@@.Jvm.D
section OwnKitTwo
variable {p : Program} {l : Launch} {e : Env} {R : Room} {s : State} {m : MethodId} {args : Array Value} {below : List Frame} {meth : Method} {c : Code} {T : State} {cells slots : Nat} {Z : State} {a0 : Array Value} {h h' : Heap} {n0 : Nat} {own nm : String} {bytes : ByteArray} {ml : Nat} {ret : Option FieldType} {F : Option Value → State → List Loc → Prop} {pc pc' pcT : Nat} {L L' : Array Slot} {S : List Value} {a b : Addr} {ty : FieldType} {ws : List Addr}
/-! arrays by their lists -/
def own_IA (Z : State) (h : Heap) (a : Addr) (ty : FieldType) (xs : List Int32) : Prop := ∃ c : Cell, Arr Z h a c ty ∧ c.slots.toList = xs.map Value.int ∧ xs.length < 2 ^ 31 ∧ ∀ x ∈ xs, fits ty (.int x) = true
def own_JA (Z : State) (h : Heap) (a : Addr) (xs : List Int64) : Prop := ∃ c : Cell, Arr Z h a c .long ∧ c.slots.toList = xs.map Value.long ∧ xs.length < 2 ^ 31
theorem own_IA.keep {xs : List Int32} (A : own_IA Z h a ty xs) (K : Keep h h' ws) (q : a ∉ ws) : own_IA Z h' a ty xs := by
  obtain ⟨c, A, r⟩ := A; exact ⟨c, ⟨K.2.1 a c A.1 q, A.2⟩, r⟩
theorem own_JA.keep {xs : List Int64} (A : own_JA Z h a xs) (K : Keep h h' ws) (q : a ∉ ws) : own_JA Z h' a xs := by
  obtain ⟨c, A, r⟩ := A; exact ⟨c, ⟨K.2.1 a c A.1 q, A.2⟩, r⟩
theorem own_IA.lt {xs : List Int32} (A : own_IA Z h a ty xs) : a < h.size := by obtain ⟨c, A, r⟩ := A; exact A.lt
theorem own_JA.lt {xs : List Int64} (A : own_JA Z h a xs) : a < h.size := by obtain ⟨c, A, r⟩ := A; exact A.lt
theorem own_ix {j : Int32} {i : Nat} (hj : j.toInt = (i : Int)) : ¬ j < 0 ∧ j.toNatClampNeg = i := by
  refine ⟨?_, ?_⟩
  · rw [Int32.lt_iff_toInt_lt, hj]; show ¬ (i : Int) < 0; omega
  · simp only [Int32.toNatClampNeg, hj, Int.toNat_natCast]
theorem own_sz {α : Type} {f : α → Value} {c : Cell} {xs : List α} (e : c.slots.toList = xs.map f) : c.slots.size = xs.length := by
  have := congrArg List.length e; simpa using this
theorem own_in {α : Type} {f : α → Value} {c : Cell} {xs : List α} (e : c.slots.toList = xs.map f) {j : Int32} {i : Nat} (hj : j.toInt = (i : Int)) (hi : i < xs.length) : ¬ (j < 0 ∨ c.slots.size ≤ j.toNatClampNeg) := by
  obtain ⟨q1, q2⟩ := own_ix hj
  rw [own_sz e, q2]
  exact fun q => q.elim q1 (fun q => Nat.lt_irrefl _ (Nat.lt_of_lt_of_le hi q))
theorem own_at {α : Type} {f : α → Value} {c : Cell} {xs : List α} (e : c.slots.toList = xs.map f) {j : Int32} {i : Nat} (hj : j.toInt = (i : Int)) {v : α} (hv : xs[i]? = some v) : c.slots[j.toNatClampNeg]? = some (f v) := by
  rw [(own_ix hj).2, ← Array.getElem?_toList, e, List.getElem?_map, hv]; rfl
theorem own_lt_of {α : Type} {xs : List α} {i : Nat} {v : α} (hv : xs[i]? = some v) : i < xs.length := (List.getElem?_eq_some_iff.mp hv).1
theorem own_set {α : Type} {f : α → Value} {c : Cell} {xs : List α} (e : c.slots.toList = xs.map f) {j : Int32} {i : Nat} (hj : j.toInt = (i : Int)) {v : α} : (c.setSlot j.toNatClampNeg (f v)).slots.toList = (xs.set i v).map f := by
  rw [(own_ix hj).2]; simp only [Cell.setSlot, Array.toList_setIfInBounds, e, List.map_set]
theorem own_iaload (C : own_Cx p s m meth c Z n0 own nm bytes ml ret) (X : own_St p l e R s m args below meth c n0 T h cells slots) {j v : Int32} {i : Nat} {xs : List Int32} (hd : decode bytes pc = .ok (.iaload, 1)) (A : own_IA Z h a .int xs) (hj : j.toInt = (i : Int)) (hv : xs[i]? = some v) (hp : pc + 1 = pc')
    (g : own_Go p e below n0 F (T.setTop (mkF m pc' L (.int v :: S)))) : own_Go p e below n0 F (T.setTop (mkF m pc L (.int j :: .ref a :: S))) := by
  obtain ⟨locs, X, -, rfl⟩ := X; subst hp; obtain ⟨cl, A, ec, -⟩ := A
  exact own_st (fun t k => X.iaload C.1 A.1 (State.isArrayOf_alike C.2.2.2.2.2.2.2.1.alike A.2.1) A.2.2 (own_in ec hj (own_lt_of hv)) (own_at ec hj hv) (g := mkF m pc L (.int j :: .ref a :: S)) rfl rfl (hb C.2.1 hd) t k) g
theorem own_baload (C : own_Cx p s m meth c Z n0 own nm bytes ml ret) (X : own_St p l e R s m args below meth c n0 T h cells slots) {j v : Int32} {i : Nat} {xs : List Int32} (hd : decode bytes pc = .ok (.baload, 1)) (A : own_IA Z h a .byte xs) (hj : j.toInt = (i : Int)) (hv : xs[i]? = some v) (hp : pc + 1 = pc')
    (g : own_Go p e below n0 F (T.setTop (mkF m pc' L (.int v :: S)))) : own_Go p e below n0 F (T.setTop (mkF m pc L (.int j :: .ref a :: S))) := by
  obtain ⟨locs, X, -, rfl⟩ := X; subst hp; obtain ⟨cl, A, ec, -⟩ := A
  exact own_st (fun t k => X.baloadBytes C.1 A.1 (State.isArrayOf_alike C.2.2.2.2.2.2.2.1.alike A.2.1) A.2.2 (own_in ec hj (own_lt_of hv)) (own_at ec hj hv) (g := mkF m pc L (.int j :: .ref a :: S)) rfl rfl (hb C.2.1 hd) t k) g
theorem own_laload (C : own_Cx p s m meth c Z n0 own nm bytes ml ret) (X : own_St p l e R s m args below meth c n0 T h cells slots) {j : Int32} {v : Int64} {i : Nat} {xs : List Int64} (hd : decode bytes pc = .ok (.laload, 1)) (A : own_JA Z h a xs) (hj : j.toInt = (i : Int)) (hv : xs[i]? = some v) (hp : pc + 1 = pc')
    (g : own_Go p e below n0 F (T.setTop (mkF m pc' L (.long v :: S)))) : own_Go p e below n0 F (T.setTop (mkF m pc L (.int j :: .ref a :: S))) := by
  obtain ⟨locs, X, -, rfl⟩ := X; subst hp; obtain ⟨cl, A, ec, -⟩ := A
  exact own_st (fun t k => X.laload C.1 A.1 (State.isArrayOf_alike C.2.2.2.2.2.2.2.1.alike A.2.1) A.2.2 (own_in ec hj (own_lt_of hv)) (own_at ec hj hv) (g := mkF m pc L (.int j :: .ref a :: S)) rfl rfl (hb C.2.1 hd) t k) g
theorem own_len {α : Type} {f : α → Value} {c : Cell} {xs : List α} (e : c.slots.toList = xs.map f) (hb : xs.length < 2 ^ 31) {n : Int32} (hn : n.toInt = (xs.length : Int)) : c.slots.size.toInt32 = n := by
  rw [own_sz e]; exact Int32.toInt_inj.mp (by rw [len_toInt hb, hn])
theorem own_alenI (C : own_Cx p s m meth c Z n0 own nm bytes ml ret) (X : own_St p l e R s m args below meth c n0 T h cells slots) {n : Int32} {xs : List Int32} (hd : decode bytes pc = .ok (.arraylength, 1)) (A : own_IA Z h a ty xs) (hn : n.toInt = (xs.length : Int)) (hp : pc + 1 = pc')
    (g : own_Go p e below n0 F (T.setTop (mkF m pc' L (.int n :: S)))) : own_Go p e below n0 F (T.setTop (mkF m pc L (.ref a :: S))) := by
  obtain ⟨locs, X, -, rfl⟩ := X; subst hp; obtain ⟨cl, A, ec, hb1, -⟩ := A
  have := own_len ec hb1 hn; subst this
  exact own_st (fun t k => X.arraylength C.1 A.1 (State.isArrayOf_alike C.2.2.2.2.2.2.2.1.alike A.2.1) (g := mkF m pc L (.ref a :: S)) rfl rfl (hb C.2.1 hd) t k) g
theorem own_alenJ (C : own_Cx p s m meth c Z n0 own nm bytes ml ret) (X : own_St p l e R s m args below meth c n0 T h cells slots) {n : Int32} {xs : List Int64} (hd : decode bytes pc = .ok (.arraylength, 1)) (A : own_JA Z h a xs) (hn : n.toInt = (xs.length : Int)) (hp : pc + 1 = pc')
    (g : own_Go p e below n0 F (T.setTop (mkF m pc' L (.int n :: S)))) : own_Go p e below n0 F (T.setTop (mkF m pc L (.ref a :: S))) := by
  obtain ⟨locs, X, -, rfl⟩ := X; subst hp; obtain ⟨cl, A, ec, hb1⟩ := A
  have := own_len ec hb1 hn; subst this
  exact own_st (fun t k => X.arraylength C.1 A.1 (State.isArrayOf_alike C.2.2.2.2.2.2.2.1.alike A.2.1) (g := mkF m pc L (.ref a :: S)) rfl rfl (hb C.2.1 hd) t k) g
theorem own_fitset {xs : List Int32} {i : Nat} {v : Int32} (hf : ∀ x ∈ xs, fits ty (.int x) = true) (hv : fits ty (.int v) = true) : ∀ x ∈ xs.set i v, fits ty (.int x) = true := fun x hx =>
  (List.mem_or_eq_of_mem_set hx).elim (hf x) (fun q => q ▸ hv)
theorem own_bastore (C : own_Cx p s m meth c Z n0 own nm bytes ml ret) (X : own_St p l e R s m args below meth c n0 T h cells slots) {j x v : Int32} {i : Nat} {xs : List Int32} (hd : decode bytes pc = .ok (.bastore, 1)) (A : own_IA Z h a .byte xs) (hj : j.toInt = (i : Int)) (hi : i < xs.length) (hx : x.toInt8.toInt32 = v) (ha : n0 ≤ a) (hp : pc + 1 = pc')
    (g : ∀ T' h', own_St p l e R s m args below meth c n0 T' h' cells slots → Keep h h' [a] → own_IA Z h' a .byte (xs.set i v) → own_Go p e below n0 F (T'.setTop (mkF m pc' L S))) : own_Go p e below n0 F (T.setTop (mkF m pc L (.int x :: .int j :: .ref a :: S))) := by
  obtain ⟨locs, X, N, e0⟩ := X; subst hp; subst hx; obtain ⟨cl, A, ec, hl, hf⟩ := A
  obtain ⟨T', h2, X', e', W, st⟩ := stB X C.1 C.2.2.2.2.2.2.2.1 e0 A (own_in ec hj hi) (g := mkF m pc L (.int x :: .int j :: .ref a :: S)) rfl rfl (hb C.2.1 hd)
  exact own_st st (g T' h2 ⟨_, X', Fr.snoc X' N ha, e'⟩ (Keep.of_wr W) ⟨_, A.same W, own_set ec hj, by simpa using hl, own_fitset hf (fits_nar_byte x)⟩)
theorem own_iastore (C : own_Cx p s m meth c Z n0 own nm bytes ml ret) (X : own_St p l e R s m args below meth c n0 T h cells slots) {j x : Int32} {i : Nat} {xs : List Int32} (hd : decode bytes pc = .ok (.iastore, 1)) (A : own_IA Z h a .int xs) (hj : j.toInt = (i : Int)) (hi : i < xs.length) (ha : n0 ≤ a) (hp : pc + 1 = pc')
    (g : ∀ T' h', own_St p l e R s m args below meth c n0 T' h' cells slots → Keep h h' [a] → own_IA Z h' a .int (xs.set i x) → own_Go p e below n0 F (T'.setTop (mkF m pc' L S))) : own_Go p e below n0 F (T.setTop (mkF m pc L (.int x :: .int j :: .ref a :: S))) := by
  obtain ⟨locs, X, N, e0⟩ := X; subst hp; obtain ⟨cl, A, ec, hl, hf⟩ := A
  obtain ⟨T', h2, X', e', W, st⟩ := stI X C.1 C.2.2.2.2.2.2.2.1 e0 A (own_in ec hj hi) (g := mkF m pc L (.int x :: .int j :: .ref a :: S)) rfl rfl (hb C.2.1 hd)
  exact own_st st (g T' h2 ⟨_, X', Fr.snoc X' N ha, e'⟩ (Keep.of_wr W) ⟨_, A.same W, own_set ec hj, by simpa using hl, own_fitset hf rfl⟩)
theorem own_lastore (C : own_Cx p s m meth c Z n0 own nm bytes ml ret) (X : own_St p l e R s m args below meth c n0 T h cells slots) {j : Int32} {x : Int64} {i : Nat} {xs : List Int64} (hd : decode bytes pc = .ok (.lastore, 1)) (A : own_JA Z h a xs) (hj : j.toInt = (i : Int)) (hi : i < xs.length) (ha : n0 ≤ a) (hp : pc + 1 = pc')
    (g : ∀ T' h', own_St p l e R s m args below meth c n0 T' h' cells slots → Keep h h' [a] → own_JA Z h' a (xs.set i x) → own_Go p e below n0 F (T'.setTop (mkF m pc' L S))) : own_Go p e below n0 F (T.setTop (mkF m pc L (.long x :: .int j :: .ref a :: S))) := by
  obtain ⟨locs, X, N, e0⟩ := X; subst hp; obtain ⟨cl, A, ec, hl⟩ := A
  obtain ⟨T', h2, X', e', W, st⟩ := stJ X C.1 C.2.2.2.2.2.2.2.1 e0 A (own_in ec hj hi) (g := mkF m pc L (.long x :: .int j :: .ref a :: S)) rfl rfl (hb C.2.1 hd)
  exact own_st st (g T' h2 ⟨_, X', Fr.snoc X' N ha, e'⟩ (Keep.of_wr W) ⟨_, A.same W, own_set ec hj, by simpa using hl⟩)
theorem own_keep_ext (E : Ext h h') : Keep h h' [] := (Keep.refl h []).ext E
theorem own_newI (C : own_Cx p s m meth c Z n0 own nm bytes ml ret) (X : own_St p l e R s m args below meth c n0 T h cells slots) {aty : ArrayType} {n : Int32} {k cap : Nat} (hd : decode bytes pc = .ok (.newarray aty, 2)) (hty : newarray.typeOf aty = ty) (w : (Jvm.Cond.arrayClass ty).before a0 Z = true) (hn : n.toInt = (k : Int)) (hcap : k ≤ cap) (hb8 : cap * 8 ≤ 536870912)
    (hc : cells + 1 ≤ R.cells) (hs : slots + cap ≤ R.slots) (hdef : defaultValue ty = .int 0) (hfit : fits ty (.int 0) = true) (hp : pc + 2 = pc')
    (g : ∀ T' h' a, a = h.size → own_St p l e R s m args below meth c n0 T' h' (cells + 1) (slots + cap) → Keep h h' [] → n0 ≤ a → own_IA Z h' a ty (List.replicate k 0) → own_Go p e below n0 F (T'.setTop (mkF m pc' L (.ref a :: S)))) : own_Go p e below n0 F (T.setTop (mkF m pc L (.int n :: S))) := by
  have hbig := own_big C X
  obtain ⟨locs, X, N, e0⟩ := X; subst hp; subst hty
  obtain ⟨q1, q2⟩ := own_ix hn
  obtain ⟨T', h2, cA, X', e', E, A, st⟩ := newP X C.1 C.2.2.2.2.2.2.2.1 w e0 (g := mkF m pc L (.int n :: S)) rfl (hb C.2.1 hd) rfl q1 (cap := cap) (by rw [q2]; exact hcap) hb8 hc hs
  refine own_st st (g T' h2 _ rfl ⟨_, X', N, e'⟩ (own_keep_ext E) hbig ⟨_, A, ?_, ?_, ?_⟩)
  · simp [newA, q2, hdef]
  · have := n.toInt_lt; simp only [List.length_replicate]; omega
  · intro x hx; obtain ⟨-, rfl⟩ := List.mem_replicate.mp hx; exact hfit
theorem own_newJ (C : own_Cx p s m meth c Z n0 own nm bytes ml ret) (X : own_St p l e R s m args below meth c n0 T h cells slots) {n : Int32} {k cap : Nat} (hd : decode bytes pc = .ok (.newarray .long, 2)) (w : (Jvm.Cond.arrayClass .long).before a0 Z = true) (hn : n.toInt = (k : Int)) (hcap : k ≤ cap) (hb8 : cap * 8 ≤ 536870912)
    (hc : cells + 1 ≤ R.cells) (hs : slots + cap ≤ R.slots) (hp : pc + 2 = pc')
    (g : ∀ T' h' a, a = h.size → own_St p l e R s m args below meth c n0 T' h' (cells + 1) (slots + cap) → Keep h h' [] → n0 ≤ a → own_JA Z h' a (List.replicate k 0) → own_Go p e below n0 F (T'.setTop (mkF m pc' L (.ref a :: S)))) : own_Go p e below n0 F (T.setTop (mkF m pc L (.int n :: S))) := by
  have hbig := own_big C X
  obtain ⟨locs, X, N, e0⟩ := X; subst hp
  obtain ⟨q1, q2⟩ := own_ix hn
  obtain ⟨T', h2, cA, X', e', E, A, st⟩ := newP (aty := .long) X C.1 C.2.2.2.2.2.2.2.1 w e0 (g := mkF m pc L (.int n :: S)) rfl (hb C.2.1 hd) rfl q1 (cap := cap) (by rw [q2]; exact hcap) hb8 hc hs
  refine own_st st (g T' h2 _ rfl ⟨_, X', N, e'⟩ (own_keep_ext E) hbig ⟨_, A, ?_, ?_⟩)
  · simp [newA, q2, defaultValue, newarray.typeOf]
  · have := n.toInt_lt; simp only [List.length_replicate]; omega
/-! objects by the list of their fields: name, descriptor, value -/
def own_Ob (Z : State) (a0 : Array Value) (h : Heap) (a : Addr) (K : String) (fs : List (String × String × Value)) : Prop :=
  Exa Z h a K ∧ (fs.map (·.1)).Nodup ∧ ∀ f ∈ fs, Fld Z h a K f.1 f.2.1 f.2.2 ∧ Laid Z a0 K K f.1 f.2.1 ∧ ∃ t, parseFieldDescriptor f.2.1 = some t
theorem own_Ob.keep {K : String} {fs : List (String × String × Value)} (O : own_Ob Z a0 h a K fs) (W : Keep h h' ws) (q : a ∉ ws) : own_Ob Z a0 h' a K fs :=
  ⟨O.1.keep W, O.2.1, fun f hf => ⟨(O.2.2 f hf).1.keep W q, (O.2.2 f hf).2⟩⟩
theorem own_Ob.lt {K : String} {fs : List (String × String × Value)} (O : own_Ob Z a0 h a K fs) : a < h.size := O.1.lt
theorem own_Ob.put {K n d : String} {fs : List (String × String × Value)} {v w : Value} {i : Nat} (O : own_Ob Z a0 h a K fs) (hi : fs[i]? = some (n, d, w)) (W : Wr h h' a (Jvm.RoadKit.slotOf Z K n d) v) : own_Ob Z a0 h' a K (fs.set i (n, d, v)) := by
  obtain ⟨hlt, hget⟩ := List.getElem?_eq_some_iff.mp hi
  have hmem : (n, d, w) ∈ fs := hget ▸ List.getElem_mem hlt
  have hnames : (fs.set i (n, d, v)).map (·.1) = fs.map (·.1) := by
    rw [List.map_set]
    apply List.ext_getElem? ; intro k
    by_cases hk : i = k
    · subst hk; rw [List.getElem?_set_self (by simpa using hlt), List.getElem?_map, hi]; rfl
    · rw [List.getElem?_set_ne hk]
  refine ⟨O.1.wr W, by rw [hnames]; exact O.2.1, fun f hf => ?_⟩
  obtain ⟨k, hk, hfk⟩ := List.getElem_of_mem hf
  have hk' : (fs.set i (n, d, v))[k]? = some f := List.getElem?_eq_some_iff.mpr ⟨hk, hfk⟩
  by_cases hik : i = k
  · subst hik
    rw [List.getElem?_set_self hlt] at hk'; cases hk'
    exact ⟨(O.2.2 _ hmem).1.same W, (O.2.2 _ hmem).2⟩
  · rw [List.getElem?_set_ne hik] at hk'
    obtain ⟨hlk, hgk⟩ := List.getElem?_eq_some_iff.mp hk'
    have hfm : f ∈ fs := hgk ▸ List.getElem_mem hlk
    obtain ⟨F, La, t, ht⟩ := O.2.2 f hfm
    obtain ⟨-, La', t', ht'⟩ := O.2.2 _ hmem
    refine ⟨F.other W (Or.inr (slot_ne La La' (fun hne => ?_) ht ht')), La, t, ht⟩
    have hnd := List.pairwise_iff_getElem.mp O.2.1
    rcases Nat.lt_or_gt_of_ne hik with q | q
    · exact hnd i k (by simpa using hlt) (by simpa using hlk) q (by simp [hget, hgk, hne])
    · exact hnd k i (by simpa using hlk) (by simpa using hlt) q (by simp [hget, hgk, hne])
theorem own_Ob.get {K n d : String} {fs : List (String × String × Value)} {v : Value} {i : Nat} (O : own_Ob Z a0 h a K fs) (hi : fs[i]? = some (n, d, v)) : Fld Z h a K n d v := by
  obtain ⟨hlt, hget⟩ := List.getElem?_eq_some_iff.mp hi
  exact (O.2.2 (n, d, v) (hget ▸ List.getElem_mem hlt)).1
theorem own_getfield (C : own_Cx p s m meth c Z n0 own nm bytes ml ret) (X : own_St p l e R s m args below meth c n0 T h cells slots) {K n d : String} {idx i : Nat} {fs : List (String × String × Value)} {v : Value} (hd : decode bytes pc = .ok (.getfield idx, 3)) (w : (Jvm.Cond.fieldLink own idx K n d).before a0 Z = true) (O : own_Ob Z a0 h a K fs) (hi : fs[i]? = some (n, d, v)) (hp : pc + 3 = pc')
    (g : ∀ T', own_St p l e R s m args below meth c n0 T' h cells slots → own_Go p e below n0 F (T'.setTop (mkF m pc' L (v :: S)))) : own_Go p e below n0 F (T.setTop (mkF m pc L (.ref a :: S))) := by
  obtain ⟨locs, X, N, e0⟩ := X; subst hp
  obtain ⟨T', X', e', st⟩ := getF X C.1 C.2.2.2.2.2.2.2.1 C.2.2.2.1 (host := "") (Or.inl w) Via.refl e0 (O.get hi) (g := mkF m pc L (.ref a :: S)) rfl rfl (hb C.2.1 hd)
  exact own_st st (g T' ⟨_, X', N, e'⟩)
theorem own_putfield (C : own_Cx p s m meth c Z n0 own nm bytes ml ret) (X : own_St p l e R s m args below meth c n0 T h cells slots) {K n d : String} {idx i kk : Nat} {fs : List (String × String × Value)} {v old : Value} (hd : decode bytes pc = .ok (.putfield idx, 3)) (w : (Jvm.Cond.fieldLink own idx K n d).before a0 Z = true)
    (lay : (Jvm.Cond.lays K K n d).before a0 Z = true ∨ ((Jvm.Cond.laysFinal K K n d).before a0 Z = true ∧ own = K ∧ nm = "<init>")) (wi : (Jvm.Cond.instantiable K kk).before a0 Z = true) (O : own_Ob Z a0 h a K fs) (hi : fs[i]? = some (n, d, old)) (hty : parseFieldDescriptor d = some ty) (hn : narrow ty v = v) (hf : fits ty v = true) (ha : n0 ≤ a) (hp : pc + 3 = pc')
    (g : ∀ T' h', own_St p l e R s m args below meth c n0 T' h' cells slots → Keep h h' [a] → own_Ob Z a0 h' a K (fs.set i (n, d, v)) → own_Go p e below n0 F (T'.setTop (mkF m pc' L S))) : own_Go p e below n0 F (T.setTop (mkF m pc L (v :: .ref a :: S))) := by
  obtain ⟨locs, X, N, e0⟩ := X; subst hp
  obtain ⟨T', h2, X', e', W, st⟩ := putF X C.1 C.2.2.2.2.2.2.2.1 C.2.2.2.1 (host := "") (Or.inl w) Via.refl e0 (O.get hi) O.1 (lay.imp id (fun q => ⟨q.1, q.2.1, C.2.2.2.2.1.trans q.2.2⟩)) wi hty hn hf (g := mkF m pc L (v :: .ref a :: S)) rfl rfl (hb C.2.1 hd)
  exact own_st st (g T' h2 ⟨_, X', Fr.snoc X' N ha, e'⟩ (Keep.of_wr W) (O.put hi W))
theorem own_new (C : own_Cx p s m meth c Z n0 own nm bytes ml ret) (X : own_St p l e R s m args below meth c n0 T h cells slots) {K : String} {idx k : Nat} (hd : decode bytes pc = .ok (.new idx, 3)) (w : (Jvm.Cond.classLink own idx K).before a0 Z = true) (wi : (Jvm.Cond.instantiable K k).before a0 Z = true) (wz : (Jvm.Cond.initialized K).before a0 Z = true)
    (hc : cells + 1 ≤ R.cells) (hs : slots + k ≤ R.slots) (fs : List (String × String × Value)) (hnd : (fs.map (·.1)).Nodup) (hfs : ∀ f ∈ fs, Laid Z a0 K K f.1 f.2.1 ∧ ∃ t, parseFieldDescriptor f.2.1 = some t ∧ defaultValue t = f.2.2) (hp : pc + 3 = pc')
    (g : ∀ T' h' a, a = h.size → own_St p l e R s m args below meth c n0 T' h' (cells + 1) (slots + k) → Keep h h' [] → n0 ≤ a → own_Ob Z a0 h' a K fs → own_Go p e below n0 F (T'.setTop (mkF m pc' L (.ref a :: S)))) : own_Go p e below n0 F (T.setTop (mkF m pc L S)) := by
  have hbig := own_big C X
  obtain ⟨locs, X, N, e0⟩ := X; subst hp
  obtain ⟨T', h2, X', e', E, A, D, -, st⟩ := newO X C.1 C.2.2.2.2.2.2.2.1 C.2.2.2.1 w wi wz e0 (g := mkF m pc L S) rfl (hb C.2.1 hd) hc hs
  refine own_st st (g T' h2 _ rfl ⟨_, X', N, e'⟩ (own_keep_ext E) hbig ⟨A, hnd, fun f hf => ?_⟩)
  obtain ⟨La, t, ht, hdv⟩ := hfs f hf
  exact ⟨hdv ▸ D La ht, La, t, ht⟩
theorem own_objinit (C : own_Cx p s m meth c Z n0 own nm bytes ml ret) (X : own_St p l e R s m args below meth c n0 T h cells slots) {idx : Nat} (hd : decode bytes pc = .ok (.invokespecial idx, 3)) (w1 : (Jvm.Cond.methodLink own idx Lib.objectInit).before a0 Z = true) (w2 : (Jvm.Cond.instanceMethod Lib.objectInit).before a0 Z = true) (w3 : (Jvm.Cond.code Lib.objectInit ⟨#[0xb1]⟩ 1 none).before a0 Z = true)
    (hL : L.size = ml) (hf : 1 ≤ R.frames) (hlo : (S.map fun v => v.category).sum + 12 ≤ R.locals) (hp : pc + 3 = pc')
    (g : ∀ T', own_St p l e R s m args below meth c n0 T' h cells slots → own_Go p e below n0 F (T'.setTop (mkF m pc' L S))) : own_Go p e below n0 F (T.setTop (mkF m pc L (.ref a :: S))) := by
  obtain ⟨locs, X, N, e0⟩ := X; subst hp
  obtain ⟨T', X', e', st⟩ := initO X C.1 C.2.2.2.2.2.2.2.1 C.2.2.2.1 w1 w2 w3 e0 (g := mkF m pc L (.ref a :: S)) rfl (by rw [C.2.2.1]; exact hL) rfl (hb C.2.1 hd) hf (W := (S.map fun v => v.category).sum) (by show 2 * 0 + _ ≤ _; omega) hlo
  exact own_st st (g T' ⟨_, X', N, e'⟩)
/-! calls -/
theorem own_callS (C : own_Cx p s m meth c Z n0 own nm bytes ml ret) (X : own_St p l e R s m args below meth c n0 T h cells slots) {y : MethodName} {by' : ByteArray} {ml' idx : Nat} {rt ret' : Option FieldType} {ps : List FieldType} {rm : Room} {av : List Value} {Qc : Option Value → Heap → Prop} (hd : decode bytes pc = .ok (.invokestatic idx, 3)) (M : own_Met l Z n0 y by' ml' ret' [] rm av.toArray h Qc)
    (w1 : (Jvm.Cond.methodLink own idx y).before a0 Z = true) (w2 : (Jvm.Cond.static y).before a0 Z = true) (w3 : (Jvm.Cond.initialized y.cls).before a0 Z = true) (w4 : (Jvm.Cond.code y by' ml' ret').before a0 Z = true) (hy : y.cls ≠ "java/lang/invoke/MethodHandle" ∧ y.cls ≠ "java/lang/invoke/VarHandle")
    (hde : parseMethodDescriptor y.desc = some ⟨ps, rt⟩) (hps : av.length = ps.length) (hL : L.size = ml) (hf : rm.frames + 1 ≤ R.frames) (hlo : (S.map fun v => v.category).sum + (ml' + 11) + rm.locals ≤ R.locals) (hc : cells + rm.cells ≤ R.cells) (hs : slots + rm.slots ≤ R.slots) {S0 : List Value} (hS : S0 = av.reverse ++ S) (hp : pc + 3 = pc')
    (g : ∀ T' h' v, own_St p l e R s m args below meth c n0 T' h' (cells + rm.cells) (slots + rm.slots) → Qc v h' → own_Go p e below n0 F (T'.setTop (mkF m pc' L (v.toList ++ S)))) : own_Go p e below n0 F (T.setTop (mkF m pc L S0)) := by
  obtain ⟨locs, X, N, e0⟩ := X; subst hp; subst hS
  have hZ := C.2.2.2.2.2.2.2.1
  obtain ⟨v, _, ⟨T2, L2, k2, n2⟩, -, X2, ⟨Lc, hQ, l2, y2, z2⟩, st⟩ := Jvm.LawKit.callS X C.1 (y := y) C.2.2.2.1 (mvT hZ w1) (mvT hZ w2) (mvT hZ w3) (mvT hZ w4) hy (backOf (W := (S.map fun v => v.category).sum) (Q := fun v h L => Qc v h ∧ Fr n0 L) M hZ w4 w3 hf hlo) (g := mkF m pc L (av.reverse ++ S)) rfl (by rw [C.2.2.1]; exact hL) (argsL := av) (rest := S) (lenOf hde hps) rfl (by show 2 * 0 + _ ≤ _; omega) (hb C.2.1 hd) (fun _ _ => ⟨rfl, e0, hc, hs⟩)
  dsimp only [Pt.U, Pt.locs, Pt.cells, Pt.slots] at X2 l2 y2 z2 st hQ
  subst l2 y2 z2
  exact own_st st (g T2 _ v ⟨_, X2, Fr.app N hQ.2, rfl⟩ hQ.1)
theorem own_callInit (C : own_Cx p s m meth c Z n0 own nm bytes ml ret) (X : own_St p l e R s m args below meth c n0 T h cells slots) {y : MethodName} {by' : ByteArray} {ml' idx : Nat} {rt : Option FieldType} {ps : List FieldType} {rm : Room} {av : List Value} {Qc : Option Value → Heap → Prop} (hd : decode bytes pc = .ok (.invokespecial idx, 3)) (M : own_Met l Z n0 y by' ml' none [] rm (.ref a :: av).toArray h Qc) (hy1 : y.name = "<init>")
    (w1 : (Jvm.Cond.methodLink own idx y).before a0 Z = true) (w2 : (Jvm.Cond.instanceMethod y).before a0 Z = true) (w3 : (Jvm.Cond.initialized y.cls).before a0 Z = true) (w4 : (Jvm.Cond.code y by' ml' none).before a0 Z = true) (hy : y.cls ≠ "java/lang/invoke/MethodHandle" ∧ y.cls ≠ "java/lang/invoke/VarHandle")
    (hde : parseMethodDescriptor y.desc = some ⟨ps, rt⟩) (hps : av.length = ps.length) (hL : L.size = ml) (hf : rm.frames + 1 ≤ R.frames) (hlo : (S.map fun v => v.category).sum + (ml' + 11) + rm.locals ≤ R.locals) (hc : cells + rm.cells ≤ R.cells) (hs : slots + rm.slots ≤ R.slots) {S0 : List Value} (hS : S0 = av.reverse ++ .ref a :: S) (hp : pc + 3 = pc')
    (g : ∀ T' h' v, own_St p l e R s m args below meth c n0 T' h' (cells + rm.cells) (slots + rm.slots) → Qc v h' → own_Go p e below n0 F (T'.setTop (mkF m pc' L (v.toList ++ S)))) : own_Go p e below n0 F (T.setTop (mkF m pc L S0)) := by
  obtain ⟨locs, X, N, e0⟩ := X; subst hp; subst hS
  have hZ := C.2.2.2.2.2.2.2.1
  obtain ⟨v, _, ⟨T2, L2, k2, n2⟩, -, X2, ⟨Lc, hQ, l2, y2, z2⟩, st⟩ := X.specialBack C.1 (y := y) hy1 C.2.2.2.1 (mvT hZ w1) (mvT hZ w2) (mvT hZ w4) hy (backOf (W := (S.map fun v => v.category).sum) (Q := fun v h L => Qc v h ∧ Fr n0 L) M hZ w4 w3 hf hlo) (g := mkF m pc L (av.reverse ++ .ref a :: S)) rfl (by rw [C.2.2.1]; exact hL) (Steps.refl _) (a := a) (argsL := av) (rest := S) (lenOf hde hps) rfl (by show 2 * 0 + _ ≤ _; omega) (hb C.2.1 hd) (fun _ _ => ⟨rfl, e0, hc, hs⟩)
  dsimp only [Pt.U, Pt.locs, Pt.cells, Pt.slots] at X2 l2 y2 z2 st hQ
  subst l2 y2 z2
  exact own_st (fun t k => st.trans k) (g T2 _ v ⟨_, X2, Fr.app N hQ.2, rfl⟩ hQ.1)
theorem own_callV (C : own_Cx p s m meth c Z n0 own nm bytes ml ret) (X : own_St p l e R s m args below meth c n0 T h cells slots) {y : MethodName} {by' : ByteArray} {ml' idx : Nat} {rt ret' : Option FieldType} {ps : List FieldType} {rm : Room} {av : List Value} {Qc : Option Value → Heap → Prop} (hd : decode bytes pc = .ok (.invokevirtual idx, 3)) (M : own_Met l Z n0 y by' ml' ret' [] rm (.ref a :: av).toArray h Qc)
    (E : Exa Z h a y.cls) (w1 : (Jvm.Cond.methodLink own idx y).before a0 Z = true) (wd : (Jvm.Cond.declares y).before a0 Z = true) (ws : (Jvm.Cond.selects y.cls y y).before a0 Z = true) (w2 : (Jvm.Cond.instanceMethod y).before a0 Z = true) (w3 : (Jvm.Cond.initialized y.cls).before a0 Z = true) (w4 : (Jvm.Cond.code y by' ml' ret').before a0 Z = true) (hy : y.cls ≠ "java/lang/invoke/MethodHandle" ∧ y.cls ≠ "java/lang/invoke/VarHandle")
    (hde : parseMethodDescriptor y.desc = some ⟨ps, rt⟩) (hps : av.length = ps.length) (hL : L.size = ml) (hf : rm.frames + 1 ≤ R.frames) (hlo : (S.map fun v => v.category).sum + (ml' + 11) + rm.locals ≤ R.locals) (hc : cells + rm.cells ≤ R.cells) (hs : slots + rm.slots ≤ R.slots) {S0 : List Value} (hS : S0 = av.reverse ++ .ref a :: S) (hp : pc + 3 = pc')
    (g : ∀ T' h' v, own_St p l e R s m args below meth c n0 T' h' (cells + rm.cells) (slots + rm.slots) → Qc v h' → own_Go p e below n0 F (T'.setTop (mkF m pc' L (v.toList ++ S)))) : own_Go p e below n0 F (T.setTop (mkF m pc L S0)) := by
  obtain ⟨locs, X, N, e0⟩ := X; subst hp; subst hS
  have hZ := C.2.2.2.2.2.2.2.1
  obtain ⟨cq, kq, qa, qb, qc⟩ := isOf hZ e0 E
  obtain ⟨v, _, ⟨T2, L2, k2, n2⟩, -, X2, ⟨Lc, hQ, l2, y2, z2⟩, st⟩ := X.virtualBack C.1 (y := y) (z := y) C.2.2.2.1 (mvT hZ w1) (mvT hZ wd) (notFace_of_selects (args := #[]) (mvT hZ ws)) (mvT hZ ws) (mvT hZ w2) hy (backOf (W := (S.map fun v => v.category).sum) (Q := fun v h L => Qc v h ∧ Fr n0 L) M hZ w4 w3 hf hlo) qa qc (g := mkF m pc L (av.reverse ++ .ref a :: S)) rfl (by rw [C.2.2.1]; exact hL) (Steps.refl _) (argsL := av) (rest := S) (lenOf hde hps) rfl (by show 2 * 0 + _ ≤ _; omega) (hb C.2.1 hd) (fun _ _ => ⟨rfl, e0, hc, hs⟩)
  dsimp only [Pt.U, Pt.locs, Pt.cells, Pt.slots] at X2 l2 y2 z2 st hQ
  subst l2 y2 z2
  exact own_st (fun t k => st.trans k) (g T2 _ v ⟨_, X2, Fr.app N hQ.2, rfl⟩ hQ.1)
/-- a private method selects itself (turned from the worked claim gauge-weight) -/
theorem own_selP {s : State} {args : Array Value} {n : Nat} {y : MethodName} (hy : y.cls ≠ "java/lang/invoke/MethodHandle" ∧ y.cls ≠ "java/lang/invoke/VarHandle") (hins : (Jvm.Cond.instantiable y.cls n).before args s = true) (hpriv : (Jvm.Cond.privateMethod y).before args s = true) (hinst : (Jvm.Cond.instanceMethod y).before args s = true) :
    (Jvm.Cond.selects y.cls y y).before args s = true := by
  obtain ⟨c, k, hc, hk, -, hniab, -, -⟩ := Cond.instantiable_spec hins
  have hni : k.isInterface = false := (Bool.or_eq_false_iff.mp hniab).1
  obtain ⟨mk, methM, hnamed, hmethM, -, -⟩ := Cond.instanceMethod_spec hinst
  have hfound : s.methodFound? y.cls y.name y.desc = some mk := State.methodFound?_of_named hnamed hy
  have hcls : mk.cls = c := Option.some.inj ((findClass_of_methodNamed hnamed).symm.trans hc)
  have hsel : selectMethod {} s.vm c mk = .method mk := selectMethod_private hmethM (Cond.privateMethod_at hpriv mk methM hnamed hmethM)
  simp only [Cond.before, Cond.holds, Cond.value, hc, hfound, hnamed, hsel, hcls, hk]
  simp; exact hni
theorem own_callP (C : own_Cx p s m meth c Z n0 own nm bytes ml ret) (X : own_St p l e R s m args below meth c n0 T h cells slots) {y : MethodName} {by' : ByteArray} {ml' idx : Nat} {rt ret' : Option FieldType} {ps : List FieldType} {rm : Room} {av : List Value} {Qc : Option Value → Heap → Prop} (hd : decode bytes pc = .ok (.invokevirtual idx, 3)) (M : own_Met l Z n0 y by' ml' ret' [] rm (.ref a :: av).toArray h Qc)
    (E : Exa Z h a y.cls) (w1 : (Jvm.Cond.methodLink own idx y).before a0 Z = true) {kk : Nat} (wi : (Jvm.Cond.instantiable y.cls kk).before a0 Z = true) (wp : (Jvm.Cond.privateMethod y).before a0 Z = true) (w2 : (Jvm.Cond.instanceMethod y).before a0 Z = true) (w3 : (Jvm.Cond.initialized y.cls).before a0 Z = true) (w4 : (Jvm.Cond.code y by' ml' ret').before a0 Z = true) (hy : y.cls ≠ "java/lang/invoke/MethodHandle" ∧ y.cls ≠ "java/lang/invoke/VarHandle")
    (hde : parseMethodDescriptor y.desc = some ⟨ps, rt⟩) (hps : av.length = ps.length) (hL : L.size = ml) (hf : rm.frames + 1 ≤ R.frames) (hlo : (S.map fun v => v.category).sum + (ml' + 11) + rm.locals ≤ R.locals) (hc : cells + rm.cells ≤ R.cells) (hs : slots + rm.slots ≤ R.slots) {S0 : List Value} (hS : S0 = av.reverse ++ .ref a :: S) (hp : pc + 3 = pc')
    (g : ∀ T' h' v, own_St p l e R s m args below meth c n0 T' h' (cells + rm.cells) (slots + rm.slots) → Qc v h' → own_Go p e below n0 F (T'.setTop (mkF m pc' L (v.toList ++ S)))) : own_Go p e below n0 F (T.setTop (mkF m pc L S0)) := by
  obtain ⟨locs, X, N, e0⟩ := X; subst hp; subst hS
  have hZ := C.2.2.2.2.2.2.2.1
  obtain ⟨cq, q1, q2⟩ := E.cell
  obtain ⟨v, _, ⟨T2, L2, k2, n2⟩, -, X2, ⟨Lc, hQ, l2, y2, z2⟩, st⟩ := X.privateBack C.1 (y := y) C.2.2.2.1 (mvT hZ w1) (mvT hZ w2) (mvT hZ (own_selP hy wi wp w2)) (Cond.privateMethod_at (mvP hZ wp (args := #[]))) (mvT hZ w4) hy (backOf (W := (S.map fun v => v.category).sum) (Q := fun v h L => Qc v h ∧ Fr n0 L) M hZ w4 w3 hf hlo) (g := mkF m pc L (av.reverse ++ .ref a :: S)) rfl (by rw [C.2.2.1]; exact hL) (Steps.refl _) (a := a) (by rw [e0]; exact q1) q2 (argsL := av) (rest := S) (lenOf hde hps) rfl (by show 2 * 0 + _ ≤ _; omega) (hb C.2.1 hd) (fun _ _ => ⟨rfl, e0, hc, hs⟩)
  dsimp only [Pt.U, Pt.locs, Pt.cells, Pt.slots] at X2 l2 y2 z2 st hQ
  subst l2 y2 z2
  exact own_st (fun t k => st.trans k) (g T2 _ v ⟨_, X2, Fr.app N hQ.2, rfl⟩ hQ.1)
end OwnKitTwo
end Jvm.Pilot.@@N@@
namespace Jvm.Pilot.@@N@@
open Jvm Jvm.ClassFile Sem Op Lib Jvm.Free Jvm.Stand Jvm.LawKit Jvm.RoadKit Bundle Jvm.Pilot.@@N@@.Jvm.D
section OwnKitThree
theorem own_i2b2 (x : Int32) : x.toInt8.toInt32.toInt8.toInt32 = x.toInt8.toInt32 := by simp
theorem own_i2bn {y t : Int32} (e : y.toInt8.toInt32 = t) : t.toInt8.toInt32 = t := by rw [← e]; simp
theorem own_ibd {Z : State} {h : Heap} {a : Addr} {ty : FieldType} {xs : List Int32} {i : Nat} {v : Int32} (A : own_IA Z h a ty xs) (e : xs[i]? = some v) : i < 2 ^ 31 := by
  obtain ⟨c, -, -, hl, -⟩ := A; exact Nat.lt_trans (own_lt_of e) hl
theorem own_ixadd {o d : Int32} {k n : Nat} (hk : o.toInt = (k : Int)) (hd : d.toInt = (n : Int)) (hb : k + n < 2 ^ 31) : (o + d).toInt = ((k + n : Nat) : Int) := by
  have := c_iadd o d; have := rng32 (o + d); omega
theorem own_orI (a b : Int32) (k : Nat) (hk : k ≤ 31) (P : Int) (hP : P = (2 ^ k : Nat)) (h1 : a.toInt % P = 0) (h2 : 0 ≤ b.toInt) (h3 : b.toInt < P) (h4 : 0 ≤ a.toInt) (h5 : a.toInt + b.toInt < 2147483648) : (a ||| b).toInt = a.toInt + b.toInt := by
  have := c_or a b k hk P hP h1 h2 h3; have := rng32 (a ||| b); omega
theorem own_addI (a b : Int32) (h1 : -2147483648 ≤ a.toInt + b.toInt) (h2 : a.toInt + b.toInt < 2147483648) : (a + b).toInt = a.toInt + b.toInt := by
  have := c_iadd a b; have := rng32 (a + b); omega
theorem own_subI (a b : Int32) (h1 : -2147483648 ≤ a.toInt - b.toInt) (h2 : a.toInt - b.toInt < 2147483648) : (a - b).toInt = a.toInt - b.toInt := by
  have := c_isub a b; have := rng32 (a - b); omega
theorem own_ba3 (y : Int32) : (y.toInt8.toInt32 &&& 7).toInt = y.toInt % 8 := by
  have e1 : (y.toInt8.toInt32 &&& 7).toInt = y.toInt8.toInt32.toInt % (2 ^ 3 : Nat) := c_mask _ 7 3 (by decide) (by decide)
  have e2 := c_i2b y
  omega
theorem own_ba4 (y : Int32) : (y.toInt8.toInt32 &&& 15).toInt = y.toInt % 16 := by
  have e1 : (y.toInt8.toInt32 &&& 15).toInt = y.toInt8.toInt32.toInt % (2 ^ 4 : Nat) := c_mask _ 15 4 (by decide) (by decide)
  have e2 := c_i2b y
  omega
theorem own_ba5 (y : Int32) : (y.toInt8.toInt32 &&& 31).toInt = y.toInt % 32 := by
  have e1 : (y.toInt8.toInt32 &&& 31).toInt = y.toInt8.toInt32.toInt % (2 ^ 5 : Nat) := c_mask _ 31 5 (by decide) (by decide)
  have e2 := c_i2b y
  omega
theorem own_ba6 (y : Int32) : (y.toInt8.toInt32 &&& 63).toInt = y.toInt % 64 := by
  have e1 : (y.toInt8.toInt32 &&& 63).toInt = y.toInt8.toInt32.toInt % (2 ^ 6 : Nat) := c_mask _ 63 6 (by decide) (by decide)
  have e2 := c_i2b y
  omega
theorem own_ba7 (y : Int32) : (y.toInt8.toInt32 &&& 127).toInt = y.toInt % 128 := by
  have e1 : (y.toInt8.toInt32 &&& 127).toInt = y.toInt8.toInt32.toInt % (2 ^ 7 : Nat) := c_mask _ 127 7 (by decide) (by decide)
  have e2 := c_i2b y
  omega
theorem own_ba8 (y : Int32) : (y.toInt8.toInt32 &&& 255).toInt = y.toInt % 256 := by
  have e1 : (y.toInt8.toInt32 &&& 255).toInt = y.toInt8.toInt32.toInt % (2 ^ 8 : Nat) := c_mask _ 255 8 (by decide) (by decide)
  have e2 := c_i2b y
  omega
theorem own_cont (q : Int32) : (((128 : Int32) ||| (q &&& 63)).toInt8.toInt32 &&& 63).toInt = q.toInt % 64 := by
  have e1 : (q &&& 63).toInt = q.toInt % (2 ^ 6 : Nat) := c_mask q 63 6 (by decide) (by decide)
  have z : (128 : Int32).toInt = 128 := rfl
  have e2 := own_orI 128 (q &&& 63) 7 (by decide) 128 (by decide) (by decide) (by omega) (by omega) (by decide) (by omega)
  rw [own_ba6, e2]; omega
theorem own_acc (x y : Int32) (h1 : 0 ≤ x.toInt) (h2 : x.toInt * 64 + 63 < 2147483648) (h3 : 0 ≤ y.toInt) (h4 : y.toInt < 64) : ((x <<< (6 &&& 31)) ||| y).toInt = x.toInt * 64 + y.toInt := by
  have e1 := c_ishl x 6 6 (by decide)
  have e2 := rng32 (x <<< (6 &&& 31))
  have e3 : (x <<< (6 &&& 31)).toInt = x.toInt * 64 := by omega
  rw [own_orI (x <<< (6 &&& 31)) y 6 (by decide) 64 (by decide) (by omega) h3 h4 (by omega) (by omega), e3]
end OwnKitThree
end Jvm.Pilot.@@N@@
namespace Jvm.Pilot.@@N@@
open Jvm Jvm.ClassFile Sem Op Lib Jvm.Free Jvm.Stand Jvm.LawKit Jvm.RoadKit Bundle Jvm.Pilot.@@N@@.Jvm.D
section OwnKitFour
variable {p : Program} {l : Launch} {e : Env} {R : Room} {s0 : State} {vm0 : Vm} {m : MethodId} {args : Array Value} {below : List Frame} {meth : Method} {c : Code} {T : State} {cells slots : Nat} {Z : State} {a0 : Array Value} {h h' : Heap} {n0 k : Nat} {own nm : String} {bytes : ByteArray} {ml : Nat} {ret : Option FieldType} {Q : Option Value → Heap → Prop} {F : Option Value → State → List Loc → Prop} {pc pc' pcT : Nat} {L L' : Array Slot} {S : List Value}
/-! a body that loads String constants: the tables' book of strings grows, so the end is said by the wide word -/
def own_FinW (R : Room) (s : State) (Q : Option Value → Heap → Prop) : Option Value → State → List Loc → Prop := fun v t L => Q v t.heap ∧ ReturnedEndW s (.returned v) t L R.cells R.slots
def own_MetW (l : Launch) (Z : State) (n0 : Nat) (y : MethodName) (bytes : ByteArray) (ml : Nat) (ret : Option FieldType) (ws : List Jvm.Cond) (rm : Room) (as' : Array Value) (h0 : Heap) (Q : Option Value → Heap → Prop) : Prop :=
  MetFree l y (head1 (Jvm.Cond.code y bytes ml ret :: ws) rm) (fun a U => a = as' ∧ Z.Warmed39 U.vm ∧ U.heap = h0) (fun _ _ _ _ _ => True) (fun _ U o U' => ∃ v L, o = .returned v ∧ (Q v U'.heap ∧ Fr n0 L) ∧ ReturnedEndW U o U' L rm.cells rm.slots)
theorem own_bodyW {y : MethodName} {ws : List Jvm.Cond} {rm : Room} {as' : Array Value} {h0 : Heap} {Ls : Array Slot} (hpl : plainFor y = true) (hn : n0 ≤ h0.size) (hef : ∀ m, entryFrame m as' ml = mkF m 0 Ls [])
    (run : ∀ p e s m below meth c T vm, own_Cx p (s.setVm vm) m meth c Z n0 y.cls y.name bytes ml ret → own_St p l e rm (s.setVm vm) m as' below meth c n0 T h0 0 0 → s.Since vm h0.size → own_Go p e below n0 (own_FinW rm s Q) (T.setTop (mkF m 0 Ls []))) :
    own_MetW l Z n0 y bytes ml ret ws rm as' h0 Q := by
  refine MetFree.of_bodySF hpl hisR ?_
  intro p e s m args below meth c s₁ Bd hml0 hP hK
  obtain ⟨rfl, hZ, hh⟩ := hP
  have X0 : Stand p l e rm s m args below meth c s₁ [] 0 0 := Stand.of_body Bd
  have e0 : s₁.heap = h0 := by rw [← hh, Bd.state]; rfl
  have hS : s.Since s.vm h0.size := State.WarmedH.since (State.WarmedH.refl s) _
  obtain ⟨t, v, L, g1, g2, g3, g5, g4, g6⟩ := run p e s m below meth c s₁ s.vm ⟨Bd.exec, Bd.bytes, hml0, findClass_of_methodNamed Bd.named, (name_of_methodNamed Bd.named Bd.method).1, Bd.returns, Bd.notSynchronized, hZ, by show n0 ≤ s.heap.size; rw [hh]; exact hn⟩ ⟨[], X0, Fr.nil n0, e0⟩ hS
  exact ⟨t, .returned v, castTop (hef m) g1, g2, g3, v, L, rfl, ⟨g4, g5⟩, g6⟩
theorem own_ldcS (C : own_Cx p (s0.setVm vm0) m meth c Z n0 own nm bytes ml ret) (X : own_St p l e R (s0.setVm vm0) m args below meth c n0 T h cells slots) (hS : s0.Since vm0 k) (hk : k ≤ h.size) {idx n : Nat} {text : String} (hd : decode bytes pc = .ok (.ldc idx, 2)) (w : (Jvm.Cond.stringLink own idx text).before a0 Z = true) (wS : ∀ d ∈ Bundle.stringAtoms, d.before a0 Z = true)
    (hn : 4 * text.toList.length ≤ n) (hbig : n ≤ 536870912) (hc : cells + 2 ≤ R.cells) (hs : slots + (n + 4) ≤ R.slots) (hp : pc + 2 = pc')
    (g : ∀ T' h' a vm1 k1, own_Cx p (s0.setVm vm1) m meth c Z n0 own nm bytes ml ret → own_St p l e R (s0.setVm vm1) m args below meth c n0 T' h' (cells + 2) (slots + (n + 4)) → Keep h h' [] → s0.Since vm1 k1 → k1 ≤ h'.size → own_Go p e below n0 F (T'.setTop (mkF m pc' L (.ref a :: S)))) : own_Go p e below n0 F (T.setTop (mkF m pc L S)) := by
  obtain ⟨locs, X, N, e0⟩ := X; subst hp
  obtain ⟨a, T', h2, k1, X', e', E, hS', hk1, hZ', hown', st⟩ := ldcS X C.1 C.2.2.2.2.2.2.2.1 C.2.2.2.1 w wS e0 hS hk (g := mkF m pc L S) rfl (hb C.2.1 hd) hn hbig hc hs
  exact own_st st (g T' h2 a T'.vm k1 ⟨C.1, C.2.1, C.2.2.1, hown', C.2.2.2.2.1, C.2.2.2.2.2.1, C.2.2.2.2.2.2.1, hZ', C.2.2.2.2.2.2.2.2⟩ ⟨locs, X', N, e'⟩ (own_keep_ext E) hS' hk1)
theorem own_ireturn_zW (C : own_Cx p (s0.setVm vm0) m meth c Z n0 own nm bytes ml (some .boolean)) (X : own_St p l e R (s0.setVm vm0) m args below meth c n0 T h cells slots) (hS : s0.Since vm0 k) (hk : k ≤ h.size) {z : Int32} (hd : decode bytes pc = .ok (.ireturn, 1)) (hc : cells ≤ R.cells) (hs : slots ≤ R.slots) (hq : Q (some (.int (nar .boolean z))) h) :
    own_Go p e below n0 (own_FinW R s0 Q) (T.setTop (mkF m pc L (.int z :: S))) := by
  obtain ⟨locs, X, N, rfl⟩ := X
  have hlk : meth.locks = false := C.2.2.2.2.2.2.1
  obtain ⟨fs, hr, hrun, hended, hE⟩ := X.leaveW hS hk (v := some (.int (nar .boolean z))) (fun h => by rw [C.2.2.2.2.2.1] at h; cases h) hlk
  exact ⟨_, _, locs, retN X C.1 (t := .boolean) C.2.2.2.2.2.1 (by simp) (hb C.2.1 hd) hr, hrun, hended, N, hq, hE.1, hE.2.1, hE.2.2.1, hE.2.2.2.mono hc hs⟩
end OwnKitFour
end Jvm.Pilot.@@N@@
namespace Jvm.Pilot.@@N@@
open Jvm Jvm.ClassFile Sem Op Lib Jvm.Free Jvm.Stand Jvm.LawKit Jvm.RoadKit Bundle Jvm.Pilot.@@N@@.Jvm.D
section OwnKitFive
variable {p : Program} {l : Launch} {e : Env} {R : Room} {s : State} {m : MethodId} {args : Array Value} {below : List Frame} {meth : Method} {c : Code} {T : State} {cells slots : Nat} {Z : State} {a0 : Array Value} {h h' : Heap} {n0 : Nat} {own nm : String} {bytes : ByteArray} {ml : Nat} {ret : Option FieldType} {F : Option Value → State → List Loc → Prop} {pc pc' pcT : Nat} {L L' : Array Slot} {S : List Value} {a b : Addr} {ty : FieldType} {ws : List Addr}
theorem own_newIE (C : own_Cx p s m meth c Z n0 own nm bytes ml ret) (X : own_St p l e R s m args below meth c n0 T h cells slots) {aty : ArrayType} {n : Int32} {k cap : Nat} {ad : String} (hd : decode bytes pc = .ok (.newarray aty, 2)) (hty : newarray.typeOf aty = ty) (w : (Jvm.Cond.arrayClass ty).before a0 Z = true) (hn : n.toInt = (k : Int)) (hcap : k ≤ cap) (hb8 : cap * 8 ≤ 536870912)
    (hc : cells + 1 ≤ R.cells) (hs : slots + cap ≤ R.slots) (hdef : defaultValue ty = .int 0) (hfit : fits ty (.int 0) = true) (had : "[" ++ (newarray.typeOf aty).toString = ad) (hp : pc + 2 = pc')
    (g : ∀ T' h' a, a = h.size → own_St p l e R s m args below meth c n0 T' h' (cells + 1) (slots + cap) → Keep h h' [] → n0 ≤ a → own_IA Z h' a ty (List.replicate k 0) → Exa Z h' a ad → own_Go p e below n0 F (T'.setTop (mkF m pc' L (.ref a :: S)))) : own_Go p e below n0 F (T.setTop (mkF m pc L (.int n :: S))) := by
  have hbig := own_big C X
  obtain ⟨locs, X, N, e0⟩ := X; subst hp; subst hty
  obtain ⟨q1, q2⟩ := own_ix hn
  obtain ⟨T', h2, cA, X', e', E, A, EX, st⟩ := newPE X C.1 C.2.2.2.2.2.2.2.1 w e0 (g := mkF m pc L (.int n :: S)) rfl (hb C.2.1 hd) rfl q1 (cap := cap) (by rw [q2]; exact hcap) hb8 hc hs had
  refine own_st st (g T' h2 _ rfl ⟨_, X', N, e'⟩ (own_keep_ext E) hbig ⟨_, A, ?_, ?_, ?_⟩ EX)
  · simp [newA, q2, hdef]
  · have := n.toInt_lt; simp only [List.length_replicate]; omega
  · intro x hx; obtain ⟨-, rfl⟩ := List.mem_replicate.mp hx; exact hfit
theorem own_clone (C : own_Cx p s m meth c Z n0 own nm bytes ml ret) (X : own_St p l e R s m args below meth c n0 T h cells slots) {idx cap : Nat} {ad : String} {xs : List Int32} (hd : decode bytes pc = .ok (.invokevirtual idx, 3)) (A : own_IA Z h a ty xs) (E : Exa Z h a ad)
    (w1 : (Jvm.Cond.methodLink own idx ⟨ad, "clone", "()Ljava/lang/Object;"⟩).before a0 Z = true) (w2 : (Jvm.Cond.sameMethod ad "java/lang/Object" "clone" "()Ljava/lang/Object;").before a0 Z = true) (w3 : (Jvm.Cond.native ⟨"java/lang/Object", "clone", "()Ljava/lang/Object;"⟩).before a0 Z = true)
    (w4 : (Jvm.Cond.instanceMethod ⟨"java/lang/Object", "clone", "()Ljava/lang/Object;"⟩).before a0 Z = true) (w5 : (Jvm.Cond.selects ad ⟨ad, "clone", "()Ljava/lang/Object;"⟩ ⟨"java/lang/Object", "clone", "()Ljava/lang/Object;"⟩).before a0 Z = true) (w6 : (Jvm.Cond.castable ad "java/lang/Cloneable").before a0 Z = true)
    (hL : L.size = ml) (hf : 1 ≤ R.frames) (hlo : (S.map fun v => v.category).sum + 14 ≤ R.locals) (hcap : xs.length ≤ cap) (hc : cells + 1 ≤ R.cells) (hs : slots + cap ≤ R.slots) (hp : pc + 3 = pc')
    (g : ∀ T' h' b, b = h.size → own_St p l e R s m args below meth c n0 T' h' (cells + 1) (slots + cap) → Keep h h' [] → n0 ≤ b → own_IA Z h' b ty xs → Exa Z h' b ad → own_Go p e below n0 F (T'.setTop (mkF m pc' L (.ref b :: S)))) : own_Go p e below n0 F (T.setTop (mkF m pc L (.ref a :: S))) := by
  have hbig := own_big C X
  obtain ⟨locs, X, N, e0⟩ := X; subst hp
  obtain ⟨cl, A, ec, hlen, hfit⟩ := A
  have FC : FitC Z cl := fitC_of A fun i hi v hv => by
    rw [← Array.getElem?_toList, ec, List.getElem?_map, Option.map_eq_some_iff] at hv
    obtain ⟨x, hx, rfl⟩ := hv
    exact hfit x (List.mem_of_getElem? hx)
  obtain ⟨T', h2, X', e', EX, A', E', st⟩ := cloneA X C.1 C.2.2.2.2.2.2.2.1 C.2.2.2.1 w1 w2 w3 w4 w5 w6 e0 A E FC (g := mkF m pc L (.ref a :: S)) rfl (by rw [C.2.2.1]; exact hL) rfl (hb C.2.1 hd) hf (W := (S.map fun v => v.category).sum) (by show 2 * 0 + _ ≤ _; omega) hlo (by rw [own_sz ec]; exact hcap) hc hs
  exact own_st st (g T' h2 _ rfl ⟨_, X', N, e'⟩ (own_keep_ext EX) hbig ⟨_, A', ec, hlen, hfit⟩ E')
theorem own_castA (C : own_Cx p s m meth c Z n0 own nm bytes ml ret) (X : own_St p l e R s m args below meth c n0 T h cells slots) {idx : Nat} {K : String} (hd : decode bytes pc = .ok (.checkcast idx, 3)) (w : (Jvm.Cond.classLink own idx K).before a0 Z = true) (E : Exa Z h a K) (hp : pc + 3 = pc')
    (g : ∀ T', own_St p l e R s m args below meth c n0 T' h cells slots → own_Go p e below n0 F (T'.setTop (mkF m pc' L (.ref a :: S)))) : own_Go p e below n0 F (T.setTop (mkF m pc L (.ref a :: S))) := by
  obtain ⟨locs, X, N, e0⟩ := X; subst hp
  obtain ⟨T', X', e', st⟩ := castY X C.1 C.2.2.2.2.2.2.2.1 C.2.2.2.1 w e0 (Ins.self E) (g := mkF m pc L (.ref a :: S)) rfl rfl (hb C.2.1 hd)
  exact own_st st (g T' ⟨_, X', N, e'⟩)
theorem own_arv {xs : List Int32} {n : Int32} (A : own_IA Z h a ty xs) (hn : n.toInt = (xs.length : Int)) : ∃ k, Arv Z h a k ty n (xs.map Value.int) (.int 0) := by
  obtain ⟨cl, A, ec, hl, hf⟩ := A
  obtain ⟨q1, q2⟩ := own_ix hn
  refine ⟨cl.cls, cl, A, rfl, by rw [own_sz ec, q2], q1, fun i hi => ?_, fun i hi => ?_⟩
  · rw [own_sz ec] at hi
    rw [← Array.getElem?_toList, ec, List.getD_eq_getElem?_getD, List.getElem?_map, List.getElem?_eq_getElem hi]; rfl
  · rw [own_sz ec] at hi
    rw [List.getD_eq_getElem?_getD, List.getElem?_map, List.getElem?_eq_getElem hi]
    exact hf _ (List.getElem_mem hi)
theorem own_unarv {zs : List Int32} {n : Int32} {k : ClassId} (V : Arv Z h a k ty n (zs.map Value.int) (.int 0)) (hn : n.toInt = (zs.length : Int)) : own_IA Z h a ty zs := by
  obtain ⟨cl, A, -, S, q3, H, G⟩ := V
  obtain ⟨q1, q2⟩ := own_ix hn
  rw [q2] at S
  refine ⟨cl, A, ?_, ?_, ?_⟩
  · apply List.ext_getElem?; intro i
    by_cases hi : i < cl.slots.size
    · rw [Array.getElem?_toList, H i hi, List.getD_eq_getElem?_getD, List.getElem?_map, List.getElem?_eq_getElem (by omega)]; rfl
    · rw [List.getElem?_eq_none (by simpa using hi), List.getElem?_eq_none (by simp; omega)]
  · have := n.toInt_lt; omega
  · intro x hx
    obtain ⟨i, hi, rfl⟩ := List.getElem_of_mem hx
    have := G i (by omega)
    rwa [List.getD_eq_getElem?_getD, List.getElem?_map, List.getElem?_eq_getElem hi] at this
theorem own_acopy (C : own_Cx p s m meth c Z n0 own nm bytes ml ret) (X : own_St p l e R s m args below meth c n0 T h cells slots) {idx : Nat} {xs ys zs : List Int32} {sp dp nn n1 n2 : Int32} {i j k : Nat} (hd : decode bytes pc = .ok (.invokestatic idx, 3)) (A : own_IA Z h a .byte xs) (B : own_IA Z h b .byte ys)
    (w1 : (Jvm.Cond.methodLink own idx Jvm.Stand.acN).before a0 Z = true) (w2 : (Jvm.Cond.native Jvm.Stand.acN).before a0 Z = true) (w3 : (Jvm.Cond.static Jvm.Stand.acN).before a0 Z = true) (w4 : (Jvm.Cond.initialized "java/lang/System").before a0 Z = true)
    (h1 : sp.toInt = (i : Int)) (h2 : dp.toInt = (j : Int)) (h3 : nn.toInt = (k : Int)) (e1 : n1.toInt = (xs.length : Int)) (e2 : n2.toInt = (ys.length : Int)) (h4 : i + k ≤ xs.length) (h5 : j + k ≤ ys.length) (hz : (ys.map Value.int).take j ++ (List.range k).map (fun q => (xs.map Value.int).getD (i + q) (.int 0)) ++ (ys.map Value.int).drop (j + k) = zs.map Value.int) (hzl : zs.length = ys.length)
    (hge : n0 ≤ b) (hL : L.size = ml) (hf : 1 ≤ R.frames) (hlo : (S.map fun v => v.category).sum + 18 ≤ R.locals) (hp : pc + 3 = pc')
    (g : ∀ T' h', own_St p l e R s m args below meth c n0 T' h' cells slots → Keep h h' [b] → own_IA Z h' b .byte zs → own_Go p e below n0 F (T'.setTop (mkF m pc' L S))) : own_Go p e below n0 F (T.setTop (mkF m pc L (.int nn :: .int dp :: .ref b :: .int sp :: .ref a :: S))) := by
  obtain ⟨locs, X, N, e0⟩ := X; subst hp
  obtain ⟨k1, V1⟩ := own_arv A e1
  obtain ⟨k2, V2⟩ := own_arv B e2
  obtain ⟨r1, t1⟩ := own_ix h1
  obtain ⟨r2, t2⟩ := own_ix h2
  obtain ⟨r3, t3⟩ := own_ix h3
  obtain ⟨T', h2', L2, X', e', N', K, V, st⟩ := cpA X C.1 C.2.2.2.2.2.2.2.1 C.2.2.2.1 w1 w2 w3 w4 e0 V1 V2 (us := (List.range nn.toNatClampNeg).map fun q => (xs.map Value.int).getD (sp.toNatClampNeg + q) (.int 0)) (Or.inl ⟨rfl, rfl⟩) r1 r2 r3 (by rw [t1, t3, (own_ix e1).2]; exact h4) (by rw [t2, t3, (own_ix e2).2]; exact h5) rfl (by rw [t2, t3]; simpa using h5) N hge (g := mkF m pc L (.int nn :: .int dp :: .ref b :: .int sp :: .ref a :: S)) rfl (by rw [C.2.2.1]; exact hL) rfl (hb C.2.1 hd) hf (W := (S.map fun v => v.category).sum) (by show 2 * 0 + _ ≤ _; omega) hlo
  rw [t1, t2, t3, hz] at V
  exact own_st st (g T' h2' ⟨_, X', N', e'⟩ K (own_unarv V (by rw [hzl]; exact e2)))
end OwnKitFive
end Jvm.Pilot.@@N@@
namespace Jvm.Pilot.@@N@@
open Jvm Jvm.ClassFile Sem Op Lib Jvm.Free Jvm.Stand Jvm.LawKit Jvm.RoadKit Bundle Jvm.Pilot.@@N@@.Jvm.D
def own_hr (p l : Int32) : Int32 := if p < l then 1 else 0
theorem own_hrI (p l : Int32) : own_hr p l = if p.toInt < l.toInt then 1 else 0 := by
  rw [own_hr]; by_cases q : p < l
  · rw [if_pos q, if_pos (Int32.lt_iff_toInt_lt.mp q)]
  · rw [if_neg q, if_neg (fun r => q (Int32.lt_iff_toInt_lt.mpr r))]
theorem own_nltI {x y : Int32} (h : y.toInt ≤ x.toInt) : ¬ x < y := by rw [Int32.lt_iff_toInt_lt]; omega
theorem own_md1 (x z : Int32) (e : (x &&& 2147483647) % 1 = z) : z = 0 := by
  have e1 : (x &&& 2147483647).toInt = x.toInt % (2 ^ 31 : Nat) := c_mask x 2147483647 31 (by decide) (by decide)
  have e2 := (c_irem (x &&& 2147483647) 1 1 rfl).1 (by omega)
  rw [e] at e2
  have : z.toInt = 0 := by omega
  exact Int32.toInt_inj.mp this
theorem own_md2 (x z : Int32) (e : (x &&& 2147483647) % 2 = z) : z = 0 ∨ z = 1 := by
  have e1 : (x &&& 2147483647).toInt = x.toInt % (2 ^ 31 : Nat) := c_mask x 2147483647 31 (by decide) (by decide)
  have e2 := (c_irem (x &&& 2147483647) 2 2 rfl).1 (by omega)
  rw [e] at e2
  have : z.toInt = 0 ∨ z.toInt = 1 := by omega
  rcases this with e | e
  · exact Or.inl (Int32.toInt_inj.mp e)
  · exact Or.inr (Int32.toInt_inj.mp e)
theorem own_md3 (x z : Int32) (e : (x &&& 2147483647) % 3 = z) : z = 0 ∨ z = 1 ∨ z = 2 := by
  have e1 : (x &&& 2147483647).toInt = x.toInt % (2 ^ 31 : Nat) := c_mask x 2147483647 31 (by decide) (by decide)
  have e2 := (c_irem (x &&& 2147483647) 3 3 rfl).1 (by omega)
  rw [e] at e2
  have : z.toInt = 0 ∨ z.toInt = 1 ∨ z.toInt = 2 := by omega
  rcases this with e | e | e
  · exact Or.inl (Int32.toInt_inj.mp e)
  · exact Or.inr (Or.inl (Int32.toInt_inj.mp e))
  · exact Or.inr (Or.inr (Int32.toInt_inj.mp e))
theorem own_md4 (x z : Int32) (e : (x &&& 2147483647) % 4 = z) : z = 0 ∨ z = 1 ∨ z = 2 ∨ z = 3 := by
  have e1 : (x &&& 2147483647).toInt = x.toInt % (2 ^ 31 : Nat) := c_mask x 2147483647 31 (by decide) (by decide)
  have e2 := (c_irem (x &&& 2147483647) 4 4 rfl).1 (by omega)
  rw [e] at e2
  have : z.toInt = 0 ∨ z.toInt = 1 ∨ z.toInt = 2 ∨ z.toInt = 3 := by omega
  rcases this with e | e | e | e
  · exact Or.inl (Int32.toInt_inj.mp e)
  · exact Or.inr (Or.inl (Int32.toInt_inj.mp e))
  · exact Or.inr (Or.inr (Or.inl (Int32.toInt_inj.mp e)))
  · exact Or.inr (Or.inr (Or.inr (Int32.toInt_inj.mp e)))
theorem own_md5 (x z : Int32) (e : (x &&& 2147483647) % 5 = z) : z = 0 ∨ z = 1 ∨ z = 2 ∨ z = 3 ∨ z = 4 := by
  have e1 : (x &&& 2147483647).toInt = x.toInt % (2 ^ 31 : Nat) := c_mask x 2147483647 31 (by decide) (by decide)
  have e2 := (c_irem (x &&& 2147483647) 5 5 rfl).1 (by omega)
  rw [e] at e2
  have : z.toInt = 0 ∨ z.toInt = 1 ∨ z.toInt = 2 ∨ z.toInt = 3 ∨ z.toInt = 4 := by omega
  rcases this with e | e | e | e | e
  · exact Or.inl (Int32.toInt_inj.mp e)
  · exact Or.inr (Or.inl (Int32.toInt_inj.mp e))
  · exact Or.inr (Or.inr (Or.inl (Int32.toInt_inj.mp e)))
  · exact Or.inr (Or.inr (Or.inr (Or.inl (Int32.toInt_inj.mp e))))
  · exact Or.inr (Or.inr (Or.inr (Or.inr (Int32.toInt_inj.mp e))))
theorem own_md6 (x z : Int32) (e : (x &&& 2147483647) % 6 = z) : z = 0 ∨ z = 1 ∨ z = 2 ∨ z = 3 ∨ z = 4 ∨ z = 5 := by
  have e1 : (x &&& 2147483647).toInt = x.toInt % (2 ^ 31 : Nat) := c_mask x 2147483647 31 (by decide) (by decide)
  have e2 := (c_irem (x &&& 2147483647) 6 6 rfl).1 (by omega)
  rw [e] at e2
  have : z.toInt = 0 ∨ z.toInt = 1 ∨ z.toInt = 2 ∨ z.toInt = 3 ∨ z.toInt = 4 ∨ z.toInt = 5 := by omega
  rcases this with e | e | e | e | e | e
  · exact Or.inl (Int32.toInt_inj.mp e)
  · exact Or.inr (Or.inl (Int32.toInt_inj.mp e))
  · exact Or.inr (Or.inr (Or.inl (Int32.toInt_inj.mp e)))
  · exact Or.inr (Or.inr (Or.inr (Or.inl (Int32.toInt_inj.mp e))))
  · exact Or.inr (Or.inr (Or.inr (Or.inr (Or.inl (Int32.toInt_inj.mp e)))))
  · exact Or.inr (Or.inr (Or.inr (Or.inr (Or.inr (Int32.toInt_inj.mp e)))))
def own_mi (x y : Int32) : Int32 := if y < x then y else x
theorem own_strW {Z : State} {a0 : Array Value} (hw : ∀ d ∈ tables_1, d.before a0 Z = true) : ∀ d ∈ Bundle.stringAtoms, d.before a0 Z = true := by
  intro d hd
  simp only [Bundle.stringAtoms, List.mem_cons, List.not_mem_nil, or_false] at hd
  rcases hd with rfl | rfl | rfl | rfl | rfl | rfl | rfl
  · exact hw _ (List.mem_of_getElem? (i := 21) rfl)
  · exact hw _ (List.mem_of_getElem? (i := 22) rfl)
  · exact hw _ (List.mem_of_getElem? (i := 0) rfl)
  · exact hw _ (List.mem_of_getElem? (i := 23) rfl)
  · exact hw _ (List.mem_of_getElem? (i := 24) rfl)
  · exact hw _ (List.mem_of_getElem? (i := 25) rfl)
  · exact hw _ (List.mem_of_getElem? (i := 26) rfl)
theorem own_pn_com_example_anchorline_anchorline_TlsReader : plainName "com/example/anchorline/anchorline/TlsReader" = true := by first | (simp [plainName, overriddenIn]; done) | decide +kernel
theorem own_ef_ini3 (o : Addr) (d : Addr) (p_ : Int32) (l_ : Int32) (m : MethodId) : entryFrame m #[(.ref o), (.ref d), (.int p_), (.int l_)] 4 = mkF m 0 #[.val (.ref o), .val (.ref d), .val (.int p_), .val (.int l_)] [] := by first | (simp [entryFrame, mkF, argsToLocals, Value.category]; done) | rfl
theorem own_d2_0 : decode prog_32_method_2_code 0 = .ok (.aload_n 0, 1) := by decide +kernel
theorem own_d2_1 : decode prog_32_method_2_code 1 = .ok (.invokespecial 7, 3) := by decide +kernel
theorem own_d2_4 : decode prog_32_method_2_code 4 = .ok (.aload_n 0, 1) := by decide +kernel
theorem own_d2_5 : decode prog_32_method_2_code 5 = .ok (.aload_n 1, 1) := by decide +kernel
theorem own_d2_6 : decode prog_32_method_2_code 6 = .ok (.putfield 12, 3) := by decide +kernel
theorem own_d2_9 : decode prog_32_method_2_code 9 = .ok (.aload_n 0, 1) := by decide +kernel
theorem own_d2_10 : decode prog_32_method_2_code 10 = .ok (.iload_n 2, 1) := by decide +kernel
theorem own_d2_11 : decode prog_32_method_2_code 11 = .ok (.putfield 16, 3) := by decide +kernel
theorem own_d2_14 : decode prog_32_method_2_code 14 = .ok (.aload_n 0, 1) := by decide +kernel
theorem own_d2_15 : decode prog_32_method_2_code 15 = .ok (.iload_n 3, 1) := by decide +kernel
theorem own_d2_16 : decode prog_32_method_2_code 16 = .ok (.putfield 20, 3) := by decide +kernel
theorem own_d2_19 : decode prog_32_method_2_code 19 = .ok (.return_, 1) := by decide +kernel
set_option maxRecDepth 65536 in
set_option maxHeartbeats 40000000 in
theorem own_m_ini3 (l : Launch) (Z : State) (a0 : Array Value) (hw : ∀ d ∈ tables_1, d.before a0 Z = true) (o : Addr) (d : Addr) (p_ : Int32) (l_ : Int32) (h0 : Heap) (n0 : Nat) (hn0 : n0 ≤ h0.size) (O : own_Ob Z a0 h0 o "com/example/anchorline/anchorline/TlsReader" [("data", "[B", .null), ("pos", "I", (.int (0 : Int32))), ("limit", "I", (.int (0 : Int32)))]) (ge_o : n0 ≤ o) : own_Met l Z n0 (⟨"com/example/anchorline/anchorline/TlsReader", "<init>", "([BII)V"⟩ : MethodName) prog_32_method_2_code 4 none [] ({ frames := 1, cells := 0, slots := 0, locals := 20 } : Room) #[(.ref o), (.ref d), (.int p_), (.int l_)] h0 (fun v h => v = none ∧ Keep h0 h [o] ∧ own_Ob Z a0 h o "com/example/anchorline/anchorline/TlsReader" [("data", "[B", (.ref d)), ("pos", "I", (.int p_)), ("limit", "I", (.int l_))]) := by
  refine own_body (plainFor_of_name own_pn_com_example_anchorline_anchorline_TlsReader) hn0 (own_ef_ini3 o d p_ l_) ?_
  intro p e s m below meth c T C X
  have KK := Keep.refl h0 [o]
  refine own_aloadN C X own_d2_0 rfl rfl (pc' := 1) rfl ?_
  refine own_objinit C X own_d2_1 (hw _ (List.mem_of_getElem? (i := 10) rfl)) (hw _ (List.mem_of_getElem? (i := 11) rfl)) (hw _ (List.mem_of_getElem? (i := 12) rfl)) rfl (by decide) (Nat.le_of_ble_eq_true rfl) (pc' := 4) rfl ?_
  intro T X
  refine own_aloadN C X own_d2_4 rfl rfl (pc' := 5) rfl ?_
  refine own_aloadN C X own_d2_5 rfl rfl (pc' := 6) rfl ?_
  refine own_putfield C X own_d2_6 (hw _ (List.mem_of_getElem? (i := 13) rfl)) (Or.inr ⟨(hw _ (List.mem_of_getElem? (i := 14) rfl)), rfl, rfl⟩) (hw _ (List.mem_of_getElem? (i := 2) rfl)) O (i := 0) rfl (ty := (.array .byte)) (by decide) rfl rfl ge_o (pc' := 9) rfl ?_
  intro T h X K_ O_
  have O : own_Ob Z a0 h o "com/example/anchorline/anchorline/TlsReader" [("data", "[B", (.ref d)), ("pos", "I", (.int (0 : Int32))), ("limit", "I", (.int (0 : Int32)))] := O_
  have KK := KK.trans K_ (allS (Or.inl (by simp)) all0)
  refine own_aloadN C X own_d2_9 rfl rfl (pc' := 10) rfl ?_
  refine own_iloadN C X own_d2_10 rfl (pc' := 11) rfl ?_
  refine own_putfield C X own_d2_11 (hw _ (List.mem_of_getElem? (i := 15) rfl)) (Or.inl (hw _ (List.mem_of_getElem? (i := 16) rfl))) (hw _ (List.mem_of_getElem? (i := 2) rfl)) O (i := 1) rfl (ty := .int) (by decide) rfl rfl ge_o (pc' := 14) rfl ?_
  intro T h X K_ O_
  have O : own_Ob Z a0 h o "com/example/anchorline/anchorline/TlsReader" [("data", "[B", (.ref d)), ("pos", "I", (.int p_)), ("limit", "I", (.int (0 : Int32)))] := O_
  have KK := KK.trans K_ (allS (Or.inl (by simp)) all0)
  refine own_aloadN C X own_d2_14 rfl rfl (pc' := 15) rfl ?_
  refine own_iloadN C X own_d2_15 rfl (pc' := 16) rfl ?_
  refine own_putfield C X own_d2_16 (hw _ (List.mem_of_getElem? (i := 17) rfl)) (Or.inr ⟨(hw _ (List.mem_of_getElem? (i := 18) rfl)), rfl, rfl⟩) (hw _ (List.mem_of_getElem? (i := 2) rfl)) O (i := 2) rfl (ty := .int) (by decide) rfl rfl ge_o (pc' := 19) rfl ?_
  intro T h X K_ O_
  have O : own_Ob Z a0 h o "com/example/anchorline/anchorline/TlsReader" [("data", "[B", (.ref d)), ("pos", "I", (.int p_)), ("limit", "I", (.int l_))] := O_
  have KK := KK.trans K_ (allS (Or.inl (by simp)) all0)
  exact own_return C X own_d2_19 (Nat.le_of_ble_eq_true rfl) (Nat.le_of_ble_eq_true rfl) (⟨rfl, KK, O⟩)
theorem own_ef_ini1 (o : Addr) (d : Addr) (m : MethodId) : entryFrame m #[(.ref o), (.ref d)] 2 = mkF m 0 #[.val (.ref o), .val (.ref d)] [] := by first | (simp [entryFrame, mkF, argsToLocals, Value.category]; done) | rfl
theorem own_d1_0 : decode prog_32_method_1_code 0 = .ok (.aload_n 0, 1) := by decide +kernel
theorem own_d1_1 : decode prog_32_method_1_code 1 = .ok (.aload_n 1, 1) := by decide +kernel
theorem own_d1_2 : decode prog_32_method_1_code 2 = .ok (.iconst 0, 1) := by decide +kernel
theorem own_d1_3 : decode prog_32_method_1_code 3 = .ok (.aload_n 1, 1) := by decide +kernel
theorem own_d1_4 : decode prog_32_method_1_code 4 = .ok (.arraylength, 1) := by decide +kernel
theorem own_pd_4745 : parseMethodDescriptor "([BII)V" = some ⟨[(.array .byte), .int, .int], none⟩ := by decide +kernel
theorem own_d1_5 : decode prog_32_method_1_code 5 = .ok (.invokespecial 1, 3) := by decide +kernel
theorem own_d1_8 : decode prog_32_method_1_code 8 = .ok (.return_, 1) := by decide +kernel
set_option maxRecDepth 65536 in
set_option maxHeartbeats 40000000 in
theorem own_m_ini1 (l : Launch) (Z : State) (a0 : Array Value) (hw : ∀ d ∈ tables_1, d.before a0 Z = true) (o : Addr) (d : Addr) (h0 : Heap) (n0 : Nat) (hn0 : n0 ≤ h0.size) (xs : List Int32) (n : Int32) (hn : n.toInt = (xs.length : Int)) (O : own_Ob Z a0 h0 o "com/example/anchorline/anchorline/TlsReader" [("data", "[B", .null), ("pos", "I", (.int (0 : Int32))), ("limit", "I", (.int (0 : Int32)))]) (A : own_IA Z h0 d .byte xs) (ne_o_d : o ≠ d) (ge_o : n0 ≤ o) : own_Met l Z n0 (⟨"com/example/anchorline/anchorline/TlsReader", "<init>", "([B)V"⟩ : MethodName) prog_32_method_1_code 2 none [] ({ frames := 2, cells := 0, slots := 0, locals := 40 } : Room) #[(.ref o), (.ref d)] h0 (fun v h => v = none ∧ Keep h0 h [o] ∧ own_Ob Z a0 h o "com/example/anchorline/anchorline/TlsReader" [("data", "[B", (.ref d)), ("pos", "I", (.int (0 : Int32))), ("limit", "I", (.int n))]) := by
  refine own_body (plainFor_of_name own_pn_com_example_anchorline_anchorline_TlsReader) hn0 (own_ef_ini1 o d) ?_
  intro p e s m below meth c T C X
  have KK := Keep.refl h0 [o]
  refine own_aloadN C X own_d1_0 rfl rfl (pc' := 1) rfl ?_
  refine own_aloadN C X own_d1_1 rfl rfl (pc' := 2) rfl ?_
  refine own_iconst C X own_d1_2 (v := 0) (by decide) (pc' := 3) rfl ?_
  refine own_aloadN C X own_d1_3 rfl rfl (pc' := 4) rfl ?_
  refine own_alenI C X own_d1_4 (n := n) A hn (pc' := 5) rfl ?_
  refine own_callInit C X own_d1_5 (own_m_ini3 l Z a0 hw o d (0 : Int32) n _ n0 (own_big C X) O ge_o) rfl (hw _ (List.mem_of_getElem? (i := 7) rfl)) (hw _ (List.mem_of_getElem? (i := 8) rfl)) (hw _ (List.mem_of_getElem? (i := 3) rfl)) (hw _ (List.mem_of_getElem? (i := 9) rfl)) (by decide) own_pd_4745 rfl rfl (Nat.le_of_ble_eq_true rfl) (Nat.le_of_ble_eq_true rfl) (Nat.le_of_ble_eq_true rfl) (Nat.le_of_ble_eq_true rfl) (av := [(.ref d), (.int (0 : Int32)), (.int n)]) (S := []) rfl (pc' := 8) rfl ?_
  intro T h v X hQ
  obtain ⟨rfl, K_, O⟩ := hQ
  have A := A.keep K_ (ninS (Ne.symm ne_o_d) nin0)
  have KK := KK.trans K_ (allS (Or.inl (by simp)) all0)
  show own_Go p e below n0 (own_Fin ({ frames := 2, cells := 0, slots := 0, locals := 40 } : Room) s (fun v h => v = none ∧ Keep h0 h [o] ∧ own_Ob Z a0 h o "com/example/anchorline/anchorline/TlsReader" [("data", "[B", (.ref d)), ("pos", "I", (.int (0 : Int32))), ("limit", "I", (.int n))])) (T.setTop (mkF m 8 #[.val (.ref o), .val (.ref d)] []))
  exact own_return C X own_d1_8 (Nat.le_of_ble_eq_true rfl) (Nat.le_of_ble_eq_true rfl) (⟨rfl, KK, O⟩)
theorem own_ef_hr (o : Addr) (m : MethodId) : entryFrame m #[(.ref o)] 1 = mkF m 0 #[.val (.ref o)] [] := by first | (simp [entryFrame, mkF, argsToLocals, Value.category]; done) | rfl
theorem own_d12_0 : decode prog_32_method_4_code 0 = .ok (.aload_n 0, 1) := by decide +kernel
theorem own_d12_1 : decode prog_32_method_4_code 1 = .ok (.getfield 16, 3) := by decide +kernel
theorem own_d12_4 : decode prog_32_method_4_code 4 = .ok (.aload_n 0, 1) := by decide +kernel
theorem own_d12_5 : decode prog_32_method_4_code 5 = .ok (.getfield 20, 3) := by decide +kernel
theorem own_d12_8 : decode prog_32_method_4_code 8 = .ok (.if_icmp .ge 7, 3) := by decide +kernel
theorem own_d12_15 : decode prog_32_method_4_code 15 = .ok (.iconst 0, 1) := by decide +kernel
theorem own_d12_16 : decode prog_32_method_4_code 16 = .ok (.ireturn, 1) := by decide +kernel
theorem own_d12_11 : decode prog_32_method_4_code 11 = .ok (.iconst 1, 1) := by decide +kernel
theorem own_d12_12 : decode prog_32_method_4_code 12 = .ok (.goto 4, 3) := by decide +kernel
set_option maxRecDepth 65536 in
set_option maxHeartbeats 40000000 in
theorem own_m_hr (l : Launch) (Z : State) (a0 : Array Value) (hw : ∀ d ∈ tables_1, d.before a0 Z = true) (o : Addr) (h0 : Heap) (n0 : Nat) (hn0 : n0 ≤ h0.size) (d : Addr) (p_ l_ : Int32) (O : own_Ob Z a0 h0 o "com/example/anchorline/anchorline/TlsReader" [("data", "[B", (.ref d)), ("pos", "I", (.int p_)), ("limit", "I", (.int l_))]) : own_Met l Z n0 (⟨"com/example/anchorline/anchorline/TlsReader", "hasRemaining", "()Z"⟩ : MethodName) prog_32_method_4_code 1 (some .boolean) [] ({ frames := 0, cells := 0, slots := 0, locals := 0 } : Room) #[(.ref o)] h0 (fun v h => v = some (.int (own_hr p_ l_)) ∧ h0 = h) := by
  refine own_body (plainFor_of_name own_pn_com_example_anchorline_anchorline_TlsReader) hn0 (own_ef_hr o) ?_
  intro p e s m below meth c T C X
  refine own_aloadN C X own_d12_0 rfl rfl (pc' := 1) rfl ?_
  refine own_getfield C X own_d12_1 (hw _ (List.mem_of_getElem? (i := 15) rfl)) O (i := 1) rfl (pc' := 4) rfl ?_
  intro T X
  refine own_aloadN C X own_d12_4 rfl rfl (pc' := 5) rfl ?_
  refine own_getfield C X own_d12_5 (hw _ (List.mem_of_getElem? (i := 17) rfl)) O (i := 2) rfl (pc' := 8) rfl ?_
  intro T X
  refine own_icmp_ge C X own_d12_8 (pcT := 15) (pc' := 11) (by decide) (by decide) rfl (fun hc8 => ?_) (fun hc8 => ?_)
  · refine own_iconst C X own_d12_15 (v := 0) (by decide) (pc' := 16) rfl ?_
    exact own_ireturn_z C X own_d12_16 (Nat.le_of_ble_eq_true rfl) (Nat.le_of_ble_eq_true rfl) (⟨by rw [own_hr]; simp only [hc8, if_true, if_false]; rfl, rfl⟩)
  · refine own_iconst C X own_d12_11 (v := 1) (by decide) (pc' := 12) rfl ?_
    refine own_goto C X own_d12_12 (pc' := 16) (by decide) (by decide) ?_
    exact own_ireturn_z C X own_d12_16 (Nat.le_of_ble_eq_true rfl) (Nat.le_of_ble_eq_true rfl) (⟨by rw [own_hr]; simp only [hc8, if_true, if_false]; rfl, rfl⟩)
theorem own_ef_take (o : Addr) (n : Int32) (sg : Addr) (m : MethodId) : entryFrame m #[(.ref o), (.int n), (.ref sg)] 4 = mkF m 0 #[.val (.ref o), .val (.int n), .val (.ref sg), .unset] [] := by first | (simp [entryFrame, mkF, argsToLocals, Value.category]; done) | rfl
theorem own_d5_0 : decode prog_32_method_10_code 0 = .ok (.iload_n 1, 1) := by decide +kernel
theorem own_d5_1 : decode prog_32_method_10_code 1 = .ok (.aload_n 0, 1) := by decide +kernel
theorem own_d5_2 : decode prog_32_method_10_code 2 = .ok (.getfield 20, 3) := by decide +kernel
theorem own_d5_5 : decode prog_32_method_10_code 5 = .ok (.aload_n 0, 1) := by decide +kernel
theorem own_d5_6 : decode prog_32_method_10_code 6 = .ok (.getfield 16, 3) := by decide +kernel
theorem own_d5_9 : decode prog_32_method_10_code 9 = .ok (.isub, 1) := by decide +kernel
theorem own_d5_10 : decode prog_32_method_10_code 10 = .ok (.if_icmp .le 27, 3) := by decide +kernel
theorem own_d5_37 : decode prog_32_method_10_code 37 = .ok (.aload_n 0, 1) := by decide +kernel
theorem own_d5_38 : decode prog_32_method_10_code 38 = .ok (.getfield 16, 3) := by decide +kernel
theorem own_d5_41 : decode prog_32_method_10_code 41 = .ok (.istore_n 3, 1) := by decide +kernel
theorem own_d5_42 : decode prog_32_method_10_code 42 = .ok (.aload_n 0, 1) := by decide +kernel
theorem own_d5_43 : decode prog_32_method_10_code 43 = .ok (.dup, 1) := by decide +kernel
theorem own_d5_44 : decode prog_32_method_10_code 44 = .ok (.getfield 16, 3) := by decide +kernel
theorem own_d5_47 : decode prog_32_method_10_code 47 = .ok (.iload_n 1, 1) := by decide +kernel
theorem own_d5_48 : decode prog_32_method_10_code 48 = .ok (.iadd, 1) := by decide +kernel
theorem own_d5_49 : decode prog_32_method_10_code 49 = .ok (.putfield 16, 3) := by decide +kernel
theorem own_d5_52 : decode prog_32_method_10_code 52 = .ok (.iload_n 3, 1) := by decide +kernel
theorem own_d5_53 : decode prog_32_method_10_code 53 = .ok (.ireturn, 1) := by decide +kernel
set_option maxRecDepth 65536 in
set_option maxHeartbeats 40000000 in
theorem own_m_take (l : Launch) (Z : State) (a0 : Array Value) (hw : ∀ d ∈ tables_1, d.before a0 Z = true) (o : Addr) (n : Int32) (sg : Addr) (h0 : Heap) (n0 : Nat) (hn0 : n0 ≤ h0.size) (d : Addr) (p_ l_ p1 : Int32) (hp1 : p_ + n = p1) (hle : ¬ (l_ - p_) < n) (O : own_Ob Z a0 h0 o "com/example/anchorline/anchorline/TlsReader" [("data", "[B", (.ref d)), ("pos", "I", (.int p_)), ("limit", "I", (.int l_))]) (ge_o : n0 ≤ o) : own_Met l Z n0 (⟨"com/example/anchorline/anchorline/TlsReader", "take", "(ILjava/lang/String;)I"⟩ : MethodName) prog_32_method_10_code 4 (some .int) [] ({ frames := 0, cells := 0, slots := 0, locals := 0 } : Room) #[(.ref o), (.int n), (.ref sg)] h0 (fun v h => v = some (.int p_) ∧ Keep h0 h [o] ∧ own_Ob Z a0 h o "com/example/anchorline/anchorline/TlsReader" [("data", "[B", (.ref d)), ("pos", "I", (.int p1)), ("limit", "I", (.int l_))]) := by
  refine own_body (plainFor_of_name own_pn_com_example_anchorline_anchorline_TlsReader) hn0 (own_ef_take o n sg) ?_
  intro p e s m below meth c T C X
  have KK := Keep.refl h0 [o]
  refine own_iloadN C X own_d5_0 rfl (pc' := 1) rfl ?_
  refine own_aloadN C X own_d5_1 rfl rfl (pc' := 2) rfl ?_
  refine own_getfield C X own_d5_2 (hw _ (List.mem_of_getElem? (i := 17) rfl)) O (i := 2) rfl (pc' := 5) rfl ?_
  intro T X
  refine own_aloadN C X own_d5_5 rfl rfl (pc' := 6) rfl ?_
  refine own_getfield C X own_d5_6 (hw _ (List.mem_of_getElem? (i := 15) rfl)) O (i := 1) rfl (pc' := 9) rfl ?_
  intro T X
  refine own_isub C X own_d5_9 rfl (pc' := 10) rfl ?_
  refine own_icmp_le C X own_d5_10 (pcT := 37) (pc' := 13) (by decide) (by decide) rfl (fun hc10 => ?_) (fun hc10 => absurd hc10 (hle))
  refine own_aloadN C X own_d5_37 rfl rfl (pc' := 38) rfl ?_
  refine own_getfield C X own_d5_38 (hw _ (List.mem_of_getElem? (i := 15) rfl)) O (i := 1) rfl (pc' := 41) rfl ?_
  intro T X
  refine own_istoreN C X own_d5_41 (L' := #[.val (.ref o), .val (.int n), .val (.ref sg), .val (.int p_)]) rfl (pc' := 42) rfl ?_
  refine own_aloadN C X own_d5_42 rfl rfl (pc' := 43) rfl ?_
  refine own_dup C X own_d5_43 rfl (pc' := 44) rfl ?_
  refine own_getfield C X own_d5_44 (hw _ (List.mem_of_getElem? (i := 15) rfl)) O (i := 1) rfl (pc' := 47) rfl ?_
  intro T X
  refine own_iloadN C X own_d5_47 rfl (pc' := 48) rfl ?_
  refine own_iadd C X own_d5_48 hp1 (pc' := 49) rfl ?_
  refine own_putfield C X own_d5_49 (hw _ (List.mem_of_getElem? (i := 15) rfl)) (Or.inl (hw _ (List.mem_of_getElem? (i := 16) rfl))) (hw _ (List.mem_of_getElem? (i := 2) rfl)) O (i := 1) rfl (ty := .int) (by decide) rfl rfl ge_o (pc' := 52) rfl ?_
  intro T h X K_ O_
  have O : own_Ob Z a0 h o "com/example/anchorline/anchorline/TlsReader" [("data", "[B", (.ref d)), ("pos", "I", (.int p1)), ("limit", "I", (.int l_))] := O_
  have KK := KK.trans K_ (allS (Or.inl (by simp)) all0)
  refine own_iloadN C X own_d5_52 rfl (pc' := 53) rfl ?_
  exact own_ireturn C X own_d5_53 (Nat.le_of_ble_eq_true rfl) (Nat.le_of_ble_eq_true rfl) (⟨rfl, KK, O⟩)
theorem own_ef_skip (o : Addr) (n : Int32) (sg : Addr) (m : MethodId) : entryFrame m #[(.ref o), (.int n), (.ref sg)] 3 = mkF m 0 #[.val (.ref o), .val (.int n), .val (.ref sg)] [] := by first | (simp [entryFrame, mkF, argsToLocals, Value.category]; done) | rfl
theorem own_d4_0 : decode prog_32_method_6_code 0 = .ok (.aload_n 0, 1) := by decide +kernel
theorem own_d4_1 : decode prog_32_method_6_code 1 = .ok (.iload_n 1, 1) := by decide +kernel
theorem own_d4_2 : decode prog_32_method_6_code 2 = .ok (.aload_n 2, 1) := by decide +kernel
theorem own_pd_33718 : parseMethodDescriptor "(ILjava/lang/String;)I" = some ⟨[.int, (.object "java/lang/String")], some .int⟩ := by decide +kernel
theorem own_d4_3 : decode prog_32_method_6_code 3 = .ok (.invokevirtual 34, 3) := by decide +kernel
theorem own_d4_6 : decode prog_32_method_6_code 6 = .ok (.pop, 1) := by decide +kernel
theorem own_d4_7 : decode prog_32_method_6_code 7 = .ok (.return_, 1) := by decide +kernel
set_option maxRecDepth 65536 in
set_option maxHeartbeats 40000000 in
theorem own_m_skip (l : Launch) (Z : State) (a0 : Array Value) (hw : ∀ d ∈ tables_1, d.before a0 Z = true) (o : Addr) (n : Int32) (sg : Addr) (h0 : Heap) (n0 : Nat) (hn0 : n0 ≤ h0.size) (d : Addr) (p_ l_ p1 : Int32) (hp1 : p_ + n = p1) (hle : ¬ (l_ - p_) < n) (O : own_Ob Z a0 h0 o "com/example/anchorline/anchorline/TlsReader" [("data", "[B", (.ref d)), ("pos", "I", (.int p_)), ("limit", "I", (.int l_))]) (ge_o : n0 ≤ o) : own_Met l Z n0 (⟨"com/example/anchorline/anchorline/TlsReader", "skip", "(ILjava/lang/String;)V"⟩ : MethodName) prog_32_method_6_code 3 none [] ({ frames := 1, cells := 0, slots := 0, locals := 20 } : Room) #[(.ref o), (.int n), (.ref sg)] h0 (fun v h => v = none ∧ Keep h0 h [o] ∧ own_Ob Z a0 h o "com/example/anchorline/anchorline/TlsReader" [("data", "[B", (.ref d)), ("pos", "I", (.int p1)), ("limit", "I", (.int l_))]) := by
  refine own_body (plainFor_of_name own_pn_com_example_anchorline_anchorline_TlsReader) hn0 (own_ef_skip o n sg) ?_
  intro p e s m below meth c T C X
  have KK := Keep.refl h0 [o]
  refine own_aloadN C X own_d4_0 rfl rfl (pc' := 1) rfl ?_
  refine own_iloadN C X own_d4_1 rfl (pc' := 2) rfl ?_
  refine own_aloadN C X own_d4_2 rfl rfl (pc' := 3) rfl ?_
  refine own_callP C X own_d4_3 (own_m_take l Z a0 hw o n sg _ n0 (own_big C X) d p_ l_ p1 hp1 hle O ge_o) O.1 (hw _ (List.mem_of_getElem? (i := 32) rfl)) (hw _ (List.mem_of_getElem? (i := 2) rfl)) (hw _ (List.mem_of_getElem? (i := 34) rfl)) (hw _ (List.mem_of_getElem? (i := 33) rfl)) (hw _ (List.mem_of_getElem? (i := 3) rfl)) (hw _ (List.mem_of_getElem? (i := 35) rfl)) (by decide) own_pd_33718 rfl rfl (Nat.le_of_ble_eq_true rfl) (Nat.le_of_ble_eq_true rfl) (Nat.le_of_ble_eq_true rfl) (Nat.le_of_ble_eq_true rfl) (av := [(.int n), (.ref sg)]) (S := []) rfl (pc' := 6) rfl ?_
  intro T h v X hQ
  obtain ⟨rfl, K_, O⟩ := hQ
  have KK := KK.trans K_ (allS (Or.inl (by simp)) all0)
  show own_Go p e below n0 (own_Fin ({ frames := 1, cells := 0, slots := 0, locals := 20 } : Room) s (fun v h => v = none ∧ Keep h0 h [o] ∧ own_Ob Z a0 h o "com/example/anchorline/anchorline/TlsReader" [("data", "[B", (.ref d)), ("pos", "I", (.int p1)), ("limit", "I", (.int l_))])) (T.setTop (mkF m 6 #[.val (.ref o), .val (.int n), .val (.ref sg)] [(.int p_)]))
  refine own_pop C X own_d4_6 rfl (pc' := 7) rfl ?_
  exact own_return C X own_d4_7 (Nat.le_of_ble_eq_true rfl) (Nat.le_of_ble_eq_true rfl) (⟨rfl, KK, O⟩)
theorem own_ef_uint (o : Addr) (sg : Addr) (m : MethodId) : entryFrame m #[(.ref o), (.int (1 : Int32)), (.ref sg)] 6 = mkF m 0 #[.val (.ref o), .val (.int (1 : Int32)), .val (.ref sg), .unset, .unset, .unset] [] := by first | (simp [entryFrame, mkF, argsToLocals, Value.category]; done) | rfl
theorem own_d14_0 : decode prog_32_method_5_code 0 = .ok (.aload_n 0, 1) := by decide +kernel
theorem own_d14_1 : decode prog_32_method_5_code 1 = .ok (.iload_n 1, 1) := by decide +kernel
theorem own_d14_2 : decode prog_32_method_5_code 2 = .ok (.aload_n 2, 1) := by decide +kernel
theorem own_d14_3 : decode prog_32_method_5_code 3 = .ok (.invokevirtual 34, 3) := by decide +kernel
theorem own_d14_6 : decode prog_32_method_5_code 6 = .ok (.istore_n 3, 1) := by decide +kernel
theorem own_d14_7 : decode prog_32_method_5_code 7 = .ok (.iconst 0, 1) := by decide +kernel
theorem own_d14_8 : decode prog_32_method_5_code 8 = .ok (.istore 4, 2) := by decide +kernel
theorem own_d14_10 : decode prog_32_method_5_code 10 = .ok (.iload_n 3, 1) := by decide +kernel
theorem own_d14_11 : decode prog_32_method_5_code 11 = .ok (.istore 5, 2) := by decide +kernel
theorem own_d14_13 : decode prog_32_method_5_code 13 = .ok (.iload 5, 2) := by decide +kernel
theorem own_d14_15 : decode prog_32_method_5_code 15 = .ok (.iload_n 3, 1) := by decide +kernel
theorem own_d14_16 : decode prog_32_method_5_code 16 = .ok (.iload_n 1, 1) := by decide +kernel
theorem own_d14_17 : decode prog_32_method_5_code 17 = .ok (.iadd, 1) := by decide +kernel
theorem own_d14_18 : decode prog_32_method_5_code 18 = .ok (.if_icmp .ge 28, 3) := by decide +kernel
theorem own_d14_21 : decode prog_32_method_5_code 21 = .ok (.iload 4, 2) := by decide +kernel
theorem own_d14_23 : decode prog_32_method_5_code 23 = .ok (.bipush 8, 2) := by decide +kernel
theorem own_d14_25 : decode prog_32_method_5_code 25 = .ok (.ishl, 1) := by decide +kernel
theorem own_d14_26 : decode prog_32_method_5_code 26 = .ok (.aload_n 0, 1) := by decide +kernel
theorem own_d14_27 : decode prog_32_method_5_code 27 = .ok (.getfield 12, 3) := by decide +kernel
theorem own_d14_30 : decode prog_32_method_5_code 30 = .ok (.iload 5, 2) := by decide +kernel
theorem own_d14_32 : decode prog_32_method_5_code 32 = .ok (.baload, 1) := by decide +kernel
theorem own_d14_33 : decode prog_32_method_5_code 33 = .ok (.sipush 255, 3) := by decide +kernel
theorem own_d14_36 : decode prog_32_method_5_code 36 = .ok (.iand, 1) := by decide +kernel
theorem own_d14_37 : decode prog_32_method_5_code 37 = .ok (.ior, 1) := by decide +kernel
theorem own_d14_38 : decode prog_32_method_5_code 38 = .ok (.istore 4, 2) := by decide +kernel
theorem own_d14_40 : decode prog_32_method_5_code 40 = .ok (.iinc 5 1, 3) := by decide +kernel
theorem own_d14_43 : decode prog_32_method_5_code 43 = .ok (.goto (-30), 3) := by decide +kernel
theorem own_d14_46 : decode prog_32_method_5_code 46 = .ok (.iload 4, 2) := by decide +kernel
theorem own_d14_48 : decode prog_32_method_5_code 48 = .ok (.ireturn, 1) := by decide +kernel
set_option maxRecDepth 65536 in
set_option maxHeartbeats 40000000 in
theorem own_m_uint (l : Launch) (Z : State) (a0 : Array Value) (hw : ∀ d ∈ tables_1, d.before a0 Z = true) (o : Addr) (sg : Addr) (h0 : Heap) (n0 : Nat) (hn0 : n0 ≤ h0.size) (d : Addr) (xs : List Int32) (l_ b0 r : Int32) (hb0 : xs[0]? = some b0) (hr : (0 : Int32) ||| (b0 &&& 255) = r) (hl1 : ¬ (l_ - 0) < 1) (O : own_Ob Z a0 h0 o "com/example/anchorline/anchorline/TlsReader" [("data", "[B", (.ref d)), ("pos", "I", (.int (0 : Int32))), ("limit", "I", (.int l_))]) (A : own_IA Z h0 d .byte xs) (ne_o_d : o ≠ d) (ge_o : n0 ≤ o) : own_Met l Z n0 (⟨"com/example/anchorline/anchorline/TlsReader", "uint", "(ILjava/lang/String;)I"⟩ : MethodName) prog_32_method_5_code 6 (some .int) [] ({ frames := 1, cells := 0, slots := 0, locals := 20 } : Room) #[(.ref o), (.int (1 : Int32)), (.ref sg)] h0 (fun v h => v = some (.int r) ∧ Keep h0 h [o] ∧ own_Ob Z a0 h o "com/example/anchorline/anchorline/TlsReader" [("data", "[B", (.ref d)), ("pos", "I", (.int (1 : Int32))), ("limit", "I", (.int l_))]) := by
  refine own_body (plainFor_of_name own_pn_com_example_anchorline_anchorline_TlsReader) hn0 (own_ef_uint o sg) ?_
  intro p e s m below meth c T C X
  have KK := Keep.refl h0 [o]
  refine own_aloadN C X own_d14_0 rfl rfl (pc' := 1) rfl ?_
  refine own_iloadN C X own_d14_1 rfl (pc' := 2) rfl ?_
  refine own_aloadN C X own_d14_2 rfl rfl (pc' := 3) rfl ?_
  refine own_callP C X own_d14_3 (own_m_take l Z a0 hw o (1 : Int32) sg _ n0 (own_big C X) d (0 : Int32) l_ (1 : Int32) (by decide) hl1 O ge_o) O.1 (hw _ (List.mem_of_getElem? (i := 32) rfl)) (hw _ (List.mem_of_getElem? (i := 2) rfl)) (hw _ (List.mem_of_getElem? (i := 34) rfl)) (hw _ (List.mem_of_getElem? (i := 33) rfl)) (hw _ (List.mem_of_getElem? (i := 3) rfl)) (hw _ (List.mem_of_getElem? (i := 35) rfl)) (by decide) own_pd_33718 rfl rfl (Nat.le_of_ble_eq_true rfl) (Nat.le_of_ble_eq_true rfl) (Nat.le_of_ble_eq_true rfl) (Nat.le_of_ble_eq_true rfl) (av := [(.int (1 : Int32)), (.ref sg)]) (S := []) rfl (pc' := 6) rfl ?_
  intro T h v X hQ
  obtain ⟨rfl, K_, O⟩ := hQ
  have A := A.keep K_ (ninS (Ne.symm ne_o_d) nin0)
  have KK := KK.trans K_ (allS (Or.inl (by simp)) all0)
  show own_Go p e below n0 (own_Fin ({ frames := 1, cells := 0, slots := 0, locals := 20 } : Room) s (fun v h => v = some (.int r) ∧ Keep h0 h [o] ∧ own_Ob Z a0 h o "com/example/anchorline/anchorline/TlsReader" [("data", "[B", (.ref d)), ("pos", "I", (.int (1 : Int32))), ("limit", "I", (.int l_))])) (T.setTop (mkF m 6 #[.val (.ref o), .val (.int (1 : Int32)), .val (.ref sg), .unset, .unset, .unset] [(.int (0 : Int32))]))
  refine own_istoreN C X own_d14_6 (L' := #[.val (.ref o), .val (.int (1 : Int32)), .val (.ref sg), .val (.int (0 : Int32)), .unset, .unset]) rfl (pc' := 7) rfl ?_
  refine own_iconst C X own_d14_7 (v := 0) (by decide) (pc' := 8) rfl ?_
  refine own_istore C X own_d14_8 (L' := #[.val (.ref o), .val (.int (1 : Int32)), .val (.ref sg), .val (.int (0 : Int32)), .val (.int (0 : Int32)), .unset]) rfl (pc' := 10) rfl ?_
  refine own_iloadN C X own_d14_10 rfl (pc' := 11) rfl ?_
  refine own_istore C X own_d14_11 (L' := #[.val (.ref o), .val (.int (1 : Int32)), .val (.ref sg), .val (.int (0 : Int32)), .val (.int (0 : Int32)), .val (.int (0 : Int32))]) rfl (pc' := 13) rfl ?_
  refine own_iload C X own_d14_13 rfl (pc' := 15) rfl ?_
  refine own_iloadN C X own_d14_15 rfl (pc' := 16) rfl ?_
  refine own_iloadN C X own_d14_16 rfl (pc' := 17) rfl ?_
  refine own_iadd C X own_d14_17 (z := 1) (by decide) (pc' := 18) rfl ?_
  refine own_icmp_ge C X own_d14_18 (pcT := 46) (pc' := 21) (by decide) (by decide) rfl (fun hc18 => absurd hc18 (by decide)) (fun hc18 => ?_)
  refine own_iload C X own_d14_21 rfl (pc' := 23) rfl ?_
  refine own_bipush C X own_d14_23 (v := 8) (by decide) (pc' := 25) rfl ?_
  refine own_ishl C X own_d14_25 (z := 0) (by decide) (pc' := 26) rfl ?_
  refine own_aloadN C X own_d14_26 rfl rfl (pc' := 27) rfl ?_
  refine own_getfield C X own_d14_27 (hw _ (List.mem_of_getElem? (i := 13) rfl)) O (i := 0) rfl (pc' := 30) rfl ?_
  intro T X
  refine own_iload C X own_d14_30 rfl (pc' := 32) rfl ?_
  refine own_baload C X own_d14_32 A (by decide) (i := 0) hb0 (pc' := 33) rfl ?_
  refine own_sipush C X own_d14_33 (v := 255) (by decide) (pc' := 36) rfl ?_
  refine own_iand C X own_d14_36 rfl (pc' := 37) rfl ?_
  refine own_ior C X own_d14_37 hr (pc' := 38) rfl ?_
  refine own_istore C X own_d14_38 (L' := #[.val (.ref o), .val (.int (1 : Int32)), .val (.ref sg), .val (.int (0 : Int32)), .val (.int r), .val (.int (0 : Int32))]) rfl (pc' := 40) rfl ?_
  refine own_iinc C X own_d14_40 rfl (d := 1) (by decide) (z := 1) (by decide) (L' := #[.val (.ref o), .val (.int (1 : Int32)), .val (.ref sg), .val (.int (0 : Int32)), .val (.int r), .val (.int (1 : Int32))]) rfl (pc' := 43) rfl ?_
  refine own_goto C X own_d14_43 (pc' := 13) (by decide) (by decide) ?_
  refine own_iload C X own_d14_13 rfl (pc' := 15) rfl ?_
  refine own_iloadN C X own_d14_15 rfl (pc' := 16) rfl ?_
  refine own_iloadN C X own_d14_16 rfl (pc' := 17) rfl ?_
  refine own_iadd C X own_d14_17 (z := 1) (by decide) (pc' := 18) rfl ?_
  refine own_icmp_ge C X own_d14_18 (pcT := 46) (pc' := 21) (by decide) (by decide) rfl (fun hc18_2 => ?_) (fun hc18_2 => absurd hc18_2 (by decide))
  refine own_iload C X own_d14_46 rfl (pc' := 48) rfl ?_
  exact own_ireturn C X own_d14_48 (Nat.le_of_ble_eq_true rfl) (Nat.le_of_ble_eq_true rfl) (⟨rfl, KK, O⟩)
theorem own_ef_vec (o : Addr) (sg : Addr) (m : MethodId) : entryFrame m #[(.ref o), (.int (1 : Int32)), (.ref sg)] 5 = mkF m 0 #[.val (.ref o), .val (.int (1 : Int32)), .val (.ref sg), .unset, .unset] [] := by first | (simp [entryFrame, mkF, argsToLocals, Value.category]; done) | rfl
theorem own_d13_0 : decode prog_32_method_7_code 0 = .ok (.aload_n 0, 1) := by decide +kernel
theorem own_d13_1 : decode prog_32_method_7_code 1 = .ok (.iload_n 1, 1) := by decide +kernel
theorem own_d13_2 : decode prog_32_method_7_code 2 = .ok (.aload_n 2, 1) := by decide +kernel
theorem own_d13_3 : decode prog_32_method_7_code 3 = .ok (.invokevirtual 38, 3) := by decide +kernel
theorem own_d13_6 : decode prog_32_method_7_code 6 = .ok (.istore_n 3, 1) := by decide +kernel
theorem own_d13_7 : decode prog_32_method_7_code 7 = .ok (.aload_n 0, 1) := by decide +kernel
theorem own_d13_8 : decode prog_32_method_7_code 8 = .ok (.iload_n 3, 1) := by decide +kernel
theorem own_d13_9 : decode prog_32_method_7_code 9 = .ok (.aload_n 2, 1) := by decide +kernel
theorem own_d13_10 : decode prog_32_method_7_code 10 = .ok (.invokevirtual 34, 3) := by decide +kernel
theorem own_d13_13 : decode prog_32_method_7_code 13 = .ok (.istore 4, 2) := by decide +kernel
theorem own_d13_15 : decode prog_32_method_7_code 15 = .ok (.new 2, 3) := by decide +kernel
theorem own_d13_18 : decode prog_32_method_7_code 18 = .ok (.dup, 1) := by decide +kernel
theorem own_d13_19 : decode prog_32_method_7_code 19 = .ok (.aload_n 0, 1) := by decide +kernel
theorem own_d13_20 : decode prog_32_method_7_code 20 = .ok (.getfield 12, 3) := by decide +kernel
theorem own_d13_23 : decode prog_32_method_7_code 23 = .ok (.iload 4, 2) := by decide +kernel
theorem own_d13_25 : decode prog_32_method_7_code 25 = .ok (.iload 4, 2) := by decide +kernel
theorem own_d13_27 : decode prog_32_method_7_code 27 = .ok (.iload_n 3, 1) := by decide +kernel
theorem own_d13_28 : decode prog_32_method_7_code 28 = .ok (.iadd, 1) := by decide +kernel
theorem own_d13_29 : decode prog_32_method_7_code 29 = .ok (.invokespecial 1, 3) := by decide +kernel
theorem own_d13_32 : decode prog_32_method_7_code 32 = .ok (.areturn, 1) := by decide +kernel
set_option maxRecDepth 65536 in
set_option maxHeartbeats 40000000 in
theorem own_m_vec (l : Launch) (Z : State) (a0 : Array Value) (hw : ∀ d ∈ tables_1, d.before a0 Z = true) (o : Addr) (sg : Addr) (h0 : Heap) (n0 : Nat) (hn0 : n0 ≤ h0.size) (d : Addr) (xs : List Int32) (l_ b0 r : Int32) (hb0 : xs[0]? = some b0) (hr : (0 : Int32) ||| (b0 &&& 255) = r) (hl1 : ¬ (l_ - 0) < 1) (O : own_Ob Z a0 h0 o "com/example/anchorline/anchorline/TlsReader" [("data", "[B", (.ref d)), ("pos", "I", (.int (0 : Int32))), ("limit", "I", (.int l_))]) (A : own_IA Z h0 d .byte xs) (ne_o_d : o ≠ d) (ge_o : n0 ≤ o) (e1 : Int32) (he1 : (1 : Int32) + r = e1) (hl2 : ¬ (l_ - 1) < r) : own_Met l Z n0 (⟨"com/example/anchorline/anchorline/TlsReader", "vector", "(ILjava/lang/String;)Lcom/example/anchorline/anchorline/TlsReader;"⟩ : MethodName) prog_32_method_7_code 5 (some (.object "com/example/anchorline/anchorline/TlsReader")) [] ({ frames := 2, cells := 1, slots := 3, locals := 60 } : Room) #[(.ref o), (.int (1 : Int32)), (.ref sg)] h0 (fun v h => ∃ o2, v = some (.ref o2) ∧ h0.size ≤ o2 ∧ Keep h0 h [o] ∧ own_Ob Z a0 h o "com/example/anchorline/anchorline/TlsReader" [("data", "[B", (.ref d)), ("pos", "I", (.int e1)), ("limit", "I", (.int l_))] ∧ own_Ob Z a0 h o2 "com/example/anchorline/anchorline/TlsReader" [("data", "[B", (.ref d)), ("pos", "I", (.int (1 : Int32))), ("limit", "I", (.int e1))]) := by
  refine own_body (plainFor_of_name own_pn_com_example_anchorline_anchorline_TlsReader) hn0 (own_ef_vec o sg) ?_
  intro p e s m below meth c T C X
  have KK := Keep.refl h0 [o]
  refine own_aloadN C X own_d13_0 rfl rfl (pc' := 1) rfl ?_
  refine own_iloadN C X own_d13_1 rfl (pc' := 2) rfl ?_
  refine own_aloadN C X own_d13_2 rfl rfl (pc' := 3) rfl ?_
  refine own_callV C X own_d13_3 (own_m_uint l Z a0 hw o sg _ n0 (own_big C X) d xs l_ b0 r hb0 hr hl1 O A ne_o_d ge_o) O.1 (hw _ (List.mem_of_getElem? (i := 74) rfl)) (hw _ (List.mem_of_getElem? (i := 75) rfl)) (hw _ (List.mem_of_getElem? (i := 77) rfl)) (hw _ (List.mem_of_getElem? (i := 76) rfl)) (hw _ (List.mem_of_getElem? (i := 3) rfl)) (hw _ (List.mem_of_getElem? (i := 78) rfl)) (by decide) own_pd_33718 rfl rfl (Nat.le_of_ble_eq_true rfl) (Nat.le_of_ble_eq_true rfl) (Nat.le_of_ble_eq_true rfl) (Nat.le_of_ble_eq_true rfl) (av := [(.int (1 : Int32)), (.ref sg)]) (S := []) rfl (pc' := 6) rfl ?_
  intro T h v X hQ
  obtain ⟨rfl, K_, O⟩ := hQ
  have A := A.keep K_ (ninS (Ne.symm ne_o_d) nin0)
  have KK := KK.trans K_ (allS (Or.inl (by simp)) all0)
  show own_Go p e below n0 (own_Fin ({ frames := 2, cells := 1, slots := 3, locals := 60 } : Room) s (fun v h => ∃ o2, v = some (.ref o2) ∧ h0.size ≤ o2 ∧ Keep h0 h [o] ∧ own_Ob Z a0 h o "com/example/anchorline/anchorline/TlsReader" [("data", "[B", (.ref d)), ("pos", "I", (.int e1)), ("limit", "I", (.int l_))] ∧ own_Ob Z a0 h o2 "com/example/anchorline/anchorline/TlsReader" [("data", "[B", (.ref d)), ("pos", "I", (.int (1 : Int32))), ("limit", "I", (.int e1))])) (T.setTop (mkF m 6 #[.val (.ref o), .val (.int (1 : Int32)), .val (.ref sg), .unset, .unset] [(.int r)]))
  refine own_istoreN C X own_d13_6 (L' := #[.val (.ref o), .val (.int (1 : Int32)), .val (.ref sg), .val (.int r), .unset]) rfl (pc' := 7) rfl ?_
  refine own_aloadN C X own_d13_7 rfl rfl (pc' := 8) rfl ?_
  refine own_iloadN C X own_d13_8 rfl (pc' := 9) rfl ?_
  refine own_aloadN C X own_d13_9 rfl rfl (pc' := 10) rfl ?_
  refine own_callP C X own_d13_10 (own_m_take l Z a0 hw o r sg _ n0 (own_big C X) d (1 : Int32) l_ e1 he1 hl2 O ge_o) O.1 (hw _ (List.mem_of_getElem? (i := 32) rfl)) (hw _ (List.mem_of_getElem? (i := 2) rfl)) (hw _ (List.mem_of_getElem? (i := 34) rfl)) (hw _ (List.mem_of_getElem? (i := 33) rfl)) (hw _ (List.mem_of_getElem? (i := 3) rfl)) (hw _ (List.mem_of_getElem? (i := 35) rfl)) (by decide) own_pd_33718 rfl rfl (Nat.le_of_ble_eq_true rfl) (Nat.le_of_ble_eq_true rfl) (Nat.le_of_ble_eq_true rfl) (Nat.le_of_ble_eq_true rfl) (av := [(.int r), (.ref sg)]) (S := []) rfl (pc' := 13) rfl ?_
  intro T h v X hQ
  obtain ⟨rfl, K_, O⟩ := hQ
  have A := A.keep K_ (ninS (Ne.symm ne_o_d) nin0)
  have KK := KK.trans K_ (allS (Or.inl (by simp)) all0)
  show own_Go p e below n0 (own_Fin ({ frames := 2, cells := 1, slots := 3, locals := 60 } : Room) s (fun v h => ∃ o2, v = some (.ref o2) ∧ h0.size ≤ o2 ∧ Keep h0 h [o] ∧ own_Ob Z a0 h o "com/example/anchorline/anchorline/TlsReader" [("data", "[B", (.ref d)), ("pos", "I", (.int e1)), ("limit", "I", (.int l_))] ∧ own_Ob Z a0 h o2 "com/example/anchorline/anchorline/TlsReader" [("data", "[B", (.ref d)), ("pos", "I", (.int (1 : Int32))), ("limit", "I", (.int e1))])) (T.setTop (mkF m 13 #[.val (.ref o), .val (.int (1 : Int32)), .val (.ref sg), .val (.int r), .unset] [(.int (1 : Int32))]))
  refine own_istore C X own_d13_13 (L' := #[.val (.ref o), .val (.int (1 : Int32)), .val (.ref sg), .val (.int r), .val (.int (1 : Int32))]) rfl (pc' := 15) rfl ?_
  refine own_new C X own_d13_15 (hw _ (List.mem_of_getElem? (i := 79) rfl)) (hw _ (List.mem_of_getElem? (i := 2) rfl)) (hw _ (List.mem_of_getElem? (i := 3) rfl)) (Nat.le_of_ble_eq_true rfl) (Nat.le_of_ble_eq_true rfl) [("data", "[B", .null), ("pos", "I", (.int (0 : Int32))), ("limit", "I", (.int (0 : Int32)))] (by decide) ?_ (pc' := 18) rfl ?_
  · intro f hf; simp only [List.mem_cons, List.not_mem_nil, or_false] at hf
    rcases hf with rfl | rfl | rfl
    · exact ⟨(Or.inr (hw _ (List.mem_of_getElem? (i := 14) rfl))), (.array .byte), by decide, rfl⟩
    · exact ⟨(Or.inl (hw _ (List.mem_of_getElem? (i := 16) rfl))), .int, by decide, rfl⟩
    · exact ⟨(Or.inr (hw _ (List.mem_of_getElem? (i := 18) rfl))), .int, by decide, rfl⟩
  intro T h o2 e_o2 X K_ ge_o2 O_o2
  have gz_o2 : h0.size ≤ o2 := by rw [e_o2]; exact KK.1
  have ne_o_o2 : o ≠ o2 := by rw [e_o2]; exact Nat.ne_of_lt O.lt
  have ne_d_o2 : d ≠ o2 := by rw [e_o2]; exact Nat.ne_of_lt A.lt
  have O := O.keep K_ nin0
  have A := A.keep K_ nin0
  have KK := KK.trans K_ all0
  refine own_dup C X own_d13_18 rfl (pc' := 19) rfl ?_
  refine own_aloadN C X own_d13_19 rfl rfl (pc' := 20) rfl ?_
  refine own_getfield C X own_d13_20 (hw _ (List.mem_of_getElem? (i := 13) rfl)) O (i := 0) rfl (pc' := 23) rfl ?_
  intro T X
  refine own_iload C X own_d13_23 rfl (pc' := 25) rfl ?_
  refine own_iload C X own_d13_25 rfl (pc' := 27) rfl ?_
  refine own_iloadN C X own_d13_27 rfl (pc' := 28) rfl ?_
  refine own_iadd C X own_d13_28 he1 (pc' := 29) rfl ?_
  refine own_callInit C X own_d13_29 (own_m_ini3 l Z a0 hw o2 d (1 : Int32) e1 _ n0 (own_big C X) O_o2 ge_o2) rfl (hw _ (List.mem_of_getElem? (i := 7) rfl)) (hw _ (List.mem_of_getElem? (i := 8) rfl)) (hw _ (List.mem_of_getElem? (i := 3) rfl)) (hw _ (List.mem_of_getElem? (i := 9) rfl)) (by decide) own_pd_4745 rfl rfl (Nat.le_of_ble_eq_true rfl) (Nat.le_of_ble_eq_true rfl) (Nat.le_of_ble_eq_true rfl) (Nat.le_of_ble_eq_true rfl) (av := [(.ref d), (.int (1 : Int32)), (.int e1)]) (S := [(.ref o2)]) rfl (pc' := 32) rfl ?_
  intro T h v X hQ
  obtain ⟨rfl, K_, O_o2⟩ := hQ
  have O := O.keep K_ (ninS ne_o_o2 nin0)
  have A := A.keep K_ (ninS ne_d_o2 nin0)
  have KK := KK.trans K_ (allS (Or.inr gz_o2) all0)
  show own_Go p e below n0 (own_Fin ({ frames := 2, cells := 1, slots := 3, locals := 60 } : Room) s (fun v h => ∃ o2, v = some (.ref o2) ∧ h0.size ≤ o2 ∧ Keep h0 h [o] ∧ own_Ob Z a0 h o "com/example/anchorline/anchorline/TlsReader" [("data", "[B", (.ref d)), ("pos", "I", (.int e1)), ("limit", "I", (.int l_))] ∧ own_Ob Z a0 h o2 "com/example/anchorline/anchorline/TlsReader" [("data", "[B", (.ref d)), ("pos", "I", (.int (1 : Int32))), ("limit", "I", (.int e1))])) (T.setTop (mkF m 32 #[.val (.ref o), .val (.int (1 : Int32)), .val (.ref sg), .val (.int r), .val (.int (1 : Int32))] [(.ref o2)]))
  exact own_areturn C X own_d13_32 rfl rfl rfl (Nat.le_of_ble_eq_true rfl) (Nat.le_of_ble_eq_true rfl) (⟨o2, rfl, gz_o2, KK, O, O_o2⟩)
theorem own_ef_min (x : Int32) (y : Int32) (m : MethodId) : entryFrame m #[(.int x), (.int y)] 2 = mkF m 0 #[.val (.int x), .val (.int y)] [] := by first | (simp [entryFrame, mkF, argsToLocals, Value.category]; done) | rfl
theorem own_d10_0 : decode jdk_29_method_69_code 0 = .ok (.iload_n 0, 1) := by decide +kernel
theorem own_d10_1 : decode jdk_29_method_69_code 1 = .ok (.iload_n 1, 1) := by decide +kernel
theorem own_d10_2 : decode jdk_29_method_69_code 2 = .ok (.if_icmp .gt 7, 3) := by decide +kernel
theorem own_d10_9 : decode jdk_29_method_69_code 9 = .ok (.iload_n 1, 1) := by decide +kernel
theorem own_d10_10 : decode jdk_29_method_69_code 10 = .ok (.ireturn, 1) := by decide +kernel
theorem own_d10_5 : decode jdk_29_method_69_code 5 = .ok (.iload_n 0, 1) := by decide +kernel
theorem own_d10_6 : decode jdk_29_method_69_code 6 = .ok (.goto 4, 3) := by decide +kernel
set_option maxRecDepth 65536 in
set_option maxHeartbeats 40000000 in
theorem own_m_min (l : Launch) (Z : State) (a0 : Array Value) (hw : ∀ d ∈ tables_1, d.before a0 Z = true) (x : Int32) (y : Int32) (h0 : Heap) (n0 : Nat) (hn0 : n0 ≤ h0.size)  : own_Met l Z n0 (⟨"java/lang/Math", "min", "(II)I"⟩ : MethodName) jdk_29_method_69_code 2 (some .int) [] ({ frames := 0, cells := 0, slots := 0, locals := 0 } : Room) #[(.int x), (.int y)] h0 (fun v h => v = some (.int (own_mi x y)) ∧ h0 = h) := by
  refine own_body (Jvm.Free.JP.mathPlain rfl (by decide +kernel)) hn0 (own_ef_min x y) ?_
  intro p e s m below meth c T C X
  refine own_iloadN C X own_d10_0 rfl (pc' := 1) rfl ?_
  refine own_iloadN C X own_d10_1 rfl (pc' := 2) rfl ?_
  refine own_icmp_gt C X own_d10_2 (pcT := 9) (pc' := 5) (by decide) (by decide) rfl (fun hc2 => ?_) (fun hc2 => ?_)
  · refine own_iloadN C X own_d10_9 rfl (pc' := 10) rfl ?_
    exact own_ireturn C X own_d10_10 (Nat.le_of_ble_eq_true rfl) (Nat.le_of_ble_eq_true rfl) (⟨by rw [own_mi]; simp only [hc2, if_true, if_false], rfl⟩)
  · refine own_iloadN C X own_d10_5 rfl (pc' := 6) rfl ?_
    refine own_goto C X own_d10_6 (pc' := 10) (by decide) (by decide) ?_
    exact own_ireturn C X own_d10_10 (Nat.le_of_ble_eq_true rfl) (Nat.le_of_ble_eq_true rfl) (⟨by rw [own_mi]; simp only [hc2, if_true, if_false], rfl⟩)
theorem own_pn_java_util_Arrays : plainName "java/util/Arrays" = true := by first | (simp [plainName, overriddenIn]; done) | decide +kernel
theorem own_ef_chk (f : Int32) (t : Int32) (m : MethodId) : entryFrame m #[(.int f), (.int t)] 2 = mkF m 0 #[.val (.int f), .val (.int t)] [] := by first | (simp [entryFrame, mkF, argsToLocals, Value.category]; done) | rfl
theorem own_d9_0 : decode jdk_65_method_131_code 0 = .ok (.iload_n 1, 1) := by decide +kernel
theorem own_d9_1 : decode jdk_65_method_131_code 1 = .ok (.iload_n 0, 1) := by decide +kernel
theorem own_d9_2 : decode jdk_65_method_131_code 2 = .ok (.if_icmp .ge 35, 3) := by decide +kernel
theorem own_d9_37 : decode jdk_65_method_131_code 37 = .ok (.return_, 1) := by decide +kernel
set_option maxRecDepth 65536 in
set_option maxHeartbeats 40000000 in
theorem own_m_chk (l : Launch) (Z : State) (a0 : Array Value) (hw : ∀ d ∈ tables_1, d.before a0 Z = true) (f : Int32) (t : Int32) (h0 : Heap) (n0 : Nat) (hn0 : n0 ≤ h0.size) (q : ¬ t < f) : own_Met l Z n0 (⟨"java/util/Arrays", "checkLength", "(II)V"⟩ : MethodName) jdk_65_method_131_code 2 none [] ({ frames := 0, cells := 0, slots := 0, locals := 0 } : Room) #[(.int f), (.int t)] h0 (fun v h => v = none ∧ h0 = h) := by
  refine own_body (plainFor_of_name own_pn_java_util_Arrays) hn0 (own_ef_chk f t) ?_
  intro p e s m below meth c T C X
  refine own_iloadN C X own_d9_0 rfl (pc' := 1) rfl ?_
  refine own_iloadN C X own_d9_1 rfl (pc' := 2) rfl ?_
  refine own_icmp_ge C X own_d9_2 (pcT := 37) (pc' := 5) (by decide) (by decide) rfl (fun hc2 => ?_) (fun hc2 => absurd hc2 (q))
  exact own_return C X own_d9_37 (Nat.le_of_ble_eq_true rfl) (Nat.le_of_ble_eq_true rfl) (⟨rfl, rfl⟩)
theorem own_ef_crb11 (a : Addr) (m : MethodId) : entryFrame m #[(.ref a), (.int (1 : Int32)), (.int (1 : Int32))] 5 = mkF m 0 #[.val (.ref a), .val (.int (1 : Int32)), .val (.int (1 : Int32)), .unset, .unset] [] := by first | (simp [entryFrame, mkF, argsToLocals, Value.category]; done) | rfl
theorem own_d8_0 : decode jdk_65_method_133_code 0 = .ok (.iload_n 1, 1) := by decide +kernel
theorem own_d8_1 : decode jdk_65_method_133_code 1 = .ok (.iload_n 2, 1) := by decide +kernel
theorem own_pd_2877 : parseMethodDescriptor "(II)V" = some ⟨[.int, .int], none⟩ := by decide +kernel
theorem own_d8_2 : decode jdk_65_method_133_code 2 = .ok (.invokestatic 343, 3) := by decide +kernel
theorem own_d8_5 : decode jdk_65_method_133_code 5 = .ok (.iload_n 2, 1) := by decide +kernel
theorem own_d8_6 : decode jdk_65_method_133_code 6 = .ok (.iload_n 1, 1) := by decide +kernel
theorem own_d8_7 : decode jdk_65_method_133_code 7 = .ok (.isub, 1) := by decide +kernel
theorem own_d8_8 : decode jdk_65_method_133_code 8 = .ok (.istore_n 3, 1) := by decide +kernel
theorem own_d8_9 : decode jdk_65_method_133_code 9 = .ok (.iload_n 3, 1) := by decide +kernel
theorem own_d8_10 : decode jdk_65_method_133_code 10 = .ok (.newarray .byte, 2) := by decide +kernel
theorem own_d8_12 : decode jdk_65_method_133_code 12 = .ok (.astore 4, 2) := by decide +kernel
theorem own_d8_14 : decode jdk_65_method_133_code 14 = .ok (.aload_n 0, 1) := by decide +kernel
theorem own_d8_15 : decode jdk_65_method_133_code 15 = .ok (.iload_n 1, 1) := by decide +kernel
theorem own_d8_16 : decode jdk_65_method_133_code 16 = .ok (.aload 4, 2) := by decide +kernel
theorem own_d8_18 : decode jdk_65_method_133_code 18 = .ok (.iconst 0, 1) := by decide +kernel
theorem own_d8_19 : decode jdk_65_method_133_code 19 = .ok (.aload_n 0, 1) := by decide +kernel
theorem own_d8_20 : decode jdk_65_method_133_code 20 = .ok (.arraylength, 1) := by decide +kernel
theorem own_d8_21 : decode jdk_65_method_133_code 21 = .ok (.iload_n 1, 1) := by decide +kernel
theorem own_d8_22 : decode jdk_65_method_133_code 22 = .ok (.isub, 1) := by decide +kernel
theorem own_d8_23 : decode jdk_65_method_133_code 23 = .ok (.iload_n 3, 1) := by decide +kernel
theorem own_pd_2734 : parseMethodDescriptor "(II)I" = some ⟨[.int, .int], some .int⟩ := by decide +kernel
theorem own_d8_24 : decode jdk_65_method_133_code 24 = .ok (.invokestatic 304, 3) := by decide +kernel
theorem own_d8_27 : decode jdk_65_method_133_code 27 = .ok (.invokestatic 150, 3) := by decide +kernel
theorem own_d8_30 : decode jdk_65_method_133_code 30 = .ok (.aload 4, 2) := by decide +kernel
theorem own_d8_32 : decode jdk_65_method_133_code 32 = .ok (.areturn, 1) := by decide +kernel
set_option maxRecDepth 65536 in
set_option maxHeartbeats 40000000 in
theorem own_m_crb11 (l : Launch) (Z : State) (a0 : Array Value) (hw : ∀ d ∈ tables_1, d.before a0 Z = true) (a : Addr) (h0 : Heap) (n0 : Nat) (hn0 : n0 ≤ h0.size) (b0 b1 b2 b3 b4 : Int32) (A : own_IA Z h0 a .byte [b0, b1, b2, b3, b4]) : own_Met l Z n0 (⟨"java/util/Arrays", "copyOfRangeByte", "([BII)[B"⟩ : MethodName) jdk_65_method_133_code 5 (some (.array .byte)) [] ({ frames := 1, cells := 1, slots := 0, locals := 20 } : Room) #[(.ref a), (.int (1 : Int32)), (.int (1 : Int32))] h0 (fun v h => ∃ b, v = some (.ref b) ∧ h0.size ≤ b ∧ Keep h0 h [] ∧ own_IA Z h b .byte []) := by
  refine own_body (plainFor_of_name own_pn_java_util_Arrays) hn0 (own_ef_crb11 a) ?_
  intro p e s m below meth c T C X
  have KK := Keep.refl h0 []
  refine own_iloadN C X own_d8_0 rfl (pc' := 1) rfl ?_
  refine own_iloadN C X own_d8_1 rfl (pc' := 2) rfl ?_
  refine own_callS C X own_d8_2 (own_m_chk l Z a0 hw (1 : Int32) (1 : Int32) _ n0 (own_big C X) (by decide)) (hw _ (List.mem_of_getElem? (i := 48) rfl)) (hw _ (List.mem_of_getElem? (i := 49) rfl)) (hw _ (List.mem_of_getElem? (i := 43) rfl)) (hw _ (List.mem_of_getElem? (i := 50) rfl)) (by decide) own_pd_2877 rfl rfl (Nat.le_of_ble_eq_true rfl) (Nat.le_of_ble_eq_true rfl) (Nat.le_of_ble_eq_true rfl) (Nat.le_of_ble_eq_true rfl) (av := [(.int (1 : Int32)), (.int (1 : Int32))]) (S := []) rfl (pc' := 5) rfl ?_
  intro T h v X hQ
  obtain ⟨rfl, rfl⟩ := hQ
  show own_Go p e below n0 (own_Fin ({ frames := 1, cells := 1, slots := 0, locals := 20 } : Room) s (fun v h => ∃ b, v = some (.ref b) ∧ h0.size ≤ b ∧ Keep h0 h [] ∧ own_IA Z h b .byte [])) (T.setTop (mkF m 5 #[.val (.ref a), .val (.int (1 : Int32)), .val (.int (1 : Int32)), .unset, .unset] []))
  refine own_iloadN C X own_d8_5 rfl (pc' := 6) rfl ?_
  refine own_iloadN C X own_d8_6 rfl (pc' := 7) rfl ?_
  refine own_isub C X own_d8_7 (z := 0) (by decide) (pc' := 8) rfl ?_
  refine own_istoreN C X own_d8_8 (L' := #[.val (.ref a), .val (.int (1 : Int32)), .val (.int (1 : Int32)), .val (.int (0 : Int32)), .unset]) rfl (pc' := 9) rfl ?_
  refine own_iloadN C X own_d8_9 rfl (pc' := 10) rfl ?_
  refine own_newI C X own_d8_10 (ty := .byte) rfl (hw _ (List.mem_of_getElem? (i := 0) rfl)) (by decide) (k := 0) (cap := 0) (Nat.le_of_ble_eq_true rfl) (by decide) (Nat.le_of_ble_eq_true rfl) (Nat.le_of_ble_eq_true rfl) rfl rfl (pc' := 12) rfl ?_
  intro T h nb e_nb X K_ ge_nb A_nb_
  have gz_nb : h0.size ≤ nb := by rw [e_nb]; exact KK.1
  have ne_a_nb : a ≠ nb := by rw [e_nb]; exact Nat.ne_of_lt A.lt
  have A_nb : own_IA Z h nb .byte [] := A_nb_
  have A := A.keep K_ nin0
  have KK := KK.trans K_ all0
  refine own_astore C X own_d8_12 rfl (L' := #[.val (.ref a), .val (.int (1 : Int32)), .val (.int (1 : Int32)), .val (.int (0 : Int32)), .val (.ref nb)]) rfl (pc' := 14) rfl ?_
  refine own_aloadN C X own_d8_14 rfl rfl (pc' := 15) rfl ?_
  refine own_iloadN C X own_d8_15 rfl (pc' := 16) rfl ?_
  refine own_aload C X own_d8_16 rfl rfl (pc' := 18) rfl ?_
  refine own_iconst C X own_d8_18 (v := 0) (by decide) (pc' := 19) rfl ?_
  refine own_aloadN C X own_d8_19 rfl rfl (pc' := 20) rfl ?_
  refine own_alenI C X own_d8_20 (n := 5) A rfl (pc' := 21) rfl ?_
  refine own_iloadN C X own_d8_21 rfl (pc' := 22) rfl ?_
  refine own_isub C X own_d8_22 (z := 4) (by decide) (pc' := 23) rfl ?_
  refine own_iloadN C X own_d8_23 rfl (pc' := 24) rfl ?_
  refine own_callS C X own_d8_24 (own_m_min l Z a0 hw (4 : Int32) (0 : Int32) _ n0 (own_big C X)) (hw _ (List.mem_of_getElem? (i := 51) rfl)) (hw _ (List.mem_of_getElem? (i := 52) rfl)) (hw _ (List.mem_of_getElem? (i := 53) rfl)) (hw _ (List.mem_of_getElem? (i := 54) rfl)) (by decide) own_pd_2734 rfl rfl (Nat.le_of_ble_eq_true rfl) (Nat.le_of_ble_eq_true rfl) (Nat.le_of_ble_eq_true rfl) (Nat.le_of_ble_eq_true rfl) (av := [(.int (4 : Int32)), (.int (0 : Int32))]) (S := [(.int (0 : Int32)), (.ref nb), (.int (1 : Int32)), (.ref a)]) rfl (pc' := 27) rfl ?_
  intro T h v X hQ
  obtain ⟨rfl, rfl⟩ := hQ
  rw [show own_mi (4 : Int32) (0 : Int32) = 0 from by decide]
  show own_Go p e below n0 (own_Fin ({ frames := 1, cells := 1, slots := 0, locals := 20 } : Room) s (fun v h => ∃ b, v = some (.ref b) ∧ h0.size ≤ b ∧ Keep h0 h [] ∧ own_IA Z h b .byte [])) (T.setTop (mkF m 27 #[.val (.ref a), .val (.int (1 : Int32)), .val (.int (1 : Int32)), .val (.int (0 : Int32)), .val (.ref nb)] [(.int (0 : Int32)), (.int (0 : Int32)), (.ref nb), (.int (1 : Int32)), (.ref a)]))
  refine own_acopy C X own_d8_27 A A_nb (hw _ (List.mem_of_getElem? (i := 55) rfl)) (hw _ (List.mem_of_getElem? (i := 58) rfl)) (hw _ (List.mem_of_getElem? (i := 56) rfl)) (hw _ (List.mem_of_getElem? (i := 57) rfl)) (i := 1) (j := 0) (k := 0) (n1 := 5) (n2 := 0) (zs := []) (by decide) (by decide) (by decide) rfl rfl (Nat.le_of_ble_eq_true rfl) (Nat.le_of_ble_eq_true rfl) rfl rfl ge_nb rfl (by decide) (Nat.le_of_ble_eq_true rfl) (pc' := 30) rfl ?_
  intro T h X K_ A_nb
  have A := A.keep K_ (ninS ne_a_nb nin0)
  have KK := KK.trans K_ (allS (Or.inr gz_nb) all0)
  refine own_aload C X own_d8_30 rfl rfl (pc' := 32) rfl ?_
  exact own_areturn C X own_d8_32 rfl rfl rfl (Nat.le_of_ble_eq_true rfl) (Nat.le_of_ble_eq_true rfl) (⟨nb, rfl, gz_nb, KK, A_nb⟩)
theorem own_ef_cr11 (a : Addr) (m : MethodId) : entryFrame m #[(.ref a), (.int (1 : Int32)), (.int (1 : Int32))] 3 = mkF m 0 #[.val (.ref a), .val (.int (1 : Int32)), .val (.int (1 : Int32))] [] := by first | (simp [entryFrame, mkF, argsToLocals, Value.category]; done) | rfl
theorem own_d7_0 : decode jdk_65_method_132_code 0 = .ok (.iload_n 1, 1) := by decide +kernel
theorem own_d7_1 : decode jdk_65_method_132_code 1 = .ok (.ifCond .ne 9, 3) := by decide +kernel
theorem own_d7_10 : decode jdk_65_method_132_code 10 = .ok (.aload_n 0, 1) := by decide +kernel
theorem own_d7_11 : decode jdk_65_method_132_code 11 = .ok (.iload_n 1, 1) := by decide +kernel
theorem own_d7_12 : decode jdk_65_method_132_code 12 = .ok (.iload_n 2, 1) := by decide +kernel
theorem own_pd_5734 : parseMethodDescriptor "([BII)[B" = some ⟨[(.array .byte), .int, .int], some (.array .byte)⟩ := by decide +kernel
theorem own_d7_13 : decode jdk_65_method_132_code 13 = .ok (.invokestatic 339, 3) := by decide +kernel
theorem own_d7_16 : decode jdk_65_method_132_code 16 = .ok (.areturn, 1) := by decide +kernel
set_option maxRecDepth 65536 in
set_option maxHeartbeats 40000000 in
theorem own_m_cr11 (l : Launch) (Z : State) (a0 : Array Value) (hw : ∀ d ∈ tables_1, d.before a0 Z = true) (a : Addr) (h0 : Heap) (n0 : Nat) (hn0 : n0 ≤ h0.size) (b0 b1 b2 b3 b4 : Int32) (A : own_IA Z h0 a .byte [b0, b1, b2, b3, b4]) (E : Exa Z h0 a "[B") : own_Met l Z n0 (⟨"java/util/Arrays", "copyOfRange", "([BII)[B"⟩ : MethodName) jdk_65_method_132_code 3 (some (.array .byte)) [] ({ frames := 2, cells := 1, slots := 0, locals := 40 } : Room) #[(.ref a), (.int (1 : Int32)), (.int (1 : Int32))] h0 (fun v h => ∃ b, v = some (.ref b) ∧ h0.size ≤ b ∧ Keep h0 h [] ∧ own_IA Z h b .byte []) := by
  refine own_body (plainFor_of_name own_pn_java_util_Arrays) hn0 (own_ef_cr11 a) ?_
  intro p e s m below meth c T C X
  have KK := Keep.refl h0 []
  refine own_iloadN C X own_d7_0 rfl (pc' := 1) rfl ?_
  refine own_if_ne C X own_d7_1 (pcT := 10) (pc' := 4) (by decide) (by decide) rfl (fun hc1 => ?_) (fun hc1 => absurd hc1 (by decide))
  refine own_aloadN C X own_d7_10 rfl rfl (pc' := 11) rfl ?_
  refine own_iloadN C X own_d7_11 rfl (pc' := 12) rfl ?_
  refine own_iloadN C X own_d7_12 rfl (pc' := 13) rfl ?_
  have hbg := own_big C X
  refine own_callS C X own_d7_13 (own_m_crb11 l Z a0 hw a _ n0 hbg b0 b1 b2 b3 b4 A) (hw _ (List.mem_of_getElem? (i := 45) rfl)) (hw _ (List.mem_of_getElem? (i := 46) rfl)) (hw _ (List.mem_of_getElem? (i := 43) rfl)) (hw _ (List.mem_of_getElem? (i := 47) rfl)) (by decide) own_pd_5734 rfl rfl (Nat.le_of_ble_eq_true rfl) (Nat.le_of_ble_eq_true rfl) (Nat.le_of_ble_eq_true rfl) (Nat.le_of_ble_eq_true rfl) (av := [(.ref a), (.int (1 : Int32)), (.int (1 : Int32))]) (S := []) rfl (pc' := 16) rfl ?_
  intro T h v X hQ
  obtain ⟨nb, rfl, gq_nb, K_, A_nb⟩ := hQ
  have ne_a_nb : a ≠ nb := Nat.ne_of_lt (Nat.lt_of_lt_of_le A.lt gq_nb)
  have ge_nb : n0 ≤ nb := Nat.le_trans hbg gq_nb
  have gz_nb : h0.size ≤ nb := Nat.le_trans KK.1 gq_nb
  have A := A.keep K_ nin0
  have KK := KK.trans K_ all0
  show own_Go p e below n0 (own_Fin ({ frames := 2, cells := 1, slots := 0, locals := 40 } : Room) s (fun v h => ∃ b, v = some (.ref b) ∧ h0.size ≤ b ∧ Keep h0 h [] ∧ own_IA Z h b .byte [])) (T.setTop (mkF m 16 #[.val (.ref a), .val (.int (1 : Int32)), .val (.int (1 : Int32))] [(.ref nb)]))
  exact own_areturn C X own_d7_16 rfl rfl rfl (Nat.le_of_ble_eq_true rfl) (Nat.le_of_ble_eq_true rfl) (⟨nb, rfl, gz_nb, KK, A_nb⟩)
theorem own_ef_crb12 (a : Addr) (m : MethodId) : entryFrame m #[(.ref a), (.int (1 : Int32)), (.int (2 : Int32))] 5 = mkF m 0 #[.val (.ref a), .val (.int (1 : Int32)), .val (.int (2 : Int32)), .unset, .unset] [] := by first | (simp [entryFrame, mkF, argsToLocals, Value.category]; done) | rfl
set_option maxRecDepth 65536 in
set_option maxHeartbeats 40000000 in
theorem own_m_crb12 (l : Launch) (Z : State) (a0 : Array Value) (hw : ∀ d ∈ tables_1, d.before a0 Z = true) (a : Addr) (h0 : Heap) (n0 : Nat) (hn0 : n0 ≤ h0.size) (b0 b1 b2 b3 b4 : Int32) (A : own_IA Z h0 a .byte [b0, b1, b2, b3, b4]) : own_Met l Z n0 (⟨"java/util/Arrays", "copyOfRangeByte", "([BII)[B"⟩ : MethodName) jdk_65_method_133_code 5 (some (.array .byte)) [] ({ frames := 1, cells := 1, slots := 1, locals := 20 } : Room) #[(.ref a), (.int (1 : Int32)), (.int (2 : Int32))] h0 (fun v h => ∃ b, v = some (.ref b) ∧ h0.size ≤ b ∧ Keep h0 h [] ∧ own_IA Z h b .byte [b1]) := by
  refine own_body (plainFor_of_name own_pn_java_util_Arrays) hn0 (own_ef_crb12 a) ?_
  intro p e s m below meth c T C X
  have KK := Keep.refl h0 []
  refine own_iloadN C X own_d8_0 rfl (pc' := 1) rfl ?_
  refine own_iloadN C X own_d8_1 rfl (pc' := 2) rfl ?_
  refine own_callS C X own_d8_2 (own_m_chk l Z a0 hw (1 : Int32) (2 : Int32) _ n0 (own_big C X) (by decide)) (hw _ (List.mem_of_getElem? (i := 48) rfl)) (hw _ (List.mem_of_getElem? (i := 49) rfl)) (hw _ (List.mem_of_getElem? (i := 43) rfl)) (hw _ (List.mem_of_getElem? (i := 50) rfl)) (by decide) own_pd_2877 rfl rfl (Nat.le_of_ble_eq_true rfl) (Nat.le_of_ble_eq_true rfl) (Nat.le_of_ble_eq_true rfl) (Nat.le_of_ble_eq_true rfl) (av := [(.int (1 : Int32)), (.int (2 : Int32))]) (S := []) rfl (pc' := 5) rfl ?_
  intro T h v X hQ
  obtain ⟨rfl, rfl⟩ := hQ
  show own_Go p e below n0 (own_Fin ({ frames := 1, cells := 1, slots := 1, locals := 20 } : Room) s (fun v h => ∃ b, v = some (.ref b) ∧ h0.size ≤ b ∧ Keep h0 h [] ∧ own_IA Z h b .byte [b1])) (T.setTop (mkF m 5 #[.val (.ref a), .val (.int (1 : Int32)), .val (.int (2 : Int32)), .unset, .unset] []))
  refine own_iloadN C X own_d8_5 rfl (pc' := 6) rfl ?_
  refine own_iloadN C X own_d8_6 rfl (pc' := 7) rfl ?_
  refine own_isub C X own_d8_7 (z := 1) (by decide) (pc' := 8) rfl ?_
  refine own_istoreN C X own_d8_8 (L' := #[.val (.ref a), .val (.int (1 : Int32)), .val (.int (2 : Int32)), .val (.int (1 : Int32)), .unset]) rfl (pc' := 9) rfl ?_
  refine own_iloadN C X own_d8_9 rfl (pc' := 10) rfl ?_
  refine own_newI C X own_d8_10 (ty := .byte) rfl (hw _ (List.mem_of_getElem? (i := 0) rfl)) (by decide) (k := 1) (cap := 1) (Nat.le_of_ble_eq_true rfl) (by decide) (Nat.le_of_ble_eq_true rfl) (Nat.le_of_ble_eq_true rfl) rfl rfl (pc' := 12) rfl ?_
  intro T h nb e_nb X K_ ge_nb A_nb_
  have gz_nb : h0.size ≤ nb := by rw [e_nb]; exact KK.1
  have ne_a_nb : a ≠ nb := by rw [e_nb]; exact Nat.ne_of_lt A.lt
  have A_nb : own_IA Z h nb .byte [(0 : Int32)] := A_nb_
  have A := A.keep K_ nin0
  have KK := KK.trans K_ all0
  refine own_astore C X own_d8_12 rfl (L' := #[.val (.ref a), .val (.int (1 : Int32)), .val (.int (2 : Int32)), .val (.int (1 : Int32)), .val (.ref nb)]) rfl (pc' := 14) rfl ?_
  refine own_aloadN C X own_d8_14 rfl rfl (pc' := 15) rfl ?_
  refine own_iloadN C X own_d8_15 rfl (pc' := 16) rfl ?_
  refine own_aload C X own_d8_16 rfl rfl (pc' := 18) rfl ?_
  refine own_iconst C X own_d8_18 (v := 0) (by decide) (pc' := 19) rfl ?_
  refine own_aloadN C X own_d8_19 rfl rfl (pc' := 20) rfl ?_
  refine own_alenI C X own_d8_20 (n := 5) A rfl (pc' := 21) rfl ?_
  refine own_iloadN C X own_d8_21 rfl (pc' := 22) rfl ?_
  refine own_isub C X own_d8_22 (z := 4) (by decide) (pc' := 23) rfl ?_
  refine own_iloadN C X own_d8_23 rfl (pc' := 24) rfl ?_
  refine own_callS C X own_d8_24 (own_m_min l Z a0 hw (4 : Int32) (1 : Int32) _ n0 (own_big C X)) (hw _ (List.mem_of_getElem? (i := 51) rfl)) (hw _ (List.mem_of_getElem? (i := 52) rfl)) (hw _ (List.mem_of_getElem? (i := 53) rfl)) (hw _ (List.mem_of_getElem? (i := 54) rfl)) (by decide) own_pd_2734 rfl rfl (Nat.le_of_ble_eq_true rfl) (Nat.le_of_ble_eq_true rfl) (Nat.le_of_ble_eq_true rfl) (Nat.le_of_ble_eq_true rfl) (av := [(.int (4 : Int32)), (.int (1 : Int32))]) (S := [(.int (0 : Int32)), (.ref nb), (.int (1 : Int32)), (.ref a)]) rfl (pc' := 27) rfl ?_
  intro T h v X hQ
  obtain ⟨rfl, rfl⟩ := hQ
  rw [show own_mi (4 : Int32) (1 : Int32) = 1 from by decide]
  show own_Go p e below n0 (own_Fin ({ frames := 1, cells := 1, slots := 1, locals := 20 } : Room) s (fun v h => ∃ b, v = some (.ref b) ∧ h0.size ≤ b ∧ Keep h0 h [] ∧ own_IA Z h b .byte [b1])) (T.setTop (mkF m 27 #[.val (.ref a), .val (.int (1 : Int32)), .val (.int (2 : Int32)), .val (.int (1 : Int32)), .val (.ref nb)] [(.int (1 : Int32)), (.int (0 : Int32)), (.ref nb), (.int (1 : Int32)), (.ref a)]))
  refine own_acopy C X own_d8_27 A A_nb (hw _ (List.mem_of_getElem? (i := 55) rfl)) (hw _ (List.mem_of_getElem? (i := 58) rfl)) (hw _ (List.mem_of_getElem? (i := 56) rfl)) (hw _ (List.mem_of_getElem? (i := 57) rfl)) (i := 1) (j := 0) (k := 1) (n1 := 5) (n2 := 1) (zs := [b1]) (by decide) (by decide) (by decide) rfl rfl (Nat.le_of_ble_eq_true rfl) (Nat.le_of_ble_eq_true rfl) rfl rfl ge_nb rfl (by decide) (Nat.le_of_ble_eq_true rfl) (pc' := 30) rfl ?_
  intro T h X K_ A_nb
  have A := A.keep K_ (ninS ne_a_nb nin0)
  have KK := KK.trans K_ (allS (Or.inr gz_nb) all0)
  refine own_aload C X own_d8_30 rfl rfl (pc' := 32) rfl ?_
  exact own_areturn C X own_d8_32 rfl rfl rfl (Nat.le_of_ble_eq_true rfl) (Nat.le_of_ble_eq_true rfl) (⟨nb, rfl, gz_nb, KK, A_nb⟩)
theorem own_ef_cr12 (a : Addr) (m : MethodId) : entryFrame m #[(.ref a), (.int (1 : Int32)), (.int (2 : Int32))] 3 = mkF m 0 #[.val (.ref a), .val (.int (1 : Int32)), .val (.int (2 : Int32))] [] := by first | (simp [entryFrame, mkF, argsToLocals, Value.category]; done) | rfl
set_option maxRecDepth 65536 in
set_option maxHeartbeats 40000000 in
theorem own_m_cr12 (l : Launch) (Z : State) (a0 : Array Value) (hw : ∀ d ∈ tables_1, d.before a0 Z = true) (a : Addr) (h0 : Heap) (n0 : Nat) (hn0 : n0 ≤ h0.size) (b0 b1 b2 b3 b4 : Int32) (A : own_IA Z h0 a .byte [b0, b1, b2, b3, b4]) (E : Exa Z h0 a "[B") : own_Met l Z n0 (⟨"java/util/Arrays", "copyOfRange", "([BII)[B"⟩ : MethodName) jdk_65_method_132_code 3 (some (.array .byte)) [] ({ frames := 2, cells := 1, slots := 1, locals := 40 } : Room) #[(.ref a), (.int (1 : Int32)), (.int (2 : Int32))] h0 (fun v h => ∃ b, v = some (.ref b) ∧ h0.size ≤ b ∧ Keep h0 h [] ∧ own_IA Z h b .byte [b1]) := by
  refine own_body (plainFor_of_name own_pn_java_util_Arrays) hn0 (own_ef_cr12 a) ?_
  intro p e s m below meth c T C X
  have KK := Keep.refl h0 []
  refine own_iloadN C X own_d7_0 rfl (pc' := 1) rfl ?_
  refine own_if_ne C X own_d7_1 (pcT := 10) (pc' := 4) (by decide) (by decide) rfl (fun hc1 => ?_) (fun hc1 => absurd hc1 (by decide))
  refine own_aloadN C X own_d7_10 rfl rfl (pc' := 11) rfl ?_
  refine own_iloadN C X own_d7_11 rfl (pc' := 12) rfl ?_
  refine own_iloadN C X own_d7_12 rfl (pc' := 13) rfl ?_
  have hbg := own_big C X
  refine own_callS C X own_d7_13 (own_m_crb12 l Z a0 hw a _ n0 hbg b0 b1 b2 b3 b4 A) (hw _ (List.mem_of_getElem? (i := 45) rfl)) (hw _ (List.mem_of_getElem? (i := 46) rfl)) (hw _ (List.mem_of_getElem? (i := 43) rfl)) (hw _ (List.mem_of_getElem? (i := 47) rfl)) (by decide) own_pd_5734 rfl rfl (Nat.le_of_ble_eq_true rfl) (Nat.le_of_ble_eq_true rfl) (Nat.le_of_ble_eq_true rfl) (Nat.le_of_ble_eq_true rfl) (av := [(.ref a), (.int (1 : Int32)), (.int (2 : Int32))]) (S := []) rfl (pc' := 16) rfl ?_
  intro T h v X hQ
  obtain ⟨nb, rfl, gq_nb, K_, A_nb⟩ := hQ
  have ne_a_nb : a ≠ nb := Nat.ne_of_lt (Nat.lt_of_lt_of_le A.lt gq_nb)
  have ge_nb : n0 ≤ nb := Nat.le_trans hbg gq_nb
  have gz_nb : h0.size ≤ nb := Nat.le_trans KK.1 gq_nb
  have A := A.keep K_ nin0
  have KK := KK.trans K_ all0
  show own_Go p e below n0 (own_Fin ({ frames := 2, cells := 1, slots := 1, locals := 40 } : Room) s (fun v h => ∃ b, v = some (.ref b) ∧ h0.size ≤ b ∧ Keep h0 h [] ∧ own_IA Z h b .byte [b1])) (T.setTop (mkF m 16 #[.val (.ref a), .val (.int (1 : Int32)), .val (.int (2 : Int32))] [(.ref nb)]))
  exact own_areturn C X own_d7_16 rfl rfl rfl (Nat.le_of_ble_eq_true rfl) (Nat.le_of_ble_eq_true rfl) (⟨nb, rfl, gz_nb, KK, A_nb⟩)
theorem own_ef_crb13 (a : Addr) (m : MethodId) : entryFrame m #[(.ref a), (.int (1 : Int32)), (.int (3 : Int32))] 5 = mkF m 0 #[.val (.ref a), .val (.int (1 : Int32)), .val (.int (3 : Int32)), .unset, .unset] [] := by first | (simp [entryFrame, mkF, argsToLocals, Value.category]; done) | rfl
set_option maxRecDepth 65536 in
set_option maxHeartbeats 40000000 in
theorem own_m_crb13 (l : Launch) (Z : State) (a0 : Array Value) (hw : ∀ d ∈ tables_1, d.before a0 Z = true) (a : Addr) (h0 : Heap) (n0 : Nat) (hn0 : n0 ≤ h0.size) (b0 b1 b2 b3 b4 : Int32) (A : own_IA Z h0 a .byte [b0, b1, b2, b3, b4]) : own_Met l Z n0 (⟨"java/util/Arrays", "copyOfRangeByte", "([BII)[B"⟩ : MethodName) jdk_65_method_133_code 5 (some (.array .byte)) [] ({ frames := 1, cells := 1, slots := 2, locals := 20 } : Room) #[(.ref a), (.int (1 : Int32)), (.int (3 : Int32))] h0 (fun v h => ∃ b, v = some (.ref b) ∧ h0.size ≤ b ∧ Keep h0 h [] ∧ own_IA Z h b .byte [b1, b2]) := by
  refine own_body (plainFor_of_name own_pn_java_util_Arrays) hn0 (own_ef_crb13 a) ?_
  intro p e s m below meth c T C X
  have KK := Keep.refl h0 []
  refine own_iloadN C X own_d8_0 rfl (pc' := 1) rfl ?_
  refine own_iloadN C X own_d8_1 rfl (pc' := 2) rfl ?_
  refine own_callS C X own_d8_2 (own_m_chk l Z a0 hw (1 : Int32) (3 : Int32) _ n0 (own_big C X) (by decide)) (hw _ (List.mem_of_getElem? (i := 48) rfl)) (hw _ (List.mem_of_getElem? (i := 49) rfl)) (hw _ (List.mem_of_getElem? (i := 43) rfl)) (hw _ (List.mem_of_getElem? (i := 50) rfl)) (by decide) own_pd_2877 rfl rfl (Nat.le_of_ble_eq_true rfl) (Nat.le_of_ble_eq_true rfl) (Nat.le_of_ble_eq_true rfl) (Nat.le_of_ble_eq_true rfl) (av := [(.int (1 : Int32)), (.int (3 : Int32))]) (S := []) rfl (pc' := 5) rfl ?_
  intro T h v X hQ
  obtain ⟨rfl, rfl⟩ := hQ
  show own_Go p e below n0 (own_Fin ({ frames := 1, cells := 1, slots := 2, locals := 20 } : Room) s (fun v h => ∃ b, v = some (.ref b) ∧ h0.size ≤ b ∧ Keep h0 h [] ∧ own_IA Z h b .byte [b1, b2])) (T.setTop (mkF m 5 #[.val (.ref a), .val (.int (1 : Int32)), .val (.int (3 : Int32)), .unset, .unset] []))
  refine own_iloadN C X own_d8_5 rfl (pc' := 6) rfl ?_
  refine own_iloadN C X own_d8_6 rfl (pc' := 7) rfl ?_
  refine own_isub C X own_d8_7 (z := 2) (by decide) (pc' := 8) rfl ?_
  refine own_istoreN C X own_d8_8 (L' := #[.val (.ref a), .val (.int (1 : Int32)), .val (.int (3 : Int32)), .val (.int (2 : Int32)), .unset]) rfl (pc' := 9) rfl ?_
  refine own_iloadN C X own_d8_9 rfl (pc' := 10) rfl ?_
  refine own_newI C X own_d8_10 (ty := .byte) rfl (hw _ (List.mem_of_getElem? (i := 0) rfl)) (by decide) (k := 2) (cap := 2) (Nat.le_of_ble_eq_true rfl) (by decide) (Nat.le_of_ble_eq_true rfl) (Nat.le_of_ble_eq_true rfl) rfl rfl (pc' := 12) rfl ?_
  intro T h nb e_nb X K_ ge_nb A_nb_
  have gz_nb : h0.size ≤ nb := by rw [e_nb]; exact KK.1
  have ne_a_nb : a ≠ nb := by rw [e_nb]; exact Nat.ne_of_lt A.lt
  have A_nb : own_IA Z h nb .byte [(0 : Int32), (0 : Int32)] := A_nb_
  have A := A.keep K_ nin0
  have KK := KK.trans K_ all0
  refine own_astore C X own_d8_12 rfl (L' := #[.val (.ref a), .val (.int (1 : Int32)), .val (.int (3 : Int32)), .val (.int (2 : Int32)), .val (.ref nb)]) rfl (pc' := 14) rfl ?_
  refine own_aloadN C X own_d8_14 rfl rfl (pc' := 15) rfl ?_
  refine own_iloadN C X own_d8_15 rfl (pc' := 16) rfl ?_
  refine own_aload C X own_d8_16 rfl rfl (pc' := 18) rfl ?_
  refine own_iconst C X own_d8_18 (v := 0) (by decide) (pc' := 19) rfl ?_
  refine own_aloadN C X own_d8_19 rfl rfl (pc' := 20) rfl ?_
  refine own_alenI C X own_d8_20 (n := 5) A rfl (pc' := 21) rfl ?_
  refine own_iloadN C X own_d8_21 rfl (pc' := 22) rfl ?_
  refine own_isub C X own_d8_22 (z := 4) (by decide) (pc' := 23) rfl ?_
  refine own_iloadN C X own_d8_23 rfl (pc' := 24) rfl ?_
  refine own_callS C X own_d8_24 (own_m_min l Z a0 hw (4 : Int32) (2 : Int32) _ n0 (own_big C X)) (hw _ (List.mem_of_getElem? (i := 51) rfl)) (hw _ (List.mem_of_getElem? (i := 52) rfl)) (hw _ (List.mem_of_getElem? (i := 53) rfl)) (hw _ (List.mem_of_getElem? (i := 54) rfl)) (by decide) own_pd_2734 rfl rfl (Nat.le_of_ble_eq_true rfl) (Nat.le_of_ble_eq_true rfl) (Nat.le_of_ble_eq_true rfl) (Nat.le_of_ble_eq_true rfl) (av := [(.int (4 : Int32)), (.int (2 : Int32))]) (S := [(.int (0 : Int32)), (.ref nb), (.int (1 : Int32)), (.ref a)]) rfl (pc' := 27) rfl ?_
  intro T h v X hQ
  obtain ⟨rfl, rfl⟩ := hQ
  rw [show own_mi (4 : Int32) (2 : Int32) = 2 from by decide]
  show own_Go p e below n0 (own_Fin ({ frames := 1, cells := 1, slots := 2, locals := 20 } : Room) s (fun v h => ∃ b, v = some (.ref b) ∧ h0.size ≤ b ∧ Keep h0 h [] ∧ own_IA Z h b .byte [b1, b2])) (T.setTop (mkF m 27 #[.val (.ref a), .val (.int (1 : Int32)), .val (.int (3 : Int32)), .val (.int (2 : Int32)), .val (.ref nb)] [(.int (2 : Int32)), (.int (0 : Int32)), (.ref nb), (.int (1 : Int32)), (.ref a)]))
  refine own_acopy C X own_d8_27 A A_nb (hw _ (List.mem_of_getElem? (i := 55) rfl)) (hw _ (List.mem_of_getElem? (i := 58) rfl)) (hw _ (List.mem_of_getElem? (i := 56) rfl)) (hw _ (List.mem_of_getElem? (i := 57) rfl)) (i := 1) (j := 0) (k := 2) (n1 := 5) (n2 := 2) (zs := [b1, b2]) (by decide) (by decide) (by decide) rfl rfl (Nat.le_of_ble_eq_true rfl) (Nat.le_of_ble_eq_true rfl) rfl rfl ge_nb rfl (by decide) (Nat.le_of_ble_eq_true rfl) (pc' := 30) rfl ?_
  intro T h X K_ A_nb
  have A := A.keep K_ (ninS ne_a_nb nin0)
  have KK := KK.trans K_ (allS (Or.inr gz_nb) all0)
  refine own_aload C X own_d8_30 rfl rfl (pc' := 32) rfl ?_
  exact own_areturn C X own_d8_32 rfl rfl rfl (Nat.le_of_ble_eq_true rfl) (Nat.le_of_ble_eq_true rfl) (⟨nb, rfl, gz_nb, KK, A_nb⟩)
theorem own_ef_cr13 (a : Addr) (m : MethodId) : entryFrame m #[(.ref a), (.int (1 : Int32)), (.int (3 : Int32))] 3 = mkF m 0 #[.val (.ref a), .val (.int (1 : Int32)), .val (.int (3 : Int32))] [] := by first | (simp [entryFrame, mkF, argsToLocals, Value.category]; done) | rfl
set_option maxRecDepth 65536 in
set_option maxHeartbeats 40000000 in
theorem own_m_cr13 (l : Launch) (Z : State) (a0 : Array Value) (hw : ∀ d ∈ tables_1, d.before a0 Z = true) (a : Addr) (h0 : Heap) (n0 : Nat) (hn0 : n0 ≤ h0.size) (b0 b1 b2 b3 b4 : Int32) (A : own_IA Z h0 a .byte [b0, b1, b2, b3, b4]) (E : Exa Z h0 a "[B") : own_Met l Z n0 (⟨"java/util/Arrays", "copyOfRange", "([BII)[B"⟩ : MethodName) jdk_65_method_132_code 3 (some (.array .byte)) [] ({ frames := 2, cells := 1, slots := 2, locals := 40 } : Room) #[(.ref a), (.int (1 : Int32)), (.int (3 : Int32))] h0 (fun v h => ∃ b, v = some (.ref b) ∧ h0.size ≤ b ∧ Keep h0 h [] ∧ own_IA Z h b .byte [b1, b2]) := by
  refine own_body (plainFor_of_name own_pn_java_util_Arrays) hn0 (own_ef_cr13 a) ?_
  intro p e s m below meth c T C X
  have KK := Keep.refl h0 []
  refine own_iloadN C X own_d7_0 rfl (pc' := 1) rfl ?_
  refine own_if_ne C X own_d7_1 (pcT := 10) (pc' := 4) (by decide) (by decide) rfl (fun hc1 => ?_) (fun hc1 => absurd hc1 (by decide))
  refine own_aloadN C X own_d7_10 rfl rfl (pc' := 11) rfl ?_
  refine own_iloadN C X own_d7_11 rfl (pc' := 12) rfl ?_
  refine own_iloadN C X own_d7_12 rfl (pc' := 13) rfl ?_
  have hbg := own_big C X
  refine own_callS C X own_d7_13 (own_m_crb13 l Z a0 hw a _ n0 hbg b0 b1 b2 b3 b4 A) (hw _ (List.mem_of_getElem? (i := 45) rfl)) (hw _ (List.mem_of_getElem? (i := 46) rfl)) (hw _ (List.mem_of_getElem? (i := 43) rfl)) (hw _ (List.mem_of_getElem? (i := 47) rfl)) (by decide) own_pd_5734 rfl rfl (Nat.le_of_ble_eq_true rfl) (Nat.le_of_ble_eq_true rfl) (Nat.le_of_ble_eq_true rfl) (Nat.le_of_ble_eq_true rfl) (av := [(.ref a), (.int (1 : Int32)), (.int (3 : Int32))]) (S := []) rfl (pc' := 16) rfl ?_
  intro T h v X hQ
  obtain ⟨nb, rfl, gq_nb, K_, A_nb⟩ := hQ
  have ne_a_nb : a ≠ nb := Nat.ne_of_lt (Nat.lt_of_lt_of_le A.lt gq_nb)
  have ge_nb : n0 ≤ nb := Nat.le_trans hbg gq_nb
  have gz_nb : h0.size ≤ nb := Nat.le_trans KK.1 gq_nb
  have A := A.keep K_ nin0
  have KK := KK.trans K_ all0
  show own_Go p e below n0 (own_Fin ({ frames := 2, cells := 1, slots := 2, locals := 40 } : Room) s (fun v h => ∃ b, v = some (.ref b) ∧ h0.size ≤ b ∧ Keep h0 h [] ∧ own_IA Z h b .byte [b1, b2])) (T.setTop (mkF m 16 #[.val (.ref a), .val (.int (1 : Int32)), .val (.int (3 : Int32))] [(.ref nb)]))
  exact own_areturn C X own_d7_16 rfl rfl rfl (Nat.le_of_ble_eq_true rfl) (Nat.le_of_ble_eq_true rfl) (⟨nb, rfl, gz_nb, KK, A_nb⟩)
theorem own_ef_crb14 (a : Addr) (m : MethodId) : entryFrame m #[(.ref a), (.int (1 : Int32)), (.int (4 : Int32))] 5 = mkF m 0 #[.val (.ref a), .val (.int (1 : Int32)), .val (.int (4 : Int32)), .unset, .unset] [] := by first | (simp [entryFrame, mkF, argsToLocals, Value.category]; done) | rfl
set_option maxRecDepth 65536 in
set_option maxHeartbeats 40000000 in
theorem own_m_crb14 (l : Launch) (Z : State) (a0 : Array Value) (hw : ∀ d ∈ tables_1, d.before a0 Z = true) (a : Addr) (h0 : Heap) (n0 : Nat) (hn0 : n0 ≤ h0.size) (b0 b1 b2 b3 b4 : Int32) (A : own_IA Z h0 a .byte [b0, b1, b2, b3, b4]) : own_Met l Z n0 (⟨"java/util/Arrays", "copyOfRangeByte", "([BII)[B"⟩ : MethodName) jdk_65_method_133_code 5 (some (.array .byte)) [] ({ frames := 1, cells := 1, slots := 3, locals := 20 } : Room) #[(.ref a), (.int (1 : Int32)), (.int (4 : Int32))] h0 (fun v h => ∃ b, v = some (.ref b) ∧ h0.size ≤ b ∧ Keep h0 h [] ∧ own_IA Z h b .byte [b1, b2, b3]) := by
  refine own_body (plainFor_of_name own_pn_java_util_Arrays) hn0 (own_ef_crb14 a) ?_
  intro p e s m below meth c T C X
  have KK := Keep.refl h0 []
  refine own_iloadN C X own_d8_0 rfl (pc' := 1) rfl ?_
  refine own_iloadN C X own_d8_1 rfl (pc' := 2) rfl ?_
  refine own_callS C X own_d8_2 (own_m_chk l Z a0 hw (1 : Int32) (4 : Int32) _ n0 (own_big C X) (by decide)) (hw _ (List.mem_of_getElem? (i := 48) rfl)) (hw _ (List.mem_of_getElem? (i := 49) rfl)) (hw _ (List.mem_of_getElem? (i := 43) rfl)) (hw _ (List.mem_of_getElem? (i := 50) rfl)) (by decide) own_pd_2877 rfl rfl (Nat.le_of_ble_eq_true rfl) (Nat.le_of_ble_eq_true rfl) (Nat.le_of_ble_eq_true rfl) (Nat.le_of_ble_eq_true rfl) (av := [(.int (1 : Int32)), (.int (4 : Int32))]) (S := []) rfl (pc' := 5) rfl ?_
  intro T h v X hQ
  obtain ⟨rfl, rfl⟩ := hQ
  show own_Go p e below n0 (own_Fin ({ frames := 1, cells := 1, slots := 3, locals := 20 } : Room) s (fun v h => ∃ b, v = some (.ref b) ∧ h0.size ≤ b ∧ Keep h0 h [] ∧ own_IA Z h b .byte [b1, b2, b3])) (T.setTop (mkF m 5 #[.val (.ref a), .val (.int (1 : Int32)), .val (.int (4 : Int32)), .unset, .unset] []))
  refine own_iloadN C X own_d8_5 rfl (pc' := 6) rfl ?_
  refine own_iloadN C X own_d8_6 rfl (pc' := 7) rfl ?_
  refine own_isub C X own_d8_7 (z := 3) (by decide) (pc' := 8) rfl ?_
  refine own_istoreN C X own_d8_8 (L' := #[.val (.ref a), .val (.int (1 : Int32)), .val (.int (4 : Int32)), .val (.int (3 : Int32)), .unset]) rfl (pc' := 9) rfl ?_
  refine own_iloadN C X own_d8_9 rfl (pc' := 10) rfl ?_
  refine own_newI C X own_d8_10 (ty := .byte) rfl (hw _ (List.mem_of_getElem? (i := 0) rfl)) (by decide) (k := 3) (cap := 3) (Nat.le_of_ble_eq_true rfl) (by decide) (Nat.le_of_ble_eq_true rfl) (Nat.le_of_ble_eq_true rfl) rfl rfl (pc' := 12) rfl ?_
  intro T h nb e_nb X K_ ge_nb A_nb_
  have gz_nb : h0.size ≤ nb := by rw [e_nb]; exact KK.1
  have ne_a_nb : a ≠ nb := by rw [e_nb]; exact Nat.ne_of_lt A.lt
  have A_nb : own_IA Z h nb .byte [(0 : Int32), (0 : Int32), (0 : Int32)] := A_nb_
  have A := A.keep K_ nin0
  have KK := KK.trans K_ all0
  refine own_astore C X own_d8_12 rfl (L' := #[.val (.ref a), .val (.int (1 : Int32)), .val (.int (4 : Int32)), .val (.int (3 : Int32)), .val (.ref nb)]) rfl (pc' := 14) rfl ?_
  refine own_aloadN C X own_d8_14 rfl rfl (pc' := 15) rfl ?_
  refine own_iloadN C X own_d8_15 rfl (pc' := 16) rfl ?_
  refine own_aload C X own_d8_16 rfl rfl (pc' := 18) rfl ?_
  refine own_iconst C X own_d8_18 (v := 0) (by decide) (pc' := 19) rfl ?_
  refine own_aloadN C X own_d8_19 rfl rfl (pc' := 20) rfl ?_
  refine own_alenI C X own_d8_20 (n := 5) A rfl (pc' := 21) rfl ?_
  refine own_iloadN C X own_d8_21 rfl (pc' := 22) rfl ?_
  refine own_isub C X own_d8_22 (z := 4) (by decide) (pc' := 23) rfl ?_
  refine own_iloadN C X own_d8_23 rfl (pc' := 24) rfl ?_
  refine own_callS C X own_d8_24 (own_m_min l Z a0 hw (4 : Int32) (3 : Int32) _ n0 (own_big C X)) (hw _ (List.mem_of_getElem? (i := 51) rfl)) (hw _ (List.mem_of_getElem? (i := 52) rfl)) (hw _ (List.mem_of_getElem? (i := 53) rfl)) (hw _ (List.mem_of_getElem? (i := 54) rfl)) (by decide) own_pd_2734 rfl rfl (Nat.le_of_ble_eq_true rfl) (Nat.le_of_ble_eq_true rfl) (Nat.le_of_ble_eq_true rfl) (Nat.le_of_ble_eq_true rfl) (av := [(.int (4 : Int32)), (.int (3 : Int32))]) (S := [(.int (0 : Int32)), (.ref nb), (.int (1 : Int32)), (.ref a)]) rfl (pc' := 27) rfl ?_
  intro T h v X hQ
  obtain ⟨rfl, rfl⟩ := hQ
  rw [show own_mi (4 : Int32) (3 : Int32) = 3 from by decide]
  show own_Go p e below n0 (own_Fin ({ frames := 1, cells := 1, slots := 3, locals := 20 } : Room) s (fun v h => ∃ b, v = some (.ref b) ∧ h0.size ≤ b ∧ Keep h0 h [] ∧ own_IA Z h b .byte [b1, b2, b3])) (T.setTop (mkF m 27 #[.val (.ref a), .val (.int (1 : Int32)), .val (.int (4 : Int32)), .val (.int (3 : Int32)), .val (.ref nb)] [(.int (3 : Int32)), (.int (0 : Int32)), (.ref nb), (.int (1 : Int32)), (.ref a)]))
  refine own_acopy C X own_d8_27 A A_nb (hw _ (List.mem_of_getElem? (i := 55) rfl)) (hw _ (List.mem_of_getElem? (i := 58) rfl)) (hw _ (List.mem_of_getElem? (i := 56) rfl)) (hw _ (List.mem_of_getElem? (i := 57) rfl)) (i := 1) (j := 0) (k := 3) (n1 := 5) (n2 := 3) (zs := [b1, b2, b3]) (by decide) (by decide) (by decide) rfl rfl (Nat.le_of_ble_eq_true rfl) (Nat.le_of_ble_eq_true rfl) rfl rfl ge_nb rfl (by decide) (Nat.le_of_ble_eq_true rfl) (pc' := 30) rfl ?_
  intro T h X K_ A_nb
  have A := A.keep K_ (ninS ne_a_nb nin0)
  have KK := KK.trans K_ (allS (Or.inr gz_nb) all0)
  refine own_aload C X own_d8_30 rfl rfl (pc' := 32) rfl ?_
  exact own_areturn C X own_d8_32 rfl rfl rfl (Nat.le_of_ble_eq_true rfl) (Nat.le_of_ble_eq_true rfl) (⟨nb, rfl, gz_nb, KK, A_nb⟩)
theorem own_ef_cr14 (a : Addr) (m : MethodId) : entryFrame m #[(.ref a), (.int (1 : Int32)), (.int (4 : Int32))] 3 = mkF m 0 #[.val (.ref a), .val (.int (1 : Int32)), .val (.int (4 : Int32))] [] := by first | (simp [entryFrame, mkF, argsToLocals, Value.category]; done) | rfl
set_option maxRecDepth 65536 in
set_option maxHeartbeats 40000000 in
theorem own_m_cr14 (l : Launch) (Z : State) (a0 : Array Value) (hw : ∀ d ∈ tables_1, d.before a0 Z = true) (a : Addr) (h0 : Heap) (n0 : Nat) (hn0 : n0 ≤ h0.size) (b0 b1 b2 b3 b4 : Int32) (A : own_IA Z h0 a .byte [b0, b1, b2, b3, b4]) (E : Exa Z h0 a "[B") : own_Met l Z n0 (⟨"java/util/Arrays", "copyOfRange", "([BII)[B"⟩ : MethodName) jdk_65_method_132_code 3 (some (.array .byte)) [] ({ frames := 2, cells := 1, slots := 3, locals := 40 } : Room) #[(.ref a), (.int (1 : Int32)), (.int (4 : Int32))] h0 (fun v h => ∃ b, v = some (.ref b) ∧ h0.size ≤ b ∧ Keep h0 h [] ∧ own_IA Z h b .byte [b1, b2, b3]) := by
  refine own_body (plainFor_of_name own_pn_java_util_Arrays) hn0 (own_ef_cr14 a) ?_
  intro p e s m below meth c T C X
  have KK := Keep.refl h0 []
  refine own_iloadN C X own_d7_0 rfl (pc' := 1) rfl ?_
  refine own_if_ne C X own_d7_1 (pcT := 10) (pc' := 4) (by decide) (by decide) rfl (fun hc1 => ?_) (fun hc1 => absurd hc1 (by decide))
  refine own_aloadN C X own_d7_10 rfl rfl (pc' := 11) rfl ?_
  refine own_iloadN C X own_d7_11 rfl (pc' := 12) rfl ?_
  refine own_iloadN C X own_d7_12 rfl (pc' := 13) rfl ?_
  have hbg := own_big C X
  refine own_callS C X own_d7_13 (own_m_crb14 l Z a0 hw a _ n0 hbg b0 b1 b2 b3 b4 A) (hw _ (List.mem_of_getElem? (i := 45) rfl)) (hw _ (List.mem_of_getElem? (i := 46) rfl)) (hw _ (List.mem_of_getElem? (i := 43) rfl)) (hw _ (List.mem_of_getElem? (i := 47) rfl)) (by decide) own_pd_5734 rfl rfl (Nat.le_of_ble_eq_true rfl) (Nat.le_of_ble_eq_true rfl) (Nat.le_of_ble_eq_true rfl) (Nat.le_of_ble_eq_true rfl) (av := [(.ref a), (.int (1 : Int32)), (.int (4 : Int32))]) (S := []) rfl (pc' := 16) rfl ?_
  intro T h v X hQ
  obtain ⟨nb, rfl, gq_nb, K_, A_nb⟩ := hQ
  have ne_a_nb : a ≠ nb := Nat.ne_of_lt (Nat.lt_of_lt_of_le A.lt gq_nb)
  have ge_nb : n0 ≤ nb := Nat.le_trans hbg gq_nb
  have gz_nb : h0.size ≤ nb := Nat.le_trans KK.1 gq_nb
  have A := A.keep K_ nin0
  have KK := KK.trans K_ all0
  show own_Go p e below n0 (own_Fin ({ frames := 2, cells := 1, slots := 3, locals := 40 } : Room) s (fun v h => ∃ b, v = some (.ref b) ∧ h0.size ≤ b ∧ Keep h0 h [] ∧ own_IA Z h b .byte [b1, b2, b3])) (T.setTop (mkF m 16 #[.val (.ref a), .val (.int (1 : Int32)), .val (.int (4 : Int32))] [(.ref nb)]))
  exact own_areturn C X own_d7_16 rfl rfl rfl (Nat.le_of_ble_eq_true rfl) (Nat.le_of_ble_eq_true rfl) (⟨nb, rfl, gz_nb, KK, A_nb⟩)
theorem own_ef_crb15 (a : Addr) (m : MethodId) : entryFrame m #[(.ref a), (.int (1 : Int32)), (.int (5 : Int32))] 5 = mkF m 0 #[.val (.ref a), .val (.int (1 : Int32)), .val (.int (5 : Int32)), .unset, .unset] [] := by first | (simp [entryFrame, mkF, argsToLocals, Value.category]; done) | rfl
set_option maxRecDepth 65536 in
set_option maxHeartbeats 40000000 in
theorem own_m_crb15 (l : Launch) (Z : State) (a0 : Array Value) (hw : ∀ d ∈ tables_1, d.before a0 Z = true) (a : Addr) (h0 : Heap) (n0 : Nat) (hn0 : n0 ≤ h0.size) (b0 b1 b2 b3 b4 : Int32) (A : own_IA Z h0 a .byte [b0, b1, b2, b3, b4]) : own_Met l Z n0 (⟨"java/util/Arrays", "copyOfRangeByte", "([BII)[B"⟩ : MethodName) jdk_65_method_133_code 5 (some (.array .byte)) [] ({ frames := 1, cells := 1, slots := 4, locals := 20 } : Room) #[(.ref a), (.int (1 : Int32)), (.int (5 : Int32))] h0 (fun v h => ∃ b, v = some (.ref b) ∧ h0.size ≤ b ∧ Keep h0 h [] ∧ own_IA Z h b .byte [b1, b2, b3, b4]) := by
  refine own_body (plainFor_of_name own_pn_java_util_Arrays) hn0 (own_ef_crb15 a) ?_
  intro p e s m below meth c T C X
  have KK := Keep.refl h0 []
  refine own_iloadN C X own_d8_0 rfl (pc' := 1) rfl ?_
  refine own_iloadN C X own_d8_1 rfl (pc' := 2) rfl ?_
  refine own_callS C X own_d8_2 (own_m_chk l Z a0 hw (1 : Int32) (5 : Int32) _ n0 (own_big C X) (by decide)) (hw _ (List.mem_of_getElem? (i := 48) rfl)) (hw _ (List.mem_of_getElem? (i := 49) rfl)) (hw _ (List.mem_of_getElem? (i := 43) rfl)) (hw _ (List.mem_of_getElem? (i := 50) rfl)) (by decide) own_pd_2877 rfl rfl (Nat.le_of_ble_eq_true rfl) (Nat.le_of_ble_eq_true rfl) (Nat.le_of_ble_eq_true rfl) (Nat.le_of_ble_eq_true rfl) (av := [(.int (1 : Int32)), (.int (5 : Int32))]) (S := []) rfl (pc' := 5) rfl ?_
  intro T h v X hQ
  obtain ⟨rfl, rfl⟩ := hQ
  show own_Go p e below n0 (own_Fin ({ frames := 1, cells := 1, slots := 4, locals := 20 } : Room) s (fun v h => ∃ b, v = some (.ref b) ∧ h0.size ≤ b ∧ Keep h0 h [] ∧ own_IA Z h b .byte [b1, b2, b3, b4])) (T.setTop (mkF m 5 #[.val (.ref a), .val (.int (1 : Int32)), .val (.int (5 : Int32)), .unset, .unset] []))
  refine own_iloadN C X own_d8_5 rfl (pc' := 6) rfl ?_
  refine own_iloadN C X own_d8_6 rfl (pc' := 7) rfl ?_
  refine own_isub C X own_d8_7 (z := 4) (by decide) (pc' := 8) rfl ?_
  refine own_istoreN C X own_d8_8 (L' := #[.val (.ref a), .val (.int (1 : Int32)), .val (.int (5 : Int32)), .val (.int (4 : Int32)), .unset]) rfl (pc' := 9) rfl ?_
  refine own_iloadN C X own_d8_9 rfl (pc' := 10) rfl ?_
  refine own_newI C X own_d8_10 (ty := .byte) rfl (hw _ (List.mem_of_getElem? (i := 0) rfl)) (by decide) (k := 4) (cap := 4) (Nat.le_of_ble_eq_true rfl) (by decide) (Nat.le_of_ble_eq_true rfl) (Nat.le_of_ble_eq_true rfl) rfl rfl (pc' := 12) rfl ?_
  intro T h nb e_nb X K_ ge_nb A_nb_
  have gz_nb : h0.size ≤ nb := by rw [e_nb]; exact KK.1
  have ne_a_nb : a ≠ nb := by rw [e_nb]; exact Nat.ne_of_lt A.lt
  have A_nb : own_IA Z h nb .byte [(0 : Int32), (0 : Int32), (0 : Int32), (0 : Int32)] := A_nb_
  have A := A.keep K_ nin0
  have KK := KK.trans K_ all0
  refine own_astore C X own_d8_12 rfl (L' := #[.val (.ref a), .val (.int (1 : Int32)), .val (.int (5 : Int32)), .val (.int (4 : Int32)), .val (.ref nb)]) rfl (pc' := 14) rfl ?_
  refine own_aloadN C X own_d8_14 rfl rfl (pc' := 15) rfl ?_
  refine own_iloadN C X own_d8_15 rfl (pc' := 16) rfl ?_
  refine own_aload C X own_d8_16 rfl rfl (pc' := 18) rfl ?_
  refine own_iconst C X own_d8_18 (v := 0) (by decide) (pc' := 19) rfl ?_
  refine own_aloadN C X own_d8_19 rfl rfl (pc' := 20) rfl ?_
  refine own_alenI C X own_d8_20 (n := 5) A rfl (pc' := 21) rfl ?_
  refine own_iloadN C X own_d8_21 rfl (pc' := 22) rfl ?_
  refine own_isub C X own_d8_22 (z := 4) (by decide) (pc' := 23) rfl ?_
  refine own_iloadN C X own_d8_23 rfl (pc' := 24) rfl ?_
  refine own_callS C X own_d8_24 (own_m_min l Z a0 hw (4 : Int32) (4 : Int32) _ n0 (own_big C X)) (hw _ (List.mem_of_getElem? (i := 51) rfl)) (hw _ (List.mem_of_getElem? (i := 52) rfl)) (hw _ (List.mem_of_getElem? (i := 53) rfl)) (hw _ (List.mem_of_getElem? (i := 54) rfl)) (by decide) own_pd_2734 rfl rfl (Nat.le_of_ble_eq_true rfl) (Nat.le_of_ble_eq_true rfl) (Nat.le_of_ble_eq_true rfl) (Nat.le_of_ble_eq_true rfl) (av := [(.int (4 : Int32)), (.int (4 : Int32))]) (S := [(.int (0 : Int32)), (.ref nb), (.int (1 : Int32)), (.ref a)]) rfl (pc' := 27) rfl ?_
  intro T h v X hQ
  obtain ⟨rfl, rfl⟩ := hQ
  rw [show own_mi (4 : Int32) (4 : Int32) = 4 from by decide]
  show own_Go p e below n0 (own_Fin ({ frames := 1, cells := 1, slots := 4, locals := 20 } : Room) s (fun v h => ∃ b, v = some (.ref b) ∧ h0.size ≤ b ∧ Keep h0 h [] ∧ own_IA Z h b .byte [b1, b2, b3, b4])) (T.setTop (mkF m 27 #[.val (.ref a), .val (.int (1 : Int32)), .val (.int (5 : Int32)), .val (.int (4 : Int32)), .val (.ref nb)] [(.int (4 : Int32)), (.int (0 : Int32)), (.ref nb), (.int (1 : Int32)), (.ref a)]))
  refine own_acopy C X own_d8_27 A A_nb (hw _ (List.mem_of_getElem? (i := 55) rfl)) (hw _ (List.mem_of_getElem? (i := 58) rfl)) (hw _ (List.mem_of_getElem? (i := 56) rfl)) (hw _ (List.mem_of_getElem? (i := 57) rfl)) (i := 1) (j := 0) (k := 4) (n1 := 5) (n2 := 4) (zs := [b1, b2, b3, b4]) (by decide) (by decide) (by decide) rfl rfl (Nat.le_of_ble_eq_true rfl) (Nat.le_of_ble_eq_true rfl) rfl rfl ge_nb rfl (by decide) (Nat.le_of_ble_eq_true rfl) (pc' := 30) rfl ?_
  intro T h X K_ A_nb
  have A := A.keep K_ (ninS ne_a_nb nin0)
  have KK := KK.trans K_ (allS (Or.inr gz_nb) all0)
  refine own_aload C X own_d8_30 rfl rfl (pc' := 32) rfl ?_
  exact own_areturn C X own_d8_32 rfl rfl rfl (Nat.le_of_ble_eq_true rfl) (Nat.le_of_ble_eq_true rfl) (⟨nb, rfl, gz_nb, KK, A_nb⟩)
theorem own_ef_cr15 (a : Addr) (m : MethodId) : entryFrame m #[(.ref a), (.int (1 : Int32)), (.int (5 : Int32))] 3 = mkF m 0 #[.val (.ref a), .val (.int (1 : Int32)), .val (.int (5 : Int32))] [] := by first | (simp [entryFrame, mkF, argsToLocals, Value.category]; done) | rfl
set_option maxRecDepth 65536 in
set_option maxHeartbeats 40000000 in
theorem own_m_cr15 (l : Launch) (Z : State) (a0 : Array Value) (hw : ∀ d ∈ tables_1, d.before a0 Z = true) (a : Addr) (h0 : Heap) (n0 : Nat) (hn0 : n0 ≤ h0.size) (b0 b1 b2 b3 b4 : Int32) (A : own_IA Z h0 a .byte [b0, b1, b2, b3, b4]) (E : Exa Z h0 a "[B") : own_Met l Z n0 (⟨"java/util/Arrays", "copyOfRange", "([BII)[B"⟩ : MethodName) jdk_65_method_132_code 3 (some (.array .byte)) [] ({ frames := 2, cells := 1, slots := 4, locals := 40 } : Room) #[(.ref a), (.int (1 : Int32)), (.int (5 : Int32))] h0 (fun v h => ∃ b, v = some (.ref b) ∧ h0.size ≤ b ∧ Keep h0 h [] ∧ own_IA Z h b .byte [b1, b2, b3, b4]) := by
  refine own_body (plainFor_of_name own_pn_java_util_Arrays) hn0 (own_ef_cr15 a) ?_
  intro p e s m below meth c T C X
  have KK := Keep.refl h0 []
  refine own_iloadN C X own_d7_0 rfl (pc' := 1) rfl ?_
  refine own_if_ne C X own_d7_1 (pcT := 10) (pc' := 4) (by decide) (by decide) rfl (fun hc1 => ?_) (fun hc1 => absurd hc1 (by decide))
  refine own_aloadN C X own_d7_10 rfl rfl (pc' := 11) rfl ?_
  refine own_iloadN C X own_d7_11 rfl (pc' := 12) rfl ?_
  refine own_iloadN C X own_d7_12 rfl (pc' := 13) rfl ?_
  have hbg := own_big C X
  refine own_callS C X own_d7_13 (own_m_crb15 l Z a0 hw a _ n0 hbg b0 b1 b2 b3 b4 A) (hw _ (List.mem_of_getElem? (i := 45) rfl)) (hw _ (List.mem_of_getElem? (i := 46) rfl)) (hw _ (List.mem_of_getElem? (i := 43) rfl)) (hw _ (List.mem_of_getElem? (i := 47) rfl)) (by decide) own_pd_5734 rfl rfl (Nat.le_of_ble_eq_true rfl) (Nat.le_of_ble_eq_true rfl) (Nat.le_of_ble_eq_true rfl) (Nat.le_of_ble_eq_true rfl) (av := [(.ref a), (.int (1 : Int32)), (.int (5 : Int32))]) (S := []) rfl (pc' := 16) rfl ?_
  intro T h v X hQ
  obtain ⟨nb, rfl, gq_nb, K_, A_nb⟩ := hQ
  have ne_a_nb : a ≠ nb := Nat.ne_of_lt (Nat.lt_of_lt_of_le A.lt gq_nb)
  have ge_nb : n0 ≤ nb := Nat.le_trans hbg gq_nb
  have gz_nb : h0.size ≤ nb := Nat.le_trans KK.1 gq_nb
  have A := A.keep K_ nin0
  have KK := KK.trans K_ all0
  show own_Go p e below n0 (own_Fin ({ frames := 2, cells := 1, slots := 4, locals := 40 } : Room) s (fun v h => ∃ b, v = some (.ref b) ∧ h0.size ≤ b ∧ Keep h0 h [] ∧ own_IA Z h b .byte [b1, b2, b3, b4])) (T.setTop (mkF m 16 #[.val (.ref a), .val (.int (1 : Int32)), .val (.int (5 : Int32))] [(.ref nb)]))
  exact own_areturn C X own_d7_16 rfl rfl rfl (Nat.le_of_ble_eq_true rfl) (Nat.le_of_ble_eq_true rfl) (⟨nb, rfl, gz_nb, KK, A_nb⟩)
theorem own_ef_crb22 (a : Addr) (m : MethodId) : entryFrame m #[(.ref a), (.int (2 : Int32)), (.int (2 : Int32))] 5 = mkF m 0 #[.val (.ref a), .val (.int (2 : Int32)), .val (.int (2 : Int32)), .unset, .unset] [] := by first | (simp [entryFrame, mkF, argsToLocals, Value.category]; done) | rfl
set_option maxRecDepth 65536 in
set_option maxHeartbeats 40000000 in
theorem own_m_crb22 (l : Launch) (Z : State) (a0 : Array Value) (hw : ∀ d ∈ tables_1, d.before a0 Z = true) (a : Addr) (h0 : Heap) (n0 : Nat) (hn0 : n0 ≤ h0.size) (b0 b1 b2 b3 b4 : Int32) (A : own_IA Z h0 a .byte [b0, b1, b2, b3, b4]) : own_Met l Z n0 (⟨"java/util/Arrays", "copyOfRangeByte", "([BII)[B"⟩ : MethodName) jdk_65_method_133_code 5 (some (.array .byte)) [] ({ frames := 1, cells := 1, slots := 0, locals := 20 } : Room) #[(.ref a), (.int (2 : Int32)), (.int (2 : Int32))] h0 (fun v h => ∃ b, v = some (.ref b) ∧ h0.size ≤ b ∧ Keep h0 h [] ∧ own_IA Z h b .byte []) := by
  refine own_body (plainFor_of_name own_pn_java_util_Arrays) hn0 (own_ef_crb22 a) ?_
  intro p e s m below meth c T C X
  have KK := Keep.refl h0 []
  refine own_iloadN C X own_d8_0 rfl (pc' := 1) rfl ?_
  refine own_iloadN C X own_d8_1 rfl (pc' := 2) rfl ?_
  refine own_callS C X own_d8_2 (own_m_chk l Z a0 hw (2 : Int32) (2 : Int32) _ n0 (own_big C X) (by decide)) (hw _ (List.mem_of_getElem? (i := 48) rfl)) (hw _ (List.mem_of_getElem? (i := 49) rfl)) (hw _ (List.mem_of_getElem? (i := 43) rfl)) (hw _ (List.mem_of_getElem? (i := 50) rfl)) (by decide) own_pd_2877 rfl rfl (Nat.le_of_ble_eq_true rfl) (Nat.le_of_ble_eq_true rfl) (Nat.le_of_ble_eq_true rfl) (Nat.le_of_ble_eq_true rfl) (av := [(.int (2 : Int32)), (.int (2 : Int32))]) (S := []) rfl (pc' := 5) rfl ?_
  intro T h v X hQ
  obtain ⟨rfl, rfl⟩ := hQ
  show own_Go p e below n0 (own_Fin ({ frames := 1, cells := 1, slots := 0, locals := 20 } : Room) s (fun v h => ∃ b, v = some (.ref b) ∧ h0.size ≤ b ∧ Keep h0 h [] ∧ own_IA Z h b .byte [])) (T.setTop (mkF m 5 #[.val (.ref a), .val (.int (2 : Int32)), .val (.int (2 : Int32)), .unset, .unset] []))
  refine own_iloadN C X own_d8_5 rfl (pc' := 6) rfl ?_
  refine own_iloadN C X own_d8_6 rfl (pc' := 7) rfl ?_
  refine own_isub C X own_d8_7 (z := 0) (by decide) (pc' := 8) rfl ?_
  refine own_istoreN C X own_d8_8 (L' := #[.val (.ref a), .val (.int (2 : Int32)), .val (.int (2 : Int32)), .val (.int (0 : Int32)), .unset]) rfl (pc' := 9) rfl ?_
  refine own_iloadN C X own_d8_9 rfl (pc' := 10) rfl ?_
  refine own_newI C X own_d8_10 (ty := .byte) rfl (hw _ (List.mem_of_getElem? (i := 0) rfl)) (by decide) (k := 0) (cap := 0) (Nat.le_of_ble_eq_true rfl) (by decide) (Nat.le_of_ble_eq_true rfl) (Nat.le_of_ble_eq_true rfl) rfl rfl (pc' := 12) rfl ?_
  intro T h nb e_nb X K_ ge_nb A_nb_
  have gz_nb : h0.size ≤ nb := by rw [e_nb]; exact KK.1
  have ne_a_nb : a ≠ nb := by rw [e_nb]; exact Nat.ne_of_lt A.lt
  have A_nb : own_IA Z h nb .byte [] := A_nb_
  have A := A.keep K_ nin0
  have KK := KK.trans K_ all0
  refine own_astore C X own_d8_12 rfl (L' := #[.val (.ref a), .val (.int (2 : Int32)), .val (.int (2 : Int32)), .val (.int (0 : Int32)), .val (.ref nb)]) rfl (pc' := 14) rfl ?_
  refine own_aloadN C X own_d8_14 rfl rfl (pc' := 15) rfl ?_
  refine own_iloadN C X own_d8_15 rfl (pc' := 16) rfl ?_
  refine own_aload C X own_d8_16 rfl rfl (pc' := 18) rfl ?_
  refine own_iconst C X own_d8_18 (v := 0) (by decide) (pc' := 19) rfl ?_
  refine own_aloadN C X own_d8_19 rfl rfl (pc' := 20) rfl ?_
  refine own_alenI C X own_d8_20 (n := 5) A rfl (pc' := 21) rfl ?_
  refine own_iloadN C X own_d8_21 rfl (pc' := 22) rfl ?_
  refine own_isub C X own_d8_22 (z := 3) (by decide) (pc' := 23) rfl ?_
  refine own_iloadN C X own_d8_23 rfl (pc' := 24) rfl ?_
  refine own_callS C X own_d8_24 (own_m_min l Z a0 hw (3 : Int32) (0 : Int32) _ n0 (own_big C X)) (hw _ (List.mem_of_getElem? (i := 51) rfl)) (hw _ (List.mem_of_getElem? (i := 52) rfl)) (hw _ (List.mem_of_getElem? (i := 53) rfl)) (hw _ (List.mem_of_getElem? (i := 54) rfl)) (by decide) own_pd_2734 rfl rfl (Nat.le_of_ble_eq_true rfl) (Nat.le_of_ble_eq_true rfl) (Nat.le_of_ble_eq_true rfl) (Nat.le_of_ble_eq_true rfl) (av := [(.int (3 : Int32)), (.int (0 : Int32))]) (S := [(.int (0 : Int32)), (.ref nb), (.int (2 : Int32)), (.ref a)]) rfl (pc' := 27) rfl ?_
  intro T h v X hQ
  obtain ⟨rfl, rfl⟩ := hQ
  rw [show own_mi (3 : Int32) (0 : Int32) = 0 from by decide]
  show own_Go p e below n0 (own_Fin ({ frames := 1, cells := 1, slots := 0, locals := 20 } : Room) s (fun v h => ∃ b, v = some (.ref b) ∧ h0.size ≤ b ∧ Keep h0 h [] ∧ own_IA Z h b .byte [])) (T.setTop (mkF m 27 #[.val (.ref a), .val (.int (2 : Int32)), .val (.int (2 : Int32)), .val (.int (0 : Int32)), .val (.ref nb)] [(.int (0 : Int32)), (.int (0 : Int32)), (.ref nb), (.int (2 : Int32)), (.ref a)]))
  refine own_acopy C X own_d8_27 A A_nb (hw _ (List.mem_of_getElem? (i := 55) rfl)) (hw _ (List.mem_of_getElem? (i := 58) rfl)) (hw _ (List.mem_of_getElem? (i := 56) rfl)) (hw _ (List.mem_of_getElem? (i := 57) rfl)) (i := 2) (j := 0) (k := 0) (n1 := 5) (n2 := 0) (zs := []) (by decide) (by decide) (by decide) rfl rfl (Nat.le_of_ble_eq_true rfl) (Nat.le_of_ble_eq_true rfl) rfl rfl ge_nb rfl (by decide) (Nat.le_of_ble_eq_true rfl) (pc' := 30) rfl ?_
  intro T h X K_ A_nb
  have A := A.keep K_ (ninS ne_a_nb nin0)
  have KK := KK.trans K_ (allS (Or.inr gz_nb) all0)
  refine own_aload C X own_d8_30 rfl rfl (pc' := 32) rfl ?_
  exact own_areturn C X own_d8_32 rfl rfl rfl (Nat.le_of_ble_eq_true rfl) (Nat.le_of_ble_eq_true rfl) (⟨nb, rfl, gz_nb, KK, A_nb⟩)
theorem own_ef_cr22 (a : Addr) (m : MethodId) : entryFrame m #[(.ref a), (.int (2 : Int32)), (.int (2 : Int32))] 3 = mkF m 0 #[.val (.ref a), .val (.int (2 : Int32)), .val (.int (2 : Int32))] [] := by first | (simp [entryFrame, mkF, argsToLocals, Value.category]; done) | rfl
set_option maxRecDepth 65536 in
set_option maxHeartbeats 40000000 in
theorem own_m_cr22 (l : Launch) (Z : State) (a0 : Array Value) (hw : ∀ d ∈ tables_1, d.before a0 Z = true) (a : Addr) (h0 : Heap) (n0 : Nat) (hn0 : n0 ≤ h0.size) (b0 b1 b2 b3 b4 : Int32) (A : own_IA Z h0 a .byte [b0, b1, b2, b3, b4]) (E : Exa Z h0 a "[B") : own_Met l Z n0 (⟨"java/util/Arrays", "copyOfRange", "([BII)[B"⟩ : MethodName) jdk_65_method_132_code 3 (some (.array .byte)) [] ({ frames := 2, cells := 1, slots := 0, locals := 40 } : Room) #[(.ref a), (.int (2 : Int32)), (.int (2 : Int32))] h0 (fun v h => ∃ b, v = some (.ref b) ∧ h0.size ≤ b ∧ Keep h0 h [] ∧ own_IA Z h b .byte []) := by
  refine own_body (plainFor_of_name own_pn_java_util_Arrays) hn0 (own_ef_cr22 a) ?_
  intro p e s m below meth c T C X
  have KK := Keep.refl h0 []
  refine own_iloadN C X own_d7_0 rfl (pc' := 1) rfl ?_
  refine own_if_ne C X own_d7_1 (pcT := 10) (pc' := 4) (by decide) (by decide) rfl (fun hc1 => ?_) (fun hc1 => absurd hc1 (by decide))
  refine own_aloadN C X own_d7_10 rfl rfl (pc' := 11) rfl ?_
  refine own_iloadN C X own_d7_11 rfl (pc' := 12) rfl ?_
  refine own_iloadN C X own_d7_12 rfl (pc' := 13) rfl ?_
  have hbg := own_big C X
  refine own_callS C X own_d7_13 (own_m_crb22 l Z a0 hw a _ n0 hbg b0 b1 b2 b3 b4 A) (hw _ (List.mem_of_getElem? (i := 45) rfl)) (hw _ (List.mem_of_getElem? (i := 46) rfl)) (hw _ (List.mem_of_getElem? (i := 43) rfl)) (hw _ (List.mem_of_getElem? (i := 47) rfl)) (by decide) own_pd_5734 rfl rfl (Nat.le_of_ble_eq_true rfl) (Nat.le_of_ble_eq_true rfl) (Nat.le_of_ble_eq_true rfl) (Nat.le_of_ble_eq_true rfl) (av := [(.ref a), (.int (2 : Int32)), (.int (2 : Int32))]) (S := []) rfl (pc' := 16) rfl ?_
  intro T h v X hQ
  obtain ⟨nb, rfl, gq_nb, K_, A_nb⟩ := hQ
  have ne_a_nb : a ≠ nb := Nat.ne_of_lt (Nat.lt_of_lt_of_le A.lt gq_nb)
  have ge_nb : n0 ≤ nb := Nat.le_trans hbg gq_nb
  have gz_nb : h0.size ≤ nb := Nat.le_trans KK.1 gq_nb
  have A := A.keep K_ nin0
  have KK := KK.trans K_ all0
  show own_Go p e below n0 (own_Fin ({ frames := 2, cells := 1, slots := 0, locals := 40 } : Room) s (fun v h => ∃ b, v = some (.ref b) ∧ h0.size ≤ b ∧ Keep h0 h [] ∧ own_IA Z h b .byte [])) (T.setTop (mkF m 16 #[.val (.ref a), .val (.int (2 : Int32)), .val (.int (2 : Int32))] [(.ref nb)]))
  exact own_areturn C X own_d7_16 rfl rfl rfl (Nat.le_of_ble_eq_true rfl) (Nat.le_of_ble_eq_true rfl) (⟨nb, rfl, gz_nb, KK, A_nb⟩)
theorem own_ef_crb23 (a : Addr) (m : MethodId) : entryFrame m #[(.ref a), (.int (2 : Int32)), (.int (3 : Int32))] 5 = mkF m 0 #[.val (.ref a), .val (.int (2 : Int32)), .val (.int (3 : Int32)), .unset, .unset] [] := by first | (simp [entryFrame, mkF, argsToLocals, Value.category]; done) | rfl
set_option maxRecDepth 65536 in
set_option maxHeartbeats 40000000 in
theorem own_m_crb23 (l : Launch) (Z : State) (a0 : Array Value) (hw : ∀ d ∈ tables_1, d.before a0 Z = true) (a : Addr) (h0 : Heap) (n0 : Nat) (hn0 : n0 ≤ h0.size) (b0 b1 b2 b3 b4 : Int32) (A : own_IA Z h0 a .byte [b0, b1, b2, b3, b4]) : own_Met l Z n0 (⟨"java/util/Arrays", "copyOfRangeByte", "([BII)[B"⟩ : MethodName) jdk_65_method_133_code 5 (some (.array .byte)) [] ({ frames := 1, cells := 1, slots := 1, locals := 20 } : Room) #[(.ref a), (.int (2 : Int32)), (.int (3 : Int32))] h0 (fun v h => ∃ b, v = some (.ref b) ∧ h0.size ≤ b ∧ Keep h0 h [] ∧ own_IA Z h b .byte [b2]) := by
  refine own_body (plainFor_of_name own_pn_java_util_Arrays) hn0 (own_ef_crb23 a) ?_
  intro p e s m below meth c T C X
  have KK := Keep.refl h0 []
  refine own_iloadN C X own_d8_0 rfl (pc' := 1) rfl ?_
  refine own_iloadN C X own_d8_1 rfl (pc' := 2) rfl ?_
  refine own_callS C X own_d8_2 (own_m_chk l Z a0 hw (2 : Int32) (3 : Int32) _ n0 (own_big C X) (by decide)) (hw _ (List.mem_of_getElem? (i := 48) rfl)) (hw _ (List.mem_of_getElem? (i := 49) rfl)) (hw _ (List.mem_of_getElem? (i := 43) rfl)) (hw _ (List.mem_of_getElem? (i := 50) rfl)) (by decide) own_pd_2877 rfl rfl (Nat.le_of_ble_eq_true rfl) (Nat.le_of_ble_eq_true rfl) (Nat.le_of_ble_eq_true rfl) (Nat.le_of_ble_eq_true rfl) (av := [(.int (2 : Int32)), (.int (3 : Int32))]) (S := []) rfl (pc' := 5) rfl ?_
  intro T h v X hQ
  obtain ⟨rfl, rfl⟩ := hQ
  show own_Go p e below n0 (own_Fin ({ frames := 1, cells := 1, slots := 1, locals := 20 } : Room) s (fun v h => ∃ b, v = some (.ref b) ∧ h0.size ≤ b ∧ Keep h0 h [] ∧ own_IA Z h b .byte [b2])) (T.setTop (mkF m 5 #[.val (.ref a), .val (.int (2 : Int32)), .val (.int (3 : Int32)), .unset, .unset] []))
  refine own_iloadN C X own_d8_5 rfl (pc' := 6) rfl ?_
  refine own_iloadN C X own_d8_6 rfl (pc' := 7) rfl ?_
  refine own_isub C X own_d8_7 (z := 1) (by decide) (pc' := 8) rfl ?_
  refine own_istoreN C X own_d8_8 (L' := #[.val (.ref a), .val (.int (2 : Int32)), .val (.int (3 : Int32)), .val (.int (1 : Int32)), .unset]) rfl (pc' := 9) rfl ?_
  refine own_iloadN C X own_d8_9 rfl (pc' := 10) rfl ?_
  refine own_newI C X own_d8_10 (ty := .byte) rfl (hw _ (List.mem_of_getElem? (i := 0) rfl)) (by decide) (k := 1) (cap := 1) (Nat.le_of_ble_eq_true rfl) (by decide) (Nat.le_of_ble_eq_true rfl) (Nat.le_of_ble_eq_true rfl) rfl rfl (pc' := 12) rfl ?_
  intro T h nb e_nb X K_ ge_nb A_nb_
  have gz_nb : h0.size ≤ nb := by rw [e_nb]; exact KK.1
  have ne_a_nb : a ≠ nb := by rw [e_nb]; exact Nat.ne_of_lt A.lt
  have A_nb : own_IA Z h nb .byte [(0 : Int32)] := A_nb_
  have A := A.keep K_ nin0
  have KK := KK.trans K_ all0
  refine own_astore C X own_d8_12 rfl (L' := #[.val (.ref a), .val (.int (2 : Int32)), .val (.int (3 : Int32)), .val (.int (1 : Int32)), .val (.ref nb)]) rfl (pc' := 14) rfl ?_
  refine own_aloadN C X own_d8_14 rfl rfl (pc' := 15) rfl ?_
  refine own_iloadN C X own_d8_15 rfl (pc' := 16) rfl ?_
  refine own_aload C X own_d8_16 rfl rfl (pc' := 18) rfl ?_
  refine own_iconst C X own_d8_18 (v := 0) (by decide) (pc' := 19) rfl ?_
  refine own_aloadN C X own_d8_19 rfl rfl (pc' := 20) rfl ?_
  refine own_alenI C X own_d8_20 (n := 5) A rfl (pc' := 21) rfl ?_
  refine own_iloadN C X own_d8_21 rfl (pc' := 22) rfl ?_
  refine own_isub C X own_d8_22 (z := 3) (by decide) (pc' := 23) rfl ?_
  refine own_iloadN C X own_d8_23 rfl (pc' := 24) rfl ?_
  refine own_callS C X own_d8_24 (own_m_min l Z a0 hw (3 : Int32) (1 : Int32) _ n0 (own_big C X)) (hw _ (List.mem_of_getElem? (i := 51) rfl)) (hw _ (List.mem_of_getElem? (i := 52) rfl)) (hw _ (List.mem_of_getElem? (i := 53) rfl)) (hw _ (List.mem_of_getElem? (i := 54) rfl)) (by decide) own_pd_2734 rfl rfl (Nat.le_of_ble_eq_true rfl) (Nat.le_of_ble_eq_true rfl) (Nat.le_of_ble_eq_true rfl) (Nat.le_of_ble_eq_true rfl) (av := [(.int (3 : Int32)), (.int (1 : Int32))]) (S := [(.int (0 : Int32)), (.ref nb), (.int (2 : Int32)), (.ref a)]) rfl (pc' := 27) rfl ?_
  intro T h v X hQ
  obtain ⟨rfl, rfl⟩ := hQ
  rw [show own_mi (3 : Int32) (1 : Int32) = 1 from by decide]
  show own_Go p e below n0 (own_Fin ({ frames := 1, cells := 1, slots := 1, locals := 20 } : Room) s (fun v h => ∃ b, v = some (.ref b) ∧ h0.size ≤ b ∧ Keep h0 h [] ∧ own_IA Z h b .byte [b2])) (T.setTop (mkF m 27 #[.val (.ref a), .val (.int (2 : Int32)), .val (.int (3 : Int32)), .val (.int (1 : Int32)), .val (.ref nb)] [(.int (1 : Int32)), (.int (0 : Int32)), (.ref nb), (.int (2 : Int32)), (.ref a)]))
  refine own_acopy C X own_d8_27 A A_nb (hw _ (List.mem_of_getElem? (i := 55) rfl)) (hw _ (List.mem_of_getElem? (i := 58) rfl)) (hw _ (List.mem_of_getElem? (i := 56) rfl)) (hw _ (List.mem_of_getElem? (i := 57) rfl)) (i := 2) (j := 0) (k := 1) (n1 := 5) (n2 := 1) (zs := [b2]) (by decide) (by decide) (by decide) rfl rfl (Nat.le_of_ble_eq_true rfl) (Nat.le_of_ble_eq_true rfl) rfl rfl ge_nb rfl (by decide) (Nat.le_of_ble_eq_true rfl) (pc' := 30) rfl ?_
  intro T h X K_ A_nb
  have A := A.keep K_ (ninS ne_a_nb nin0)
  have KK := KK.trans K_ (allS (Or.inr gz_nb) all0)
  refine own_aload C X own_d8_30 rfl rfl (pc' := 32) rfl ?_
  exact own_areturn C X own_d8_32 rfl rfl rfl (Nat.le_of_ble_eq_true rfl) (Nat.le_of_ble_eq_true rfl) (⟨nb, rfl, gz_nb, KK, A_nb⟩)
theorem own_ef_cr23 (a : Addr) (m : MethodId) : entryFrame m #[(.ref a), (.int (2 : Int32)), (.int (3 : Int32))] 3 = mkF m 0 #[.val (.ref a), .val (.int (2 : Int32)), .val (.int (3 : Int32))] [] := by first | (simp [entryFrame, mkF, argsToLocals, Value.category]; done) | rfl
set_option maxRecDepth 65536 in
set_option maxHeartbeats 40000000 in
theorem own_m_cr23 (l : Launch) (Z : State) (a0 : Array Value) (hw : ∀ d ∈ tables_1, d.before a0 Z = true) (a : Addr) (h0 : Heap) (n0 : Nat) (hn0 : n0 ≤ h0.size) (b0 b1 b2 b3 b4 : Int32) (A : own_IA Z h0 a .byte [b0, b1, b2, b3, b4]) (E : Exa Z h0 a "[B") : own_Met l Z n0 (⟨"java/util/Arrays", "copyOfRange", "([BII)[B"⟩ : MethodName) jdk_65_method_132_code 3 (some (.array .byte)) [] ({ frames := 2, cells := 1, slots := 1, locals := 40 } : Room) #[(.ref a), (.int (2 : Int32)), (.int (3 : Int32))] h0 (fun v h => ∃ b, v = some (.ref b) ∧ h0.size ≤ b ∧ Keep h0 h [] ∧ own_IA Z h b .byte [b2]) := by
  refine own_body (plainFor_of_name own_pn_java_util_Arrays) hn0 (own_ef_cr23 a) ?_
  intro p e s m below meth c T C X
  have KK := Keep.refl h0 []
  refine own_iloadN C X own_d7_0 rfl (pc' := 1) rfl ?_
  refine own_if_ne C X own_d7_1 (pcT := 10) (pc' := 4) (by decide) (by decide) rfl (fun hc1 => ?_) (fun hc1 => absurd hc1 (by decide))
  refine own_aloadN C X own_d7_10 rfl rfl (pc' := 11) rfl ?_
  refine own_iloadN C X own_d7_11 rfl (pc' := 12) rfl ?_
  refine own_iloadN C X own_d7_12 rfl (pc' := 13) rfl ?_
  have hbg := own_big C X
  refine own_callS C X own_d7_13 (own_m_crb23 l Z a0 hw a _ n0 hbg b0 b1 b2 b3 b4 A) (hw _ (List.mem_of_getElem? (i := 45) rfl)) (hw _ (List.mem_of_getElem? (i := 46) rfl)) (hw _ (List.mem_of_getElem? (i := 43) rfl)) (hw _ (List.mem_of_getElem? (i := 47) rfl)) (by decide) own_pd_5734 rfl rfl (Nat.le_of_ble_eq_true rfl) (Nat.le_of_ble_eq_true rfl) (Nat.le_of_ble_eq_true rfl) (Nat.le_of_ble_eq_true rfl) (av := [(.ref a), (.int (2 : Int32)), (.int (3 : Int32))]) (S := []) rfl (pc' := 16) rfl ?_
  intro T h v X hQ
  obtain ⟨nb, rfl, gq_nb, K_, A_nb⟩ := hQ
  have ne_a_nb : a ≠ nb := Nat.ne_of_lt (Nat.lt_of_lt_of_le A.lt gq_nb)
  have ge_nb : n0 ≤ nb := Nat.le_trans hbg gq_nb
  have gz_nb : h0.size ≤ nb := Nat.le_trans KK.1 gq_nb
  have A := A.keep K_ nin0
  have KK := KK.trans K_ all0
  show own_Go p e below n0 (own_Fin ({ frames := 2, cells := 1, slots := 1, locals := 40 } : Room) s (fun v h => ∃ b, v = some (.ref b) ∧ h0.size ≤ b ∧ Keep h0 h [] ∧ own_IA Z h b .byte [b2])) (T.setTop (mkF m 16 #[.val (.ref a), .val (.int (2 : Int32)), .val (.int (3 : Int32))] [(.ref nb)]))
  exact own_areturn C X own_d7_16 rfl rfl rfl (Nat.le_of_ble_eq_true rfl) (Nat.le_of_ble_eq_true rfl) (⟨nb, rfl, gz_nb, KK, A_nb⟩)
theorem own_ef_crb24 (a : Addr) (m : MethodId) : entryFrame m #[(.ref a), (.int (2 : Int32)), (.int (4 : Int32))] 5 = mkF m 0 #[.val (.ref a), .val (.int (2 : Int32)), .val (.int (4 : Int32)), .unset, .unset] [] := by first | (simp [entryFrame, mkF, argsToLocals, Value.category]; done) | rfl
set_option maxRecDepth 65536 in
set_option maxHeartbeats 40000000 in
theorem own_m_crb24 (l : Launch) (Z : State) (a0 : Array Value) (hw : ∀ d ∈ tables_1, d.before a0 Z = true) (a : Addr) (h0 : Heap) (n0 : Nat) (hn0 : n0 ≤ h0.size) (b0 b1 b2 b3 b4 : Int32) (A : own_IA Z h0 a .byte [b0, b1, b2, b3, b4]) : own_Met l Z n0 (⟨"java/util/Arrays", "copyOfRangeByte", "([BII)[B"⟩ : MethodName) jdk_65_method_133_code 5 (some (.array .byte)) [] ({ frames := 1, cells := 1, slots := 2, locals := 20 } : Room) #[(.ref a), (.int (2 : Int32)), (.int (4 : Int32))] h0 (fun v h => ∃ b, v = some (.ref b) ∧ h0.size ≤ b ∧ Keep h0 h [] ∧ own_IA Z h b .byte [b2, b3]) := by
  refine own_body (plainFor_of_name own_pn_java_util_Arrays) hn0 (own_ef_crb24 a) ?_
  intro p e s m below meth c T C X
  have KK := Keep.refl h0 []
  refine own_iloadN C X own_d8_0 rfl (pc' := 1) rfl ?_
  refine own_iloadN C X own_d8_1 rfl (pc' := 2) rfl ?_
  refine own_callS C X own_d8_2 (own_m_chk l Z a0 hw (2 : Int32) (4 : Int32) _ n0 (own_big C X) (by decide)) (hw _ (List.mem_of_getElem? (i := 48) rfl)) (hw _ (List.mem_of_getElem? (i := 49) rfl)) (hw _ (List.mem_of_getElem? (i := 43) rfl)) (hw _ (List.mem_of_getElem? (i := 50) rfl)) (by decide) own_pd_2877 rfl rfl (Nat.le_of_ble_eq_true rfl) (Nat.le_of_ble_eq_true rfl) (Nat.le_of_ble_eq_true rfl) (Nat.le_of_ble_eq_true rfl) (av := [(.int (2 : Int32)), (.int (4 : Int32))]) (S := []) rfl (pc' := 5) rfl ?_
  intro T h v X hQ
  obtain ⟨rfl, rfl⟩ := hQ
  show own_Go p e below n0 (own_Fin ({ frames := 1, cells := 1, slots := 2, locals := 20 } : Room) s (fun v h => ∃ b, v = some (.ref b) ∧ h0.size ≤ b ∧ Keep h0 h [] ∧ own_IA Z h b .byte [b2, b3])) (T.setTop (mkF m 5 #[.val (.ref a), .val (.int (2 : Int32)), .val (.int (4 : Int32)), .unset, .unset] []))
  refine own_iloadN C X own_d8_5 rfl (pc' := 6) rfl ?_
  refine own_iloadN C X own_d8_6 rfl (pc' := 7) rfl ?_
  refine own_isub C X own_d8_7 (z := 2) (by decide) (pc' := 8) rfl ?_
  refine own_istoreN C X own_d8_8 (L' := #[.val (.ref a), .val (.int (2 : Int32)), .val (.int (4 : Int32)), .val (.int (2 : Int32)), .unset]) rfl (pc' := 9) rfl ?_
  refine own_iloadN C X own_d8_9 rfl (pc' := 10) rfl ?_
  refine own_newI C X own_d8_10 (ty := .byte) rfl (hw _ (List.mem_of_getElem? (i := 0) rfl)) (by decide) (k := 2) (cap := 2) (Nat.le_of_ble_eq_true rfl) (by decide) (Nat.le_of_ble_eq_true rfl) (Nat.le_of_ble_eq_true rfl) rfl rfl (pc' := 12) rfl ?_
  intro T h nb e_nb X K_ ge_nb A_nb_
  have gz_nb : h0.size ≤ nb := by rw [e_nb]; exact KK.1
  have ne_a_nb : a ≠ nb := by rw [e_nb]; exact Nat.ne_of_lt A.lt
  have A_nb : own_IA Z h nb .byte [(0 : Int32), (0 : Int32)] := A_nb_
  have A := A.keep K_ nin0
  have KK := KK.trans K_ all0
  refine own_astore C X own_d8_12 rfl (L' := #[.val (.ref a), .val (.int (2 : Int32)), .val (.int (4 : Int32)), .val (.int (2 : Int32)), .val (.ref nb)]) rfl (pc' := 14) rfl ?_
  refine own_aloadN C X own_d8_14 rfl rfl (pc' := 15) rfl ?_
  refine own_iloadN C X own_d8_15 rfl (pc' := 16) rfl ?_
  refine own_aload C X own_d8_16 rfl rfl (pc' := 18) rfl ?_
  refine own_iconst C X own_d8_18 (v := 0) (by decide) (pc' := 19) rfl ?_
  refine own_aloadN C X own_d8_19 rfl rfl (pc' := 20) rfl ?_
  refine own_alenI C X own_d8_20 (n := 5) A rfl (pc' := 21) rfl ?_
  refine own_iloadN C X own_d8_21 rfl (pc' := 22) rfl ?_
  refine own_isub C X own_d8_22 (z := 3) (by decide) (pc' := 23) rfl ?_
  refine own_iloadN C X own_d8_23 rfl (pc' := 24) rfl ?_
  refine own_callS C X own_d8_24 (own_m_min l Z a0 hw (3 : Int32) (2 : Int32) _ n0 (own_big C X)) (hw _ (List.mem_of_getElem? (i := 51) rfl)) (hw _ (List.mem_of_getElem? (i := 52) rfl)) (hw _ (List.mem_of_getElem? (i := 53) rfl)) (hw _ (List.mem_of_getElem? (i := 54) rfl)) (by decide) own_pd_2734 rfl rfl (Nat.le_of_ble_eq_true rfl) (Nat.le_of_ble_eq_true rfl) (Nat.le_of_ble_eq_true rfl) (Nat.le_of_ble_eq_true rfl) (av := [(.int (3 : Int32)), (.int (2 : Int32))]) (S := [(.int (0 : Int32)), (.ref nb), (.int (2 : Int32)), (.ref a)]) rfl (pc' := 27) rfl ?_
  intro T h v X hQ
  obtain ⟨rfl, rfl⟩ := hQ
  rw [show own_mi (3 : Int32) (2 : Int32) = 2 from by decide]
  show own_Go p e below n0 (own_Fin ({ frames := 1, cells := 1, slots := 2, locals := 20 } : Room) s (fun v h => ∃ b, v = some (.ref b) ∧ h0.size ≤ b ∧ Keep h0 h [] ∧ own_IA Z h b .byte [b2, b3])) (T.setTop (mkF m 27 #[.val (.ref a), .val (.int (2 : Int32)), .val (.int (4 : Int32)), .val (.int (2 : Int32)), .val (.ref nb)] [(.int (2 : Int32)), (.int (0 : Int32)), (.ref nb), (.int (2 : Int32)), (.ref a)]))
  refine own_acopy C X own_d8_27 A A_nb (hw _ (List.mem_of_getElem? (i := 55) rfl)) (hw _ (List.mem_of_getElem? (i := 58) rfl)) (hw _ (List.mem_of_getElem? (i := 56) rfl)) (hw _ (List.mem_of_getElem? (i := 57) rfl)) (i := 2) (j := 0) (k := 2) (n1 := 5) (n2 := 2) (zs := [b2, b3]) (by decide) (by decide) (by decide) rfl rfl (Nat.le_of_ble_eq_true rfl) (Nat.le_of_ble_eq_true rfl) rfl rfl ge_nb rfl (by decide) (Nat.le_of_ble_eq_true rfl) (pc' := 30) rfl ?_
  intro T h X K_ A_nb
  have A := A.keep K_ (ninS ne_a_nb nin0)
  have KK := KK.trans K_ (allS (Or.inr gz_nb) all0)
  refine own_aload C X own_d8_30 rfl rfl (pc' := 32) rfl ?_
  exact own_areturn C X own_d8_32 rfl rfl rfl (Nat.le_of_ble_eq_true rfl) (Nat.le_of_ble_eq_true rfl) (⟨nb, rfl, gz_nb, KK, A_nb⟩)
theorem own_ef_cr24 (a : Addr) (m : MethodId) : entryFrame m #[(.ref a), (.int (2 : Int32)), (.int (4 : Int32))] 3 = mkF m 0 #[.val (.ref a), .val (.int (2 : Int32)), .val (.int (4 : Int32))] [] := by first | (simp [entryFrame, mkF, argsToLocals, Value.category]; done) | rfl
set_option maxRecDepth 65536 in
set_option maxHeartbeats 40000000 in
theorem own_m_cr24 (l : Launch) (Z : State) (a0 : Array Value) (hw : ∀ d ∈ tables_1, d.before a0 Z = true) (a : Addr) (h0 : Heap) (n0 : Nat) (hn0 : n0 ≤ h0.size) (b0 b1 b2 b3 b4 : Int32) (A : own_IA Z h0 a .byte [b0, b1, b2, b3, b4]) (E : Exa Z h0 a "[B") : own_Met l Z n0 (⟨"java/util/Arrays", "copyOfRange", "([BII)[B"⟩ : MethodName) jdk_65_method_132_code 3 (some (.array .byte)) [] ({ frames := 2, cells := 1, slots := 2, locals := 40 } : Room) #[(.ref a), (.int (2 : Int32)), (.int (4 : Int32))] h0 (fun v h => ∃ b, v = some (.ref b) ∧ h0.size ≤ b ∧ Keep h0 h [] ∧ own_IA Z h b .byte [b2, b3]) := by
  refine own_body (plainFor_of_name own_pn_java_util_Arrays) hn0 (own_ef_cr24 a) ?_
  intro p e s m below meth c T C X
  have KK := Keep.refl h0 []
  refine own_iloadN C X own_d7_0 rfl (pc' := 1) rfl ?_
  refine own_if_ne C X own_d7_1 (pcT := 10) (pc' := 4) (by decide) (by decide) rfl (fun hc1 => ?_) (fun hc1 => absurd hc1 (by decide))
  refine own_aloadN C X own_d7_10 rfl rfl (pc' := 11) rfl ?_
  refine own_iloadN C X own_d7_11 rfl (pc' := 12) rfl ?_
  refine own_iloadN C X own_d7_12 rfl (pc' := 13) rfl ?_
  have hbg := own_big C X
  refine own_callS C X own_d7_13 (own_m_crb24 l Z a0 hw a _ n0 hbg b0 b1 b2 b3 b4 A) (hw _ (List.mem_of_getElem? (i := 45) rfl)) (hw _ (List.mem_of_getElem? (i := 46) rfl)) (hw _ (List.mem_of_getElem? (i := 43) rfl)) (hw _ (List.mem_of_getElem? (i := 47) rfl)) (by decide) own_pd_5734 rfl rfl (Nat.le_of_ble_eq_true rfl) (Nat.le_of_ble_eq_true rfl) (Nat.le_of_ble_eq_true rfl) (Nat.le_of_ble_eq_true rfl) (av := [(.ref a), (.int (2 : Int32)), (.int (4 : Int32))]) (S := []) rfl (pc' := 16) rfl ?_
  intro T h v X hQ
  obtain ⟨nb, rfl, gq_nb, K_, A_nb⟩ := hQ
  have ne_a_nb : a ≠ nb := Nat.ne_of_lt (Nat.lt_of_lt_of_le A.lt gq_nb)
  have ge_nb : n0 ≤ nb := Nat.le_trans hbg gq_nb
  have gz_nb : h0.size ≤ nb := Nat.le_trans KK.1 gq_nb
  have A := A.keep K_ nin0
  have KK := KK.trans K_ all0
  show own_Go p e below n0 (own_Fin ({ frames := 2, cells := 1, slots := 2, locals := 40 } : Room) s (fun v h => ∃ b, v = some (.ref b) ∧ h0.size ≤ b ∧ Keep h0 h [] ∧ own_IA Z h b .byte [b2, b3])) (T.setTop (mkF m 16 #[.val (.ref a), .val (.int (2 : Int32)), .val (.int (4 : Int32))] [(.ref nb)]))
  exact own_areturn C X own_d7_16 rfl rfl rfl (Nat.le_of_ble_eq_true rfl) (Nat.le_of_ble_eq_true rfl) (⟨nb, rfl, gz_nb, KK, A_nb⟩)
theorem own_ef_crb25 (a : Addr) (m : MethodId) : entryFrame m #[(.ref a), (.int (2 : Int32)), (.int (5 : Int32))] 5 = mkF m 0 #[.val (.ref a), .val (.int (2 : Int32)), .val (.int (5 : Int32)), .unset, .unset] [] := by first | (simp [entryFrame, mkF, argsToLocals, Value.category]; done) | rfl
set_option maxRecDepth 65536 in
set_option maxHeartbeats 40000000 in
theorem own_m_crb25 (l : Launch) (Z : State) (a0 : Array Value) (hw : ∀ d ∈ tables_1, d.before a0 Z = true) (a : Addr) (h0 : Heap) (n0 : Nat) (hn0 : n0 ≤ h0.size) (b0 b1 b2 b3 b4 : Int32) (A : own_IA Z h0 a .byte [b0, b1, b2, b3, b4]) : own_Met l Z n0 (⟨"java/util/Arrays", "copyOfRangeByte", "([BII)[B"⟩ : MethodName) jdk_65_method_133_code 5 (some (.array .byte)) [] ({ frames := 1, cells := 1, slots := 3, locals := 20 } : Room) #[(.ref a), (.int (2 : Int32)), (.int (5 : Int32))] h0 (fun v h => ∃ b, v = some (.ref b) ∧ h0.size ≤ b ∧ Keep h0 h [] ∧ own_IA Z h b .byte [b2, b3, b4]) := by
  refine own_body (plainFor_of_name own_pn_java_util_Arrays) hn0 (own_ef_crb25 a) ?_
  intro p e s m below meth c T C X
  have KK := Keep.refl h0 []
  refine own_iloadN C X own_d8_0 rfl (pc' := 1) rfl ?_
  refine own_iloadN C X own_d8_1 rfl (pc' := 2) rfl ?_
  refine own_callS C X own_d8_2 (own_m_chk l Z a0 hw (2 : Int32) (5 : Int32) _ n0 (own_big C X) (by decide)) (hw _ (List.mem_of_getElem? (i := 48) rfl)) (hw _ (List.mem_of_getElem? (i := 49) rfl)) (hw _ (List.mem_of_getElem? (i := 43) rfl)) (hw _ (List.mem_of_getElem? (i := 50) rfl)) (by decide) own_pd_2877 rfl rfl (Nat.le_of_ble_eq_true rfl) (Nat.le_of_ble_eq_true rfl) (Nat.le_of_ble_eq_true rfl) (Nat.le_of_ble_eq_true rfl) (av := [(.int (2 : Int32)), (.int (5 : Int32))]) (S := []) rfl (pc' := 5) rfl ?_
  intro T h v X hQ
  obtain ⟨rfl, rfl⟩ := hQ
  show own_Go p e below n0 (own_Fin ({ frames := 1, cells := 1, slots := 3, locals := 20 } : Room) s (fun v h => ∃ b, v = some (.ref b) ∧ h0.size ≤ b ∧ Keep h0 h [] ∧ own_IA Z h b .byte [b2, b3, b4])) (T.setTop (mkF m 5 #[.val (.ref a), .val (.int (2 : Int32)), .val (.int (5 : Int32)), .unset, .unset] []))
  refine own_iloadN C X own_d8_5 rfl (pc' := 6) rfl ?_
  refine own_iloadN C X own_d8_6 rfl (pc' := 7) rfl ?_
  refine own_isub C X own_d8_7 (z := 3) (by decide) (pc' := 8) rfl ?_
  refine own_istoreN C X own_d8_8 (L' := #[.val (.ref a), .val (.int (2 : Int32)), .val (.int (5 : Int32)), .val (.int (3 : Int32)), .unset]) rfl (pc' := 9) rfl ?_
  refine own_iloadN C X own_d8_9 rfl (pc' := 10) rfl ?_
  refine own_newI C X own_d8_10 (ty := .byte) rfl (hw _ (List.mem_of_getElem? (i := 0) rfl)) (by decide) (k := 3) (cap := 3) (Nat.le_of_ble_eq_true rfl) (by decide) (Nat.le_of_ble_eq_true rfl) (Nat.le_of_ble_eq_true rfl) rfl rfl (pc' := 12) rfl ?_
  intro T h nb e_nb X K_ ge_nb A_nb_
  have gz_nb : h0.size ≤ nb := by rw [e_nb]; exact KK.1
  have ne_a_nb : a ≠ nb := by rw [e_nb]; exact Nat.ne_of_lt A.lt
  have A_nb : own_IA Z h nb .byte [(0 : Int32), (0 : Int32), (0 : Int32)] := A_nb_
  have A := A.keep K_ nin0
  have KK := KK.trans K_ all0
  refine own_astore C X own_d8_12 rfl (L' := #[.val (.ref a), .val (.int (2 : Int32)), .val (.int (5 : Int32)), .val (.int (3 : Int32)), .val (.ref nb)]) rfl (pc' := 14) rfl ?_
  refine own_aloadN C X own_d8_14 rfl rfl (pc' := 15) rfl ?_
  refine own_iloadN C X own_d8_15 rfl (pc' := 16) rfl ?_
  refine own_aload C X own_d8_16 rfl rfl (pc' := 18) rfl ?_
  refine own_iconst C X own_d8_18 (v := 0) (by decide) (pc' := 19) rfl ?_
  refine own_aloadN C X own_d8_19 rfl rfl (pc' := 20) rfl ?_
  refine own_alenI C X own_d8_20 (n := 5) A rfl (pc' := 21) rfl ?_
  refine own_iloadN C X own_d8_21 rfl (pc' := 22) rfl ?_
  refine own_isub C X own_d8_22 (z := 3) (by decide) (pc' := 23) rfl ?_
  refine own_iloadN C X own_d8_23 rfl (pc' := 24) rfl ?_
  refine own_callS C X own_d8_24 (own_m_min l Z a0 hw (3 : Int32) (3 : Int32) _ n0 (own_big C X)) (hw _ (List.mem_of_getElem? (i := 51) rfl)) (hw _ (List.mem_of_getElem? (i := 52) rfl)) (hw _ (List.mem_of_getElem? (i := 53) rfl)) (hw _ (List.mem_of_getElem? (i := 54) rfl)) (by decide) own_pd_2734 rfl rfl (Nat.le_of_ble_eq_true rfl) (Nat.le_of_ble_eq_true rfl) (Nat.le_of_ble_eq_true rfl) (Nat.le_of_ble_eq_true rfl) (av := [(.int (3 : Int32)), (.int (3 : Int32))]) (S := [(.int (0 : Int32)), (.ref nb), (.int (2 : Int32)), (.ref a)]) rfl (pc' := 27) rfl ?_
  intro T h v X hQ
  obtain ⟨rfl, rfl⟩ := hQ
  rw [show own_mi (3 : Int32) (3 : Int32) = 3 from by decide]
  show own_Go p e below n0 (own_Fin ({ frames := 1, cells := 1, slots := 3, locals := 20 } : Room) s (fun v h => ∃ b, v = some (.ref b) ∧ h0.size ≤ b ∧ Keep h0 h [] ∧ own_IA Z h b .byte [b2, b3, b4])) (T.setTop (mkF m 27 #[.val (.ref a), .val (.int (2 : Int32)), .val (.int (5 : Int32)), .val (.int (3 : Int32)), .val (.ref nb)] [(.int (3 : Int32)), (.int (0 : Int32)), (.ref nb), (.int (2 : Int32)), (.ref a)]))
  refine own_acopy C X own_d8_27 A A_nb (hw _ (List.mem_of_getElem? (i := 55) rfl)) (hw _ (List.mem_of_getElem? (i := 58) rfl)) (hw _ (List.mem_of_getElem? (i := 56) rfl)) (hw _ (List.mem_of_getElem? (i := 57) rfl)) (i := 2) (j := 0) (k := 3) (n1 := 5) (n2 := 3) (zs := [b2, b3, b4]) (by decide) (by decide) (by decide) rfl rfl (Nat.le_of_ble_eq_true rfl) (Nat.le_of_ble_eq_true rfl) rfl rfl ge_nb rfl (by decide) (Nat.le_of_ble_eq_true rfl) (pc' := 30) rfl ?_
  intro T h X K_ A_nb
  have A := A.keep K_ (ninS ne_a_nb nin0)
  have KK := KK.trans K_ (allS (Or.inr gz_nb) all0)
  refine own_aload C X own_d8_30 rfl rfl (pc' := 32) rfl ?_
  exact own_areturn C X own_d8_32 rfl rfl rfl (Nat.le_of_ble_eq_true rfl) (Nat.le_of_ble_eq_true rfl) (⟨nb, rfl, gz_nb, KK, A_nb⟩)
theorem own_ef_cr25 (a : Addr) (m : MethodId) : entryFrame m #[(.ref a), (.int (2 : Int32)), (.int (5 : Int32))] 3 = mkF m 0 #[.val (.ref a), .val (.int (2 : Int32)), .val (.int (5 : Int32))] [] := by first | (simp [entryFrame, mkF, argsToLocals, Value.category]; done) | rfl
set_option maxRecDepth 65536 in
set_option maxHeartbeats 40000000 in
theorem own_m_cr25 (l : Launch) (Z : State) (a0 : Array Value) (hw : ∀ d ∈ tables_1, d.before a0 Z = true) (a : Addr) (h0 : Heap) (n0 : Nat) (hn0 : n0 ≤ h0.size) (b0 b1 b2 b3 b4 : Int32) (A : own_IA Z h0 a .byte [b0, b1, b2, b3, b4]) (E : Exa Z h0 a "[B") : own_Met l Z n0 (⟨"java/util/Arrays", "copyOfRange", "([BII)[B"⟩ : MethodName) jdk_65_method_132_code 3 (some (.array .byte)) [] ({ frames := 2, cells := 1, slots := 3, locals := 40 } : Room) #[(.ref a), (.int (2 : Int32)), (.int (5 : Int32))] h0 (fun v h => ∃ b, v = some (.ref b) ∧ h0.size ≤ b ∧ Keep h0 h [] ∧ own_IA Z h b .byte [b2, b3, b4]) := by
  refine own_body (plainFor_of_name own_pn_java_util_Arrays) hn0 (own_ef_cr25 a) ?_
  intro p e s m below meth c T C X
  have KK := Keep.refl h0 []
  refine own_iloadN C X own_d7_0 rfl (pc' := 1) rfl ?_
  refine own_if_ne C X own_d7_1 (pcT := 10) (pc' := 4) (by decide) (by decide) rfl (fun hc1 => ?_) (fun hc1 => absurd hc1 (by decide))
  refine own_aloadN C X own_d7_10 rfl rfl (pc' := 11) rfl ?_
  refine own_iloadN C X own_d7_11 rfl (pc' := 12) rfl ?_
  refine own_iloadN C X own_d7_12 rfl (pc' := 13) rfl ?_
  have hbg := own_big C X
  refine own_callS C X own_d7_13 (own_m_crb25 l Z a0 hw a _ n0 hbg b0 b1 b2 b3 b4 A) (hw _ (List.mem_of_getElem? (i := 45) rfl)) (hw _ (List.mem_of_getElem? (i := 46) rfl)) (hw _ (List.mem_of_getElem? (i := 43) rfl)) (hw _ (List.mem_of_getElem? (i := 47) rfl)) (by decide) own_pd_5734 rfl rfl (Nat.le_of_ble_eq_true rfl) (Nat.le_of_ble_eq_true rfl) (Nat.le_of_ble_eq_true rfl) (Nat.le_of_ble_eq_true rfl) (av := [(.ref a), (.int (2 : Int32)), (.int (5 : Int32))]) (S := []) rfl (pc' := 16) rfl ?_
  intro T h v X hQ
  obtain ⟨nb, rfl, gq_nb, K_, A_nb⟩ := hQ
  have ne_a_nb : a ≠ nb := Nat.ne_of_lt (Nat.lt_of_lt_of_le A.lt gq_nb)
  have ge_nb : n0 ≤ nb := Nat.le_trans hbg gq_nb
  have gz_nb : h0.size ≤ nb := Nat.le_trans KK.1 gq_nb
  have A := A.keep K_ nin0
  have KK := KK.trans K_ all0
  show own_Go p e below n0 (own_Fin ({ frames := 2, cells := 1, slots := 3, locals := 40 } : Room) s (fun v h => ∃ b, v = some (.ref b) ∧ h0.size ≤ b ∧ Keep h0 h [] ∧ own_IA Z h b .byte [b2, b3, b4])) (T.setTop (mkF m 16 #[.val (.ref a), .val (.int (2 : Int32)), .val (.int (5 : Int32))] [(.ref nb)]))
  exact own_areturn C X own_d7_16 rfl rfl rfl (Nat.le_of_ble_eq_true rfl) (Nat.le_of_ble_eq_true rfl) (⟨nb, rfl, gz_nb, KK, A_nb⟩)
theorem own_ef_crb33 (a : Addr) (m : MethodId) : entryFrame m #[(.ref a), (.int (3 : Int32)), (.int (3 : Int32))] 5 = mkF m 0 #[.val (.ref a), .val (.int (3 : Int32)), .val (.int (3 : Int32)), .unset, .unset] [] := by first | (simp [entryFrame, mkF, argsToLocals, Value.category]; done) | rfl
set_option maxRecDepth 65536 in
set_option maxHeartbeats 40000000 in
theorem own_m_crb33 (l : Launch) (Z : State) (a0 : Array Value) (hw : ∀ d ∈ tables_1, d.before a0 Z = true) (a : Addr) (h0 : Heap) (n0 : Nat) (hn0 : n0 ≤ h0.size) (b0 b1 b2 b3 b4 : Int32) (A : own_IA Z h0 a .byte [b0, b1, b2, b3, b4]) : own_Met l Z n0 (⟨"java/util/Arrays", "copyOfRangeByte", "([BII)[B"⟩ : MethodName) jdk_65_method_133_code 5 (some (.array .byte)) [] ({ frames := 1, cells := 1, slots := 0, locals := 20 } : Room) #[(.ref a), (.int (3 : Int32)), (.int (3 : Int32))] h0 (fun v h => ∃ b, v = some (.ref b) ∧ h0.size ≤ b ∧ Keep h0 h [] ∧ own_IA Z h b .byte []) := by
  refine own_body (plainFor_of_name own_pn_java_util_Arrays) hn0 (own_ef_crb33 a) ?_
  intro p e s m below meth c T C X
  have KK := Keep.refl h0 []
  refine own_iloadN C X own_d8_0 rfl (pc' := 1) rfl ?_
  refine own_iloadN C X own_d8_1 rfl (pc' := 2) rfl ?_
  refine own_callS C X own_d8_2 (own_m_chk l Z a0 hw (3 : Int32) (3 : Int32) _ n0 (own_big C X) (by decide)) (hw _ (List.mem_of_getElem? (i := 48) rfl)) (hw _ (List.mem_of_getElem? (i := 49) rfl)) (hw _ (List.mem_of_getElem? (i := 43) rfl)) (hw _ (List.mem_of_getElem? (i := 50) rfl)) (by decide) own_pd_2877 rfl rfl (Nat.le_of_ble_eq_true rfl) (Nat.le_of_ble_eq_true rfl) (Nat.le_of_ble_eq_true rfl) (Nat.le_of_ble_eq_true rfl) (av := [(.int (3 : Int32)), (.int (3 : Int32))]) (S := []) rfl (pc' := 5) rfl ?_
  intro T h v X hQ
  obtain ⟨rfl, rfl⟩ := hQ
  show own_Go p e below n0 (own_Fin ({ frames := 1, cells := 1, slots := 0, locals := 20 } : Room) s (fun v h => ∃ b, v = some (.ref b) ∧ h0.size ≤ b ∧ Keep h0 h [] ∧ own_IA Z h b .byte [])) (T.setTop (mkF m 5 #[.val (.ref a), .val (.int (3 : Int32)), .val (.int (3 : Int32)), .unset, .unset] []))
  refine own_iloadN C X own_d8_5 rfl (pc' := 6) rfl ?_
  refine own_iloadN C X own_d8_6 rfl (pc' := 7) rfl ?_
  refine own_isub C X own_d8_7 (z := 0) (by decide) (pc' := 8) rfl ?_
  refine own_istoreN C X own_d8_8 (L' := #[.val (.ref a), .val (.int (3 : Int32)), .val (.int (3 : Int32)), .val (.int (0 : Int32)), .unset]) rfl (pc' := 9) rfl ?_
  refine own_iloadN C X own_d8_9 rfl (pc' := 10) rfl ?_
  refine own_newI C X own_d8_10 (ty := .byte) rfl (hw _ (List.mem_of_getElem? (i := 0) rfl)) (by decide) (k := 0) (cap := 0) (Nat.le_of_ble_eq_true rfl) (by decide) (Nat.le_of_ble_eq_true rfl) (Nat.le_of_ble_eq_true rfl) rfl rfl (pc' := 12) rfl ?_
  intro T h nb e_nb X K_ ge_nb A_nb_
  have gz_nb : h0.size ≤ nb := by rw [e_nb]; exact KK.1
  have ne_a_nb : a ≠ nb := by rw [e_nb]; exact Nat.ne_of_lt A.lt
  have A_nb : own_IA Z h nb .byte [] := A_nb_
  have A := A.keep K_ nin0
  have KK := KK.trans K_ all0
  refine own_astore C X own_d8_12 rfl (L' := #[.val (.ref a), .val (.int (3 : Int32)), .val (.int (3 : Int32)), .val (.int (0 : Int32)), .val (.ref nb)]) rfl (pc' := 14) rfl ?_
  refine own_aloadN C X own_d8_14 rfl rfl (pc' := 15) rfl ?_
  refine own_iloadN C X own_d8_15 rfl (pc' := 16) rfl ?_
  refine own_aload C X own_d8_16 rfl rfl (pc' := 18) rfl ?_
  refine own_iconst C X own_d8_18 (v := 0) (by decide) (pc' := 19) rfl ?_
  refine own_aloadN C X own_d8_19 rfl rfl (pc' := 20) rfl ?_
  refine own_alenI C X own_d8_20 (n := 5) A rfl (pc' := 21) rfl ?_
  refine own_iloadN C X own_d8_21 rfl (pc' := 22) rfl ?_
  refine own_isub C X own_d8_22 (z := 2) (by decide) (pc' := 23) rfl ?_
  refine own_iloadN C X own_d8_23 rfl (pc' := 24) rfl ?_
  refine own_callS C X own_d8_24 (own_m_min l Z a0 hw (2 : Int32) (0 : Int32) _ n0 (own_big C X)) (hw _ (List.mem_of_getElem? (i := 51) rfl)) (hw _ (List.mem_of_getElem? (i := 52) rfl)) (hw _ (List.mem_of_getElem? (i := 53) rfl)) (hw _ (List.mem_of_getElem? (i := 54) rfl)) (by decide) own_pd_2734 rfl rfl (Nat.le_of_ble_eq_true rfl) (Nat.le_of_ble_eq_true rfl) (Nat.le_of_ble_eq_true rfl) (Nat.le_of_ble_eq_true rfl) (av := [(.int (2 : Int32)), (.int (0 : Int32))]) (S := [(.int (0 : Int32)), (.ref nb), (.int (3 : Int32)), (.ref a)]) rfl (pc' := 27) rfl ?_
  intro T h v X hQ
  obtain ⟨rfl, rfl⟩ := hQ
  rw [show own_mi (2 : Int32) (0 : Int32) = 0 from by decide]
  show own_Go p e below n0 (own_Fin ({ frames := 1, cells := 1, slots := 0, locals := 20 } : Room) s (fun v h => ∃ b, v = some (.ref b) ∧ h0.size ≤ b ∧ Keep h0 h [] ∧ own_IA Z h b .byte [])) (T.setTop (mkF m 27 #[.val (.ref a), .val (.int (3 : Int32)), .val (.int (3 : Int32)), .val (.int (0 : Int32)), .val (.ref nb)] [(.int (0 : Int32)), (.int (0 : Int32)), (.ref nb), (.int (3 : Int32)), (.ref a)]))
  refine own_acopy C X own_d8_27 A A_nb (hw _ (List.mem_of_getElem? (i := 55) rfl)) (hw _ (List.mem_of_getElem? (i := 58) rfl)) (hw _ (List.mem_of_getElem? (i := 56) rfl)) (hw _ (List.mem_of_getElem? (i := 57) rfl)) (i := 3) (j := 0) (k := 0) (n1 := 5) (n2 := 0) (zs := []) (by decide) (by decide) (by decide) rfl rfl (Nat.le_of_ble_eq_true rfl) (Nat.le_of_ble_eq_true rfl) rfl rfl ge_nb rfl (by decide) (Nat.le_of_ble_eq_true rfl) (pc' := 30) rfl ?_
  intro T h X K_ A_nb
  have A := A.keep K_ (ninS ne_a_nb nin0)
  have KK := KK.trans K_ (allS (Or.inr gz_nb) all0)
  refine own_aload C X own_d8_30 rfl rfl (pc' := 32) rfl ?_
  exact own_areturn C X own_d8_32 rfl rfl rfl (Nat.le_of_ble_eq_true rfl) (Nat.le_of_ble_eq_true rfl) (⟨nb, rfl, gz_nb, KK, A_nb⟩)
theorem own_ef_cr33 (a : Addr) (m : MethodId) : entryFrame m #[(.ref a), (.int (3 : Int32)), (.int (3 : Int32))] 3 = mkF m 0 #[.val (.ref a), .val (.int (3 : Int32)), .val (.int (3 : Int32))] [] := by first | (simp [entryFrame, mkF, argsToLocals, Value.category]; done) | rfl
set_option maxRecDepth 65536 in
set_option maxHeartbeats 40000000 in
theorem own_m_cr33 (l : Launch) (Z : State) (a0 : Array Value) (hw : ∀ d ∈ tables_1, d.before a0 Z = true) (a : Addr) (h0 : Heap) (n0 : Nat) (hn0 : n0 ≤ h0.size) (b0 b1 b2 b3 b4 : Int32) (A : own_IA Z h0 a .byte [b0, b1, b2, b3, b4]) (E : Exa Z h0 a "[B") : own_Met l Z n0 (⟨"java/util/Arrays", "copyOfRange", "([BII)[B"⟩ : MethodName) jdk_65_method_132_code 3 (some (.array .byte)) [] ({ frames := 2, cells := 1, slots := 0, locals := 40 } : Room) #[(.ref a), (.int (3 : Int32)), (.int (3 : Int32))] h0 (fun v h => ∃ b, v = some (.ref b) ∧ h0.size ≤ b ∧ Keep h0 h [] ∧ own_IA Z h b .byte []) := by
  refine own_body (plainFor_of_name own_pn_java_util_Arrays) hn0 (own_ef_cr33 a) ?_
  intro p e s m below meth c T C X
  have KK := Keep.refl h0 []
  refine own_iloadN C X own_d7_0 rfl (pc' := 1) rfl ?_
  refine own_if_ne C X own_d7_1 (pcT := 10) (pc' := 4) (by decide) (by decide) rfl (fun hc1 => ?_) (fun hc1 => absurd hc1 (by decide))
  refine own_aloadN C X own_d7_10 rfl rfl (pc' := 11) rfl ?_
  refine own_iloadN C X own_d7_11 rfl (pc' := 12) rfl ?_
  refine own_iloadN C X own_d7_12 rfl (pc' := 13) rfl ?_
  have hbg := own_big C X
  refine own_callS C X own_d7_13 (own_m_crb33 l Z a0 hw a _ n0 hbg b0 b1 b2 b3 b4 A) (hw _ (List.mem_of_getElem? (i := 45) rfl)) (hw _ (List.mem_of_getElem? (i := 46) rfl)) (hw _ (List.mem_of_getElem? (i := 43) rfl)) (hw _ (List.mem_of_getElem? (i := 47) rfl)) (by decide) own_pd_5734 rfl rfl (Nat.le_of_ble_eq_true rfl) (Nat.le_of_ble_eq_true rfl) (Nat.le_of_ble_eq_true rfl) (Nat.le_of_ble_eq_true rfl) (av := [(.ref a), (.int (3 : Int32)), (.int (3 : Int32))]) (S := []) rfl (pc' := 16) rfl ?_
  intro T h v X hQ
  obtain ⟨nb, rfl, gq_nb, K_, A_nb⟩ := hQ
  have ne_a_nb : a ≠ nb := Nat.ne_of_lt (Nat.lt_of_lt_of_le A.lt gq_nb)
  have ge_nb : n0 ≤ nb := Nat.le_trans hbg gq_nb
  have gz_nb : h0.size ≤ nb := Nat.le_trans KK.1 gq_nb
  have A := A.keep K_ nin0
  have KK := KK.trans K_ all0
  show own_Go p e below n0 (own_Fin ({ frames := 2, cells := 1, slots := 0, locals := 40 } : Room) s (fun v h => ∃ b, v = some (.ref b) ∧ h0.size ≤ b ∧ Keep h0 h [] ∧ own_IA Z h b .byte [])) (T.setTop (mkF m 16 #[.val (.ref a), .val (.int (3 : Int32)), .val (.int (3 : Int32))] [(.ref nb)]))
  exact own_areturn C X own_d7_16 rfl rfl rfl (Nat.le_of_ble_eq_true rfl) (Nat.le_of_ble_eq_true rfl) (⟨nb, rfl, gz_nb, KK, A_nb⟩)
theorem own_ef_crb34 (a : Addr) (m : MethodId) : entryFrame m #[(.ref a), (.int (3 : Int32)), (.int (4 : Int32))] 5 = mkF m 0 #[.val (.ref a), .val (.int (3 : Int32)), .val (.int (4 : Int32)), .unset, .unset] [] := by first | (simp [entryFrame, mkF, argsToLocals, Value.category]; done) | rfl
set_option maxRecDepth 65536 in
set_option maxHeartbeats 40000000 in
theorem own_m_crb34 (l : Launch) (Z : State) (a0 : Array Value) (hw : ∀ d ∈ tables_1, d.before a0 Z = true) (a : Addr) (h0 : Heap) (n0 : Nat) (hn0 : n0 ≤ h0.size) (b0 b1 b2 b3 b4 : Int32) (A : own_IA Z h0 a .byte [b0, b1, b2, b3, b4]) : own_Met l Z n0 (⟨"java/util/Arrays", "copyOfRangeByte", "([BII)[B"⟩ : MethodName) jdk_65_method_133_code 5 (some (.array .byte)) [] ({ frames := 1, cells := 1, slots := 1, locals := 20 } : Room) #[(.ref a), (.int (3 : Int32)), (.int (4 : Int32))] h0 (fun v h => ∃ b, v = some (.ref b) ∧ h0.size ≤ b ∧ Keep h0 h [] ∧ own_IA Z h b .byte [b3]) := by
  refine own_body (plainFor_of_name own_pn_java_util_Arrays) hn0 (own_ef_crb34 a) ?_
  intro p e s m below meth c T C X
  have KK := Keep.refl h0 []
  refine own_iloadN C X own_d8_0 rfl (pc' := 1) rfl ?_
  refine own_iloadN C X own_d8_1 rfl (pc' := 2) rfl ?_
  refine own_callS C X own_d8_2 (own_m_chk l Z a0 hw (3 : Int32) (4 : Int32) _ n0 (own_big C X) (by decide)) (hw _ (List.mem_of_getElem? (i := 48) rfl)) (hw _ (List.mem_of_getElem? (i := 49) rfl)) (hw _ (List.mem_of_getElem? (i := 43) rfl)) (hw _ (List.mem_of_getElem? (i := 50) rfl)) (by decide) own_pd_2877 rfl rfl (Nat.le_of_ble_eq_true rfl) (Nat.le_of_ble_eq_true rfl) (Nat.le_of_ble_eq_true rfl) (Nat.le_of_ble_eq_true rfl) (av := [(.int (3 : Int32)), (.int (4 : Int32))]) (S := []) rfl (pc' := 5) rfl ?_
  intro T h v X hQ
  obtain ⟨rfl, rfl⟩ := hQ
  show own_Go p e below n0 (own_Fin ({ frames := 1, cells := 1, slots := 1, locals := 20 } : Room) s (fun v h => ∃ b, v = some (.ref b) ∧ h0.size ≤ b ∧ Keep h0 h [] ∧ own_IA Z h b .byte [b3])) (T.setTop (mkF m 5 #[.val (.ref a), .val (.int (3 : Int32)), .val (.int (4 : Int32)), .unset, .unset] []))
  refine own_iloadN C X own_d8_5 rfl (pc' := 6) rfl ?_
  refine own_iloadN C X own_d8_6 rfl (pc' := 7) rfl ?_
  refine own_isub C X own_d8_7 (z := 1) (by decide) (pc' := 8) rfl ?_
  refine own_istoreN C X own_d8_8 (L' := #[.val (.ref a), .val (.int (3 : Int32)), .val (.int (4 : Int32)), .val (.int (1 : Int32)), .unset]) rfl (pc' := 9) rfl ?_
  refine own_iloadN C X own_d8_9 rfl (pc' := 10) rfl ?_
  refine own_newI C X own_d8_10 (ty := .byte) rfl (hw _ (List.mem_of_getElem? (i := 0) rfl)) (by decide) (k := 1) (cap := 1) (Nat.le_of_ble_eq_true rfl) (by decide) (Nat.le_of_ble_eq_true rfl) (Nat.le_of_ble_eq_true rfl) rfl rfl (pc' := 12) rfl ?_
  intro T h nb e_nb X K_ ge_nb A_nb_
  have gz_nb : h0.size ≤ nb := by rw [e_nb]; exact KK.1
  have ne_a_nb : a ≠ nb := by rw [e_nb]; exact Nat.ne_of_lt A.lt
  have A_nb : own_IA Z h nb .byte [(0 : Int32)] := A_nb_
  have A := A.keep K_ nin0
  have KK := KK.trans K_ all0
  refine own_astore C X own_d8_12 rfl (L' := #[.val (.ref a), .val (.int (3 : Int32)), .val (.int (4 : Int32)), .val (.int (1 : Int32)), .val (.ref nb)]) rfl (pc' := 14) rfl ?_
  refine own_aloadN C X own_d8_14 rfl rfl (pc' := 15) rfl ?_
  refine own_iloadN C X own_d8_15 rfl (pc' := 16) rfl ?_
  refine own_aload C X own_d8_16 rfl rfl (pc' := 18) rfl ?_
  refine own_iconst C X own_d8_18 (v := 0) (by decide) (pc' := 19) rfl ?_
  refine own_aloadN C X own_d8_19 rfl rfl (pc' := 20) rfl ?_
  refine own_alenI C X own_d8_20 (n := 5) A rfl (pc' := 21) rfl ?_
  refine own_iloadN C X own_d8_21 rfl (pc' := 22) rfl ?_
  refine own_isub C X own_d8_22 (z := 2) (by decide) (pc' := 23) rfl ?_
  refine own_iloadN C X own_d8_23 rfl (pc' := 24) rfl ?_
  refine own_callS C X own_d8_24 (own_m_min l Z a0 hw (2 : Int32) (1 : Int32) _ n0 (own_big C X)) (hw _ (List.mem_of_getElem? (i := 51) rfl)) (hw _ (List.mem_of_getElem? (i := 52) rfl)) (hw _ (List.mem_of_getElem? (i := 53) rfl)) (hw _ (List.mem_of_getElem? (i := 54) rfl)) (by decide) own_pd_2734 rfl rfl (Nat.le_of_ble_eq_true rfl) (Nat.le_of_ble_eq_true rfl) (Nat.le_of_ble_eq_true rfl) (Nat.le_of_ble_eq_true rfl) (av := [(.int (2 : Int32)), (.int (1 : Int32))]) (S := [(.int (0 : Int32)), (.ref nb), (.int (3 : Int32)), (.ref a)]) rfl (pc' := 27) rfl ?_
  intro T h v X hQ
  obtain ⟨rfl, rfl⟩ := hQ
  rw [show own_mi (2 : Int32) (1 : Int32) = 1 from by decide]
  show own_Go p e below n0 (own_Fin ({ frames := 1, cells := 1, slots := 1, locals := 20 } : Room) s (fun v h => ∃ b, v = some (.ref b) ∧ h0.size ≤ b ∧ Keep h0 h [] ∧ own_IA Z h b .byte [b3])) (T.setTop (mkF m 27 #[.val (.ref a), .val (.int (3 : Int32)), .val (.int (4 : Int32)), .val (.int (1 : Int32)), .val (.ref nb)] [(.int (1 : Int32)), (.int (0 : Int32)), (.ref nb), (.int (3 : Int32)), (.ref a)]))
  refine own_acopy C X own_d8_27 A A_nb (hw _ (List.mem_of_getElem? (i := 55) rfl)) (hw _ (List.mem_of_getElem? (i := 58) rfl)) (hw _ (List.mem_of_getElem? (i := 56) rfl)) (hw _ (List.mem_of_getElem? (i := 57) rfl)) (i := 3) (j := 0) (k := 1) (n1 := 5) (n2 := 1) (zs := [b3]) (by decide) (by decide) (by decide) rfl rfl (Nat.le_of_ble_eq_true rfl) (Nat.le_of_ble_eq_true rfl) rfl rfl ge_nb rfl (by decide) (Nat.le_of_ble_eq_true rfl) (pc' := 30) rfl ?_
  intro T h X K_ A_nb
  have A := A.keep K_ (ninS ne_a_nb nin0)
  have KK := KK.trans K_ (allS (Or.inr gz_nb) all0)
  refine own_aload C X own_d8_30 rfl rfl (pc' := 32) rfl ?_
  exact own_areturn C X own_d8_32 rfl rfl rfl (Nat.le_of_ble_eq_true rfl) (Nat.le_of_ble_eq_true rfl) (⟨nb, rfl, gz_nb, KK, A_nb⟩)
theorem own_ef_cr34 (a : Addr) (m : MethodId) : entryFrame m #[(.ref a), (.int (3 : Int32)), (.int (4 : Int32))] 3 = mkF m 0 #[.val (.ref a), .val (.int (3 : Int32)), .val (.int (4 : Int32))] [] := by first | (simp [entryFrame, mkF, argsToLocals, Value.category]; done) | rfl
set_option maxRecDepth 65536 in
set_option maxHeartbeats 40000000 in
theorem own_m_cr34 (l : Launch) (Z : State) (a0 : Array Value) (hw : ∀ d ∈ tables_1, d.before a0 Z = true) (a : Addr) (h0 : Heap) (n0 : Nat) (hn0 : n0 ≤ h0.size) (b0 b1 b2 b3 b4 : Int32) (A : own_IA Z h0 a .byte [b0, b1, b2, b3, b4]) (E : Exa Z h0 a "[B") : own_Met l Z n0 (⟨"java/util/Arrays", "copyOfRange", "([BII)[B"⟩ : MethodName) jdk_65_method_132_code 3 (some (.array .byte)) [] ({ frames := 2, cells := 1, slots := 1, locals := 40 } : Room) #[(.ref a), (.int (3 : Int32)), (.int (4 : Int32))] h0 (fun v h => ∃ b, v = some (.ref b) ∧ h0.size ≤ b ∧ Keep h0 h [] ∧ own_IA Z h b .byte [b3]) := by
  refine own_body (plainFor_of_name own_pn_java_util_Arrays) hn0 (own_ef_cr34 a) ?_
  intro p e s m below meth c T C X
  have KK := Keep.refl h0 []
  refine own_iloadN C X own_d7_0 rfl (pc' := 1) rfl ?_
  refine own_if_ne C X own_d7_1 (pcT := 10) (pc' := 4) (by decide) (by decide) rfl (fun hc1 => ?_) (fun hc1 => absurd hc1 (by decide))
  refine own_aloadN C X own_d7_10 rfl rfl (pc' := 11) rfl ?_
  refine own_iloadN C X own_d7_11 rfl (pc' := 12) rfl ?_
  refine own_iloadN C X own_d7_12 rfl (pc' := 13) rfl ?_
  have hbg := own_big C X
  refine own_callS C X own_d7_13 (own_m_crb34 l Z a0 hw a _ n0 hbg b0 b1 b2 b3 b4 A) (hw _ (List.mem_of_getElem? (i := 45) rfl)) (hw _ (List.mem_of_getElem? (i := 46) rfl)) (hw _ (List.mem_of_getElem? (i := 43) rfl)) (hw _ (List.mem_of_getElem? (i := 47) rfl)) (by decide) own_pd_5734 rfl rfl (Nat.le_of_ble_eq_true rfl) (Nat.le_of_ble_eq_true rfl) (Nat.le_of_ble_eq_true rfl) (Nat.le_of_ble_eq_true rfl) (av := [(.ref a), (.int (3 : Int32)), (.int (4 : Int32))]) (S := []) rfl (pc' := 16) rfl ?_
  intro T h v X hQ
  obtain ⟨nb, rfl, gq_nb, K_, A_nb⟩ := hQ
  have ne_a_nb : a ≠ nb := Nat.ne_of_lt (Nat.lt_of_lt_of_le A.lt gq_nb)
  have ge_nb : n0 ≤ nb := Nat.le_trans hbg gq_nb
  have gz_nb : h0.size ≤ nb := Nat.le_trans KK.1 gq_nb
  have A := A.keep K_ nin0
  have KK := KK.trans K_ all0
  show own_Go p e below n0 (own_Fin ({ frames := 2, cells := 1, slots := 1, locals := 40 } : Room) s (fun v h => ∃ b, v = some (.ref b) ∧ h0.size ≤ b ∧ Keep h0 h [] ∧ own_IA Z h b .byte [b3])) (T.setTop (mkF m 16 #[.val (.ref a), .val (.int (3 : Int32)), .val (.int (4 : Int32))] [(.ref nb)]))
  exact own_areturn C X own_d7_16 rfl rfl rfl (Nat.le_of_ble_eq_true rfl) (Nat.le_of_ble_eq_true rfl) (⟨nb, rfl, gz_nb, KK, A_nb⟩)
theorem own_ef_crb35 (a : Addr) (m : MethodId) : entryFrame m #[(.ref a), (.int (3 : Int32)), (.int (5 : Int32))] 5 = mkF m 0 #[.val (.ref a), .val (.int (3 : Int32)), .val (.int (5 : Int32)), .unset, .unset] [] := by first | (simp [entryFrame, mkF, argsToLocals, Value.category]; done) | rfl
set_option maxRecDepth 65536 in
set_option maxHeartbeats 40000000 in
theorem own_m_crb35 (l : Launch) (Z : State) (a0 : Array Value) (hw : ∀ d ∈ tables_1, d.before a0 Z = true) (a : Addr) (h0 : Heap) (n0 : Nat) (hn0 : n0 ≤ h0.size) (b0 b1 b2 b3 b4 : Int32) (A : own_IA Z h0 a .byte [b0, b1, b2, b3, b4]) : own_Met l Z n0 (⟨"java/util/Arrays", "copyOfRangeByte", "([BII)[B"⟩ : MethodName) jdk_65_method_133_code 5 (some (.array .byte)) [] ({ frames := 1, cells := 1, slots := 2, locals := 20 } : Room) #[(.ref a), (.int (3 : Int32)), (.int (5 : Int32))] h0 (fun v h => ∃ b, v = some (.ref b) ∧ h0.size ≤ b ∧ Keep h0 h [] ∧ own_IA Z h b .byte [b3, b4]) := by
  refine own_body (plainFor_of_name own_pn_java_util_Arrays) hn0 (own_ef_crb35 a) ?_
  intro p e s m below meth c T C X
  have KK := Keep.refl h0 []
  refine own_iloadN C X own_d8_0 rfl (pc' := 1) rfl ?_
  refine own_iloadN C X own_d8_1 rfl (pc' := 2) rfl ?_
  refine own_callS C X own_d8_2 (own_m_chk l Z a0 hw (3 : Int32) (5 : Int32) _ n0 (own_big C X) (by decide)) (hw _ (List.mem_of_getElem? (i := 48) rfl)) (hw _ (List.mem_of_getElem? (i := 49) rfl)) (hw _ (List.mem_of_getElem? (i := 43) rfl)) (hw _ (List.mem_of_getElem? (i := 50) rfl)) (by decide) own_pd_2877 rfl rfl (Nat.le_of_ble_eq_true rfl) (Nat.le_of_ble_eq_true rfl) (Nat.le_of_ble_eq_true rfl) (Nat.le_of_ble_eq_true rfl) (av := [(.int (3 : Int32)), (.int (5 : Int32))]) (S := []) rfl (pc' := 5) rfl ?_
  intro T h v X hQ
  obtain ⟨rfl, rfl⟩ := hQ
  show own_Go p e below n0 (own_Fin ({ frames := 1, cells := 1, slots := 2, locals := 20 } : Room) s (fun v h => ∃ b, v = some (.ref b) ∧ h0.size ≤ b ∧ Keep h0 h [] ∧ own_IA Z h b .byte [b3, b4])) (T.setTop (mkF m 5 #[.val (.ref a), .val (.int (3 : Int32)), .val (.int (5 : Int32)), .unset, .unset] []))
  refine own_iloadN C X own_d8_5 rfl (pc' := 6) rfl ?_
  refine own_iloadN C X own_d8_6 rfl (pc' := 7) rfl ?_
  refine own_isub C X own_d8_7 (z := 2) (by decide) (pc' := 8) rfl ?_
  refine own_istoreN C X own_d8_8 (L' := #[.val (.ref a), .val (.int (3 : Int32)), .val (.int (5 : Int32)), .val (.int (2 : Int32)), .unset]) rfl (pc' := 9) rfl ?_
  refine own_iloadN C X own_d8_9 rfl (pc' := 10) rfl ?_
  refine own_newI C X own_d8_10 (ty := .byte) rfl (hw _ (List.mem_of_getElem? (i := 0) rfl)) (by decide) (k := 2) (cap := 2) (Nat.le_of_ble_eq_true rfl) (by decide) (Nat.le_of_ble_eq_true rfl) (Nat.le_of_ble_eq_true rfl) rfl rfl (pc' := 12) rfl ?_
  intro T h nb e_nb X K_ ge_nb A_nb_
  have gz_nb : h0.size ≤ nb := by rw [e_nb]; exact KK.1
  have ne_a_nb : a ≠ nb := by rw [e_nb]; exact Nat.ne_of_lt A.lt
  have A_nb : own_IA Z h nb .byte [(0 : Int32), (0 : Int32)] := A_nb_
  have A := A.keep K_ nin0
  have KK := KK.trans K_ all0
  refine own_astore C X own_d8_12 rfl (L' := #[.val (.ref a), .val (.int (3 : Int32)), .val (.int (5 : Int32)), .val (.int (2 : Int32)), .val (.ref nb)]) rfl (pc' := 14) rfl ?_
  refine own_aloadN C X own_d8_14 rfl rfl (pc' := 15) rfl ?_
  refine own_iloadN C X own_d8_15 rfl (pc' := 16) rfl ?_
  refine own_aload C X own_d8_16 rfl rfl (pc' := 18) rfl ?_
  refine own_iconst C X own_d8_18 (v := 0) (by decide) (pc' := 19) rfl ?_
  refine own_aloadN C X own_d8_19 rfl rfl (pc' := 20) rfl ?_
  refine own_alenI C X own_d8_20 (n := 5) A rfl (pc' := 21) rfl ?_
  refine own_iloadN C X own_d8_21 rfl (pc' := 22) rfl ?_
  refine own_isub C X own_d8_22 (z := 2) (by decide) (pc' := 23) rfl ?_
  refine own_iloadN C X own_d8_23 rfl (pc' := 24) rfl ?_
  refine own_callS C X own_d8_24 (own_m_min l Z a0 hw (2 : Int32) (2 : Int32) _ n0 (own_big C X)) (hw _ (List.mem_of_getElem? (i := 51) rfl)) (hw _ (List.mem_of_getElem? (i := 52) rfl)) (hw _ (List.mem_of_getElem? (i := 53) rfl)) (hw _ (List.mem_of_getElem? (i := 54) rfl)) (by decide) own_pd_2734 rfl rfl (Nat.le_of_ble_eq_true rfl) (Nat.le_of_ble_eq_true rfl) (Nat.le_of_ble_eq_true rfl) (Nat.le_of_ble_eq_true rfl) (av := [(.int (2 : Int32)), (.int (2 : Int32))]) (S := [(.int (0 : Int32)), (.ref nb), (.int (3 : Int32)), (.ref a)]) rfl (pc' := 27) rfl ?_
  intro T h v X hQ
  obtain ⟨rfl, rfl⟩ := hQ
  rw [show own_mi (2 : Int32) (2 : Int32) = 2 from by decide]
  show own_Go p e below n0 (own_Fin ({ frames := 1, cells := 1, slots := 2, locals := 20 } : Room) s (fun v h => ∃ b, v = some (.ref b) ∧ h0.size ≤ b ∧ Keep h0 h [] ∧ own_IA Z h b .byte [b3, b4])) (T.setTop (mkF m 27 #[.val (.ref a), .val (.int (3 : Int32)), .val (.int (5 : Int32)), .val (.int (2 : Int32)), .val (.ref nb)] [(.int (2 : Int32)), (.int (0 : Int32)), (.ref nb), (.int (3 : Int32)), (.ref a)]))
  refine own_acopy C X own_d8_27 A A_nb (hw _ (List.mem_of_getElem? (i := 55) rfl)) (hw _ (List.mem_of_getElem? (i := 58) rfl)) (hw _ (List.mem_of_getElem? (i := 56) rfl)) (hw _ (List.mem_of_getElem? (i := 57) rfl)) (i := 3) (j := 0) (k := 2) (n1 := 5) (n2 := 2) (zs := [b3, b4]) (by decide) (by decide) (by decide) rfl rfl (Nat.le_of_ble_eq_true rfl) (Nat.le_of_ble_eq_true rfl) rfl rfl ge_nb rfl (by decide) (Nat.le_of_ble_eq_true rfl) (pc' := 30) rfl ?_
  intro T h X K_ A_nb
  have A := A.keep K_ (ninS ne_a_nb nin0)
  have KK := KK.trans K_ (allS (Or.inr gz_nb) all0)
  refine own_aload C X own_d8_30 rfl rfl (pc' := 32) rfl ?_
  exact own_areturn C X own_d8_32 rfl rfl rfl (Nat.le_of_ble_eq_true rfl) (Nat.le_of_ble_eq_true rfl) (⟨nb, rfl, gz_nb, KK, A_nb⟩)
theorem own_ef_cr35 (a : Addr) (m : MethodId) : entryFrame m #[(.ref a), (.int (3 : Int32)), (.int (5 : Int32))] 3 = mkF m 0 #[.val (.ref a), .val (.int (3 : Int32)), .val (.int (5 : Int32))] [] := by first | (simp [entryFrame, mkF, argsToLocals, Value.category]; done) | rfl
set_option maxRecDepth 65536 in
set_option maxHeartbeats 40000000 in
theorem own_m_cr35 (l : Launch) (Z : State) (a0 : Array Value) (hw : ∀ d ∈ tables_1, d.before a0 Z = true) (a : Addr) (h0 : Heap) (n0 : Nat) (hn0 : n0 ≤ h0.size) (b0 b1 b2 b3 b4 : Int32) (A : own_IA Z h0 a .byte [b0, b1, b2, b3, b4]) (E : Exa Z h0 a "[B") : own_Met l Z n0 (⟨"java/util/Arrays", "copyOfRange", "([BII)[B"⟩ : MethodName) jdk_65_method_132_code 3 (some (.array .byte)) [] ({ frames := 2, cells := 1, slots := 2, locals := 40 } : Room) #[(.ref a), (.int (3 : Int32)), (.int (5 : Int32))] h0 (fun v h => ∃ b, v = some (.ref b) ∧ h0.size ≤ b ∧ Keep h0 h [] ∧ own_IA Z h b .byte [b3, b4]) := by
  refine own_body (plainFor_of_name own_pn_java_util_Arrays) hn0 (own_ef_cr35 a) ?_
  intro p e s m below meth c T C X
  have KK := Keep.refl h0 []
  refine own_iloadN C X own_d7_0 rfl (pc' := 1) rfl ?_
  refine own_if_ne C X own_d7_1 (pcT := 10) (pc' := 4) (by decide) (by decide) rfl (fun hc1 => ?_) (fun hc1 => absurd hc1 (by decide))
  refine own_aloadN C X own_d7_10 rfl rfl (pc' := 11) rfl ?_
  refine own_iloadN C X own_d7_11 rfl (pc' := 12) rfl ?_
  refine own_iloadN C X own_d7_12 rfl (pc' := 13) rfl ?_
  have hbg := own_big C X
  refine own_callS C X own_d7_13 (own_m_crb35 l Z a0 hw a _ n0 hbg b0 b1 b2 b3 b4 A) (hw _ (List.mem_of_getElem? (i := 45) rfl)) (hw _ (List.mem_of_getElem? (i := 46) rfl)) (hw _ (List.mem_of_getElem? (i := 43) rfl)) (hw _ (List.mem_of_getElem? (i := 47) rfl)) (by decide) own_pd_5734 rfl rfl (Nat.le_of_ble_eq_true rfl) (Nat.le_of_ble_eq_true rfl) (Nat.le_of_ble_eq_true rfl) (Nat.le_of_ble_eq_true rfl) (av := [(.ref a), (.int (3 : Int32)), (.int (5 : Int32))]) (S := []) rfl (pc' := 16) rfl ?_
  intro T h v X hQ
  obtain ⟨nb, rfl, gq_nb, K_, A_nb⟩ := hQ
  have ne_a_nb : a ≠ nb := Nat.ne_of_lt (Nat.lt_of_lt_of_le A.lt gq_nb)
  have ge_nb : n0 ≤ nb := Nat.le_trans hbg gq_nb
  have gz_nb : h0.size ≤ nb := Nat.le_trans KK.1 gq_nb
  have A := A.keep K_ nin0
  have KK := KK.trans K_ all0
  show own_Go p e below n0 (own_Fin ({ frames := 2, cells := 1, slots := 2, locals := 40 } : Room) s (fun v h => ∃ b, v = some (.ref b) ∧ h0.size ≤ b ∧ Keep h0 h [] ∧ own_IA Z h b .byte [b3, b4])) (T.setTop (mkF m 16 #[.val (.ref a), .val (.int (3 : Int32)), .val (.int (5 : Int32))] [(.ref nb)]))
  exact own_areturn C X own_d7_16 rfl rfl rfl (Nat.le_of_ble_eq_true rfl) (Nat.le_of_ble_eq_true rfl) (⟨nb, rfl, gz_nb, KK, A_nb⟩)
theorem own_ef_crb44 (a : Addr) (m : MethodId) : entryFrame m #[(.ref a), (.int (4 : Int32)), (.int (4 : Int32))] 5 = mkF m 0 #[.val (.ref a), .val (.int (4 : Int32)), .val (.int (4 : Int32)), .unset, .unset] [] := by first | (simp [entryFrame, mkF, argsToLocals, Value.category]; done) | rfl
set_option maxRecDepth 65536 in
set_option maxHeartbeats 40000000 in
theorem own_m_crb44 (l : Launch) (Z : State) (a0 : Array Value) (hw : ∀ d ∈ tables_1, d.before a0 Z = true) (a : Addr) (h0 : Heap) (n0 : Nat) (hn0 : n0 ≤ h0.size) (b0 b1 b2 b3 b4 : Int32) (A : own_IA Z h0 a .byte [b0, b1, b2, b3, b4]) : own_Met l Z n0 (⟨"java/util/Arrays", "copyOfRangeByte", "([BII)[B"⟩ : MethodName) jdk_65_method_133_code 5 (some (.array .byte)) [] ({ frames := 1, cells := 1, slots := 0, locals := 20 } : Room) #[(.ref a), (.int (4 : Int32)), (.int (4 : Int32))] h0 (fun v h => ∃ b, v = some (.ref b) ∧ h0.size ≤ b ∧ Keep h0 h [] ∧ own_IA Z h b .byte []) := by
  refine own_body (plainFor_of_name own_pn_java_util_Arrays) hn0 (own_ef_crb44 a) ?_
  intro p e s m below meth c T C X
  have KK := Keep.refl h0 []
  refine own_iloadN C X own_d8_0 rfl (pc' := 1) rfl ?_
  refine own_iloadN C X own_d8_1 rfl (pc' := 2) rfl ?_
  refine own_callS C X own_d8_2 (own_m_chk l Z a0 hw (4 : Int32) (4 : Int32) _ n0 (own_big C X) (by decide)) (hw _ (List.mem_of_getElem? (i := 48) rfl)) (hw _ (List.mem_of_getElem? (i := 49) rfl)) (hw _ (List.mem_of_getElem? (i := 43) rfl)) (hw _ (List.mem_of_getElem? (i := 50) rfl)) (by decide) own_pd_2877 rfl rfl (Nat.le_of_ble_eq_true rfl) (Nat.le_of_ble_eq_true rfl) (Nat.le_of_ble_eq_true rfl) (Nat.le_of_ble_eq_true rfl) (av := [(.int (4 : Int32)), (.int (4 : Int32))]) (S := []) rfl (pc' := 5) rfl ?_
  intro T h v X hQ
  obtain ⟨rfl, rfl⟩ := hQ
  show own_Go p e below n0 (own_Fin ({ frames := 1, cells := 1, slots := 0, locals := 20 } : Room) s (fun v h => ∃ b, v = some (.ref b) ∧ h0.size ≤ b ∧ Keep h0 h [] ∧ own_IA Z h b .byte [])) (T.setTop (mkF m 5 #[.val (.ref a), .val (.int (4 : Int32)), .val (.int (4 : Int32)), .unset, .unset] []))
  refine own_iloadN C X own_d8_5 rfl (pc' := 6) rfl ?_
  refine own_iloadN C X own_d8_6 rfl (pc' := 7) rfl ?_
  refine own_isub C X own_d8_7 (z := 0) (by decide) (pc' := 8) rfl ?_
  refine own_istoreN C X own_d8_8 (L' := #[.val (.ref a), .val (.int (4 : Int32)), .val (.int (4 : Int32)), .val (.int (0 : Int32)), .unset]) rfl (pc' := 9) rfl ?_
  refine own_iloadN C X own_d8_9 rfl (pc' := 10) rfl ?_
  refine own_newI C X own_d8_10 (ty := .byte) rfl (hw _ (List.mem_of_getElem? (i := 0) rfl)) (by decide) (k := 0) (cap := 0) (Nat.le_of_ble_eq_true rfl) (by decide) (Nat.le_of_ble_eq_true rfl) (Nat.le_of_ble_eq_true rfl) rfl rfl (pc' := 12) rfl ?_
  intro T h nb e_nb X K_ ge_nb A_nb_
  have gz_nb : h0.size ≤ nb := by rw [e_nb]; exact KK.1
  have ne_a_nb : a ≠ nb := by rw [e_nb]; exact Nat.ne_of_lt A.lt
  have A_nb : own_IA Z h nb .byte [] := A_nb_
  have A := A.keep K_ nin0
  have KK := KK.trans K_ all0
  refine own_astore C X own_d8_12 rfl (L' := #[.val (.ref a), .val (.int (4 : Int32)), .val (.int (4 : Int32)), .val (.int (0 : Int32)), .val (.ref nb)]) rfl (pc' := 14) rfl ?_
  refine own_aloadN C X own_d8_14 rfl rfl (pc' := 15) rfl ?_
  refine own_iloadN C X own_d8_15 rfl (pc' := 16) rfl ?_
  refine own_aload C X own_d8_16 rfl rfl (pc' := 18) rfl ?_
  refine own_iconst C X own_d8_18 (v := 0) (by decide) (pc' := 19) rfl ?_
  refine own_aloadN C X own_d8_19 rfl rfl (pc' := 20) rfl ?_
  refine own_alenI C X own_d8_20 (n := 5) A rfl (pc' := 21) rfl ?_
  refine own_iloadN C X own_d8_21 rfl (pc' := 22) rfl ?_
  refine own_isub C X own_d8_22 (z := 1) (by decide) (pc' := 23) rfl ?_
  refine own_iloadN C X own_d8_23 rfl (pc' := 24) rfl ?_
  refine own_callS C X own_d8_24 (own_m_min l Z a0 hw (1 : Int32) (0 : Int32) _ n0 (own_big C X)) (hw _ (List.mem_of_getElem? (i := 51) rfl)) (hw _ (List.mem_of_getElem? (i := 52) rfl)) (hw _ (List.mem_of_getElem? (i := 53) rfl)) (hw _ (List.mem_of_getElem? (i := 54) rfl)) (by decide) own_pd_2734 rfl rfl (Nat.le_of_ble_eq_true rfl) (Nat.le_of_ble_eq_true rfl) (Nat.le_of_ble_eq_true rfl) (Nat.le_of_ble_eq_true rfl) (av := [(.int (1 : Int32)), (.int (0 : Int32))]) (S := [(.int (0 : Int32)), (.ref nb), (.int (4 : Int32)), (.ref a)]) rfl (pc' := 27) rfl ?_
  intro T h v X hQ
  obtain ⟨rfl, rfl⟩ := hQ
  rw [show own_mi (1 : Int32) (0 : Int32) = 0 from by decide]
  show own_Go p e below n0 (own_Fin ({ frames := 1, cells := 1, slots := 0, locals := 20 } : Room) s (fun v h => ∃ b, v = some (.ref b) ∧ h0.size ≤ b ∧ Keep h0 h [] ∧ own_IA Z h b .byte [])) (T.setTop (mkF m 27 #[.val (.ref a), .val (.int (4 : Int32)), .val (.int (4 : Int32)), .val (.int (0 : Int32)), .val (.ref nb)] [(.int (0 : Int32)), (.int (0 : Int32)), (.ref nb), (.int (4 : Int32)), (.ref a)]))
  refine own_acopy C X own_d8_27 A A_nb (hw _ (List.mem_of_getElem? (i := 55) rfl)) (hw _ (List.mem_of_getElem? (i := 58) rfl)) (hw _ (List.mem_of_getElem? (i := 56) rfl)) (hw _ (List.mem_of_getElem? (i := 57) rfl)) (i := 4) (j := 0) (k := 0) (n1 := 5) (n2 := 0) (zs := []) (by decide) (by decide) (by decide) rfl rfl (Nat.le_of_ble_eq_true rfl) (Nat.le_of_ble_eq_true rfl) rfl rfl ge_nb rfl (by decide) (Nat.le_of_ble_eq_true rfl) (pc' := 30) rfl ?_
  intro T h X K_ A_nb
  have A := A.keep K_ (ninS ne_a_nb nin0)
  have KK := KK.trans K_ (allS (Or.inr gz_nb) all0)
  refine own_aload C X own_d8_30 rfl rfl (pc' := 32) rfl ?_
  exact own_areturn C X own_d8_32 rfl rfl rfl (Nat.le_of_ble_eq_true rfl) (Nat.le_of_ble_eq_true rfl) (⟨nb, rfl, gz_nb, KK, A_nb⟩)
theorem own_ef_cr44 (a : Addr) (m : MethodId) : entryFrame m #[(.ref a), (.int (4 : Int32)), (.int (4 : Int32))] 3 = mkF m 0 #[.val (.ref a), .val (.int (4 : Int32)), .val (.int (4 : Int32))] [] := by first | (simp [entryFrame, mkF, argsToLocals, Value.category]; done) | rfl
set_option maxRecDepth 65536 in
set_option maxHeartbeats 40000000 in
theorem own_m_cr44 (l : Launch) (Z : State) (a0 : Array Value) (hw : ∀ d ∈ tables_1, d.before a0 Z = true) (a : Addr) (h0 : Heap) (n0 : Nat) (hn0 : n0 ≤ h0.size) (b0 b1 b2 b3 b4 : Int32) (A : own_IA Z h0 a .byte [b0, b1, b2, b3, b4]) (E : Exa Z h0 a "[B") : own_Met l Z n0 (⟨"java/util/Arrays", "copyOfRange", "([BII)[B"⟩ : MethodName) jdk_65_method_132_code 3 (some (.array .byte)) [] ({ frames := 2, cells := 1, slots := 0, locals := 40 } : Room) #[(.ref a), (.int (4 : Int32)), (.int (4 : Int32))] h0 (fun v h => ∃ b, v = some (.ref b) ∧ h0.size ≤ b ∧ Keep h0 h [] ∧ own_IA Z h b .byte []) := by
  refine own_body (plainFor_of_name own_pn_java_util_Arrays) hn0 (own_ef_cr44 a) ?_
  intro p e s m below meth c T C X
  have KK := Keep.refl h0 []
  refine own_iloadN C X own_d7_0 rfl (pc' := 1) rfl ?_
  refine own_if_ne C X own_d7_1 (pcT := 10) (pc' := 4) (by decide) (by decide) rfl (fun hc1 => ?_) (fun hc1 => absurd hc1 (by decide))
  refine own_aloadN C X own_d7_10 rfl rfl (pc' := 11) rfl ?_
  refine own_iloadN C X own_d7_11 rfl (pc' := 12) rfl ?_
  refine own_iloadN C X own_d7_12 rfl (pc' := 13) rfl ?_
  have hbg := own_big C X
  refine own_callS C X own_d7_13 (own_m_crb44 l Z a0 hw a _ n0 hbg b0 b1 b2 b3 b4 A) (hw _ (List.mem_of_getElem? (i := 45) rfl)) (hw _ (List.mem_of_getElem? (i := 46) rfl)) (hw _ (List.mem_of_getElem? (i := 43) rfl)) (hw _ (List.mem_of_getElem? (i := 47) rfl)) (by decide) own_pd_5734 rfl rfl (Nat.le_of_ble_eq_true rfl) (Nat.le_of_ble_eq_true rfl) (Nat.le_of_ble_eq_true rfl) (Nat.le_of_ble_eq_true rfl) (av := [(.ref a), (.int (4 : Int32)), (.int (4 : Int32))]) (S := []) rfl (pc' := 16) rfl ?_
  intro T h v X hQ
  obtain ⟨nb, rfl, gq_nb, K_, A_nb⟩ := hQ
  have ne_a_nb : a ≠ nb := Nat.ne_of_lt (Nat.lt_of_lt_of_le A.lt gq_nb)
  have ge_nb : n0 ≤ nb := Nat.le_trans hbg gq_nb
  have gz_nb : h0.size ≤ nb := Nat.le_trans KK.1 gq_nb
  have A := A.keep K_ nin0
  have KK := KK.trans K_ all0
  show own_Go p e below n0 (own_Fin ({ frames := 2, cells := 1, slots := 0, locals := 40 } : Room) s (fun v h => ∃ b, v = some (.ref b) ∧ h0.size ≤ b ∧ Keep h0 h [] ∧ own_IA Z h b .byte [])) (T.setTop (mkF m 16 #[.val (.ref a), .val (.int (4 : Int32)), .val (.int (4 : Int32))] [(.ref nb)]))
  exact own_areturn C X own_d7_16 rfl rfl rfl (Nat.le_of_ble_eq_true rfl) (Nat.le_of_ble_eq_true rfl) (⟨nb, rfl, gz_nb, KK, A_nb⟩)
theorem own_ef_crb45 (a : Addr) (m : MethodId) : entryFrame m #[(.ref a), (.int (4 : Int32)), (.int (5 : Int32))] 5 = mkF m 0 #[.val (.ref a), .val (.int (4 : Int32)), .val (.int (5 : Int32)), .unset, .unset] [] := by first | (simp [entryFrame, mkF, argsToLocals, Value.category]; done) | rfl
set_option maxRecDepth 65536 in
set_option maxHeartbeats 40000000 in
theorem own_m_crb45 (l : Launch) (Z : State) (a0 : Array Value) (hw : ∀ d ∈ tables_1, d.before a0 Z = true) (a : Addr) (h0 : Heap) (n0 : Nat) (hn0 : n0 ≤ h0.size) (b0 b1 b2 b3 b4 : Int32) (A : own_IA Z h0 a .byte [b0, b1, b2, b3, b4]) : own_Met l Z n0 (⟨"java/util/Arrays", "copyOfRangeByte", "([BII)[B"⟩ : MethodName) jdk_65_method_133_code 5 (some (.array .byte)) [] ({ frames := 1, cells := 1, slots := 1, locals := 20 } : Room) #[(.ref a), (.int (4 : Int32)), (.int (5 : Int32))] h0 (fun v h => ∃ b, v = some (.ref b) ∧ h0.size ≤ b ∧ Keep h0 h [] ∧ own_IA Z h b .byte [b4]) := by
  refine own_body (plainFor_of_name own_pn_java_util_Arrays) hn0 (own_ef_crb45 a) ?_
  intro p e s m below meth c T C X
  have KK := Keep.refl h0 []
  refine own_iloadN C X own_d8_0 rfl (pc' := 1) rfl ?_
  refine own_iloadN C X own_d8_1 rfl (pc' := 2) rfl ?_
  refine own_callS C X own_d8_2 (own_m_chk l Z a0 hw (4 : Int32) (5 : Int32) _ n0 (own_big C X) (by decide)) (hw _ (List.mem_of_getElem? (i := 48) rfl)) (hw _ (List.mem_of_getElem? (i := 49) rfl)) (hw _ (List.mem_of_getElem? (i := 43) rfl)) (hw _ (List.mem_of_getElem? (i := 50) rfl)) (by decide) own_pd_2877 rfl rfl (Nat.le_of_ble_eq_true rfl) (Nat.le_of_ble_eq_true rfl) (Nat.le_of_ble_eq_true rfl) (Nat.le_of_ble_eq_true rfl) (av := [(.int (4 : Int32)), (.int (5 : Int32))]) (S := []) rfl (pc' := 5) rfl ?_
  intro T h v X hQ
  obtain ⟨rfl, rfl⟩ := hQ
  show own_Go p e below n0 (own_Fin ({ frames := 1, cells := 1, slots := 1, locals := 20 } : Room) s (fun v h => ∃ b, v = some (.ref b) ∧ h0.size ≤ b ∧ Keep h0 h [] ∧ own_IA Z h b .byte [b4])) (T.setTop (mkF m 5 #[.val (.ref a), .val (.int (4 : Int32)), .val (.int (5 : Int32)), .unset, .unset] []))
  refine own_iloadN C X own_d8_5 rfl (pc' := 6) rfl ?_
  refine own_iloadN C X own_d8_6 rfl (pc' := 7) rfl ?_
  refine own_isub C X own_d8_7 (z := 1) (by decide) (pc' := 8) rfl ?_
  refine own_istoreN C X own_d8_8 (L' := #[.val (.ref a), .val (.int (4 : Int32)), .val (.int (5 : Int32)), .val (.int (1 : Int32)), .unset]) rfl (pc' := 9) rfl ?_
  refine own_iloadN C X own_d8_9 rfl (pc' := 10) rfl ?_
  refine own_newI C X own_d8_10 (ty := .byte) rfl (hw _ (List.mem_of_getElem? (i := 0) rfl)) (by decide) (k := 1) (cap := 1) (Nat.le_of_ble_eq_true rfl) (by decide) (Nat.le_of_ble_eq_true rfl) (Nat.le_of_ble_eq_true rfl) rfl rfl (pc' := 12) rfl ?_
  intro T h nb e_nb X K_ ge_nb A_nb_
  have gz_nb : h0.size ≤ nb := by rw [e_nb]; exact KK.1
  have ne_a_nb : a ≠ nb := by rw [e_nb]; exact Nat.ne_of_lt A.lt
  have A_nb : own_IA Z h nb .byte [(0 : Int32)] := A_nb_
  have A := A.keep K_ nin0
  have KK := KK.trans K_ all0
  refine own_astore C X own_d8_12 rfl (L' := #[.val (.ref a), .val (.int (4 : Int32)), .val (.int (5 : Int32)), .val (.int (1 : Int32)), .val (.ref nb)]) rfl (pc' := 14) rfl ?_
  refine own_aloadN C X own_d8_14 rfl rfl (pc' := 15) rfl ?_
  refine own_iloadN C X own_d8_15 rfl (pc' := 16) rfl ?_
  refine own_aload C X own_d8_16 rfl rfl (pc' := 18) rfl ?_
  refine own_iconst C X own_d8_18 (v := 0) (by decide) (pc' := 19) rfl ?_
  refine own_aloadN C X own_d8_19 rfl rfl (pc' := 20) rfl ?_
  refine own_alenI C X own_d8_20 (n := 5) A rfl (pc' := 21) rfl ?_
  refine own_iloadN C X own_d8_21 rfl (pc' := 22) rfl ?_
  refine own_isub C X own_d8_22 (z := 1) (by decide) (pc' := 23) rfl ?_
  refine own_iloadN C X own_d8_23 rfl (pc' := 24) rfl ?_
  refine own_callS C X own_d8_24 (own_m_min l Z a0 hw (1 : Int32) (1 : Int32) _ n0 (own_big C X)) (hw _ (List.mem_of_getElem? (i := 51) rfl)) (hw _ (List.mem_of_getElem? (i := 52) rfl)) (hw _ (List.mem_of_getElem? (i := 53) rfl)) (hw _ (List.mem_of_getElem? (i := 54) rfl)) (by decide) own_pd_2734 rfl rfl (Nat.le_of_ble_eq_true rfl) (Nat.le_of_ble_eq_true rfl) (Nat.le_of_ble_eq_true rfl) (Nat.le_of_ble_eq_true rfl) (av := [(.int (1 : Int32)), (.int (1 : Int32))]) (S := [(.int (0 : Int32)), (.ref nb), (.int (4 : Int32)), (.ref a)]) rfl (pc' := 27) rfl ?_
  intro T h v X hQ
  obtain ⟨rfl, rfl⟩ := hQ
  rw [show own_mi (1 : Int32) (1 : Int32) = 1 from by decide]
  show own_Go p e below n0 (own_Fin ({ frames := 1, cells := 1, slots := 1, locals := 20 } : Room) s (fun v h => ∃ b, v = some (.ref b) ∧ h0.size ≤ b ∧ Keep h0 h [] ∧ own_IA Z h b .byte [b4])) (T.setTop (mkF m 27 #[.val (.ref a), .val (.int (4 : Int32)), .val (.int (5 : Int32)), .val (.int (1 : Int32)), .val (.ref nb)] [(.int (1 : Int32)), (.int (0 : Int32)), (.ref nb), (.int (4 : Int32)), (.ref a)]))
  refine own_acopy C X own_d8_27 A A_nb (hw _ (List.mem_of_getElem? (i := 55) rfl)) (hw _ (List.mem_of_getElem? (i := 58) rfl)) (hw _ (List.mem_of_getElem? (i := 56) rfl)) (hw _ (List.mem_of_getElem? (i := 57) rfl)) (i := 4) (j := 0) (k := 1) (n1 := 5) (n2 := 1) (zs := [b4]) (by decide) (by decide) (by decide) rfl rfl (Nat.le_of_ble_eq_true rfl) (Nat.le_of_ble_eq_true rfl) rfl rfl ge_nb rfl (by decide) (Nat.le_of_ble_eq_true rfl) (pc' := 30) rfl ?_
  intro T h X K_ A_nb
  have A := A.keep K_ (ninS ne_a_nb nin0)
  have KK := KK.trans K_ (allS (Or.inr gz_nb) all0)
  refine own_aload C X own_d8_30 rfl rfl (pc' := 32) rfl ?_
  exact own_areturn C X own_d8_32 rfl rfl rfl (Nat.le_of_ble_eq_true rfl) (Nat.le_of_ble_eq_true rfl) (⟨nb, rfl, gz_nb, KK, A_nb⟩)
theorem own_ef_cr45 (a : Addr) (m : MethodId) : entryFrame m #[(.ref a), (.int (4 : Int32)), (.int (5 : Int32))] 3 = mkF m 0 #[.val (.ref a), .val (.int (4 : Int32)), .val (.int (5 : Int32))] [] := by first | (simp [entryFrame, mkF, argsToLocals, Value.category]; done) | rfl
set_option maxRecDepth 65536 in
set_option maxHeartbeats 40000000 in
theorem own_m_cr45 (l : Launch) (Z : State) (a0 : Array Value) (hw : ∀ d ∈ tables_1, d.before a0 Z = true) (a : Addr) (h0 : Heap) (n0 : Nat) (hn0 : n0 ≤ h0.size) (b0 b1 b2 b3 b4 : Int32) (A : own_IA Z h0 a .byte [b0, b1, b2, b3, b4]) (E : Exa Z h0 a "[B") : own_Met l Z n0 (⟨"java/util/Arrays", "copyOfRange", "([BII)[B"⟩ : MethodName) jdk_65_method_132_code 3 (some (.array .byte)) [] ({ frames := 2, cells := 1, slots := 1, locals := 40 } : Room) #[(.ref a), (.int (4 : Int32)), (.int (5 : Int32))] h0 (fun v h => ∃ b, v = some (.ref b) ∧ h0.size ≤ b ∧ Keep h0 h [] ∧ own_IA Z h b .byte [b4]) := by
  refine own_body (plainFor_of_name own_pn_java_util_Arrays) hn0 (own_ef_cr45 a) ?_
  intro p e s m below meth c T C X
  have KK := Keep.refl h0 []
  refine own_iloadN C X own_d7_0 rfl (pc' := 1) rfl ?_
  refine own_if_ne C X own_d7_1 (pcT := 10) (pc' := 4) (by decide) (by decide) rfl (fun hc1 => ?_) (fun hc1 => absurd hc1 (by decide))
  refine own_aloadN C X own_d7_10 rfl rfl (pc' := 11) rfl ?_
  refine own_iloadN C X own_d7_11 rfl (pc' := 12) rfl ?_
  refine own_iloadN C X own_d7_12 rfl (pc' := 13) rfl ?_
  have hbg := own_big C X
  refine own_callS C X own_d7_13 (own_m_crb45 l Z a0 hw a _ n0 hbg b0 b1 b2 b3 b4 A) (hw _ (List.mem_of_getElem? (i := 45) rfl)) (hw _ (List.mem_of_getElem? (i := 46) rfl)) (hw _ (List.mem_of_getElem? (i := 43) rfl)) (hw _ (List.mem_of_getElem? (i := 47) rfl)) (by decide) own_pd_5734 rfl rfl (Nat.le_of_ble_eq_true rfl) (Nat.le_of_ble_eq_true rfl) (Nat.le_of_ble_eq_true rfl) (Nat.le_of_ble_eq_true rfl) (av := [(.ref a), (.int (4 : Int32)), (.int (5 : Int32))]) (S := []) rfl (pc' := 16) rfl ?_
  intro T h v X hQ
  obtain ⟨nb, rfl, gq_nb, K_, A_nb⟩ := hQ
  have ne_a_nb : a ≠ nb := Nat.ne_of_lt (Nat.lt_of_lt_of_le A.lt gq_nb)
  have ge_nb : n0 ≤ nb := Nat.le_trans hbg gq_nb
  have gz_nb : h0.size ≤ nb := Nat.le_trans KK.1 gq_nb
  have A := A.keep K_ nin0
  have KK := KK.trans K_ all0
  show own_Go p e below n0 (own_Fin ({ frames := 2, cells := 1, slots := 1, locals := 40 } : Room) s (fun v h => ∃ b, v = some (.ref b) ∧ h0.size ≤ b ∧ Keep h0 h [] ∧ own_IA Z h b .byte [b4])) (T.setTop (mkF m 16 #[.val (.ref a), .val (.int (4 : Int32)), .val (.int (5 : Int32))] [(.ref nb)]))
  exact own_areturn C X own_d7_16 rfl rfl rfl (Nat.le_of_ble_eq_true rfl) (Nat.le_of_ble_eq_true rfl) (⟨nb, rfl, gz_nb, KK, A_nb⟩)
theorem own_ef_crb55 (a : Addr) (m : MethodId) : entryFrame m #[(.ref a), (.int (5 : Int32)), (.int (5 : Int32))] 5 = mkF m 0 #[.val (.ref a), .val (.int (5 : Int32)), .val (.int (5 : Int32)), .unset, .unset] [] := by first | (simp [entryFrame, mkF, argsToLocals, Value.category]; done) | rfl
set_option maxRecDepth 65536 in
set_option maxHeartbeats 40000000 in
theorem own_m_crb55 (l : Launch) (Z : State) (a0 : Array Value) (hw : ∀ d ∈ tables_1, d.before a0 Z = true) (a : Addr) (h0 : Heap) (n0 : Nat) (hn0 : n0 ≤ h0.size) (b0 b1 b2 b3 b4 : Int32) (A : own_IA Z h0 a .byte [b0, b1, b2, b3, b4]) : own_Met l Z n0 (⟨"java/util/Arrays", "copyOfRangeByte", "([BII)[B"⟩ : MethodName) jdk_65_method_133_code 5 (some (.array .byte)) [] ({ frames := 1, cells := 1, slots := 0, locals := 20 } : Room) #[(.ref a), (.int (5 : Int32)), (.int (5 : Int32))] h0 (fun v h => ∃ b, v = some (.ref b) ∧ h0.size ≤ b ∧ Keep h0 h [] ∧ own_IA Z h b .byte []) := by
  refine own_body (plainFor_of_name own_pn_java_util_Arrays) hn0 (own_ef_crb55 a) ?_
  intro p e s m below meth c T C X
  have KK := Keep.refl h0 []
  refine own_iloadN C X own_d8_0 rfl (pc' := 1) rfl ?_
  refine own_iloadN C X own_d8_1 rfl (pc' := 2) rfl ?_
  refine own_callS C X own_d8_2 (own_m_chk l Z a0 hw (5 : Int32) (5 : Int32) _ n0 (own_big C X) (by decide)) (hw _ (List.mem_of_getElem? (i := 48) rfl)) (hw _ (List.mem_of_getElem? (i := 49) rfl)) (hw _ (List.mem_of_getElem? (i := 43) rfl)) (hw _ (List.mem_of_getElem? (i := 50) rfl)) (by decide) own_pd_2877 rfl rfl (Nat.le_of_ble_eq_true rfl) (Nat.le_of_ble_eq_true rfl) (Nat.le_of_ble_eq_true rfl) (Nat.le_of_ble_eq_true rfl) (av := [(.int (5 : Int32)), (.int (5 : Int32))]) (S := []) rfl (pc' := 5) rfl ?_
  intro T h v X hQ
  obtain ⟨rfl, rfl⟩ := hQ
  show own_Go p e below n0 (own_Fin ({ frames := 1, cells := 1, slots := 0, locals := 20 } : Room) s (fun v h => ∃ b, v = some (.ref b) ∧ h0.size ≤ b ∧ Keep h0 h [] ∧ own_IA Z h b .byte [])) (T.setTop (mkF m 5 #[.val (.ref a), .val (.int (5 : Int32)), .val (.int (5 : Int32)), .unset, .unset] []))
  refine own_iloadN C X own_d8_5 rfl (pc' := 6) rfl ?_
  refine own_iloadN C X own_d8_6 rfl (pc' := 7) rfl ?_
  refine own_isub C X own_d8_7 (z := 0) (by decide) (pc' := 8) rfl ?_
  refine own_istoreN C X own_d8_8 (L' := #[.val (.ref a), .val (.int (5 : Int32)), .val (.int (5 : Int32)), .val (.int (0 : Int32)), .unset]) rfl (pc' := 9) rfl ?_
  refine own_iloadN C X own_d8_9 rfl (pc' := 10) rfl ?_
  refine own_newI C X own_d8_10 (ty := .byte) rfl (hw _ (List.mem_of_getElem? (i := 0) rfl)) (by decide) (k := 0) (cap := 0) (Nat.le_of_ble_eq_true rfl) (by decide) (Nat.le_of_ble_eq_true rfl) (Nat.le_of_ble_eq_true rfl) rfl rfl (pc' := 12) rfl ?_
  intro T h nb e_nb X K_ ge_nb A_nb_
  have gz_nb : h0.size ≤ nb := by rw [e_nb]; exact KK.1
  have ne_a_nb : a ≠ nb := by rw [e_nb]; exact Nat.ne_of_lt A.lt
  have A_nb : own_IA Z h nb .byte [] := A_nb_
  have A := A.keep K_ nin0
  have KK := KK.trans K_ all0
  refine own_astore C X own_d8_12 rfl (L' := #[.val (.ref a), .val (.int (5 : Int32)), .val (.int (5 : Int32)), .val (.int (0 : Int32)), .val (.ref nb)]) rfl (pc' := 14) rfl ?_
  refine own_aloadN C X own_d8_14 rfl rfl (pc' := 15) rfl ?_
  refine own_iloadN C X own_d8_15 rfl (pc' := 16) rfl ?_
  refine own_aload C X own_d8_16 rfl rfl (pc' := 18) rfl ?_
  refine own_iconst C X own_d8_18 (v := 0) (by decide) (pc' := 19) rfl ?_
  refine own_aloadN C X own_d8_19 rfl rfl (pc' := 20) rfl ?_
  refine own_alenI C X own_d8_20 (n := 5) A rfl (pc' := 21) rfl ?_
  refine own_iloadN C X own_d8_21 rfl (pc' := 22) rfl ?_
  refine own_isub C X own_d8_22 (z := 0) (by decide) (pc' := 23) rfl ?_
  refine own_iloadN C X own_d8_23 rfl (pc' := 24) rfl ?_
  refine own_callS C X own_d8_24 (own_m_min l Z a0 hw (0 : Int32) (0 : Int32) _ n0 (own_big C X)) (hw _ (List.mem_of_getElem? (i := 51) rfl)) (hw _ (List.mem_of_getElem? (i := 52) rfl)) (hw _ (List.mem_of_getElem? (i := 53) rfl)) (hw _ (List.mem_of_getElem? (i := 54) rfl)) (by decide) own_pd_2734 rfl rfl (Nat.le_of_ble_eq_true rfl) (Nat.le_of_ble_eq_true rfl) (Nat.le_of_ble_eq_true rfl) (Nat.le_of_ble_eq_true rfl) (av := [(.int (0 : Int32)), (.int (0 : Int32))]) (S := [(.int (0 : Int32)), (.ref nb), (.int (5 : Int32)), (.ref a)]) rfl (pc' := 27) rfl ?_
  intro T h v X hQ
  obtain ⟨rfl, rfl⟩ := hQ
  rw [show own_mi (0 : Int32) (0 : Int32) = 0 from by decide]
  show own_Go p e below n0 (own_Fin ({ frames := 1, cells := 1, slots := 0, locals := 20 } : Room) s (fun v h => ∃ b, v = some (.ref b) ∧ h0.size ≤ b ∧ Keep h0 h [] ∧ own_IA Z h b .byte [])) (T.setTop (mkF m 27 #[.val (.ref a), .val (.int (5 : Int32)), .val (.int (5 : Int32)), .val (.int (0 : Int32)), .val (.ref nb)] [(.int (0 : Int32)), (.int (0 : Int32)), (.ref nb), (.int (5 : Int32)), (.ref a)]))
  refine own_acopy C X own_d8_27 A A_nb (hw _ (List.mem_of_getElem? (i := 55) rfl)) (hw _ (List.mem_of_getElem? (i := 58) rfl)) (hw _ (List.mem_of_getElem? (i := 56) rfl)) (hw _ (List.mem_of_getElem? (i := 57) rfl)) (i := 5) (j := 0) (k := 0) (n1 := 5) (n2 := 0) (zs := []) (by decide) (by decide) (by decide) rfl rfl (Nat.le_of_ble_eq_true rfl) (Nat.le_of_ble_eq_true rfl) rfl rfl ge_nb rfl (by decide) (Nat.le_of_ble_eq_true rfl) (pc' := 30) rfl ?_
  intro T h X K_ A_nb
  have A := A.keep K_ (ninS ne_a_nb nin0)
  have KK := KK.trans K_ (allS (Or.inr gz_nb) all0)
  refine own_aload C X own_d8_30 rfl rfl (pc' := 32) rfl ?_
  exact own_areturn C X own_d8_32 rfl rfl rfl (Nat.le_of_ble_eq_true rfl) (Nat.le_of_ble_eq_true rfl) (⟨nb, rfl, gz_nb, KK, A_nb⟩)
theorem own_ef_cr55 (a : Addr) (m : MethodId) : entryFrame m #[(.ref a), (.int (5 : Int32)), (.int (5 : Int32))] 3 = mkF m 0 #[.val (.ref a), .val (.int (5 : Int32)), .val (.int (5 : Int32))] [] := by first | (simp [entryFrame, mkF, argsToLocals, Value.category]; done) | rfl
set_option maxRecDepth 65536 in
set_option maxHeartbeats 40000000 in
theorem own_m_cr55 (l : Launch) (Z : State) (a0 : Array Value) (hw : ∀ d ∈ tables_1, d.before a0 Z = true) (a : Addr) (h0 : Heap) (n0 : Nat) (hn0 : n0 ≤ h0.size) (b0 b1 b2 b3 b4 : Int32) (A : own_IA Z h0 a .byte [b0, b1, b2, b3, b4]) (E : Exa Z h0 a "[B") : own_Met l Z n0 (⟨"java/util/Arrays", "copyOfRange", "([BII)[B"⟩ : MethodName) jdk_65_method_132_code 3 (some (.array .byte)) [] ({ frames := 2, cells := 1, slots := 0, locals := 40 } : Room) #[(.ref a), (.int (5 : Int32)), (.int (5 : Int32))] h0 (fun v h => ∃ b, v = some (.ref b) ∧ h0.size ≤ b ∧ Keep h0 h [] ∧ own_IA Z h b .byte []) := by
  refine own_body (plainFor_of_name own_pn_java_util_Arrays) hn0 (own_ef_cr55 a) ?_
  intro p e s m below meth c T C X
  have KK := Keep.refl h0 []
  refine own_iloadN C X own_d7_0 rfl (pc' := 1) rfl ?_
  refine own_if_ne C X own_d7_1 (pcT := 10) (pc' := 4) (by decide) (by decide) rfl (fun hc1 => ?_) (fun hc1 => absurd hc1 (by decide))
  refine own_aloadN C X own_d7_10 rfl rfl (pc' := 11) rfl ?_
  refine own_iloadN C X own_d7_11 rfl (pc' := 12) rfl ?_
  refine own_iloadN C X own_d7_12 rfl (pc' := 13) rfl ?_
  have hbg := own_big C X
  refine own_callS C X own_d7_13 (own_m_crb55 l Z a0 hw a _ n0 hbg b0 b1 b2 b3 b4 A) (hw _ (List.mem_of_getElem? (i := 45) rfl)) (hw _ (List.mem_of_getElem? (i := 46) rfl)) (hw _ (List.mem_of_getElem? (i := 43) rfl)) (hw _ (List.mem_of_getElem? (i := 47) rfl)) (by decide) own_pd_5734 rfl rfl (Nat.le_of_ble_eq_true rfl) (Nat.le_of_ble_eq_true rfl) (Nat.le_of_ble_eq_true rfl) (Nat.le_of_ble_eq_true rfl) (av := [(.ref a), (.int (5 : Int32)), (.int (5 : Int32))]) (S := []) rfl (pc' := 16) rfl ?_
  intro T h v X hQ
  obtain ⟨nb, rfl, gq_nb, K_, A_nb⟩ := hQ
  have ne_a_nb : a ≠ nb := Nat.ne_of_lt (Nat.lt_of_lt_of_le A.lt gq_nb)
  have ge_nb : n0 ≤ nb := Nat.le_trans hbg gq_nb
  have gz_nb : h0.size ≤ nb := Nat.le_trans KK.1 gq_nb
  have A := A.keep K_ nin0
  have KK := KK.trans K_ all0
  show own_Go p e below n0 (own_Fin ({ frames := 2, cells := 1, slots := 0, locals := 40 } : Room) s (fun v h => ∃ b, v = some (.ref b) ∧ h0.size ≤ b ∧ Keep h0 h [] ∧ own_IA Z h b .byte [])) (T.setTop (mkF m 16 #[.val (.ref a), .val (.int (5 : Int32)), .val (.int (5 : Int32))] [(.ref nb)]))
  exact own_areturn C X own_d7_16 rfl rfl rfl (Nat.le_of_ble_eq_true rfl) (Nat.le_of_ble_eq_true rfl) (⟨nb, rfl, gz_nb, KK, A_nb⟩)
theorem own_ef_cr05 (a : Addr) (m : MethodId) : entryFrame m #[(.ref a), (.int (0 : Int32)), (.int (5 : Int32))] 3 = mkF m 0 #[.val (.ref a), .val (.int (0 : Int32)), .val (.int (5 : Int32))] [] := by first | (simp [entryFrame, mkF, argsToLocals, Value.category]; done) | rfl
theorem own_d7_4 : decode jdk_65_method_132_code 4 = .ok (.iload_n 2, 1) := by decide +kernel
theorem own_d7_5 : decode jdk_65_method_132_code 5 = .ok (.aload_n 0, 1) := by decide +kernel
theorem own_d7_6 : decode jdk_65_method_132_code 6 = .ok (.arraylength, 1) := by decide +kernel
theorem own_d7_7 : decode jdk_65_method_132_code 7 = .ok (.if_icmp .eq 10, 3) := by decide +kernel
theorem own_d7_17 : decode jdk_65_method_132_code 17 = .ok (.aload_n 0, 1) := by decide +kernel
theorem own_d7_18 : decode jdk_65_method_132_code 18 = .ok (.invokevirtual 310, 3) := by decide +kernel
theorem own_d7_21 : decode jdk_65_method_132_code 21 = .ok (.checkcast 311, 3) := by decide +kernel
theorem own_d7_24 : decode jdk_65_method_132_code 24 = .ok (.areturn, 1) := by decide +kernel
set_option maxRecDepth 65536 in
set_option maxHeartbeats 40000000 in
theorem own_m_cr05 (l : Launch) (Z : State) (a0 : Array Value) (hw : ∀ d ∈ tables_1, d.before a0 Z = true) (a : Addr) (h0 : Heap) (n0 : Nat) (hn0 : n0 ≤ h0.size) (b0 b1 b2 b3 b4 : Int32) (A : own_IA Z h0 a .byte [b0, b1, b2, b3, b4]) (E : Exa Z h0 a "[B") : own_Met l Z n0 (⟨"java/util/Arrays", "copyOfRange", "([BII)[B"⟩ : MethodName) jdk_65_method_132_code 3 (some (.array .byte)) [] ({ frames := 2, cells := 1, slots := 5, locals := 40 } : Room) #[(.ref a), (.int (0 : Int32)), (.int (5 : Int32))] h0 (fun v h => ∃ b, v = some (.ref b) ∧ h0.size ≤ b ∧ Keep h0 h [] ∧ own_IA Z h b .byte [b0, b1, b2, b3, b4]) := by
  refine own_body (plainFor_of_name own_pn_java_util_Arrays) hn0 (own_ef_cr05 a) ?_
  intro p e s m below meth c T C X
  have KK := Keep.refl h0 []
  refine own_iloadN C X own_d7_0 rfl (pc' := 1) rfl ?_
  refine own_if_ne C X own_d7_1 (pcT := 10) (pc' := 4) (by decide) (by decide) rfl (fun hc1 => absurd hc1 (by decide)) (fun hc1 => ?_)
  refine own_iloadN C X own_d7_4 rfl (pc' := 5) rfl ?_
  refine own_aloadN C X own_d7_5 rfl rfl (pc' := 6) rfl ?_
  refine own_alenI C X own_d7_6 (n := 5) A rfl (pc' := 7) rfl ?_
  refine own_icmp_eq C X own_d7_7 (pcT := 17) (pc' := 10) (by decide) (by decide) rfl (fun hc7 => ?_) (fun hc7 => absurd hc7 (by decide))
  refine own_aloadN C X own_d7_17 rfl rfl (pc' := 18) rfl ?_
  refine own_clone C X own_d7_18 A E (hw _ (List.mem_of_getElem? (i := 80) rfl)) (hw _ (List.mem_of_getElem? (i := 81) rfl)) (hw _ (List.mem_of_getElem? (i := 85) rfl)) (hw _ (List.mem_of_getElem? (i := 83) rfl)) (hw _ (List.mem_of_getElem? (i := 84) rfl)) (hw _ (List.mem_of_getElem? (i := 86) rfl)) rfl (by decide) (Nat.le_of_ble_eq_true rfl) (cap := 5) (Nat.le_of_ble_eq_true rfl) (Nat.le_of_ble_eq_true rfl) (Nat.le_of_ble_eq_true rfl) (pc' := 21) rfl ?_
  intro T h nb e_nb X K_ ge_nb A_nb E_nb
  have gz_nb : h0.size ≤ nb := by rw [e_nb]; exact KK.1
  have ne_a_nb : a ≠ nb := by rw [e_nb]; exact Nat.ne_of_lt A.lt
  have A := A.keep K_ nin0
  have KK := KK.trans K_ all0
  refine own_castA C X own_d7_21 (hw _ (List.mem_of_getElem? (i := 87) rfl)) E_nb (pc' := 24) rfl ?_
  intro T X
  exact own_areturn C X own_d7_24 rfl rfl rfl (Nat.le_of_ble_eq_true rfl) (Nat.le_of_ble_eq_true rfl) (⟨nb, rfl, gz_nb, KK, A_nb⟩)
theorem own_ef_rest11 (o : Addr) (m : MethodId) : entryFrame m #[(.ref o)] 2 = mkF m 0 #[.val (.ref o), .unset] [] := by first | (simp [entryFrame, mkF, argsToLocals, Value.category]; done) | rfl
theorem own_d6_0 : decode prog_32_method_8_code 0 = .ok (.aload_n 0, 1) := by decide +kernel
theorem own_d6_1 : decode prog_32_method_8_code 1 = .ok (.getfield 12, 3) := by decide +kernel
theorem own_d6_4 : decode prog_32_method_8_code 4 = .ok (.aload_n 0, 1) := by decide +kernel
theorem own_d6_5 : decode prog_32_method_8_code 5 = .ok (.getfield 16, 3) := by decide +kernel
theorem own_d6_8 : decode prog_32_method_8_code 8 = .ok (.aload_n 0, 1) := by decide +kernel
theorem own_d6_9 : decode prog_32_method_8_code 9 = .ok (.getfield 20, 3) := by decide +kernel
theorem own_d6_12 : decode prog_32_method_8_code 12 = .ok (.invokestatic 41, 3) := by decide +kernel
theorem own_d6_15 : decode prog_32_method_8_code 15 = .ok (.astore_n 1, 1) := by decide +kernel
theorem own_d6_16 : decode prog_32_method_8_code 16 = .ok (.aload_n 0, 1) := by decide +kernel
theorem own_d6_17 : decode prog_32_method_8_code 17 = .ok (.aload_n 0, 1) := by decide +kernel
theorem own_d6_18 : decode prog_32_method_8_code 18 = .ok (.getfield 20, 3) := by decide +kernel
theorem own_d6_21 : decode prog_32_method_8_code 21 = .ok (.putfield 16, 3) := by decide +kernel
theorem own_d6_24 : decode prog_32_method_8_code 24 = .ok (.aload_n 1, 1) := by decide +kernel
theorem own_d6_25 : decode prog_32_method_8_code 25 = .ok (.areturn, 1) := by decide +kernel
set_option maxRecDepth 65536 in
set_option maxHeartbeats 40000000 in
theorem own_m_rest11 (l : Launch) (Z : State) (a0 : Array Value) (hw : ∀ d ∈ tables_1, d.before a0 Z = true) (o : Addr) (h0 : Heap) (n0 : Nat) (hn0 : n0 ≤ h0.size) (a : Addr) (b0 b1 b2 b3 b4 : Int32) (A : own_IA Z h0 a .byte [b0, b1, b2, b3, b4]) (E : Exa Z h0 a "[B") (O : own_Ob Z a0 h0 o "com/example/anchorline/anchorline/TlsReader" [("data", "[B", (.ref a)), ("pos", "I", (.int (1 : Int32))), ("limit", "I", (.int (1 : Int32)))]) (ne_o_a : o ≠ a) (ge_o : n0 ≤ o) : own_Met l Z n0 (⟨"com/example/anchorline/anchorline/TlsReader", "rest", "()[B"⟩ : MethodName) prog_32_method_8_code 2 (some (.array .byte)) [] ({ frames := 3, cells := 1, slots := 0, locals := 60 } : Room) #[(.ref o)] h0 (fun v h => ∃ b, v = some (.ref b) ∧ h0.size ≤ b ∧ Keep h0 h [o] ∧ own_Ob Z a0 h o "com/example/anchorline/anchorline/TlsReader" [("data", "[B", (.ref a)), ("pos", "I", (.int (1 : Int32))), ("limit", "I", (.int (1 : Int32)))] ∧ own_IA Z h b .byte []) := by
  refine own_body (plainFor_of_name own_pn_com_example_anchorline_anchorline_TlsReader) hn0 (own_ef_rest11 o) ?_
  intro p e s m below meth c T C X
  have KK := Keep.refl h0 [o]
  refine own_aloadN C X own_d6_0 rfl rfl (pc' := 1) rfl ?_
  refine own_getfield C X own_d6_1 (hw _ (List.mem_of_getElem? (i := 13) rfl)) O (i := 0) rfl (pc' := 4) rfl ?_
  intro T X
  refine own_aloadN C X own_d6_4 rfl rfl (pc' := 5) rfl ?_
  refine own_getfield C X own_d6_5 (hw _ (List.mem_of_getElem? (i := 15) rfl)) O (i := 1) rfl (pc' := 8) rfl ?_
  intro T X
  refine own_aloadN C X own_d6_8 rfl rfl (pc' := 9) rfl ?_
  refine own_getfield C X own_d6_9 (hw _ (List.mem_of_getElem? (i := 17) rfl)) O (i := 2) rfl (pc' := 12) rfl ?_
  intro T X
  have hbg := own_big C X
  refine own_callS C X own_d6_12 (own_m_cr11 l Z a0 hw a _ n0 hbg b0 b1 b2 b3 b4 A E) (hw _ (List.mem_of_getElem? (i := 41) rfl)) (hw _ (List.mem_of_getElem? (i := 42) rfl)) (hw _ (List.mem_of_getElem? (i := 43) rfl)) (hw _ (List.mem_of_getElem? (i := 44) rfl)) (by decide) own_pd_5734 rfl rfl (Nat.le_of_ble_eq_true rfl) (Nat.le_of_ble_eq_true rfl) (Nat.le_of_ble_eq_true rfl) (Nat.le_of_ble_eq_true rfl) (av := [(.ref a), (.int (1 : Int32)), (.int (1 : Int32))]) (S := []) rfl (pc' := 15) rfl ?_
  intro T h v X hQ
  obtain ⟨nb, rfl, gq_nb, K_, A_nb⟩ := hQ
  have ne_o_nb : o ≠ nb := Nat.ne_of_lt (Nat.lt_of_lt_of_le O.lt gq_nb)
  have ne_a_nb : a ≠ nb := Nat.ne_of_lt (Nat.lt_of_lt_of_le A.lt gq_nb)
  have ge_nb : n0 ≤ nb := Nat.le_trans hbg gq_nb
  have gz_nb : h0.size ≤ nb := Nat.le_trans KK.1 gq_nb
  have O := O.keep K_ nin0
  have A := A.keep K_ nin0
  have KK := KK.trans K_ all0
  show own_Go p e below n0 (own_Fin ({ frames := 3, cells := 1, slots := 0, locals := 60 } : Room) s (fun v h => ∃ b, v = some (.ref b) ∧ h0.size ≤ b ∧ Keep h0 h [o] ∧ own_Ob Z a0 h o "com/example/anchorline/anchorline/TlsReader" [("data", "[B", (.ref a)), ("pos", "I", (.int (1 : Int32))), ("limit", "I", (.int (1 : Int32)))] ∧ own_IA Z h b .byte [])) (T.setTop (mkF m 15 #[.val (.ref o), .unset] [(.ref nb)]))
  refine own_astoreN C X own_d6_15 rfl (L' := #[.val (.ref o), .val (.ref nb)]) rfl (pc' := 16) rfl ?_
  refine own_aloadN C X own_d6_16 rfl rfl (pc' := 17) rfl ?_
  refine own_aloadN C X own_d6_17 rfl rfl (pc' := 18) rfl ?_
  refine own_getfield C X own_d6_18 (hw _ (List.mem_of_getElem? (i := 17) rfl)) O (i := 2) rfl (pc' := 21) rfl ?_
  intro T X
  refine own_putfield C X own_d6_21 (hw _ (List.mem_of_getElem? (i := 15) rfl)) (Or.inl (hw _ (List.mem_of_getElem? (i := 16) rfl))) (hw _ (List.mem_of_getElem? (i := 2) rfl)) O (i := 1) rfl (ty := .int) (by decide) rfl rfl ge_o (pc' := 24) rfl ?_
  intro T h X K_ O_
  have O : own_Ob Z a0 h o "com/example/anchorline/anchorline/TlsReader" [("data", "[B", (.ref a)), ("pos", "I", (.int (1 : Int32))), ("limit", "I", (.int (1 : Int32)))] := O_
  have A := A.keep K_ (ninS (Ne.symm ne_o_a) nin0)
  have A_nb := A_nb.keep K_ (ninS (Ne.symm ne_o_nb) nin0)
  have KK := KK.trans K_ (allS (Or.inl (by simp)) all0)
  refine own_aloadN C X own_d6_24 rfl rfl (pc' := 25) rfl ?_
  exact own_areturn C X own_d6_25 rfl rfl rfl (Nat.le_of_ble_eq_true rfl) (Nat.le_of_ble_eq_true rfl) (⟨nb, rfl, gz_nb, KK, O, A_nb⟩)
theorem own_ef_rest12 (o : Addr) (m : MethodId) : entryFrame m #[(.ref o)] 2 = mkF m 0 #[.val (.ref o), .unset] [] := by first | (simp [entryFrame, mkF, argsToLocals, Value.category]; done) | rfl
set_option maxRecDepth 65536 in
set_option maxHeartbeats 40000000 in
theorem own_m_rest12 (l : Launch) (Z : State) (a0 : Array Value) (hw : ∀ d ∈ tables_1, d.before a0 Z = true) (o : Addr) (h0 : Heap) (n0 : Nat) (hn0 : n0 ≤ h0.size) (a : Addr) (b0 b1 b2 b3 b4 : Int32) (A : own_IA Z h0 a .byte [b0, b1, b2, b3, b4]) (E : Exa Z h0 a "[B") (O : own_Ob Z a0 h0 o "com/example/anchorline/anchorline/TlsReader" [("data", "[B", (.ref a)), ("pos", "I", (.int (1 : Int32))), ("limit", "I", (.int (2 : Int32)))]) (ne_o_a : o ≠ a) (ge_o : n0 ≤ o) : own_Met l Z n0 (⟨"com/example/anchorline/anchorline/TlsReader", "rest", "()[B"⟩ : MethodName) prog_32_method_8_code 2 (some (.array .byte)) [] ({ frames := 3, cells := 1, slots := 1, locals := 60 } : Room) #[(.ref o)] h0 (fun v h => ∃ b, v = some (.ref b) ∧ h0.size ≤ b ∧ Keep h0 h [o] ∧ own_Ob Z a0 h o "com/example/anchorline/anchorline/TlsReader" [("data", "[B", (.ref a)), ("pos", "I", (.int (2 : Int32))), ("limit", "I", (.int (2 : Int32)))] ∧ own_IA Z h b .byte [b1]) := by
  refine own_body (plainFor_of_name own_pn_com_example_anchorline_anchorline_TlsReader) hn0 (own_ef_rest12 o) ?_
  intro p e s m below meth c T C X
  have KK := Keep.refl h0 [o]
  refine own_aloadN C X own_d6_0 rfl rfl (pc' := 1) rfl ?_
  refine own_getfield C X own_d6_1 (hw _ (List.mem_of_getElem? (i := 13) rfl)) O (i := 0) rfl (pc' := 4) rfl ?_
  intro T X
  refine own_aloadN C X own_d6_4 rfl rfl (pc' := 5) rfl ?_
  refine own_getfield C X own_d6_5 (hw _ (List.mem_of_getElem? (i := 15) rfl)) O (i := 1) rfl (pc' := 8) rfl ?_
  intro T X
  refine own_aloadN C X own_d6_8 rfl rfl (pc' := 9) rfl ?_
  refine own_getfield C X own_d6_9 (hw _ (List.mem_of_getElem? (i := 17) rfl)) O (i := 2) rfl (pc' := 12) rfl ?_
  intro T X
  have hbg := own_big C X
  refine own_callS C X own_d6_12 (own_m_cr12 l Z a0 hw a _ n0 hbg b0 b1 b2 b3 b4 A E) (hw _ (List.mem_of_getElem? (i := 41) rfl)) (hw _ (List.mem_of_getElem? (i := 42) rfl)) (hw _ (List.mem_of_getElem? (i := 43) rfl)) (hw _ (List.mem_of_getElem? (i := 44) rfl)) (by decide) own_pd_5734 rfl rfl (Nat.le_of_ble_eq_true rfl) (Nat.le_of_ble_eq_true rfl) (Nat.le_of_ble_eq_true rfl) (Nat.le_of_ble_eq_true rfl) (av := [(.ref a), (.int (1 : Int32)), (.int (2 : Int32))]) (S := []) rfl (pc' := 15) rfl ?_
  intro T h v X hQ
  obtain ⟨nb, rfl, gq_nb, K_, A_nb⟩ := hQ
  have ne_o_nb : o ≠ nb := Nat.ne_of_lt (Nat.lt_of_lt_of_le O.lt gq_nb)
  have ne_a_nb : a ≠ nb := Nat.ne_of_lt (Nat.lt_of_lt_of_le A.lt gq_nb)
  have ge_nb : n0 ≤ nb := Nat.le_trans hbg gq_nb
  have gz_nb : h0.size ≤ nb := Nat.le_trans KK.1 gq_nb
  have O := O.keep K_ nin0
  have A := A.keep K_ nin0
  have KK := KK.trans K_ all0
  show own_Go p e below n0 (own_Fin ({ frames := 3, cells := 1, slots := 1, locals := 60 } : Room) s (fun v h => ∃ b, v = some (.ref b) ∧ h0.size ≤ b ∧ Keep h0 h [o] ∧ own_Ob Z a0 h o "com/example/anchorline/anchorline/TlsReader" [("data", "[B", (.ref a)), ("pos", "I", (.int (2 : Int32))), ("limit", "I", (.int (2 : Int32)))] ∧ own_IA Z h b .byte [b1])) (T.setTop (mkF m 15 #[.val (.ref o), .unset] [(.ref nb)]))
  refine own_astoreN C X own_d6_15 rfl (L' := #[.val (.ref o), .val (.ref nb)]) rfl (pc' := 16) rfl ?_
  refine own_aloadN C X own_d6_16 rfl rfl (pc' := 17) rfl ?_
  refine own_aloadN C X own_d6_17 rfl rfl (pc' := 18) rfl ?_
  refine own_getfield C X own_d6_18 (hw _ (List.mem_of_getElem? (i := 17) rfl)) O (i := 2) rfl (pc' := 21) rfl ?_
  intro T X
  refine own_putfield C X own_d6_21 (hw _ (List.mem_of_getElem? (i := 15) rfl)) (Or.inl (hw _ (List.mem_of_getElem? (i := 16) rfl))) (hw _ (List.mem_of_getElem? (i := 2) rfl)) O (i := 1) rfl (ty := .int) (by decide) rfl rfl ge_o (pc' := 24) rfl ?_
  intro T h X K_ O_
  have O : own_Ob Z a0 h o "com/example/anchorline/anchorline/TlsReader" [("data", "[B", (.ref a)), ("pos", "I", (.int (2 : Int32))), ("limit", "I", (.int (2 : Int32)))] := O_
  have A := A.keep K_ (ninS (Ne.symm ne_o_a) nin0)
  have A_nb := A_nb.keep K_ (ninS (Ne.symm ne_o_nb) nin0)
  have KK := KK.trans K_ (allS (Or.inl (by simp)) all0)
  refine own_aloadN C X own_d6_24 rfl rfl (pc' := 25) rfl ?_
  exact own_areturn C X own_d6_25 rfl rfl rfl (Nat.le_of_ble_eq_true rfl) (Nat.le_of_ble_eq_true rfl) (⟨nb, rfl, gz_nb, KK, O, A_nb⟩)
theorem own_ef_rest13 (o : Addr) (m : MethodId) : entryFrame m #[(.ref o)] 2 = mkF m 0 #[.val (.ref o), .unset] [] := by first | (simp [entryFrame, mkF, argsToLocals, Value.category]; done) | rfl
set_option maxRecDepth 65536 in
set_option maxHeartbeats 40000000 in
theorem own_m_rest13 (l : Launch) (Z : State) (a0 : Array Value) (hw : ∀ d ∈ tables_1, d.before a0 Z = true) (o : Addr) (h0 : Heap) (n0 : Nat) (hn0 : n0 ≤ h0.size) (a : Addr) (b0 b1 b2 b3 b4 : Int32) (A : own_IA Z h0 a .byte [b0, b1, b2, b3, b4]) (E : Exa Z h0 a "[B") (O : own_Ob Z a0 h0 o "com/example/anchorline/anchorline/TlsReader" [("data", "[B", (.ref a)), ("pos", "I", (.int (1 : Int32))), ("limit", "I", (.int (3 : Int32)))]) (ne_o_a : o ≠ a) (ge_o : n0 ≤ o) : own_Met l Z n0 (⟨"com/example/anchorline/anchorline/TlsReader", "rest", "()[B"⟩ : MethodName) prog_32_method_8_code 2 (some (.array .byte)) [] ({ frames := 3, cells := 1, slots := 2, locals := 60 } : Room) #[(.ref o)] h0 (fun v h => ∃ b, v = some (.ref b) ∧ h0.size ≤ b ∧ Keep h0 h [o] ∧ own_Ob Z a0 h o "com/example/anchorline/anchorline/TlsReader" [("data", "[B", (.ref a)), ("pos", "I", (.int (3 : Int32))), ("limit", "I", (.int (3 : Int32)))] ∧ own_IA Z h b .byte [b1, b2]) := by
  refine own_body (plainFor_of_name own_pn_com_example_anchorline_anchorline_TlsReader) hn0 (own_ef_rest13 o) ?_
  intro p e s m below meth c T C X
  have KK := Keep.refl h0 [o]
  refine own_aloadN C X own_d6_0 rfl rfl (pc' := 1) rfl ?_
  refine own_getfield C X own_d6_1 (hw _ (List.mem_of_getElem? (i := 13) rfl)) O (i := 0) rfl (pc' := 4) rfl ?_
  intro T X
  refine own_aloadN C X own_d6_4 rfl rfl (pc' := 5) rfl ?_
  refine own_getfield C X own_d6_5 (hw _ (List.mem_of_getElem? (i := 15) rfl)) O (i := 1) rfl (pc' := 8) rfl ?_
  intro T X
  refine own_aloadN C X own_d6_8 rfl rfl (pc' := 9) rfl ?_
  refine own_getfield C X own_d6_9 (hw _ (List.mem_of_getElem? (i := 17) rfl)) O (i := 2) rfl (pc' := 12) rfl ?_
  intro T X
  have hbg := own_big C X
  refine own_callS C X own_d6_12 (own_m_cr13 l Z a0 hw a _ n0 hbg b0 b1 b2 b3 b4 A E) (hw _ (List.mem_of_getElem? (i := 41) rfl)) (hw _ (List.mem_of_getElem? (i := 42) rfl)) (hw _ (List.mem_of_getElem? (i := 43) rfl)) (hw _ (List.mem_of_getElem? (i := 44) rfl)) (by decide) own_pd_5734 rfl rfl (Nat.le_of_ble_eq_true rfl) (Nat.le_of_ble_eq_true rfl) (Nat.le_of_ble_eq_true rfl) (Nat.le_of_ble_eq_true rfl) (av := [(.ref a), (.int (1 : Int32)), (.int (3 : Int32))]) (S := []) rfl (pc' := 15) rfl ?_
  intro T h v X hQ
  obtain ⟨nb, rfl, gq_nb, K_, A_nb⟩ := hQ
  have ne_o_nb : o ≠ nb := Nat.ne_of_lt (Nat.lt_of_lt_of_le O.lt gq_nb)
  have ne_a_nb : a ≠ nb := Nat.ne_of_lt (Nat.lt_of_lt_of_le A.lt gq_nb)
  have ge_nb : n0 ≤ nb := Nat.le_trans hbg gq_nb
  have gz_nb : h0.size ≤ nb := Nat.le_trans KK.1 gq_nb
  have O := O.keep K_ nin0
  have A := A.keep K_ nin0
  have KK := KK.trans K_ all0
  show own_Go p e below n0 (own_Fin ({ frames := 3, cells := 1, slots := 2, locals := 60 } : Room) s (fun v h => ∃ b, v = some (.ref b) ∧ h0.size ≤ b ∧ Keep h0 h [o] ∧ own_Ob Z a0 h o "com/example/anchorline/anchorline/TlsReader" [("data", "[B", (.ref a)), ("pos", "I", (.int (3 : Int32))), ("limit", "I", (.int (3 : Int32)))] ∧ own_IA Z h b .byte [b1, b2])) (T.setTop (mkF m 15 #[.val (.ref o), .unset] [(.ref nb)]))
  refine own_astoreN C X own_d6_15 rfl (L' := #[.val (.ref o), .val (.ref nb)]) rfl (pc' := 16) rfl ?_
  refine own_aloadN C X own_d6_16 rfl rfl (pc' := 17) rfl ?_
  refine own_aloadN C X own_d6_17 rfl rfl (pc' := 18) rfl ?_
  refine own_getfield C X own_d6_18 (hw _ (List.mem_of_getElem? (i := 17) rfl)) O (i := 2) rfl (pc' := 21) rfl ?_
  intro T X
  refine own_putfield C X own_d6_21 (hw _ (List.mem_of_getElem? (i := 15) rfl)) (Or.inl (hw _ (List.mem_of_getElem? (i := 16) rfl))) (hw _ (List.mem_of_getElem? (i := 2) rfl)) O (i := 1) rfl (ty := .int) (by decide) rfl rfl ge_o (pc' := 24) rfl ?_
  intro T h X K_ O_
  have O : own_Ob Z a0 h o "com/example/anchorline/anchorline/TlsReader" [("data", "[B", (.ref a)), ("pos", "I", (.int (3 : Int32))), ("limit", "I", (.int (3 : Int32)))] := O_
  have A := A.keep K_ (ninS (Ne.symm ne_o_a) nin0)
  have A_nb := A_nb.keep K_ (ninS (Ne.symm ne_o_nb) nin0)
  have KK := KK.trans K_ (allS (Or.inl (by simp)) all0)
  refine own_aloadN C X own_d6_24 rfl rfl (pc' := 25) rfl ?_
  exact own_areturn C X own_d6_25 rfl rfl rfl (Nat.le_of_ble_eq_true rfl) (Nat.le_of_ble_eq_true rfl) (⟨nb, rfl, gz_nb, KK, O, A_nb⟩)
theorem own_ef_rest14 (o : Addr) (m : MethodId) : entryFrame m #[(.ref o)] 2 = mkF m 0 #[.val (.ref o), .unset] [] := by first | (simp [entryFrame, mkF, argsToLocals, Value.category]; done) | rfl
set_option maxRecDepth 65536 in
set_option maxHeartbeats 40000000 in
theorem own_m_rest14 (l : Launch) (Z : State) (a0 : Array Value) (hw : ∀ d ∈ tables_1, d.before a0 Z = true) (o : Addr) (h0 : Heap) (n0 : Nat) (hn0 : n0 ≤ h0.size) (a : Addr) (b0 b1 b2 b3 b4 : Int32) (A : own_IA Z h0 a .byte [b0, b1, b2, b3, b4]) (E : Exa Z h0 a "[B") (O : own_Ob Z a0 h0 o "com/example/anchorline/anchorline/TlsReader" [("data", "[B", (.ref a)), ("pos", "I", (.int (1 : Int32))), ("limit", "I", (.int (4 : Int32)))]) (ne_o_a : o ≠ a) (ge_o : n0 ≤ o) : own_Met l Z n0 (⟨"com/example/anchorline/anchorline/TlsReader", "rest", "()[B"⟩ : MethodName) prog_32_method_8_code 2 (some (.array .byte)) [] ({ frames := 3, cells := 1, slots := 3, locals := 60 } : Room) #[(.ref o)] h0 (fun v h => ∃ b, v = some (.ref b) ∧ h0.size ≤ b ∧ Keep h0 h [o] ∧ own_Ob Z a0 h o "com/example/anchorline/anchorline/TlsReader" [("data", "[B", (.ref a)), ("pos", "I", (.int (4 : Int32))), ("limit", "I", (.int (4 : Int32)))] ∧ own_IA Z h b .byte [b1, b2, b3]) := by
  refine own_body (plainFor_of_name own_pn_com_example_anchorline_anchorline_TlsReader) hn0 (own_ef_rest14 o) ?_
  intro p e s m below meth c T C X
  have KK := Keep.refl h0 [o]
  refine own_aloadN C X own_d6_0 rfl rfl (pc' := 1) rfl ?_
  refine own_getfield C X own_d6_1 (hw _ (List.mem_of_getElem? (i := 13) rfl)) O (i := 0) rfl (pc' := 4) rfl ?_
  intro T X
  refine own_aloadN C X own_d6_4 rfl rfl (pc' := 5) rfl ?_
  refine own_getfield C X own_d6_5 (hw _ (List.mem_of_getElem? (i := 15) rfl)) O (i := 1) rfl (pc' := 8) rfl ?_
  intro T X
  refine own_aloadN C X own_d6_8 rfl rfl (pc' := 9) rfl ?_
  refine own_getfield C X own_d6_9 (hw _ (List.mem_of_getElem? (i := 17) rfl)) O (i := 2) rfl (pc' := 12) rfl ?_
  intro T X
  have hbg := own_big C X
  refine own_callS C X own_d6_12 (own_m_cr14 l Z a0 hw a _ n0 hbg b0 b1 b2 b3 b4 A E) (hw _ (List.mem_of_getElem? (i := 41) rfl)) (hw _ (List.mem_of_getElem? (i := 42) rfl)) (hw _ (List.mem_of_getElem? (i := 43) rfl)) (hw _ (List.mem_of_getElem? (i := 44) rfl)) (by decide) own_pd_5734 rfl rfl (Nat.le_of_ble_eq_true rfl) (Nat.le_of_ble_eq_true rfl) (Nat.le_of_ble_eq_true rfl) (Nat.le_of_ble_eq_true rfl) (av := [(.ref a), (.int (1 : Int32)), (.int (4 : Int32))]) (S := []) rfl (pc' := 15) rfl ?_
  intro T h v X hQ
  obtain ⟨nb, rfl, gq_nb, K_, A_nb⟩ := hQ
  have ne_o_nb : o ≠ nb := Nat.ne_of_lt (Nat.lt_of_lt_of_le O.lt gq_nb)
  have ne_a_nb : a ≠ nb := Nat.ne_of_lt (Nat.lt_of_lt_of_le A.lt gq_nb)
  have ge_nb : n0 ≤ nb := Nat.le_trans hbg gq_nb
  have gz_nb : h0.size ≤ nb := Nat.le_trans KK.1 gq_nb
  have O := O.keep K_ nin0
  have A := A.keep K_ nin0
  have KK := KK.trans K_ all0
  show own_Go p e below n0 (own_Fin ({ frames := 3, cells := 1, slots := 3, locals := 60 } : Room) s (fun v h => ∃ b, v = some (.ref b) ∧ h0.size ≤ b ∧ Keep h0 h [o] ∧ own_Ob Z a0 h o "com/example/anchorline/anchorline/TlsReader" [("data", "[B", (.ref a)), ("pos", "I", (.int (4 : Int32))), ("limit", "I", (.int (4 : Int32)))] ∧ own_IA Z h b .byte [b1, b2, b3])) (T.setTop (mkF m 15 #[.val (.ref o), .unset] [(.ref nb)]))
  refine own_astoreN C X own_d6_15 rfl (L' := #[.val (.ref o), .val (.ref nb)]) rfl (pc' := 16) rfl ?_
  refine own_aloadN C X own_d6_16 rfl rfl (pc' := 17) rfl ?_
  refine own_aloadN C X own_d6_17 rfl rfl (pc' := 18) rfl ?_
  refine own_getfield C X own_d6_18 (hw _ (List.mem_of_getElem? (i := 17) rfl)) O (i := 2) rfl (pc' := 21) rfl ?_
  intro T X
  refine own_putfield C X own_d6_21 (hw _ (List.mem_of_getElem? (i := 15) rfl)) (Or.inl (hw _ (List.mem_of_getElem? (i := 16) rfl))) (hw _ (List.mem_of_getElem? (i := 2) rfl)) O (i := 1) rfl (ty := .int) (by decide) rfl rfl ge_o (pc' := 24) rfl ?_
  intro T h X K_ O_
  have O : own_Ob Z a0 h o "com/example/anchorline/anchorline/TlsReader" [("data", "[B", (.ref a)), ("pos", "I", (.int (4 : Int32))), ("limit", "I", (.int (4 : Int32)))] := O_
  have A := A.keep K_ (ninS (Ne.symm ne_o_a) nin0)
  have A_nb := A_nb.keep K_ (ninS (Ne.symm ne_o_nb) nin0)
  have KK := KK.trans K_ (allS (Or.inl (by simp)) all0)
  refine own_aloadN C X own_d6_24 rfl rfl (pc' := 25) rfl ?_
  exact own_areturn C X own_d6_25 rfl rfl rfl (Nat.le_of_ble_eq_true rfl) (Nat.le_of_ble_eq_true rfl) (⟨nb, rfl, gz_nb, KK, O, A_nb⟩)
theorem own_ef_rest15 (o : Addr) (m : MethodId) : entryFrame m #[(.ref o)] 2 = mkF m 0 #[.val (.ref o), .unset] [] := by first | (simp [entryFrame, mkF, argsToLocals, Value.category]; done) | rfl
set_option maxRecDepth 65536 in
set_option maxHeartbeats 40000000 in
theorem own_m_rest15 (l : Launch) (Z : State) (a0 : Array Value) (hw : ∀ d ∈ tables_1, d.before a0 Z = true) (o : Addr) (h0 : Heap) (n0 : Nat) (hn0 : n0 ≤ h0.size) (a : Addr) (b0 b1 b2 b3 b4 : Int32) (A : own_IA Z h0 a .byte [b0, b1, b2, b3, b4]) (E : Exa Z h0 a "[B") (O : own_Ob Z a0 h0 o "com/example/anchorline/anchorline/TlsReader" [("data", "[B", (.ref a)), ("pos", "I", (.int (1 : Int32))), ("limit", "I", (.int (5 : Int32)))]) (ne_o_a : o ≠ a) (ge_o : n0 ≤ o) : own_Met l Z n0 (⟨"com/example/anchorline/anchorline/TlsReader", "rest", "()[B"⟩ : MethodName) prog_32_method_8_code 2 (some (.array .byte)) [] ({ frames := 3, cells := 1, slots := 4, locals := 60 } : Room) #[(.ref o)] h0 (fun v h => ∃ b, v = some (.ref b) ∧ h0.size ≤ b ∧ Keep h0 h [o] ∧ own_Ob Z a0 h o "com/example/anchorline/anchorline/TlsReader" [("data", "[B", (.ref a)), ("pos", "I", (.int (5 : Int32))), ("limit", "I", (.int (5 : Int32)))] ∧ own_IA Z h b .byte [b1, b2, b3, b4]) := by
  refine own_body (plainFor_of_name own_pn_com_example_anchorline_anchorline_TlsReader) hn0 (own_ef_rest15 o) ?_
  intro p e s m below meth c T C X
  have KK := Keep.refl h0 [o]
  refine own_aloadN C X own_d6_0 rfl rfl (pc' := 1) rfl ?_
  refine own_getfield C X own_d6_1 (hw _ (List.mem_of_getElem? (i := 13) rfl)) O (i := 0) rfl (pc' := 4) rfl ?_
  intro T X
  refine own_aloadN C X own_d6_4 rfl rfl (pc' := 5) rfl ?_
  refine own_getfield C X own_d6_5 (hw _ (List.mem_of_getElem? (i := 15) rfl)) O (i := 1) rfl (pc' := 8) rfl ?_
  intro T X
  refine own_aloadN C X own_d6_8 rfl rfl (pc' := 9) rfl ?_
  refine own_getfield C X own_d6_9 (hw _ (List.mem_of_getElem? (i := 17) rfl)) O (i := 2) rfl (pc' := 12) rfl ?_
  intro T X
  have hbg := own_big C X
  refine own_callS C X own_d6_12 (own_m_cr15 l Z a0 hw a _ n0 hbg b0 b1 b2 b3 b4 A E) (hw _ (List.mem_of_getElem? (i := 41) rfl)) (hw _ (List.mem_of_getElem? (i := 42) rfl)) (hw _ (List.mem_of_getElem? (i := 43) rfl)) (hw _ (List.mem_of_getElem? (i := 44) rfl)) (by decide) own_pd_5734 rfl rfl (Nat.le_of_ble_eq_true rfl) (Nat.le_of_ble_eq_true rfl) (Nat.le_of_ble_eq_true rfl) (Nat.le_of_ble_eq_true rfl) (av := [(.ref a), (.int (1 : Int32)), (.int (5 : Int32))]) (S := []) rfl (pc' := 15) rfl ?_
  intro T h v X hQ
  obtain ⟨nb, rfl, gq_nb, K_, A_nb⟩ := hQ
  have ne_o_nb : o ≠ nb := Nat.ne_of_lt (Nat.lt_of_lt_of_le O.lt gq_nb)
  have ne_a_nb : a ≠ nb := Nat.ne_of_lt (Nat.lt_of_lt_of_le A.lt gq_nb)
  have ge_nb : n0 ≤ nb := Nat.le_trans hbg gq_nb
  have gz_nb : h0.size ≤ nb := Nat.le_trans KK.1 gq_nb
  have O := O.keep K_ nin0
  have A := A.keep K_ nin0
  have KK := KK.trans K_ all0
  show own_Go p e below n0 (own_Fin ({ frames := 3, cells := 1, slots := 4, locals := 60 } : Room) s (fun v h => ∃ b, v = some (.ref b) ∧ h0.size ≤ b ∧ Keep h0 h [o] ∧ own_Ob Z a0 h o "com/example/anchorline/anchorline/TlsReader" [("data", "[B", (.ref a)), ("pos", "I", (.int (5 : Int32))), ("limit", "I", (.int (5 : Int32)))] ∧ own_IA Z h b .byte [b1, b2, b3, b4])) (T.setTop (mkF m 15 #[.val (.ref o), .unset] [(.ref nb)]))
  refine own_astoreN C X own_d6_15 rfl (L' := #[.val (.ref o), .val (.ref nb)]) rfl (pc' := 16) rfl ?_
  refine own_aloadN C X own_d6_16 rfl rfl (pc' := 17) rfl ?_
  refine own_aloadN C X own_d6_17 rfl rfl (pc' := 18) rfl ?_
  refine own_getfield C X own_d6_18 (hw _ (List.mem_of_getElem? (i := 17) rfl)) O (i := 2) rfl (pc' := 21) rfl ?_
  intro T X
  refine own_putfield C X own_d6_21 (hw _ (List.mem_of_getElem? (i := 15) rfl)) (Or.inl (hw _ (List.mem_of_getElem? (i := 16) rfl))) (hw _ (List.mem_of_getElem? (i := 2) rfl)) O (i := 1) rfl (ty := .int) (by decide) rfl rfl ge_o (pc' := 24) rfl ?_
  intro T h X K_ O_
  have O : own_Ob Z a0 h o "com/example/anchorline/anchorline/TlsReader" [("data", "[B", (.ref a)), ("pos", "I", (.int (5 : Int32))), ("limit", "I", (.int (5 : Int32)))] := O_
  have A := A.keep K_ (ninS (Ne.symm ne_o_a) nin0)
  have A_nb := A_nb.keep K_ (ninS (Ne.symm ne_o_nb) nin0)
  have KK := KK.trans K_ (allS (Or.inl (by simp)) all0)
  refine own_aloadN C X own_d6_24 rfl rfl (pc' := 25) rfl ?_
  exact own_areturn C X own_d6_25 rfl rfl rfl (Nat.le_of_ble_eq_true rfl) (Nat.le_of_ble_eq_true rfl) (⟨nb, rfl, gz_nb, KK, O, A_nb⟩)
theorem own_ef_rest22 (o : Addr) (m : MethodId) : entryFrame m #[(.ref o)] 2 = mkF m 0 #[.val (.ref o), .unset] [] := by first | (simp [entryFrame, mkF, argsToLocals, Value.category]; done) | rfl
set_option maxRecDepth 65536 in
set_option maxHeartbeats 40000000 in
theorem own_m_rest22 (l : Launch) (Z : State) (a0 : Array Value) (hw : ∀ d ∈ tables_1, d.before a0 Z = true) (o : Addr) (h0 : Heap) (n0 : Nat) (hn0 : n0 ≤ h0.size) (a : Addr) (b0 b1 b2 b3 b4 : Int32) (A : own_IA Z h0 a .byte [b0, b1, b2, b3, b4]) (E : Exa Z h0 a "[B") (O : own_Ob Z a0 h0 o "com/example/anchorline/anchorline/TlsReader" [("data", "[B", (.ref a)), ("pos", "I", (.int (2 : Int32))), ("limit", "I", (.int (2 : Int32)))]) (ne_o_a : o ≠ a) (ge_o : n0 ≤ o) : own_Met l Z n0 (⟨"com/example/anchorline/anchorline/TlsReader", "rest", "()[B"⟩ : MethodName) prog_32_method_8_code 2 (some (.array .byte)) [] ({ frames := 3, cells := 1, slots := 0, locals := 60 } : Room) #[(.ref o)] h0 (fun v h => ∃ b, v = some (.ref b) ∧ h0.size ≤ b ∧ Keep h0 h [o] ∧ own_Ob Z a0 h o "com/example/anchorline/anchorline/TlsReader" [("data", "[B", (.ref a)), ("pos", "I", (.int (2 : Int32))), ("limit", "I", (.int (2 : Int32)))] ∧ own_IA Z h b .byte []) := by
  refine own_body (plainFor_of_name own_pn_com_example_anchorline_anchorline_TlsReader) hn0 (own_ef_rest22 o) ?_
  intro p e s m below meth c T C X
  have KK := Keep.refl h0 [o]
  refine own_aloadN C X own_d6_0 rfl rfl (pc' := 1) rfl ?_
  refine own_getfield C X own_d6_1 (hw _ (List.mem_of_getElem? (i := 13) rfl)) O (i := 0) rfl (pc' := 4) rfl ?_
  intro T X
  refine own_aloadN C X own_d6_4 rfl rfl (pc' := 5) rfl ?_
  refine own_getfield C X own_d6_5 (hw _ (List.mem_of_getElem? (i := 15) rfl)) O (i := 1) rfl (pc' := 8) rfl ?_
  intro T X
  refine own_aloadN C X own_d6_8 rfl rfl (pc' := 9) rfl ?_
  refine own_getfield C X own_d6_9 (hw _ (List.mem_of_getElem? (i := 17) rfl)) O (i := 2) rfl (pc' := 12) rfl ?_
  intro T X
  have hbg := own_big C X
  refine own_callS C X own_d6_12 (own_m_cr22 l Z a0 hw a _ n0 hbg b0 b1 b2 b3 b4 A E) (hw _ (List.mem_of_getElem? (i := 41) rfl)) (hw _ (List.mem_of_getElem? (i := 42) rfl)) (hw _ (List.mem_of_getElem? (i := 43) rfl)) (hw _ (List.mem_of_getElem? (i := 44) rfl)) (by decide) own_pd_5734 rfl rfl (Nat.le_of_ble_eq_true rfl) (Nat.le_of_ble_eq_true rfl) (Nat.le_of_ble_eq_true rfl) (Nat.le_of_ble_eq_true rfl) (av := [(.ref a), (.int (2 : Int32)), (.int (2 : Int32))]) (S := []) rfl (pc' := 15) rfl ?_
  intro T h v X hQ
  obtain ⟨nb, rfl, gq_nb, K_, A_nb⟩ := hQ
  have ne_o_nb : o ≠ nb := Nat.ne_of_lt (Nat.lt_of_lt_of_le O.lt gq_nb)
  have ne_a_nb : a ≠ nb := Nat.ne_of_lt (Nat.lt_of_lt_of_le A.lt gq_nb)
  have ge_nb : n0 ≤ nb := Nat.le_trans hbg gq_nb
  have gz_nb : h0.size ≤ nb := Nat.le_trans KK.1 gq_nb
  have O := O.keep K_ nin0
  have A := A.keep K_ nin0
  have KK := KK.trans K_ all0
  show own_Go p e below n0 (own_Fin ({ frames := 3, cells := 1, slots := 0, locals := 60 } : Room) s (fun v h => ∃ b, v = some (.ref b) ∧ h0.size ≤ b ∧ Keep h0 h [o] ∧ own_Ob Z a0 h o "com/example/anchorline/anchorline/TlsReader" [("data", "[B", (.ref a)), ("pos", "I", (.int (2 : Int32))), ("limit", "I", (.int (2 : Int32)))] ∧ own_IA Z h b .byte [])) (T.setTop (mkF m 15 #[.val (.ref o), .unset] [(.ref nb)]))
  refine own_astoreN C X own_d6_15 rfl (L' := #[.val (.ref o), .val (.ref nb)]) rfl (pc' := 16) rfl ?_
  refine own_aloadN C X own_d6_16 rfl rfl (pc' := 17) rfl ?_
  refine own_aloadN C X own_d6_17 rfl rfl (pc' := 18) rfl ?_
  refine own_getfield C X own_d6_18 (hw _ (List.mem_of_getElem? (i := 17) rfl)) O (i := 2) rfl (pc' := 21) rfl ?_
  intro T X
  refine own_putfield C X own_d6_21 (hw _ (List.mem_of_getElem? (i := 15) rfl)) (Or.inl (hw _ (List.mem_of_getElem? (i := 16) rfl))) (hw _ (List.mem_of_getElem? (i := 2) rfl)) O (i := 1) rfl (ty := .int) (by decide) rfl rfl ge_o (pc' := 24) rfl ?_
  intro T h X K_ O_
  have O : own_Ob Z a0 h o "com/example/anchorline/anchorline/TlsReader" [("data", "[B", (.ref a)), ("pos", "I", (.int (2 : Int32))), ("limit", "I", (.int (2 : Int32)))] := O_
  have A := A.keep K_ (ninS (Ne.symm ne_o_a) nin0)
  have A_nb := A_nb.keep K_ (ninS (Ne.symm ne_o_nb) nin0)
  have KK := KK.trans K_ (allS (Or.inl (by simp)) all0)
  refine own_aloadN C X own_d6_24 rfl rfl (pc' := 25) rfl ?_
  exact own_areturn C X own_d6_25 rfl rfl rfl (Nat.le_of_ble_eq_true rfl) (Nat.le_of_ble_eq_true rfl) (⟨nb, rfl, gz_nb, KK, O, A_nb⟩)
theorem own_ef_rest23 (o : Addr) (m : MethodId) : entryFrame m #[(.ref o)] 2 = mkF m 0 #[.val (.ref o), .unset] [] := by first | (simp [entryFrame, mkF, argsToLocals, Value.category]; done) | rfl
set_option maxRecDepth 65536 in
set_option maxHeartbeats 40000000 in
theorem own_m_rest23 (l : Launch) (Z : State) (a0 : Array Value) (hw : ∀ d ∈ tables_1, d.before a0 Z = true) (o : Addr) (h0 : Heap) (n0 : Nat) (hn0 : n0 ≤ h0.size) (a : Addr) (b0 b1 b2 b3 b4 : Int32) (A : own_IA Z h0 a .byte [b0, b1, b2, b3, b4]) (E : Exa Z h0 a "[B") (O : own_Ob Z a0 h0 o "com/example/anchorline/anchorline/TlsReader" [("data", "[B", (.ref a)), ("pos", "I", (.int (2 : Int32))), ("limit", "I", (.int (3 : Int32)))]) (ne_o_a : o ≠ a) (ge_o : n0 ≤ o) : own_Met l Z n0 (⟨"com/example/anchorline/anchorline/TlsReader", "rest", "()[B"⟩ : MethodName) prog_32_method_8_code 2 (some (.array .byte)) [] ({ frames := 3, cells := 1, slots := 1, locals := 60 } : Room) #[(.ref o)] h0 (fun v h => ∃ b, v = some (.ref b) ∧ h0.size ≤ b ∧ Keep h0 h [o] ∧ own_Ob Z a0 h o "com/example/anchorline/anchorline/TlsReader" [("data", "[B", (.ref a)), ("pos", "I", (.int (3 : Int32))), ("limit", "I", (.int (3 : Int32)))] ∧ own_IA Z h b .byte [b2]) := by
  refine own_body (plainFor_of_name own_pn_com_example_anchorline_anchorline_TlsReader) hn0 (own_ef_rest23 o) ?_
  intro p e s m below meth c T C X
  have KK := Keep.refl h0 [o]
  refine own_aloadN C X own_d6_0 rfl rfl (pc' := 1) rfl ?_
  refine own_getfield C X own_d6_1 (hw _ (List.mem_of_getElem? (i := 13) rfl)) O (i := 0) rfl (pc' := 4) rfl ?_
  intro T X
  refine own_aloadN C X own_d6_4 rfl rfl (pc' := 5) rfl ?_
  refine own_getfield C X own_d6_5 (hw _ (List.mem_of_getElem? (i := 15) rfl)) O (i := 1) rfl (pc' := 8) rfl ?_
  intro T X
  refine own_aloadN C X own_d6_8 rfl rfl (pc' := 9) rfl ?_
  refine own_getfield C X own_d6_9 (hw _ (List.mem_of_getElem? (i := 17) rfl)) O (i := 2) rfl (pc' := 12) rfl ?_
  intro T X
  have hbg := own_big C X
  refine own_callS C X own_d6_12 (own_m_cr23 l Z a0 hw a _ n0 hbg b0 b1 b2 b3 b4 A E) (hw _ (List.mem_of_getElem? (i := 41) rfl)) (hw _ (List.mem_of_getElem? (i := 42) rfl)) (hw _ (List.mem_of_getElem? (i := 43) rfl)) (hw _ (List.mem_of_getElem? (i := 44) rfl)) (by decide) own_pd_5734 rfl rfl (Nat.le_of_ble_eq_true rfl) (Nat.le_of_ble_eq_true rfl) (Nat.le_of_ble_eq_true rfl) (Nat.le_of_ble_eq_true rfl) (av := [(.ref a), (.int (2 : Int32)), (.int (3 : Int32))]) (S := []) rfl (pc' := 15) rfl ?_
  intro T h v X hQ
  obtain ⟨nb, rfl, gq_nb, K_, A_nb⟩ := hQ
  have ne_o_nb : o ≠ nb := Nat.ne_of_lt (Nat.lt_of_lt_of_le O.lt gq_nb)
  have ne_a_nb : a ≠ nb := Nat.ne_of_lt (Nat.lt_of_lt_of_le A.lt gq_nb)
  have ge_nb : n0 ≤ nb := Nat.le_trans hbg gq_nb
  have gz_nb : h0.size ≤ nb := Nat.le_trans KK.1 gq_nb
  have O := O.keep K_ nin0
  have A := A.keep K_ nin0
  have KK := KK.trans K_ all0
  show own_Go p e below n0 (own_Fin ({ frames := 3, cells := 1, slots := 1, locals := 60 } : Room) s (fun v h => ∃ b, v = some (.ref b) ∧ h0.size ≤ b ∧ Keep h0 h [o] ∧ own_Ob Z a0 h o "com/example/anchorline/anchorline/TlsReader" [("data", "[B", (.ref a)), ("pos", "I", (.int (3 : Int32))), ("limit", "I", (.int (3 : Int32)))] ∧ own_IA Z h b .byte [b2])) (T.setTop (mkF m 15 #[.val (.ref o), .unset] [(.ref nb)]))
  refine own_astoreN C X own_d6_15 rfl (L' := #[.val (.ref o), .val (.ref nb)]) rfl (pc' := 16) rfl ?_
  refine own_aloadN C X own_d6_16 rfl rfl (pc' := 17) rfl ?_
  refine own_aloadN C X own_d6_17 rfl rfl (pc' := 18) rfl ?_
  refine own_getfield C X own_d6_18 (hw _ (List.mem_of_getElem? (i := 17) rfl)) O (i := 2) rfl (pc' := 21) rfl ?_
  intro T X
  refine own_putfield C X own_d6_21 (hw _ (List.mem_of_getElem? (i := 15) rfl)) (Or.inl (hw _ (List.mem_of_getElem? (i := 16) rfl))) (hw _ (List.mem_of_getElem? (i := 2) rfl)) O (i := 1) rfl (ty := .int) (by decide) rfl rfl ge_o (pc' := 24) rfl ?_
  intro T h X K_ O_
  have O : own_Ob Z a0 h o "com/example/anchorline/anchorline/TlsReader" [("data", "[B", (.ref a)), ("pos", "I", (.int (3 : Int32))), ("limit", "I", (.int (3 : Int32)))] := O_
  have A := A.keep K_ (ninS (Ne.symm ne_o_a) nin0)
  have A_nb := A_nb.keep K_ (ninS (Ne.symm ne_o_nb) nin0)
  have KK := KK.trans K_ (allS (Or.inl (by simp)) all0)
  refine own_aloadN C X own_d6_24 rfl rfl (pc' := 25) rfl ?_
  exact own_areturn C X own_d6_25 rfl rfl rfl (Nat.le_of_ble_eq_true rfl) (Nat.le_of_ble_eq_true rfl) (⟨nb, rfl, gz_nb, KK, O, A_nb⟩)
theorem own_ef_rest24 (o : Addr) (m : MethodId) : entryFrame m #[(.ref o)] 2 = mkF m 0 #[.val (.ref o), .unset] [] := by first | (simp [entryFrame, mkF, argsToLocals, Value.category]; done) | rfl
set_option maxRecDepth 65536 in
set_option maxHeartbeats 40000000 in
theorem own_m_rest24 (l : Launch) (Z : State) (a0 : Array Value) (hw : ∀ d ∈ tables_1, d.before a0 Z = true) (o : Addr) (h0 : Heap) (n0 : Nat) (hn0 : n0 ≤ h0.size) (a : Addr) (b0 b1 b2 b3 b4 : Int32) (A : own_IA Z h0 a .byte [b0, b1, b2, b3, b4]) (E : Exa Z h0 a "[B") (O : own_Ob Z a0 h0 o "com/example/anchorline/anchorline/TlsReader" [("data", "[B", (.ref a)), ("pos", "I", (.int (2 : Int32))), ("limit", "I", (.int (4 : Int32)))]) (ne_o_a : o ≠ a) (ge_o : n0 ≤ o) : own_Met l Z n0 (⟨"com/example/anchorline/anchorline/TlsReader", "rest", "()[B"⟩ : MethodName) prog_32_method_8_code 2 (some (.array .byte)) [] ({ frames := 3, cells := 1, slots := 2, locals := 60 } : Room) #[(.ref o)] h0 (fun v h => ∃ b, v = some (.ref b) ∧ h0.size ≤ b ∧ Keep h0 h [o] ∧ own_Ob Z a0 h o "com/example/anchorline/anchorline/TlsReader" [("data", "[B", (.ref a)), ("pos", "I", (.int (4 : Int32))), ("limit", "I", (.int (4 : Int32)))] ∧ own_IA Z h b .byte [b2, b3]) := by
  refine own_body (plainFor_of_name own_pn_com_example_anchorline_anchorline_TlsReader) hn0 (own_ef_rest24 o) ?_
  intro p e s m below meth c T C X
  have KK := Keep.refl h0 [o]
  refine own_aloadN C X own_d6_0 rfl rfl (pc' := 1) rfl ?_
  refine own_getfield C X own_d6_1 (hw _ (List.mem_of_getElem? (i := 13) rfl)) O (i := 0) rfl (pc' := 4) rfl ?_
  intro T X
  refine own_aloadN C X own_d6_4 rfl rfl (pc' := 5) rfl ?_
  refine own_getfield C X own_d6_5 (hw _ (List.mem_of_getElem? (i := 15) rfl)) O (i := 1) rfl (pc' := 8) rfl ?_
  intro T X
  refine own_aloadN C X own_d6_8 rfl rfl (pc' := 9) rfl ?_
  refine own_getfield C X own_d6_9 (hw _ (List.mem_of_getElem? (i := 17) rfl)) O (i := 2) rfl (pc' := 12) rfl ?_
  intro T X
  have hbg := own_big C X
  refine own_callS C X own_d6_12 (own_m_cr24 l Z a0 hw a _ n0 hbg b0 b1 b2 b3 b4 A E) (hw _ (List.mem_of_getElem? (i := 41) rfl)) (hw _ (List.mem_of_getElem? (i := 42) rfl)) (hw _ (List.mem_of_getElem? (i := 43) rfl)) (hw _ (List.mem_of_getElem? (i := 44) rfl)) (by decide) own_pd_5734 rfl rfl (Nat.le_of_ble_eq_true rfl) (Nat.le_of_ble_eq_true rfl) (Nat.le_of_ble_eq_true rfl) (Nat.le_of_ble_eq_true rfl) (av := [(.ref a), (.int (2 : Int32)), (.int (4 : Int32))]) (S := []) rfl (pc' := 15) rfl ?_
  intro T h v X hQ
  obtain ⟨nb, rfl, gq_nb, K_, A_nb⟩ := hQ
  have ne_o_nb : o ≠ nb := Nat.ne_of_lt (Nat.lt_of_lt_of_le O.lt gq_nb)
  have ne_a_nb : a ≠ nb := Nat.ne_of_lt (Nat.lt_of_lt_of_le A.lt gq_nb)
  have ge_nb : n0 ≤ nb := Nat.le_trans hbg gq_nb
  have gz_nb : h0.size ≤ nb := Nat.le_trans KK.1 gq_nb
  have O := O.keep K_ nin0
  have A := A.keep K_ nin0
  have KK := KK.trans K_ all0
  show own_Go p e below n0 (own_Fin ({ frames := 3, cells := 1, slots := 2, locals := 60 } : Room) s (fun v h => ∃ b, v = some (.ref b) ∧ h0.size ≤ b ∧ Keep h0 h [o] ∧ own_Ob Z a0 h o "com/example/anchorline/anchorline/TlsReader" [("data", "[B", (.ref a)), ("pos", "I", (.int (4 : Int32))), ("limit", "I", (.int (4 : Int32)))] ∧ own_IA Z h b .byte [b2, b3])) (T.setTop (mkF m 15 #[.val (.ref o), .unset] [(.ref nb)]))
  refine own_astoreN C X own_d6_15 rfl (L' := #[.val (.ref o), .val (.ref nb)]) rfl (pc' := 16) rfl ?_
  refine own_aloadN C X own_d6_16 rfl rfl (pc' := 17) rfl ?_
  refine own_aloadN C X own_d6_17 rfl rfl (pc' := 18) rfl ?_
  refine own_getfield C X own_d6_18 (hw _ (List.mem_of_getElem? (i := 17) rfl)) O (i := 2) rfl (pc' := 21) rfl ?_
  intro T X
  refine own_putfield C X own_d6_21 (hw _ (List.mem_of_getElem? (i := 15) rfl)) (Or.inl (hw _ (List.mem_of_getElem? (i := 16) rfl))) (hw _ (List.mem_of_getElem? (i := 2) rfl)) O (i := 1) rfl (ty := .int) (by decide) rfl rfl ge_o (pc' := 24) rfl ?_
  intro T h X K_ O_
  have O : own_Ob Z a0 h o "com/example/anchorline/anchorline/TlsReader" [("data", "[B", (.ref a)), ("pos", "I", (.int (4 : Int32))), ("limit", "I", (.int (4 : Int32)))] := O_
  have A := A.keep K_ (ninS (Ne.symm ne_o_a) nin0)
  have A_nb := A_nb.keep K_ (ninS (Ne.symm ne_o_nb) nin0)
  have KK := KK.trans K_ (allS (Or.inl (by simp)) all0)
  refine own_aloadN C X own_d6_24 rfl rfl (pc' := 25) rfl ?_
  exact own_areturn C X own_d6_25 rfl rfl rfl (Nat.le_of_ble_eq_true rfl) (Nat.le_of_ble_eq_true rfl) (⟨nb, rfl, gz_nb, KK, O, A_nb⟩)
theorem own_ef_rest25 (o : Addr) (m : MethodId) : entryFrame m #[(.ref o)] 2 = mkF m 0 #[.val (.ref o), .unset] [] := by first | (simp [entryFrame, mkF, argsToLocals, Value.category]; done) | rfl
set_option maxRecDepth 65536 in
set_option maxHeartbeats 40000000 in
theorem own_m_rest25 (l : Launch) (Z : State) (a0 : Array Value) (hw : ∀ d ∈ tables_1, d.before a0 Z = true) (o : Addr) (h0 : Heap) (n0 : Nat) (hn0 : n0 ≤ h0.size) (a : Addr) (b0 b1 b2 b3 b4 : Int32) (A : own_IA Z h0 a .byte [b0, b1, b2, b3, b4]) (E : Exa Z h0 a "[B") (O : own_Ob Z a0 h0 o "com/example/anchorline/anchorline/TlsReader" [("data", "[B", (.ref a)), ("pos", "I", (.int (2 : Int32))), ("limit", "I", (.int (5 : Int32)))]) (ne_o_a : o ≠ a) (ge_o : n0 ≤ o) : own_Met l Z n0 (⟨"com/example/anchorline/anchorline/TlsReader", "rest", "()[B"⟩ : MethodName) prog_32_method_8_code 2 (some (.array .byte)) [] ({ frames := 3, cells := 1, slots := 3, locals := 60 } : Room) #[(.ref o)] h0 (fun v h => ∃ b, v = some (.ref b) ∧ h0.size ≤ b ∧ Keep h0 h [o] ∧ own_Ob Z a0 h o "com/example/anchorline/anchorline/TlsReader" [("data", "[B", (.ref a)), ("pos", "I", (.int (5 : Int32))), ("limit", "I", (.int (5 : Int32)))] ∧ own_IA Z h b .byte [b2, b3, b4]) := by
  refine own_body (plainFor_of_name own_pn_com_example_anchorline_anchorline_TlsReader) hn0 (own_ef_rest25 o) ?_
  intro p e s m below meth c T C X
  have KK := Keep.refl h0 [o]
  refine own_aloadN C X own_d6_0 rfl rfl (pc' := 1) rfl ?_
  refine own_getfield C X own_d6_1 (hw _ (List.mem_of_getElem? (i := 13) rfl)) O (i := 0) rfl (pc' := 4) rfl ?_
  intro T X
  refine own_aloadN C X own_d6_4 rfl rfl (pc' := 5) rfl ?_
  refine own_getfield C X own_d6_5 (hw _ (List.mem_of_getElem? (i := 15) rfl)) O (i := 1) rfl (pc' := 8) rfl ?_
  intro T X
  refine own_aloadN C X own_d6_8 rfl rfl (pc' := 9) rfl ?_
  refine own_getfield C X own_d6_9 (hw _ (List.mem_of_getElem? (i := 17) rfl)) O (i := 2) rfl (pc' := 12) rfl ?_
  intro T X
  have hbg := own_big C X
  refine own_callS C X own_d6_12 (own_m_cr25 l Z a0 hw a _ n0 hbg b0 b1 b2 b3 b4 A E) (hw _ (List.mem_of_getElem? (i := 41) rfl)) (hw _ (List.mem_of_getElem? (i := 42) rfl)) (hw _ (List.mem_of_getElem? (i := 43) rfl)) (hw _ (List.mem_of_getElem? (i := 44) rfl)) (by decide) own_pd_5734 rfl rfl (Nat.le_of_ble_eq_true rfl) (Nat.le_of_ble_eq_true rfl) (Nat.le_of_ble_eq_true rfl) (Nat.le_of_ble_eq_true rfl) (av := [(.ref a), (.int (2 : Int32)), (.int (5 : Int32))]) (S := []) rfl (pc' := 15) rfl ?_
  intro T h v X hQ
  obtain ⟨nb, rfl, gq_nb, K_, A_nb⟩ := hQ
  have ne_o_nb : o ≠ nb := Nat.ne_of_lt (Nat.lt_of_lt_of_le O.lt gq_nb)
  have ne_a_nb : a ≠ nb := Nat.ne_of_lt (Nat.lt_of_lt_of_le A.lt gq_nb)
  have ge_nb : n0 ≤ nb := Nat.le_trans hbg gq_nb
  have gz_nb : h0.size ≤ nb := Nat.le_trans KK.1 gq_nb
  have O := O.keep K_ nin0
  have A := A.keep K_ nin0
  have KK := KK.trans K_ all0
  show own_Go p e below n0 (own_Fin ({ frames := 3, cells := 1, slots := 3, locals := 60 } : Room) s (fun v h => ∃ b, v = some (.ref b) ∧ h0.size ≤ b ∧ Keep h0 h [o] ∧ own_Ob Z a0 h o "com/example/anchorline/anchorline/TlsReader" [("data", "[B", (.ref a)), ("pos", "I", (.int (5 : Int32))), ("limit", "I", (.int (5 : Int32)))] ∧ own_IA Z h b .byte [b2, b3, b4])) (T.setTop (mkF m 15 #[.val (.ref o), .unset] [(.ref nb)]))
  refine own_astoreN C X own_d6_15 rfl (L' := #[.val (.ref o), .val (.ref nb)]) rfl (pc' := 16) rfl ?_
  refine own_aloadN C X own_d6_16 rfl rfl (pc' := 17) rfl ?_
  refine own_aloadN C X own_d6_17 rfl rfl (pc' := 18) rfl ?_
  refine own_getfield C X own_d6_18 (hw _ (List.mem_of_getElem? (i := 17) rfl)) O (i := 2) rfl (pc' := 21) rfl ?_
  intro T X
  refine own_putfield C X own_d6_21 (hw _ (List.mem_of_getElem? (i := 15) rfl)) (Or.inl (hw _ (List.mem_of_getElem? (i := 16) rfl))) (hw _ (List.mem_of_getElem? (i := 2) rfl)) O (i := 1) rfl (ty := .int) (by decide) rfl rfl ge_o (pc' := 24) rfl ?_
  intro T h X K_ O_
  have O : own_Ob Z a0 h o "com/example/anchorline/anchorline/TlsReader" [("data", "[B", (.ref a)), ("pos", "I", (.int (5 : Int32))), ("limit", "I", (.int (5 : Int32)))] := O_
  have A := A.keep K_ (ninS (Ne.symm ne_o_a) nin0)
  have A_nb := A_nb.keep K_ (ninS (Ne.symm ne_o_nb) nin0)
  have KK := KK.trans K_ (allS (Or.inl (by simp)) all0)
  refine own_aloadN C X own_d6_24 rfl rfl (pc' := 25) rfl ?_
  exact own_areturn C X own_d6_25 rfl rfl rfl (Nat.le_of_ble_eq_true rfl) (Nat.le_of_ble_eq_true rfl) (⟨nb, rfl, gz_nb, KK, O, A_nb⟩)
theorem own_ef_rest33 (o : Addr) (m : MethodId) : entryFrame m #[(.ref o)] 2 = mkF m 0 #[.val (.ref o), .unset] [] := by first | (simp [entryFrame, mkF, argsToLocals, Value.category]; done) | rfl
set_option maxRecDepth 65536 in
set_option maxHeartbeats 40000000 in
theorem own_m_rest33 (l : Launch) (Z : State) (a0 : Array Value) (hw : ∀ d ∈ tables_1, d.before a0 Z = true) (o : Addr) (h0 : Heap) (n0 : Nat) (hn0 : n0 ≤ h0.size) (a : Addr) (b0 b1 b2 b3 b4 : Int32) (A : own_IA Z h0 a .byte [b0, b1, b2, b3, b4]) (E : Exa Z h0 a "[B") (O : own_Ob Z a0 h0 o "com/example/anchorline/anchorline/TlsReader" [("data", "[B", (.ref a)), ("pos", "I", (.int (3 : Int32))), ("limit", "I", (.int (3 : Int32)))]) (ne_o_a : o ≠ a) (ge_o : n0 ≤ o) : own_Met l Z n0 (⟨"com/example/anchorline/anchorline/TlsReader", "rest", "()[B"⟩ : MethodName) prog_32_method_8_code 2 (some (.array .byte)) [] ({ frames := 3, cells := 1, slots := 0, locals := 60 } : Room) #[(.ref o)] h0 (fun v h => ∃ b, v = some (.ref b) ∧ h0.size ≤ b ∧ Keep h0 h [o] ∧ own_Ob Z a0 h o "com/example/anchorline/anchorline/TlsReader" [("data", "[B", (.ref a)), ("pos", "I", (.int (3 : Int32))), ("limit", "I", (.int (3 : Int32)))] ∧ own_IA Z h b .byte []) := by
  refine own_body (plainFor_of_name own_pn_com_example_anchorline_anchorline_TlsReader) hn0 (own_ef_rest33 o) ?_
  intro p e s m below meth c T C X
  have KK := Keep.refl h0 [o]
  refine own_aloadN C X own_d6_0 rfl rfl (pc' := 1) rfl ?_
  refine own_getfield C X own_d6_1 (hw _ (List.mem_of_getElem? (i := 13) rfl)) O (i := 0) rfl (pc' := 4) rfl ?_
  intro T X
  refine own_aloadN C X own_d6_4 rfl rfl (pc' := 5) rfl ?_
  refine own_getfield C X own_d6_5 (hw _ (List.mem_of_getElem? (i := 15) rfl)) O (i := 1) rfl (pc' := 8) rfl ?_
  intro T X
  refine own_aloadN C X own_d6_8 rfl rfl (pc' := 9) rfl ?_
  refine own_getfield C X own_d6_9 (hw _ (List.mem_of_getElem? (i := 17) rfl)) O (i := 2) rfl (pc' := 12) rfl ?_
  intro T X
  have hbg := own_big C X
  refine own_callS C X own_d6_12 (own_m_cr33 l Z a0 hw a _ n0 hbg b0 b1 b2 b3 b4 A E) (hw _ (List.mem_of_getElem? (i := 41) rfl)) (hw _ (List.mem_of_getElem? (i := 42) rfl)) (hw _ (List.mem_of_getElem? (i := 43) rfl)) (hw _ (List.mem_of_getElem? (i := 44) rfl)) (by decide) own_pd_5734 rfl rfl (Nat.le_of_ble_eq_true rfl) (Nat.le_of_ble_eq_true rfl) (Nat.le_of_ble_eq_true rfl) (Nat.le_of_ble_eq_true rfl) (av := [(.ref a), (.int (3 : Int32)), (.int (3 : Int32))]) (S := []) rfl (pc' := 15) rfl ?_
  intro T h v X hQ
  obtain ⟨nb, rfl, gq_nb, K_, A_nb⟩ := hQ
  have ne_o_nb : o ≠ nb := Nat.ne_of_lt (Nat.lt_of_lt_of_le O.lt gq_nb)
  have ne_a_nb : a ≠ nb := Nat.ne_of_lt (Nat.lt_of_lt_of_le A.lt gq_nb)
  have ge_nb : n0 ≤ nb := Nat.le_trans hbg gq_nb
  have gz_nb : h0.size ≤ nb := Nat.le_trans KK.1 gq_nb
  have O := O.keep K_ nin0
  have A := A.keep K_ nin0
  have KK := KK.trans K_ all0
  show own_Go p e below n0 (own_Fin ({ frames := 3, cells := 1, slots := 0, locals := 60 } : Room) s (fun v h => ∃ b, v = some (.ref b) ∧ h0.size ≤ b ∧ Keep h0 h [o] ∧ own_Ob Z a0 h o "com/example/anchorline/anchorline/TlsReader" [("data", "[B", (.ref a)), ("pos", "I", (.int (3 : Int32))), ("limit", "I", (.int (3 : Int32)))] ∧ own_IA Z h b .byte [])) (T.setTop (mkF m 15 #[.val (.ref o), .unset] [(.ref nb)]))
  refine own_astoreN C X own_d6_15 rfl (L' := #[.val (.ref o), .val (.ref nb)]) rfl (pc' := 16) rfl ?_
  refine own_aloadN C X own_d6_16 rfl rfl (pc' := 17) rfl ?_
  refine own_aloadN C X own_d6_17 rfl rfl (pc' := 18) rfl ?_
  refine own_getfield C X own_d6_18 (hw _ (List.mem_of_getElem? (i := 17) rfl)) O (i := 2) rfl (pc' := 21) rfl ?_
  intro T X
  refine own_putfield C X own_d6_21 (hw _ (List.mem_of_getElem? (i := 15) rfl)) (Or.inl (hw _ (List.mem_of_getElem? (i := 16) rfl))) (hw _ (List.mem_of_getElem? (i := 2) rfl)) O (i := 1) rfl (ty := .int) (by decide) rfl rfl ge_o (pc' := 24) rfl ?_
  intro T h X K_ O_
  have O : own_Ob Z a0 h o "com/example/anchorline/anchorline/TlsReader" [("data", "[B", (.ref a)), ("pos", "I", (.int (3 : Int32))), ("limit", "I", (.int (3 : Int32)))] := O_
  have A := A.keep K_ (ninS (Ne.symm ne_o_a) nin0)
  have A_nb := A_nb.keep K_ (ninS (Ne.symm ne_o_nb) nin0)
  have KK := KK.trans K_ (allS (Or.inl (by simp)) all0)
  refine own_aloadN C X own_d6_24 rfl rfl (pc' := 25) rfl ?_
  exact own_areturn C X own_d6_25 rfl rfl rfl (Nat.le_of_ble_eq_true rfl) (Nat.le_of_ble_eq_true rfl) (⟨nb, rfl, gz_nb, KK, O, A_nb⟩)
theorem own_ef_rest34 (o : Addr) (m : MethodId) : entryFrame m #[(.ref o)] 2 = mkF m 0 #[.val (.ref o), .unset] [] := by first | (simp [entryFrame, mkF, argsToLocals, Value.category]; done) | rfl
set_option maxRecDepth 65536 in
set_option maxHeartbeats 40000000 in
theorem own_m_rest34 (l : Launch) (Z : State) (a0 : Array Value) (hw : ∀ d ∈ tables_1, d.before a0 Z = true) (o : Addr) (h0 : Heap) (n0 : Nat) (hn0 : n0 ≤ h0.size) (a : Addr) (b0 b1 b2 b3 b4 : Int32) (A : own_IA Z h0 a .byte [b0, b1, b2, b3, b4]) (E : Exa Z h0 a "[B") (O : own_Ob Z a0 h0 o "com/example/anchorline/anchorline/TlsReader" [("data", "[B", (.ref a)), ("pos", "I", (.int (3 : Int32))), ("limit", "I", (.int (4 : Int32)))]) (ne_o_a : o ≠ a) (ge_o : n0 ≤ o) : own_Met l Z n0 (⟨"com/example/anchorline/anchorline/TlsReader", "rest", "()[B"⟩ : MethodName) prog_32_method_8_code 2 (some (.array .byte)) [] ({ frames := 3, cells := 1, slots := 1, locals := 60 } : Room) #[(.ref o)] h0 (fun v h => ∃ b, v = some (.ref b) ∧ h0.size ≤ b ∧ Keep h0 h [o] ∧ own_Ob Z a0 h o "com/example/anchorline/anchorline/TlsReader" [("data", "[B", (.ref a)), ("pos", "I", (.int (4 : Int32))), ("limit", "I", (.int (4 : Int32)))] ∧ own_IA Z h b .byte [b3]) := by
  refine own_body (plainFor_of_name own_pn_com_example_anchorline_anchorline_TlsReader) hn0 (own_ef_rest34 o) ?_
  intro p e s m below meth c T C X
  have KK := Keep.refl h0 [o]
  refine own_aloadN C X own_d6_0 rfl rfl (pc' := 1) rfl ?_
  refine own_getfield C X own_d6_1 (hw _ (List.mem_of_getElem? (i := 13) rfl)) O (i := 0) rfl (pc' := 4) rfl ?_
  intro T X
  refine own_aloadN C X own_d6_4 rfl rfl (pc' := 5) rfl ?_
  refine own_getfield C X own_d6_5 (hw _ (List.mem_of_getElem? (i := 15) rfl)) O (i := 1) rfl (pc' := 8) rfl ?_
  intro T X
  refine own_aloadN C X own_d6_8 rfl rfl (pc' := 9) rfl ?_
  refine own_getfield C X own_d6_9 (hw _ (List.mem_of_getElem? (i := 17) rfl)) O (i := 2) rfl (pc' := 12) rfl ?_
  intro T X
  have hbg := own_big C X
  refine own_callS C X own_d6_12 (own_m_cr34 l Z a0 hw a _ n0 hbg b0 b1 b2 b3 b4 A E) (hw _ (List.mem_of_getElem? (i := 41) rfl)) (hw _ (List.mem_of_getElem? (i := 42) rfl)) (hw _ (List.mem_of_getElem? (i := 43) rfl)) (hw _ (List.mem_of_getElem? (i := 44) rfl)) (by decide) own_pd_5734 rfl rfl (Nat.le_of_ble_eq_true rfl) (Nat.le_of_ble_eq_true rfl) (Nat.le_of_ble_eq_true rfl) (Nat.le_of_ble_eq_true rfl) (av := [(.ref a), (.int (3 : Int32)), (.int (4 : Int32))]) (S := []) rfl (pc' := 15) rfl ?_
  intro T h v X hQ
  obtain ⟨nb, rfl, gq_nb, K_, A_nb⟩ := hQ
  have ne_o_nb : o ≠ nb := Nat.ne_of_lt (Nat.lt_of_lt_of_le O.lt gq_nb)
  have ne_a_nb : a ≠ nb := Nat.ne_of_lt (Nat.lt_of_lt_of_le A.lt gq_nb)
  have ge_nb : n0 ≤ nb := Nat.le_trans hbg gq_nb
  have gz_nb : h0.size ≤ nb := Nat.le_trans KK.1 gq_nb
  have O := O.keep K_ nin0
  have A := A.keep K_ nin0
  have KK := KK.trans K_ all0
  show own_Go p e below n0 (own_Fin ({ frames := 3, cells := 1, slots := 1, locals := 60 } : Room) s (fun v h => ∃ b, v = some (.ref b) ∧ h0.size ≤ b ∧ Keep h0 h [o] ∧ own_Ob Z a0 h o "com/example/anchorline/anchorline/TlsReader" [("data", "[B", (.ref a)), ("pos", "I", (.int (4 : Int32))), ("limit", "I", (.int (4 : Int32)))] ∧ own_IA Z h b .byte [b3])) (T.setTop (mkF m 15 #[.val (.ref o), .unset] [(.ref nb)]))
  refine own_astoreN C X own_d6_15 rfl (L' := #[.val (.ref o), .val (.ref nb)]) rfl (pc' := 16) rfl ?_
  refine own_aloadN C X own_d6_16 rfl rfl (pc' := 17) rfl ?_
  refine own_aloadN C X own_d6_17 rfl rfl (pc' := 18) rfl ?_
  refine own_getfield C X own_d6_18 (hw _ (List.mem_of_getElem? (i := 17) rfl)) O (i := 2) rfl (pc' := 21) rfl ?_
  intro T X
  refine own_putfield C X own_d6_21 (hw _ (List.mem_of_getElem? (i := 15) rfl)) (Or.inl (hw _ (List.mem_of_getElem? (i := 16) rfl))) (hw _ (List.mem_of_getElem? (i := 2) rfl)) O (i := 1) rfl (ty := .int) (by decide) rfl rfl ge_o (pc' := 24) rfl ?_
  intro T h X K_ O_
  have O : own_Ob Z a0 h o "com/example/anchorline/anchorline/TlsReader" [("data", "[B", (.ref a)), ("pos", "I", (.int (4 : Int32))), ("limit", "I", (.int (4 : Int32)))] := O_
  have A := A.keep K_ (ninS (Ne.symm ne_o_a) nin0)
  have A_nb := A_nb.keep K_ (ninS (Ne.symm ne_o_nb) nin0)
  have KK := KK.trans K_ (allS (Or.inl (by simp)) all0)
  refine own_aloadN C X own_d6_24 rfl rfl (pc' := 25) rfl ?_
  exact own_areturn C X own_d6_25 rfl rfl rfl (Nat.le_of_ble_eq_true rfl) (Nat.le_of_ble_eq_true rfl) (⟨nb, rfl, gz_nb, KK, O, A_nb⟩)
theorem own_ef_rest35 (o : Addr) (m : MethodId) : entryFrame m #[(.ref o)] 2 = mkF m 0 #[.val (.ref o), .unset] [] := by first | (simp [entryFrame, mkF, argsToLocals, Value.category]; done) | rfl
set_option maxRecDepth 65536 in
set_option maxHeartbeats 40000000 in
theorem own_m_rest35 (l : Launch) (Z : State) (a0 : Array Value) (hw : ∀ d ∈ tables_1, d.before a0 Z = true) (o : Addr) (h0 : Heap) (n0 : Nat) (hn0 : n0 ≤ h0.size) (a : Addr) (b0 b1 b2 b3 b4 : Int32) (A : own_IA Z h0 a .byte [b0, b1, b2, b3, b4]) (E : Exa Z h0 a "[B") (O : own_Ob Z a0 h0 o "com/example/anchorline/anchorline/TlsReader" [("data", "[B", (.ref a)), ("pos", "I", (.int (3 : Int32))), ("limit", "I", (.int (5 : Int32)))]) (ne_o_a : o ≠ a) (ge_o : n0 ≤ o) : own_Met l Z n0 (⟨"com/example/anchorline/anchorline/TlsReader", "rest", "()[B"⟩ : MethodName) prog_32_method_8_code 2 (some (.array .byte)) [] ({ frames := 3, cells := 1, slots := 2, locals := 60 } : Room) #[(.ref o)] h0 (fun v h => ∃ b, v = some (.ref b) ∧ h0.size ≤ b ∧ Keep h0 h [o] ∧ own_Ob Z a0 h o "com/example/anchorline/anchorline/TlsReader" [("data", "[B", (.ref a)), ("pos", "I", (.int (5 : Int32))), ("limit", "I", (.int (5 : Int32)))] ∧ own_IA Z h b .byte [b3, b4]) := by
  refine own_body (plainFor_of_name own_pn_com_example_anchorline_anchorline_TlsReader) hn0 (own_ef_rest35 o) ?_
  intro p e s m below meth c T C X
  have KK := Keep.refl h0 [o]
  refine own_aloadN C X own_d6_0 rfl rfl (pc' := 1) rfl ?_
  refine own_getfield C X own_d6_1 (hw _ (List.mem_of_getElem? (i := 13) rfl)) O (i := 0) rfl (pc' := 4) rfl ?_
  intro T X
  refine own_aloadN C X own_d6_4 rfl rfl (pc' := 5) rfl ?_
  refine own_getfield C X own_d6_5 (hw _ (List.mem_of_getElem? (i := 15) rfl)) O (i := 1) rfl (pc' := 8) rfl ?_
  intro T X
  refine own_aloadN C X own_d6_8 rfl rfl (pc' := 9) rfl ?_
  refine own_getfield C X own_d6_9 (hw _ (List.mem_of_getElem? (i := 17) rfl)) O (i := 2) rfl (pc' := 12) rfl ?_
  intro T X
  have hbg := own_big C X
  refine own_callS C X own_d6_12 (own_m_cr35 l Z a0 hw a _ n0 hbg b0 b1 b2 b3 b4 A E) (hw _ (List.mem_of_getElem? (i := 41) rfl)) (hw _ (List.mem_of_getElem? (i := 42) rfl)) (hw _ (List.mem_of_getElem? (i := 43) rfl)) (hw _ (List.mem_of_getElem? (i := 44) rfl)) (by decide) own_pd_5734 rfl rfl (Nat.le_of_ble_eq_true rfl) (Nat.le_of_ble_eq_true rfl) (Nat.le_of_ble_eq_true rfl) (Nat.le_of_ble_eq_true rfl) (av := [(.ref a), (.int (3 : Int32)), (.int (5 : Int32))]) (S := []) rfl (pc' := 15) rfl ?_
  intro T h v X hQ
  obtain ⟨nb, rfl, gq_nb, K_, A_nb⟩ := hQ
  have ne_o_nb : o ≠ nb := Nat.ne_of_lt (Nat.lt_of_lt_of_le O.lt gq_nb)
  have ne_a_nb : a ≠ nb := Nat.ne_of_lt (Nat.lt_of_lt_of_le A.lt gq_nb)
  have ge_nb : n0 ≤ nb := Nat.le_trans hbg gq_nb
  have gz_nb : h0.size ≤ nb := Nat.le_trans KK.1 gq_nb
  have O := O.keep K_ nin0
  have A := A.keep K_ nin0
  have KK := KK.trans K_ all0
  show own_Go p e below n0 (own_Fin ({ frames := 3, cells := 1, slots := 2, locals := 60 } : Room) s (fun v h => ∃ b, v = some (.ref b) ∧ h0.size ≤ b ∧ Keep h0 h [o] ∧ own_Ob Z a0 h o "com/example/anchorline/anchorline/TlsReader" [("data", "[B", (.ref a)), ("pos", "I", (.int (5 : Int32))), ("limit", "I", (.int (5 : Int32)))] ∧ own_IA Z h b .byte [b3, b4])) (T.setTop (mkF m 15 #[.val (.ref o), .unset] [(.ref nb)]))
  refine own_astoreN C X own_d6_15 rfl (L' := #[.val (.ref o), .val (.ref nb)]) rfl (pc' := 16) rfl ?_
  refine own_aloadN C X own_d6_16 rfl rfl (pc' := 17) rfl ?_
  refine own_aloadN C X own_d6_17 rfl rfl (pc' := 18) rfl ?_
  refine own_getfield C X own_d6_18 (hw _ (List.mem_of_getElem? (i := 17) rfl)) O (i := 2) rfl (pc' := 21) rfl ?_
  intro T X
  refine own_putfield C X own_d6_21 (hw _ (List.mem_of_getElem? (i := 15) rfl)) (Or.inl (hw _ (List.mem_of_getElem? (i := 16) rfl))) (hw _ (List.mem_of_getElem? (i := 2) rfl)) O (i := 1) rfl (ty := .int) (by decide) rfl rfl ge_o (pc' := 24) rfl ?_
  intro T h X K_ O_
  have O : own_Ob Z a0 h o "com/example/anchorline/anchorline/TlsReader" [("data", "[B", (.ref a)), ("pos", "I", (.int (5 : Int32))), ("limit", "I", (.int (5 : Int32)))] := O_
  have A := A.keep K_ (ninS (Ne.symm ne_o_a) nin0)
  have A_nb := A_nb.keep K_ (ninS (Ne.symm ne_o_nb) nin0)
  have KK := KK.trans K_ (allS (Or.inl (by simp)) all0)
  refine own_aloadN C X own_d6_24 rfl rfl (pc' := 25) rfl ?_
  exact own_areturn C X own_d6_25 rfl rfl rfl (Nat.le_of_ble_eq_true rfl) (Nat.le_of_ble_eq_true rfl) (⟨nb, rfl, gz_nb, KK, O, A_nb⟩)
theorem own_ef_rest44 (o : Addr) (m : MethodId) : entryFrame m #[(.ref o)] 2 = mkF m 0 #[.val (.ref o), .unset] [] := by first | (simp [entryFrame, mkF, argsToLocals, Value.category]; done) | rfl
set_option maxRecDepth 65536 in
set_option maxHeartbeats 40000000 in
theorem own_m_rest44 (l : Launch) (Z : State) (a0 : Array Value) (hw : ∀ d ∈ tables_1, d.before a0 Z = true) (o : Addr) (h0 : Heap) (n0 : Nat) (hn0 : n0 ≤ h0.size) (a : Addr) (b0 b1 b2 b3 b4 : Int32) (A : own_IA Z h0 a .byte [b0, b1, b2, b3, b4]) (E : Exa Z h0 a "[B") (O : own_Ob Z a0 h0 o "com/example/anchorline/anchorline/TlsReader" [("data", "[B", (.ref a)), ("pos", "I", (.int (4 : Int32))), ("limit", "I", (.int (4 : Int32)))]) (ne_o_a : o ≠ a) (ge_o : n0 ≤ o) : own_Met l Z n0 (⟨"com/example/anchorline/anchorline/TlsReader", "rest", "()[B"⟩ : MethodName) prog_32_method_8_code 2 (some (.array .byte)) [] ({ frames := 3, cells := 1, slots := 0, locals := 60 } : Room) #[(.ref o)] h0 (fun v h => ∃ b, v = some (.ref b) ∧ h0.size ≤ b ∧ Keep h0 h [o] ∧ own_Ob Z a0 h o "com/example/anchorline/anchorline/TlsReader" [("data", "[B", (.ref a)), ("pos", "I", (.int (4 : Int32))), ("limit", "I", (.int (4 : Int32)))] ∧ own_IA Z h b .byte []) := by
  refine own_body (plainFor_of_name own_pn_com_example_anchorline_anchorline_TlsReader) hn0 (own_ef_rest44 o) ?_
  intro p e s m below meth c T C X
  have KK := Keep.refl h0 [o]
  refine own_aloadN C X own_d6_0 rfl rfl (pc' := 1) rfl ?_
  refine own_getfield C X own_d6_1 (hw _ (List.mem_of_getElem? (i := 13) rfl)) O (i := 0) rfl (pc' := 4) rfl ?_
  intro T X
  refine own_aloadN C X own_d6_4 rfl rfl (pc' := 5) rfl ?_
  refine own_getfield C X own_d6_5 (hw _ (List.mem_of_getElem? (i := 15) rfl)) O (i := 1) rfl (pc' := 8) rfl ?_
  intro T X
  refine own_aloadN C X own_d6_8 rfl rfl (pc' := 9) rfl ?_
  refine own_getfield C X own_d6_9 (hw _ (List.mem_of_getElem? (i := 17) rfl)) O (i := 2) rfl (pc' := 12) rfl ?_
  intro T X
  have hbg := own_big C X
  refine own_callS C X own_d6_12 (own_m_cr44 l Z a0 hw a _ n0 hbg b0 b1 b2 b3 b4 A E) (hw _ (List.mem_of_getElem? (i := 41) rfl)) (hw _ (List.mem_of_getElem? (i := 42) rfl)) (hw _ (List.mem_of_getElem? (i := 43) rfl)) (hw _ (List.mem_of_getElem? (i := 44) rfl)) (by decide) own_pd_5734 rfl rfl (Nat.le_of_ble_eq_true rfl) (Nat.le_of_ble_eq_true rfl) (Nat.le_of_ble_eq_true rfl) (Nat.le_of_ble_eq_true rfl) (av := [(.ref a), (.int (4 : Int32)), (.int (4 : Int32))]) (S := []) rfl (pc' := 15) rfl ?_
  intro T h v X hQ
  obtain ⟨nb, rfl, gq_nb, K_, A_nb⟩ := hQ
  have ne_o_nb : o ≠ nb := Nat.ne_of_lt (Nat.lt_of_lt_of_le O.lt gq_nb)
  have ne_a_nb : a ≠ nb := Nat.ne_of_lt (Nat.lt_of_lt_of_le A.lt gq_nb)
  have ge_nb : n0 ≤ nb := Nat.le_trans hbg gq_nb
  have gz_nb : h0.size ≤ nb := Nat.le_trans KK.1 gq_nb
  have O := O.keep K_ nin0
  have A := A.keep K_ nin0
  have KK := KK.trans K_ all0
  show own_Go p e below n0 (own_Fin ({ frames := 3, cells := 1, slots := 0, locals := 60 } : Room) s (fun v h => ∃ b, v = some (.ref b) ∧ h0.size ≤ b ∧ Keep h0 h [o] ∧ own_Ob Z a0 h o "com/example/anchorline/anchorline/TlsReader" [("data", "[B", (.ref a)), ("pos", "I", (.int (4 : Int32))), ("limit", "I", (.int (4 : Int32)))] ∧ own_IA Z h b .byte [])) (T.setTop (mkF m 15 #[.val (.ref o), .unset] [(.ref nb)]))
  refine own_astoreN C X own_d6_15 rfl (L' := #[.val (.ref o), .val (.ref nb)]) rfl (pc' := 16) rfl ?_
  refine own_aloadN C X own_d6_16 rfl rfl (pc' := 17) rfl ?_
  refine own_aloadN C X own_d6_17 rfl rfl (pc' := 18) rfl ?_
  refine own_getfield C X own_d6_18 (hw _ (List.mem_of_getElem? (i := 17) rfl)) O (i := 2) rfl (pc' := 21) rfl ?_
  intro T X
  refine own_putfield C X own_d6_21 (hw _ (List.mem_of_getElem? (i := 15) rfl)) (Or.inl (hw _ (List.mem_of_getElem? (i := 16) rfl))) (hw _ (List.mem_of_getElem? (i := 2) rfl)) O (i := 1) rfl (ty := .int) (by decide) rfl rfl ge_o (pc' := 24) rfl ?_
  intro T h X K_ O_
  have O : own_Ob Z a0 h o "com/example/anchorline/anchorline/TlsReader" [("data", "[B", (.ref a)), ("pos", "I", (.int (4 : Int32))), ("limit", "I", (.int (4 : Int32)))] := O_
  have A := A.keep K_ (ninS (Ne.symm ne_o_a) nin0)
  have A_nb := A_nb.keep K_ (ninS (Ne.symm ne_o_nb) nin0)
  have KK := KK.trans K_ (allS (Or.inl (by simp)) all0)
  refine own_aloadN C X own_d6_24 rfl rfl (pc' := 25) rfl ?_
  exact own_areturn C X own_d6_25 rfl rfl rfl (Nat.le_of_ble_eq_true rfl) (Nat.le_of_ble_eq_true rfl) (⟨nb, rfl, gz_nb, KK, O, A_nb⟩)
theorem own_ef_rest45 (o : Addr) (m : MethodId) : entryFrame m #[(.ref o)] 2 = mkF m 0 #[.val (.ref o), .unset] [] := by first | (simp [entryFrame, mkF, argsToLocals, Value.category]; done) | rfl
set_option maxRecDepth 65536 in
set_option maxHeartbeats 40000000 in
theorem own_m_rest45 (l : Launch) (Z : State) (a0 : Array Value) (hw : ∀ d ∈ tables_1, d.before a0 Z = true) (o : Addr) (h0 : Heap) (n0 : Nat) (hn0 : n0 ≤ h0.size) (a : Addr) (b0 b1 b2 b3 b4 : Int32) (A : own_IA Z h0 a .byte [b0, b1, b2, b3, b4]) (E : Exa Z h0 a "[B") (O : own_Ob Z a0 h0 o "com/example/anchorline/anchorline/TlsReader" [("data", "[B", (.ref a)), ("pos", "I", (.int (4 : Int32))), ("limit", "I", (.int (5 : Int32)))]) (ne_o_a : o ≠ a) (ge_o : n0 ≤ o) : own_Met l Z n0 (⟨"com/example/anchorline/anchorline/TlsReader", "rest", "()[B"⟩ : MethodName) prog_32_method_8_code 2 (some (.array .byte)) [] ({ frames := 3, cells := 1, slots := 1, locals := 60 } : Room) #[(.ref o)] h0 (fun v h => ∃ b, v = some (.ref b) ∧ h0.size ≤ b ∧ Keep h0 h [o] ∧ own_Ob Z a0 h o "com/example/anchorline/anchorline/TlsReader" [("data", "[B", (.ref a)), ("pos", "I", (.int (5 : Int32))), ("limit", "I", (.int (5 : Int32)))] ∧ own_IA Z h b .byte [b4]) := by
  refine own_body (plainFor_of_name own_pn_com_example_anchorline_anchorline_TlsReader) hn0 (own_ef_rest45 o) ?_
  intro p e s m below meth c T C X
  have KK := Keep.refl h0 [o]
  refine own_aloadN C X own_d6_0 rfl rfl (pc' := 1) rfl ?_
  refine own_getfield C X own_d6_1 (hw _ (List.mem_of_getElem? (i := 13) rfl)) O (i := 0) rfl (pc' := 4) rfl ?_
  intro T X
  refine own_aloadN C X own_d6_4 rfl rfl (pc' := 5) rfl ?_
  refine own_getfield C X own_d6_5 (hw _ (List.mem_of_getElem? (i := 15) rfl)) O (i := 1) rfl (pc' := 8) rfl ?_
  intro T X
  refine own_aloadN C X own_d6_8 rfl rfl (pc' := 9) rfl ?_
  refine own_getfield C X own_d6_9 (hw _ (List.mem_of_getElem? (i := 17) rfl)) O (i := 2) rfl (pc' := 12) rfl ?_
  intro T X
  have hbg := own_big C X
  refine own_callS C X own_d6_12 (own_m_cr45 l Z a0 hw a _ n0 hbg b0 b1 b2 b3 b4 A E) (hw _ (List.mem_of_getElem? (i := 41) rfl)) (hw _ (List.mem_of_getElem? (i := 42) rfl)) (hw _ (List.mem_of_getElem? (i := 43) rfl)) (hw _ (List.mem_of_getElem? (i := 44) rfl)) (by decide) own_pd_5734 rfl rfl (Nat.le_of_ble_eq_true rfl) (Nat.le_of_ble_eq_true rfl) (Nat.le_of_ble_eq_true rfl) (Nat.le_of_ble_eq_true rfl) (av := [(.ref a), (.int (4 : Int32)), (.int (5 : Int32))]) (S := []) rfl (pc' := 15) rfl ?_
  intro T h v X hQ
  obtain ⟨nb, rfl, gq_nb, K_, A_nb⟩ := hQ
  have ne_o_nb : o ≠ nb := Nat.ne_of_lt (Nat.lt_of_lt_of_le O.lt gq_nb)
  have ne_a_nb : a ≠ nb := Nat.ne_of_lt (Nat.lt_of_lt_of_le A.lt gq_nb)
  have ge_nb : n0 ≤ nb := Nat.le_trans hbg gq_nb
  have gz_nb : h0.size ≤ nb := Nat.le_trans KK.1 gq_nb
  have O := O.keep K_ nin0
  have A := A.keep K_ nin0
  have KK := KK.trans K_ all0
  show own_Go p e below n0 (own_Fin ({ frames := 3, cells := 1, slots := 1, locals := 60 } : Room) s (fun v h => ∃ b, v = some (.ref b) ∧ h0.size ≤ b ∧ Keep h0 h [o] ∧ own_Ob Z a0 h o "com/example/anchorline/anchorline/TlsReader" [("data", "[B", (.ref a)), ("pos", "I", (.int (5 : Int32))), ("limit", "I", (.int (5 : Int32)))] ∧ own_IA Z h b .byte [b4])) (T.setTop (mkF m 15 #[.val (.ref o), .unset] [(.ref nb)]))
  refine own_astoreN C X own_d6_15 rfl (L' := #[.val (.ref o), .val (.ref nb)]) rfl (pc' := 16) rfl ?_
  refine own_aloadN C X own_d6_16 rfl rfl (pc' := 17) rfl ?_
  refine own_aloadN C X own_d6_17 rfl rfl (pc' := 18) rfl ?_
  refine own_getfield C X own_d6_18 (hw _ (List.mem_of_getElem? (i := 17) rfl)) O (i := 2) rfl (pc' := 21) rfl ?_
  intro T X
  refine own_putfield C X own_d6_21 (hw _ (List.mem_of_getElem? (i := 15) rfl)) (Or.inl (hw _ (List.mem_of_getElem? (i := 16) rfl))) (hw _ (List.mem_of_getElem? (i := 2) rfl)) O (i := 1) rfl (ty := .int) (by decide) rfl rfl ge_o (pc' := 24) rfl ?_
  intro T h X K_ O_
  have O : own_Ob Z a0 h o "com/example/anchorline/anchorline/TlsReader" [("data", "[B", (.ref a)), ("pos", "I", (.int (5 : Int32))), ("limit", "I", (.int (5 : Int32)))] := O_
  have A := A.keep K_ (ninS (Ne.symm ne_o_a) nin0)
  have A_nb := A_nb.keep K_ (ninS (Ne.symm ne_o_nb) nin0)
  have KK := KK.trans K_ (allS (Or.inl (by simp)) all0)
  refine own_aloadN C X own_d6_24 rfl rfl (pc' := 25) rfl ?_
  exact own_areturn C X own_d6_25 rfl rfl rfl (Nat.le_of_ble_eq_true rfl) (Nat.le_of_ble_eq_true rfl) (⟨nb, rfl, gz_nb, KK, O, A_nb⟩)
theorem own_ef_rest55 (o : Addr) (m : MethodId) : entryFrame m #[(.ref o)] 2 = mkF m 0 #[.val (.ref o), .unset] [] := by first | (simp [entryFrame, mkF, argsToLocals, Value.category]; done) | rfl
set_option maxRecDepth 65536 in
set_option maxHeartbeats 40000000 in
theorem own_m_rest55 (l : Launch) (Z : State) (a0 : Array Value) (hw : ∀ d ∈ tables_1, d.before a0 Z = true) (o : Addr) (h0 : Heap) (n0 : Nat) (hn0 : n0 ≤ h0.size) (a : Addr) (b0 b1 b2 b3 b4 : Int32) (A : own_IA Z h0 a .byte [b0, b1, b2, b3, b4]) (E : Exa Z h0 a "[B") (O : own_Ob Z a0 h0 o "com/example/anchorline/anchorline/TlsReader" [("data", "[B", (.ref a)), ("pos", "I", (.int (5 : Int32))), ("limit", "I", (.int (5 : Int32)))]) (ne_o_a : o ≠ a) (ge_o : n0 ≤ o) : own_Met l Z n0 (⟨"com/example/anchorline/anchorline/TlsReader", "rest", "()[B"⟩ : MethodName) prog_32_method_8_code 2 (some (.array .byte)) [] ({ frames := 3, cells := 1, slots := 0, locals := 60 } : Room) #[(.ref o)] h0 (fun v h => ∃ b, v = some (.ref b) ∧ h0.size ≤ b ∧ Keep h0 h [o] ∧ own_Ob Z a0 h o "com/example/anchorline/anchorline/TlsReader" [("data", "[B", (.ref a)), ("pos", "I", (.int (5 : Int32))), ("limit", "I", (.int (5 : Int32)))] ∧ own_IA Z h b .byte []) := by
  refine own_body (plainFor_of_name own_pn_com_example_anchorline_anchorline_TlsReader) hn0 (own_ef_rest55 o) ?_
  intro p e s m below meth c T C X
  have KK := Keep.refl h0 [o]
  refine own_aloadN C X own_d6_0 rfl rfl (pc' := 1) rfl ?_
  refine own_getfield C X own_d6_1 (hw _ (List.mem_of_getElem? (i := 13) rfl)) O (i := 0) rfl (pc' := 4) rfl ?_
  intro T X
  refine own_aloadN C X own_d6_4 rfl rfl (pc' := 5) rfl ?_
  refine own_getfield C X own_d6_5 (hw _ (List.mem_of_getElem? (i := 15) rfl)) O (i := 1) rfl (pc' := 8) rfl ?_
  intro T X
  refine own_aloadN C X own_d6_8 rfl rfl (pc' := 9) rfl ?_
  refine own_getfield C X own_d6_9 (hw _ (List.mem_of_getElem? (i := 17) rfl)) O (i := 2) rfl (pc' := 12) rfl ?_
  intro T X
  have hbg := own_big C X
  refine own_callS C X own_d6_12 (own_m_cr55 l Z a0 hw a _ n0 hbg b0 b1 b2 b3 b4 A E) (hw _ (List.mem_of_getElem? (i := 41) rfl)) (hw _ (List.mem_of_getElem? (i := 42) rfl)) (hw _ (List.mem_of_getElem? (i := 43) rfl)) (hw _ (List.mem_of_getElem? (i := 44) rfl)) (by decide) own_pd_5734 rfl rfl (Nat.le_of_ble_eq_true rfl) (Nat.le_of_ble_eq_true rfl) (Nat.le_of_ble_eq_true rfl) (Nat.le_of_ble_eq_true rfl) (av := [(.ref a), (.int (5 : Int32)), (.int (5 : Int32))]) (S := []) rfl (pc' := 15) rfl ?_
  intro T h v X hQ
  obtain ⟨nb, rfl, gq_nb, K_, A_nb⟩ := hQ
  have ne_o_nb : o ≠ nb := Nat.ne_of_lt (Nat.lt_of_lt_of_le O.lt gq_nb)
  have ne_a_nb : a ≠ nb := Nat.ne_of_lt (Nat.lt_of_lt_of_le A.lt gq_nb)
  have ge_nb : n0 ≤ nb := Nat.le_trans hbg gq_nb
  have gz_nb : h0.size ≤ nb := Nat.le_trans KK.1 gq_nb
  have O := O.keep K_ nin0
  have A := A.keep K_ nin0
  have KK := KK.trans K_ all0
  show own_Go p e below n0 (own_Fin ({ frames := 3, cells := 1, slots := 0, locals := 60 } : Room) s (fun v h => ∃ b, v = some (.ref b) ∧ h0.size ≤ b ∧ Keep h0 h [o] ∧ own_Ob Z a0 h o "com/example/anchorline/anchorline/TlsReader" [("data", "[B", (.ref a)), ("pos", "I", (.int (5 : Int32))), ("limit", "I", (.int (5 : Int32)))] ∧ own_IA Z h b .byte [])) (T.setTop (mkF m 15 #[.val (.ref o), .unset] [(.ref nb)]))
  refine own_astoreN C X own_d6_15 rfl (L' := #[.val (.ref o), .val (.ref nb)]) rfl (pc' := 16) rfl ?_
  refine own_aloadN C X own_d6_16 rfl rfl (pc' := 17) rfl ?_
  refine own_aloadN C X own_d6_17 rfl rfl (pc' := 18) rfl ?_
  refine own_getfield C X own_d6_18 (hw _ (List.mem_of_getElem? (i := 17) rfl)) O (i := 2) rfl (pc' := 21) rfl ?_
  intro T X
  refine own_putfield C X own_d6_21 (hw _ (List.mem_of_getElem? (i := 15) rfl)) (Or.inl (hw _ (List.mem_of_getElem? (i := 16) rfl))) (hw _ (List.mem_of_getElem? (i := 2) rfl)) O (i := 1) rfl (ty := .int) (by decide) rfl rfl ge_o (pc' := 24) rfl ?_
  intro T h X K_ O_
  have O : own_Ob Z a0 h o "com/example/anchorline/anchorline/TlsReader" [("data", "[B", (.ref a)), ("pos", "I", (.int (5 : Int32))), ("limit", "I", (.int (5 : Int32)))] := O_
  have A := A.keep K_ (ninS (Ne.symm ne_o_a) nin0)
  have A_nb := A_nb.keep K_ (ninS (Ne.symm ne_o_nb) nin0)
  have KK := KK.trans K_ (allS (Or.inl (by simp)) all0)
  refine own_aloadN C X own_d6_24 rfl rfl (pc' := 25) rfl ?_
  exact own_areturn C X own_d6_25 rfl rfl rfl (Nat.le_of_ble_eq_true rfl) (Nat.le_of_ble_eq_true rfl) (⟨nb, rfl, gz_nb, KK, O, A_nb⟩)
theorem own_ef_rest05 (o : Addr) (m : MethodId) : entryFrame m #[(.ref o)] 2 = mkF m 0 #[.val (.ref o), .unset] [] := by first | (simp [entryFrame, mkF, argsToLocals, Value.category]; done) | rfl
set_option maxRecDepth 65536 in
set_option maxHeartbeats 40000000 in
theorem own_m_rest05 (l : Launch) (Z : State) (a0 : Array Value) (hw : ∀ d ∈ tables_1, d.before a0 Z = true) (o : Addr) (h0 : Heap) (n0 : Nat) (hn0 : n0 ≤ h0.size) (a : Addr) (b0 b1 b2 b3 b4 : Int32) (A : own_IA Z h0 a .byte [b0, b1, b2, b3, b4]) (E : Exa Z h0 a "[B") (O : own_Ob Z a0 h0 o "com/example/anchorline/anchorline/TlsReader" [("data", "[B", (.ref a)), ("pos", "I", (.int (0 : Int32))), ("limit", "I", (.int (5 : Int32)))]) (ne_o_a : o ≠ a) (ge_o : n0 ≤ o) : own_Met l Z n0 (⟨"com/example/anchorline/anchorline/TlsReader", "rest", "()[B"⟩ : MethodName) prog_32_method_8_code 2 (some (.array .byte)) [] ({ frames := 3, cells := 1, slots := 5, locals := 60 } : Room) #[(.ref o)] h0 (fun v h => ∃ b, v = some (.ref b) ∧ h0.size ≤ b ∧ Keep h0 h [o] ∧ own_Ob Z a0 h o "com/example/anchorline/anchorline/TlsReader" [("data", "[B", (.ref a)), ("pos", "I", (.int (5 : Int32))), ("limit", "I", (.int (5 : Int32)))] ∧ own_IA Z h b .byte [b0, b1, b2, b3, b4]) := by
  refine own_body (plainFor_of_name own_pn_com_example_anchorline_anchorline_TlsReader) hn0 (own_ef_rest05 o) ?_
  intro p e s m below meth c T C X
  have KK := Keep.refl h0 [o]
  refine own_aloadN C X own_d6_0 rfl rfl (pc' := 1) rfl ?_
  refine own_getfield C X own_d6_1 (hw _ (List.mem_of_getElem? (i := 13) rfl)) O (i := 0) rfl (pc' := 4) rfl ?_
  intro T X
  refine own_aloadN C X own_d6_4 rfl rfl (pc' := 5) rfl ?_
  refine own_getfield C X own_d6_5 (hw _ (List.mem_of_getElem? (i := 15) rfl)) O (i := 1) rfl (pc' := 8) rfl ?_
  intro T X
  refine own_aloadN C X own_d6_8 rfl rfl (pc' := 9) rfl ?_
  refine own_getfield C X own_d6_9 (hw _ (List.mem_of_getElem? (i := 17) rfl)) O (i := 2) rfl (pc' := 12) rfl ?_
  intro T X
  have hbg := own_big C X
  refine own_callS C X own_d6_12 (own_m_cr05 l Z a0 hw a _ n0 hbg b0 b1 b2 b3 b4 A E) (hw _ (List.mem_of_getElem? (i := 41) rfl)) (hw _ (List.mem_of_getElem? (i := 42) rfl)) (hw _ (List.mem_of_getElem? (i := 43) rfl)) (hw _ (List.mem_of_getElem? (i := 44) rfl)) (by decide) own_pd_5734 rfl rfl (Nat.le_of_ble_eq_true rfl) (Nat.le_of_ble_eq_true rfl) (Nat.le_of_ble_eq_true rfl) (Nat.le_of_ble_eq_true rfl) (av := [(.ref a), (.int (0 : Int32)), (.int (5 : Int32))]) (S := []) rfl (pc' := 15) rfl ?_
  intro T h v X hQ
  obtain ⟨nb, rfl, gq_nb, K_, A_nb⟩ := hQ
  have ne_o_nb : o ≠ nb := Nat.ne_of_lt (Nat.lt_of_lt_of_le O.lt gq_nb)
  have ne_a_nb : a ≠ nb := Nat.ne_of_lt (Nat.lt_of_lt_of_le A.lt gq_nb)
  have ge_nb : n0 ≤ nb := Nat.le_trans hbg gq_nb
  have gz_nb : h0.size ≤ nb := Nat.le_trans KK.1 gq_nb
  have O := O.keep K_ nin0
  have A := A.keep K_ nin0
  have KK := KK.trans K_ all0
  show own_Go p e below n0 (own_Fin ({ frames := 3, cells := 1, slots := 5, locals := 60 } : Room) s (fun v h => ∃ b, v = some (.ref b) ∧ h0.size ≤ b ∧ Keep h0 h [o] ∧ own_Ob Z a0 h o "com/example/anchorline/anchorline/TlsReader" [("data", "[B", (.ref a)), ("pos", "I", (.int (5 : Int32))), ("limit", "I", (.int (5 : Int32)))] ∧ own_IA Z h b .byte [b0, b1, b2, b3, b4])) (T.setTop (mkF m 15 #[.val (.ref o), .unset] [(.ref nb)]))
  refine own_astoreN C X own_d6_15 rfl (L' := #[.val (.ref o), .val (.ref nb)]) rfl (pc' := 16) rfl ?_
  refine own_aloadN C X own_d6_16 rfl rfl (pc' := 17) rfl ?_
  refine own_aloadN C X own_d6_17 rfl rfl (pc' := 18) rfl ?_
  refine own_getfield C X own_d6_18 (hw _ (List.mem_of_getElem? (i := 17) rfl)) O (i := 2) rfl (pc' := 21) rfl ?_
  intro T X
  refine own_putfield C X own_d6_21 (hw _ (List.mem_of_getElem? (i := 15) rfl)) (Or.inl (hw _ (List.mem_of_getElem? (i := 16) rfl))) (hw _ (List.mem_of_getElem? (i := 2) rfl)) O (i := 1) rfl (ty := .int) (by decide) rfl rfl ge_o (pc' := 24) rfl ?_
  intro T h X K_ O_
  have O : own_Ob Z a0 h o "com/example/anchorline/anchorline/TlsReader" [("data", "[B", (.ref a)), ("pos", "I", (.int (5 : Int32))), ("limit", "I", (.int (5 : Int32)))] := O_
  have A := A.keep K_ (ninS (Ne.symm ne_o_a) nin0)
  have A_nb := A_nb.keep K_ (ninS (Ne.symm ne_o_nb) nin0)
  have KK := KK.trans K_ (allS (Or.inl (by simp)) all0)
  refine own_aloadN C X own_d6_24 rfl rfl (pc' := 25) rfl ?_
  exact own_areturn C X own_d6_25 rfl rfl rfl (Nat.le_of_ble_eq_true rfl) (Nat.le_of_ble_eq_true rfl) (⟨nb, rfl, gz_nb, KK, O, A_nb⟩)
theorem own_pn_com_example_anchorline_anchorline_TlsReaderRestPinLaw : plainName "com/example/anchorline/anchorline/TlsReaderRestPinLaw" = true := by first | (simp [plainName, overriddenIn]; done) | decide +kernel
theorem own_ef_sameN (a : Addr) (b : Addr) (s_ : Int32) (i : Int32) (m : MethodId) : entryFrame m #[(.ref a), (.ref b), (.int s_), (.int i)] 4 = mkF m 0 #[.val (.ref a), .val (.ref b), .val (.int s_), .val (.int i)] [] := by first | (simp [entryFrame, mkF, argsToLocals, Value.category]; done) | rfl
theorem own_d11_0 : decode method_3_code 0 = .ok (.iload_n 3, 1) := by decide +kernel
theorem own_d11_1 : decode method_3_code 1 = .ok (.aload_n 0, 1) := by decide +kernel
theorem own_d11_2 : decode method_3_code 2 = .ok (.arraylength, 1) := by decide +kernel
theorem own_d11_3 : decode method_3_code 3 = .ok (.if_icmp .lt 5, 3) := by decide +kernel
theorem own_d11_6 : decode method_3_code 6 = .ok (.iconst 1, 1) := by decide +kernel
theorem own_d11_7 : decode method_3_code 7 = .ok (.ireturn, 1) := by decide +kernel
set_option maxRecDepth 65536 in
set_option maxHeartbeats 40000000 in
theorem own_m_sameN (l : Launch) (Z : State) (a0 : Array Value) (hw : ∀ d ∈ tables_1, d.before a0 Z = true) (a : Addr) (b : Addr) (s_ : Int32) (i : Int32) (h0 : Heap) (n0 : Nat) (hn0 : n0 ≤ h0.size) (xs ys : List Int32) (n : Int32) (hn : n.toInt = (xs.length : Int)) (A : own_IA Z h0 a .byte xs) (B : own_IA Z h0 b .byte ys) (q : ¬ i < n) : own_Met l Z n0 (⟨"com/example/anchorline/anchorline/TlsReaderRestPinLaw", "same", "([B[BII)Z"⟩ : MethodName) method_3_code 4 (some .boolean) [] ({ frames := 0, cells := 0, slots := 0, locals := 0 } : Room) #[(.ref a), (.ref b), (.int s_), (.int i)] h0 (fun v h => v = some (.int 1) ∧ h0 = h) := by
  refine own_body (plainFor_of_name own_pn_com_example_anchorline_anchorline_TlsReaderRestPinLaw) hn0 (own_ef_sameN a b s_ i) ?_
  intro p e s m below meth c T C X
  refine own_iloadN C X own_d11_0 rfl (pc' := 1) rfl ?_
  refine own_aloadN C X own_d11_1 rfl rfl (pc' := 2) rfl ?_
  refine own_alenI C X own_d11_2 (n := n) A hn (pc' := 3) rfl ?_
  refine own_icmp_lt C X own_d11_3 (pcT := 8) (pc' := 6) (by decide) (by decide) rfl (fun hc3 => absurd hc3 (q)) (fun hc3 => ?_)
  refine own_iconst C X own_d11_6 (v := 1) (by decide) (pc' := 7) rfl ?_
  exact own_ireturn_z C X own_d11_7 (Nat.le_of_ble_eq_true rfl) (Nat.le_of_ble_eq_true rfl) (⟨rfl, rfl⟩)
theorem own_ef_sameY (a : Addr) (b : Addr) (s_ : Int32) (i : Int32) (m : MethodId) : entryFrame m #[(.ref a), (.ref b), (.int s_), (.int i)] 4 = mkF m 0 #[.val (.ref a), .val (.ref b), .val (.int s_), .val (.int i)] [] := by first | (simp [entryFrame, mkF, argsToLocals, Value.category]; done) | rfl
theorem own_d11_8 : decode method_3_code 8 = .ok (.aload_n 0, 1) := by decide +kernel
theorem own_d11_9 : decode method_3_code 9 = .ok (.iload_n 3, 1) := by decide +kernel
theorem own_d11_10 : decode method_3_code 10 = .ok (.baload, 1) := by decide +kernel
theorem own_d11_11 : decode method_3_code 11 = .ok (.aload_n 1, 1) := by decide +kernel
theorem own_d11_12 : decode method_3_code 12 = .ok (.iload_n 2, 1) := by decide +kernel
theorem own_d11_13 : decode method_3_code 13 = .ok (.iload_n 3, 1) := by decide +kernel
theorem own_d11_14 : decode method_3_code 14 = .ok (.iadd, 1) := by decide +kernel
theorem own_d11_15 : decode method_3_code 15 = .ok (.baload, 1) := by decide +kernel
theorem own_d11_16 : decode method_3_code 16 = .ok (.if_icmp .ne 7, 3) := by decide +kernel
theorem own_d11_19 : decode method_3_code 19 = .ok (.iconst 1, 1) := by decide +kernel
theorem own_d11_20 : decode method_3_code 20 = .ok (.goto 4, 3) := by decide +kernel
theorem own_d11_24 : decode method_3_code 24 = .ok (.ireturn, 1) := by decide +kernel
set_option maxRecDepth 65536 in
set_option maxHeartbeats 40000000 in
theorem own_m_sameY (l : Launch) (Z : State) (a0 : Array Value) (hw : ∀ d ∈ tables_1, d.before a0 Z = true) (a : Addr) (b : Addr) (s_ : Int32) (i : Int32) (h0 : Heap) (n0 : Nat) (hn0 : n0 ≤ h0.size) (xs ys : List Int32) (n : Int32) (hn : n.toInt = (xs.length : Int)) (A : own_IA Z h0 a .byte xs) (B : own_IA Z h0 b .byte ys) (q : i < n) (k j : Nat) (u : Int32) (hi : i.toInt = (k : Int)) (hj : (s_ + i).toInt = (j : Int)) (hu : xs[k]? = some u) (hv : ys[j]? = some u) : own_Met l Z n0 (⟨"com/example/anchorline/anchorline/TlsReaderRestPinLaw", "same", "([B[BII)Z"⟩ : MethodName) method_3_code 4 (some .boolean) [] ({ frames := 0, cells := 0, slots := 0, locals := 0 } : Room) #[(.ref a), (.ref b), (.int s_), (.int i)] h0 (fun v h => v = some (.int 1) ∧ h0 = h) := by
  refine own_body (plainFor_of_name own_pn_com_example_anchorline_anchorline_TlsReaderRestPinLaw) hn0 (own_ef_sameY a b s_ i) ?_
  intro p e s m below meth c T C X
  refine own_iloadN C X own_d11_0 rfl (pc' := 1) rfl ?_
  refine own_aloadN C X own_d11_1 rfl rfl (pc' := 2) rfl ?_
  refine own_alenI C X own_d11_2 (n := n) A hn (pc' := 3) rfl ?_
  refine own_icmp_lt C X own_d11_3 (pcT := 8) (pc' := 6) (by decide) (by decide) rfl (fun hc3 => ?_) (fun hc3 => absurd hc3 (not_not_intro q))
  refine own_aloadN C X own_d11_8 rfl rfl (pc' := 9) rfl ?_
  refine own_iloadN C X own_d11_9 rfl (pc' := 10) rfl ?_
  refine own_baload C X own_d11_10 A hi (i := k) hu (pc' := 11) rfl ?_
  refine own_aloadN C X own_d11_11 rfl rfl (pc' := 12) rfl ?_
  refine own_iloadN C X own_d11_12 rfl (pc' := 13) rfl ?_
  refine own_iloadN C X own_d11_13 rfl (pc' := 14) rfl ?_
  refine own_iadd C X own_d11_14 rfl (pc' := 15) rfl ?_
  refine own_baload C X own_d11_15 B hj (i := j) hv (pc' := 16) rfl ?_
  refine own_icmp_ne C X own_d11_16 (pcT := 23) (pc' := 19) (by decide) (by decide) rfl (fun hc16 => absurd hc16 (not_not_intro rfl)) (fun hc16 => ?_)
  refine own_iconst C X own_d11_19 (v := 1) (by decide) (pc' := 20) rfl ?_
  refine own_goto C X own_d11_20 (pc' := 24) (by decide) (by decide) ?_
  exact own_ireturn_z C X own_d11_24 (Nat.le_of_ble_eq_true rfl) (Nat.le_of_ble_eq_true rfl) (⟨rfl, rfl⟩)
theorem own_ef_law (i0 : Int32) (i1 : Int32) (i2 : Int32) (i3 : Int32) (m : MethodId) : entryFrame m #[(.int i0), (.int i1), (.int i2), (.int i3)] maxLocals = mkF m 0 #[.val (.int i0), .val (.int i1), .val (.int i2), .val (.int i3), .unset, .unset, .unset, .unset, .unset, .unset, .unset, .unset, .unset] [] := by first | (simp [entryFrame, mkF, argsToLocals, Value.category, maxLocals]; done) | rfl
theorem own_pd_2958 : parseMethodDescriptor "([B)V" = some ⟨[(.array .byte)], none⟩ := by decide +kernel
theorem own_pd_34082 : parseMethodDescriptor "(ILjava/lang/String;)V" = some ⟨[.int, (.object "java/lang/String")], none⟩ := by decide +kernel
theorem own_pd_2087 : parseMethodDescriptor "()[B" = some ⟨[], some (.array .byte)⟩ := by decide +kernel
theorem own_pd_6987 : parseMethodDescriptor "([B[BII)Z" = some ⟨[(.array .byte), (.array .byte), .int, .int], some .boolean⟩ := by decide +kernel
theorem own_pd_1418 : parseMethodDescriptor "()Z" = some ⟨[], some .boolean⟩ := by decide +kernel
theorem own_pd_251861 : parseMethodDescriptor "(ILjava/lang/String;)Lcom/example/anchorline/anchorline/TlsReader;" = some ⟨[.int, (.object "java/lang/String")], some (.object "com/example/anchorline/anchorline/TlsReader")⟩ := by decide +kernel
set_option maxRecDepth 65536 in
set_option maxHeartbeats 40000000 in
theorem own_m_law (l : Launch) (Z : State) (a0 : Array Value) (hw : ∀ d ∈ tables_1, d.before a0 Z = true) (ws : List Jvm.Cond) (i0 : Int32) (i1 : Int32) (i2 : Int32) (i3 : Int32) (h0 : Heap) (n0 : Nat) (hn0 : n0 ≤ h0.size)  : own_MetW l Z n0 x code maxLocals ret ws room_1 #[(.int i0), (.int i1), (.int i2), (.int i3)] h0 (fun v h => v = some (.int 1)) := by
  refine own_bodyW (plainFor_of_name own_pn_com_example_anchorline_anchorline_TlsReaderRestPinLaw) hn0 (own_ef_law i0 i1 i2 i3) ?_
  intro p e s m below meth c T vm C X hS
  have hSk : h0.size ≤ h0.size := Nat.le_refl _
  refine own_iconst C X at_0 (v := 5) (by decide) (pc' := 1) rfl ?_
  refine own_newIE C X at_1 (ty := .byte) rfl (hw _ (List.mem_of_getElem? (i := 0) rfl)) (by decide) (k := 5) (cap := 5) (Nat.le_of_ble_eq_true rfl) (by decide) (Nat.le_of_ble_eq_true rfl) (Nat.le_of_ble_eq_true rfl) rfl rfl (ad := "[B") (by decide) (pc' := 3) rfl ?_
  intro T h da e_da X K_ ge_da A_da_ E_da
  have A_da : own_IA Z h da .byte [(0 : Int32), (0 : Int32), (0 : Int32), (0 : Int32), (0 : Int32)] := A_da_
  have hSk := Nat.le_trans hSk K_.1
  refine own_astore C X at_3 rfl (L' := #[.val (.int i0), .val (.int i1), .val (.int i2), .val (.int i3), .val (.ref da), .unset, .unset, .unset, .unset, .unset, .unset, .unset, .unset]) rfl (pc' := 5) rfl ?_
  refine own_aload C X at_5 rfl rfl (pc' := 7) rfl ?_
  refine own_iconst C X at_7 (v := 0) (by decide) (pc' := 8) rfl ?_
  refine own_iloadN C X at_8 rfl (pc' := 9) rfl ?_
  refine own_bipush C X at_9 (v := 24) (by decide) (pc' := 11) rfl ?_
  refine own_iushr C X at_11 rfl (pc' := 12) rfl ?_
  obtain ⟨t0, e_t0⟩ : ∃ z : Int32, ((i0.toUInt32 >>> ((24 : Int32) &&& 31).toUInt32).toInt32).toInt8.toInt32 = z := ⟨_, rfl⟩
  refine own_i2b C X at_12 e_t0 (pc' := 13) rfl ?_
  refine own_bastore C X at_13 A_da (by decide) (i := 0) (Nat.le_of_ble_eq_true rfl) (own_i2bn e_t0) ge_da (pc' := 14) rfl ?_
  intro T h X K_ A_da_
  have A_da : own_IA Z h da .byte [t0, (0 : Int32), (0 : Int32), (0 : Int32), (0 : Int32)] := A_da_
  have E_da := E_da.keep K_
  have hSk := Nat.le_trans hSk K_.1
  refine own_aload C X at_14 rfl rfl (pc' := 16) rfl ?_
  refine own_iconst C X at_16 (v := 1) (by decide) (pc' := 17) rfl ?_
  refine own_iloadN C X at_17 rfl (pc' := 18) rfl ?_
  refine own_bipush C X at_18 (v := 16) (by decide) (pc' := 20) rfl ?_
  refine own_iushr C X at_20 rfl (pc' := 21) rfl ?_
  obtain ⟨t1, e_t1⟩ : ∃ z : Int32, ((i0.toUInt32 >>> ((16 : Int32) &&& 31).toUInt32).toInt32).toInt8.toInt32 = z := ⟨_, rfl⟩
  refine own_i2b C X at_21 e_t1 (pc' := 22) rfl ?_
  refine own_bastore C X at_22 A_da (by decide) (i := 1) (Nat.le_of_ble_eq_true rfl) (own_i2bn e_t1) ge_da (pc' := 23) rfl ?_
  intro T h X K_ A_da_
  have A_da : own_IA Z h da .byte [t0, t1, (0 : Int32), (0 : Int32), (0 : Int32)] := A_da_
  have E_da := E_da.keep K_
  have hSk := Nat.le_trans hSk K_.1
  refine own_aload C X at_23 rfl rfl (pc' := 25) rfl ?_
  refine own_iconst C X at_25 (v := 2) (by decide) (pc' := 26) rfl ?_
  refine own_iloadN C X at_26 rfl (pc' := 27) rfl ?_
  refine own_bipush C X at_27 (v := 8) (by decide) (pc' := 29) rfl ?_
  refine own_iushr C X at_29 rfl (pc' := 30) rfl ?_
  obtain ⟨t2, e_t2⟩ : ∃ z : Int32, ((i0.toUInt32 >>> ((8 : Int32) &&& 31).toUInt32).toInt32).toInt8.toInt32 = z := ⟨_, rfl⟩
  refine own_i2b C X at_30 e_t2 (pc' := 31) rfl ?_
  refine own_bastore C X at_31 A_da (by decide) (i := 2) (Nat.le_of_ble_eq_true rfl) (own_i2bn e_t2) ge_da (pc' := 32) rfl ?_
  intro T h X K_ A_da_
  have A_da : own_IA Z h da .byte [t0, t1, t2, (0 : Int32), (0 : Int32)] := A_da_
  have E_da := E_da.keep K_
  have hSk := Nat.le_trans hSk K_.1
  refine own_aload C X at_32 rfl rfl (pc' := 34) rfl ?_
  refine own_iconst C X at_34 (v := 3) (by decide) (pc' := 35) rfl ?_
  refine own_iloadN C X at_35 rfl (pc' := 36) rfl ?_
  obtain ⟨t3, e_t3⟩ : ∃ z : Int32, i0.toInt8.toInt32 = z := ⟨_, rfl⟩
  refine own_i2b C X at_36 e_t3 (pc' := 37) rfl ?_
  refine own_bastore C X at_37 A_da (by decide) (i := 3) (Nat.le_of_ble_eq_true rfl) (own_i2bn e_t3) ge_da (pc' := 38) rfl ?_
  intro T h X K_ A_da_
  have A_da : own_IA Z h da .byte [t0, t1, t2, t3, (0 : Int32)] := A_da_
  have E_da := E_da.keep K_
  have hSk := Nat.le_trans hSk K_.1
  refine own_aload C X at_38 rfl rfl (pc' := 40) rfl ?_
  refine own_iconst C X at_40 (v := 4) (by decide) (pc' := 41) rfl ?_
  refine own_iloadN C X at_41 rfl (pc' := 42) rfl ?_
  obtain ⟨t4, e_t4⟩ : ∃ z : Int32, i1.toInt8.toInt32 = z := ⟨_, rfl⟩
  refine own_i2b C X at_42 e_t4 (pc' := 43) rfl ?_
  refine own_bastore C X at_43 A_da (by decide) (i := 4) (Nat.le_of_ble_eq_true rfl) (own_i2bn e_t4) ge_da (pc' := 44) rfl ?_
  intro T h X K_ A_da_
  have A_da : own_IA Z h da .byte [t0, t1, t2, t3, t4] := A_da_
  have E_da := E_da.keep K_
  have hSk := Nat.le_trans hSk K_.1
  refine own_iloadN C X at_44 rfl (pc' := 45) rfl ?_
  refine own_iconst C X at_45 (v := 1) (by decide) (pc' := 46) rfl ?_
  refine own_iand C X at_46 rfl (pc' := 47) rfl ?_
  refine own_if_eq C X at_47 (pcT := 54) (pc' := 50) (by decide) (by decide) rfl (fun hc47 => ?_) (fun hc47 => ?_)
  · refine own_iconst C X at_54 (v := 0) (by decide) (pc' := 55) rfl ?_
    refine own_istore C X at_55 (L' := #[.val (.int i0), .val (.int i1), .val (.int i2), .val (.int i3), .val (.ref da), .val (.int (0 : Int32)), .unset, .unset, .unset, .unset, .unset, .unset, .unset]) rfl (pc' := 57) rfl ?_
    refine own_iconst C X at_57 (v := 0) (by decide) (pc' := 58) rfl ?_
    refine own_istore C X at_58 (L' := #[.val (.int i0), .val (.int i1), .val (.int i2), .val (.int i3), .val (.ref da), .val (.int (0 : Int32)), .val (.int (0 : Int32)), .unset, .unset, .unset, .unset, .unset, .unset]) rfl (pc' := 60) rfl ?_
    refine own_iconst C X at_60 (v := 5) (by decide) (pc' := 61) rfl ?_
    refine own_istore C X at_61 (L' := #[.val (.int i0), .val (.int i1), .val (.int i2), .val (.int i3), .val (.ref da), .val (.int (0 : Int32)), .val (.int (0 : Int32)), .val (.int (5 : Int32)), .unset, .unset, .unset, .unset, .unset]) rfl (pc' := 63) rfl ?_
    refine own_new C X at_63 (hw _ (List.mem_of_getElem? (i := 1) rfl)) (hw _ (List.mem_of_getElem? (i := 2) rfl)) (hw _ (List.mem_of_getElem? (i := 3) rfl)) (Nat.le_of_ble_eq_true rfl) (Nat.le_of_ble_eq_true rfl) [("data", "[B", .null), ("pos", "I", (.int (0 : Int32))), ("limit", "I", (.int (0 : Int32)))] (by decide) ?_ (pc' := 66) rfl ?_
    · intro f hf; simp only [List.mem_cons, List.not_mem_nil, or_false] at hf
      rcases hf with rfl | rfl | rfl
      · exact ⟨(Or.inr (hw _ (List.mem_of_getElem? (i := 14) rfl))), (.array .byte), by decide, rfl⟩
      · exact ⟨(Or.inl (hw _ (List.mem_of_getElem? (i := 16) rfl))), .int, by decide, rfl⟩
      · exact ⟨(Or.inr (hw _ (List.mem_of_getElem? (i := 18) rfl))), .int, by decide, rfl⟩
    intro T h rd e_rd X K_ ge_rd O_rd
    have ne_da_rd : da ≠ rd := by rw [e_rd]; exact Nat.ne_of_lt A_da.lt
    have A_da := A_da.keep K_ nin0
    have E_da := E_da.keep K_
    have hSk := Nat.le_trans hSk K_.1
    refine own_dup C X at_66 rfl (pc' := 67) rfl ?_
    refine own_aload C X at_67 rfl rfl (pc' := 69) rfl ?_
    refine own_callInit C X at_69 (own_m_ini1 l Z a0 hw rd da _ n0 (own_big C X) [t0, t1, t2, t3, t4] (5 : Int32) rfl O_rd A_da (Ne.symm ne_da_rd) ge_rd) rfl (hw _ (List.mem_of_getElem? (i := 4) rfl)) (hw _ (List.mem_of_getElem? (i := 5) rfl)) (hw _ (List.mem_of_getElem? (i := 3) rfl)) (hw _ (List.mem_of_getElem? (i := 6) rfl)) (by decide) own_pd_2958 rfl rfl (Nat.le_of_ble_eq_true rfl) (Nat.le_of_ble_eq_true rfl) (Nat.le_of_ble_eq_true rfl) (Nat.le_of_ble_eq_true rfl) (av := [(.ref da)]) (S := [(.ref rd)]) rfl (pc' := 72) rfl ?_
    intro T h v X hQ
    obtain ⟨rfl, K_, O_rd⟩ := hQ
    have A_da := A_da.keep K_ (ninS ne_da_rd nin0)
    have E_da := E_da.keep K_
    have hSk := Nat.le_trans hSk K_.1
    show own_Go p e below n0 (own_FinW room_1 s (fun v h => v = some (.int 1))) (T.setTop (mkF m 72 #[.val (.int i0), .val (.int i1), .val (.int i2), .val (.int i3), .val (.ref da), .val (.int (0 : Int32)), .val (.int (0 : Int32)), .val (.int (5 : Int32)), .unset, .unset, .unset, .unset, .unset] [(.ref rd)]))
    refine own_astore C X at_72 rfl (L' := #[.val (.int i0), .val (.int i1), .val (.int i2), .val (.int i3), .val (.ref da), .val (.int (0 : Int32)), .val (.int (0 : Int32)), .val (.int (5 : Int32)), .val (.ref rd), .unset, .unset, .unset, .unset]) rfl (pc' := 74) rfl ?_
    refine own_iload C X at_74 rfl (pc' := 76) rfl ?_
    refine own_if_eq C X at_76 (pcT := 115) (pc' := 79) (by decide) (by decide) rfl (fun hc76 => ?_) (fun hc76 => absurd hc76 (by decide))
    refine own_iloadN C X at_115 rfl (pc' := 116) rfl ?_
    refine own_ldcI C X at_116 (hw _ (List.mem_of_getElem? (i := 19) rfl)) (pc' := 118) rfl ?_
    refine own_iand C X at_118 rfl (pc' := 119) rfl ?_
    refine own_iload C X at_119 rfl (pc' := 121) rfl ?_
    refine own_iload C X at_121 rfl (pc' := 123) rfl ?_
    refine own_isub C X at_123 (z := 5) (by decide) (pc' := 124) rfl ?_
    refine own_iconst C X at_124 (v := 1) (by decide) (pc' := 125) rfl ?_
    refine own_iadd C X at_125 (z := 6) (by decide) (pc' := 126) rfl ?_
    obtain ⟨kk, e_kk⟩ : ∃ z : Int32, ((i3 &&& (2147483647 : Int32)) % (6 : Int32)) = z := ⟨_, rfl⟩
    refine own_irem C X at_126 (by decide) e_kk (pc' := 127) rfl ?_
    rcases own_md6 _ kk e_kk with rfl | rfl | rfl | rfl | rfl | rfl
    · refine own_istore C X at_127 (L' := #[.val (.int i0), .val (.int i1), .val (.int i2), .val (.int i3), .val (.ref da), .val (.int (0 : Int32)), .val (.int (0 : Int32)), .val (.int (5 : Int32)), .val (.ref rd), .val (.int (0 : Int32)), .unset, .unset, .unset]) rfl (pc' := 129) rfl ?_
      refine own_aload C X at_129 rfl rfl (pc' := 131) rfl ?_
      refine own_iload C X at_131 rfl (pc' := 133) rfl ?_
      refine own_ldcS C X hS hSk at_133 (hw _ (List.mem_of_getElem? (i := 20) rfl)) (own_strW hw) (n := 1024) (by decide) (by decide) (Nat.le_of_ble_eq_true rfl) (Nat.le_of_ble_eq_true rfl) (pc' := 135) rfl ?_
      intro T h ss vm k_ C X K_ hS hSk_
      have A_da := A_da.keep K_ nin0
      have E_da := E_da.keep K_
      have O_rd := O_rd.keep K_ nin0
      have hSk := Nat.le_trans hSk K_.1
      have hSk := hSk_
      refine own_callV C X at_135 (own_m_skip l Z a0 hw rd (0 : Int32) ss _ n0 (own_big C X) da (0 : Int32) (5 : Int32) (0 : Int32) (by decide) (by decide) O_rd ge_rd) O_rd.1 (hw _ (List.mem_of_getElem? (i := 27) rfl)) (hw _ (List.mem_of_getElem? (i := 28) rfl)) (hw _ (List.mem_of_getElem? (i := 30) rfl)) (hw _ (List.mem_of_getElem? (i := 29) rfl)) (hw _ (List.mem_of_getElem? (i := 3) rfl)) (hw _ (List.mem_of_getElem? (i := 31) rfl)) (by decide) own_pd_34082 rfl rfl (Nat.le_of_ble_eq_true rfl) (Nat.le_of_ble_eq_true rfl) (Nat.le_of_ble_eq_true rfl) (Nat.le_of_ble_eq_true rfl) (av := [(.int (0 : Int32)), (.ref ss)]) (S := []) rfl (pc' := 138) rfl ?_
      intro T h v X hQ
      obtain ⟨rfl, K_, O_rd⟩ := hQ
      have A_da := A_da.keep K_ (ninS ne_da_rd nin0)
      have E_da := E_da.keep K_
      have hSk := Nat.le_trans hSk K_.1
      show own_Go p e below n0 (own_FinW room_1 s (fun v h => v = some (.int 1))) (T.setTop (mkF m 138 #[.val (.int i0), .val (.int i1), .val (.int i2), .val (.int i3), .val (.ref da), .val (.int (0 : Int32)), .val (.int (0 : Int32)), .val (.int (5 : Int32)), .val (.ref rd), .val (.int (0 : Int32)), .unset, .unset, .unset] []))
      refine own_iload C X at_138 rfl (pc' := 140) rfl ?_
      refine own_iload C X at_140 rfl (pc' := 142) rfl ?_
      refine own_iadd C X at_142 (z := 0) (by decide) (pc' := 143) rfl ?_
      refine own_istore C X at_143 (L' := #[.val (.int i0), .val (.int i1), .val (.int i2), .val (.int i3), .val (.ref da), .val (.int (0 : Int32)), .val (.int (0 : Int32)), .val (.int (5 : Int32)), .val (.ref rd), .val (.int (0 : Int32)), .val (.int (0 : Int32)), .unset, .unset]) rfl (pc' := 145) rfl ?_
      refine own_aload C X at_145 rfl rfl (pc' := 147) rfl ?_
      have hbg := own_big C X
      refine own_callV C X at_147 (own_m_rest05 l Z a0 hw rd _ n0 hbg da t0 t1 t2 t3 t4 A_da E_da O_rd (Ne.symm ne_da_rd) ge_rd) O_rd.1 (hw _ (List.mem_of_getElem? (i := 36) rfl)) (hw _ (List.mem_of_getElem? (i := 37) rfl)) (hw _ (List.mem_of_getElem? (i := 39) rfl)) (hw _ (List.mem_of_getElem? (i := 38) rfl)) (hw _ (List.mem_of_getElem? (i := 3) rfl)) (hw _ (List.mem_of_getElem? (i := 40) rfl)) (by decide) own_pd_2087 rfl rfl (Nat.le_of_ble_eq_true rfl) (Nat.le_of_ble_eq_true rfl) (Nat.le_of_ble_eq_true rfl) (Nat.le_of_ble_eq_true rfl) (av := []) (S := []) rfl (pc' := 150) rfl ?_
      intro T h v X hQ
      obtain ⟨out, rfl, gq_out, K_, O_n, A_out⟩ := hQ
      have ne_da_out : da ≠ out := Nat.ne_of_lt (Nat.lt_of_lt_of_le A_da.lt gq_out)
      have ne_rd_out : rd ≠ out := Nat.ne_of_lt (Nat.lt_of_lt_of_le O_rd.lt gq_out)
      have ge_out : n0 ≤ out := Nat.le_trans hbg gq_out
      have O_rd := O_n
      have A_da := A_da.keep K_ (ninS ne_da_rd nin0)
      have E_da := E_da.keep K_
      have hSk := Nat.le_trans hSk K_.1
      show own_Go p e below n0 (own_FinW room_1 s (fun v h => v = some (.int 1))) (T.setTop (mkF m 150 #[.val (.int i0), .val (.int i1), .val (.int i2), .val (.int i3), .val (.ref da), .val (.int (0 : Int32)), .val (.int (0 : Int32)), .val (.int (5 : Int32)), .val (.ref rd), .val (.int (0 : Int32)), .val (.int (0 : Int32)), .unset, .unset] [(.ref out)]))
      refine own_astore C X at_150 rfl (L' := #[.val (.int i0), .val (.int i1), .val (.int i2), .val (.int i3), .val (.ref da), .val (.int (0 : Int32)), .val (.int (0 : Int32)), .val (.int (5 : Int32)), .val (.ref rd), .val (.int (0 : Int32)), .val (.int (0 : Int32)), .val (.ref out), .unset]) rfl (pc' := 152) rfl ?_
      refine own_aload C X at_152 rfl rfl (pc' := 154) rfl ?_
      refine own_aload C X at_154 rfl rfl (pc' := 156) rfl ?_
      refine own_acmp_ne C X at_156 rfl rfl (pcT := 161) (pc' := 159) (by decide) (by decide) rfl (fun hc156 => ?_) (fun hc156 => absurd hc156 (fun q => (Ne.symm ne_da_out) (Value.ref.inj q)))
      refine own_aload C X at_161 rfl rfl (pc' := 163) rfl ?_
      refine own_alenI C X at_163 (n := 5) A_out rfl (pc' := 164) rfl ?_
      refine own_iload C X at_164 rfl (pc' := 166) rfl ?_
      refine own_iload C X at_166 rfl (pc' := 168) rfl ?_
      refine own_isub C X at_168 (z := 5) (by decide) (pc' := 169) rfl ?_
      refine own_icmp_eq C X at_169 (pcT := 174) (pc' := 172) (by decide) (by decide) rfl (fun hc169 => ?_) (fun hc169 => absurd hc169 (by decide))
      refine own_aload C X at_174 rfl rfl (pc' := 176) rfl ?_
      refine own_aload C X at_176 rfl rfl (pc' := 178) rfl ?_
      refine own_iload C X at_178 rfl (pc' := 180) rfl ?_
      refine own_iconst C X at_180 (v := 0) (by decide) (pc' := 181) rfl ?_
      refine own_callS C X at_181 (own_m_sameY l Z a0 hw out da (0 : Int32) (0 : Int32) _ n0 (own_big C X) [t0, t1, t2, t3, t4] [t0, t1, t2, t3, t4] 5 rfl A_out A_da (by decide) 0 0 t0 (by decide) (by decide) rfl rfl) (hw _ (List.mem_of_getElem? (i := 59) rfl)) (hw _ (List.mem_of_getElem? (i := 60) rfl)) (hw _ (List.mem_of_getElem? (i := 61) rfl)) (hw _ (List.mem_of_getElem? (i := 62) rfl)) (by decide) own_pd_6987 rfl rfl (Nat.le_of_ble_eq_true rfl) (Nat.le_of_ble_eq_true rfl) (Nat.le_of_ble_eq_true rfl) (Nat.le_of_ble_eq_true rfl) (av := [(.ref out), (.ref da), (.int (0 : Int32)), (.int (0 : Int32))]) (S := []) rfl (pc' := 184) rfl ?_
      intro T h v X hQ
      obtain ⟨rfl, rfl⟩ := hQ
      show own_Go p e below n0 (own_FinW room_1 s (fun v h => v = some (.int 1))) (T.setTop (mkF m 184 #[.val (.int i0), .val (.int i1), .val (.int i2), .val (.int i3), .val (.ref da), .val (.int (0 : Int32)), .val (.int (0 : Int32)), .val (.int (5 : Int32)), .val (.ref rd), .val (.int (0 : Int32)), .val (.int (0 : Int32)), .val (.ref out), .unset] [(.int (1 : Int32))]))
      refine own_if_ne C X at_184 (pcT := 189) (pc' := 187) (by decide) (by decide) rfl (fun hc184 => ?_) (fun hc184 => absurd hc184 (by decide))
      refine own_aload C X at_189 rfl rfl (pc' := 191) rfl ?_
      refine own_aload C X at_191 rfl rfl (pc' := 193) rfl ?_
      refine own_iload C X at_193 rfl (pc' := 195) rfl ?_
      refine own_iconst C X at_195 (v := 1) (by decide) (pc' := 196) rfl ?_
      refine own_callS C X at_196 (own_m_sameY l Z a0 hw out da (0 : Int32) (1 : Int32) _ n0 (own_big C X) [t0, t1, t2, t3, t4] [t0, t1, t2, t3, t4] 5 rfl A_out A_da (by decide) 1 1 t1 (by decide) (by decide) rfl rfl) (hw _ (List.mem_of_getElem? (i := 59) rfl)) (hw _ (List.mem_of_getElem? (i := 60) rfl)) (hw _ (List.mem_of_getElem? (i := 61) rfl)) (hw _ (List.mem_of_getElem? (i := 62) rfl)) (by decide) own_pd_6987 rfl rfl (Nat.le_of_ble_eq_true rfl) (Nat.le_of_ble_eq_true rfl) (Nat.le_of_ble_eq_true rfl) (Nat.le_of_ble_eq_true rfl) (av := [(.ref out), (.ref da), (.int (0 : Int32)), (.int (1 : Int32))]) (S := []) rfl (pc' := 199) rfl ?_
      intro T h v X hQ
      obtain ⟨rfl, rfl⟩ := hQ
      show own_Go p e below n0 (own_FinW room_1 s (fun v h => v = some (.int 1))) (T.setTop (mkF m 199 #[.val (.int i0), .val (.int i1), .val (.int i2), .val (.int i3), .val (.ref da), .val (.int (0 : Int32)), .val (.int (0 : Int32)), .val (.int (5 : Int32)), .val (.ref rd), .val (.int (0 : Int32)), .val (.int (0 : Int32)), .val (.ref out), .unset] [(.int (1 : Int32))]))
      refine own_if_ne C X at_199 (pcT := 204) (pc' := 202) (by decide) (by decide) rfl (fun hc199 => ?_) (fun hc199 => absurd hc199 (by decide))
      refine own_aload C X at_204 rfl rfl (pc' := 206) rfl ?_
      refine own_aload C X at_206 rfl rfl (pc' := 208) rfl ?_
      refine own_iload C X at_208 rfl (pc' := 210) rfl ?_
      refine own_iconst C X at_210 (v := 2) (by decide) (pc' := 211) rfl ?_
      refine own_callS C X at_211 (own_m_sameY l Z a0 hw out da (0 : Int32) (2 : Int32) _ n0 (own_big C X) [t0, t1, t2, t3, t4] [t0, t1, t2, t3, t4] 5 rfl A_out A_da (by decide) 2 2 t2 (by decide) (by decide) rfl rfl) (hw _ (List.mem_of_getElem? (i := 59) rfl)) (hw _ (List.mem_of_getElem? (i := 60) rfl)) (hw _ (List.mem_of_getElem? (i := 61) rfl)) (hw _ (List.mem_of_getElem? (i := 62) rfl)) (by decide) own_pd_6987 rfl rfl (Nat.le_of_ble_eq_true rfl) (Nat.le_of_ble_eq_true rfl) (Nat.le_of_ble_eq_true rfl) (Nat.le_of_ble_eq_true rfl) (av := [(.ref out), (.ref da), (.int (0 : Int32)), (.int (2 : Int32))]) (S := []) rfl (pc' := 214) rfl ?_
      intro T h v X hQ
      obtain ⟨rfl, rfl⟩ := hQ
      show own_Go p e below n0 (own_FinW room_1 s (fun v h => v = some (.int 1))) (T.setTop (mkF m 214 #[.val (.int i0), .val (.int i1), .val (.int i2), .val (.int i3), .val (.ref da), .val (.int (0 : Int32)), .val (.int (0 : Int32)), .val (.int (5 : Int32)), .val (.ref rd), .val (.int (0 : Int32)), .val (.int (0 : Int32)), .val (.ref out), .unset] [(.int (1 : Int32))]))
      refine own_if_ne C X at_214 (pcT := 219) (pc' := 217) (by decide) (by decide) rfl (fun hc214 => ?_) (fun hc214 => absurd hc214 (by decide))
      refine own_aload C X at_219 rfl rfl (pc' := 221) rfl ?_
      refine own_aload C X at_221 rfl rfl (pc' := 223) rfl ?_
      refine own_iload C X at_223 rfl (pc' := 225) rfl ?_
      refine own_iconst C X at_225 (v := 3) (by decide) (pc' := 226) rfl ?_
      refine own_callS C X at_226 (own_m_sameY l Z a0 hw out da (0 : Int32) (3 : Int32) _ n0 (own_big C X) [t0, t1, t2, t3, t4] [t0, t1, t2, t3, t4] 5 rfl A_out A_da (by decide) 3 3 t3 (by decide) (by decide) rfl rfl) (hw _ (List.mem_of_getElem? (i := 59) rfl)) (hw _ (List.mem_of_getElem? (i := 60) rfl)) (hw _ (List.mem_of_getElem? (i := 61) rfl)) (hw _ (List.mem_of_getElem? (i := 62) rfl)) (by decide) own_pd_6987 rfl rfl (Nat.le_of_ble_eq_true rfl) (Nat.le_of_ble_eq_true rfl) (Nat.le_of_ble_eq_true rfl) (Nat.le_of_ble_eq_true rfl) (av := [(.ref out), (.ref da), (.int (0 : Int32)), (.int (3 : Int32))]) (S := []) rfl (pc' := 229) rfl ?_
      intro T h v X hQ
      obtain ⟨rfl, rfl⟩ := hQ
      show own_Go p e below n0 (own_FinW room_1 s (fun v h => v = some (.int 1))) (T.setTop (mkF m 229 #[.val (.int i0), .val (.int i1), .val (.int i2), .val (.int i3), .val (.ref da), .val (.int (0 : Int32)), .val (.int (0 : Int32)), .val (.int (5 : Int32)), .val (.ref rd), .val (.int (0 : Int32)), .val (.int (0 : Int32)), .val (.ref out), .unset] [(.int (1 : Int32))]))
      refine own_if_ne C X at_229 (pcT := 234) (pc' := 232) (by decide) (by decide) rfl (fun hc229 => ?_) (fun hc229 => absurd hc229 (by decide))
      refine own_aload C X at_234 rfl rfl (pc' := 236) rfl ?_
      refine own_aload C X at_236 rfl rfl (pc' := 238) rfl ?_
      refine own_iload C X at_238 rfl (pc' := 240) rfl ?_
      refine own_iconst C X at_240 (v := 4) (by decide) (pc' := 241) rfl ?_
      refine own_callS C X at_241 (own_m_sameY l Z a0 hw out da (0 : Int32) (4 : Int32) _ n0 (own_big C X) [t0, t1, t2, t3, t4] [t0, t1, t2, t3, t4] 5 rfl A_out A_da (by decide) 4 4 t4 (by decide) (by decide) rfl rfl) (hw _ (List.mem_of_getElem? (i := 59) rfl)) (hw _ (List.mem_of_getElem? (i := 60) rfl)) (hw _ (List.mem_of_getElem? (i := 61) rfl)) (hw _ (List.mem_of_getElem? (i := 62) rfl)) (by decide) own_pd_6987 rfl rfl (Nat.le_of_ble_eq_true rfl) (Nat.le_of_ble_eq_true rfl) (Nat.le_of_ble_eq_true rfl) (Nat.le_of_ble_eq_true rfl) (av := [(.ref out), (.ref da), (.int (0 : Int32)), (.int (4 : Int32))]) (S := []) rfl (pc' := 244) rfl ?_
      intro T h v X hQ
      obtain ⟨rfl, rfl⟩ := hQ
      show own_Go p e below n0 (own_FinW room_1 s (fun v h => v = some (.int 1))) (T.setTop (mkF m 244 #[.val (.int i0), .val (.int i1), .val (.int i2), .val (.int i3), .val (.ref da), .val (.int (0 : Int32)), .val (.int (0 : Int32)), .val (.int (5 : Int32)), .val (.ref rd), .val (.int (0 : Int32)), .val (.int (0 : Int32)), .val (.ref out), .unset] [(.int (1 : Int32))]))
      refine own_if_ne C X at_244 (pcT := 249) (pc' := 247) (by decide) (by decide) rfl (fun hc244 => ?_) (fun hc244 => absurd hc244 (by decide))
      refine own_aload C X at_249 rfl rfl (pc' := 251) rfl ?_
      refine own_callV C X at_251 (own_m_hr l Z a0 hw rd _ n0 (own_big C X) da (5 : Int32) (5 : Int32) O_rd) O_rd.1 (hw _ (List.mem_of_getElem? (i := 63) rfl)) (hw _ (List.mem_of_getElem? (i := 64) rfl)) (hw _ (List.mem_of_getElem? (i := 66) rfl)) (hw _ (List.mem_of_getElem? (i := 65) rfl)) (hw _ (List.mem_of_getElem? (i := 3) rfl)) (hw _ (List.mem_of_getElem? (i := 67) rfl)) (by decide) own_pd_1418 rfl rfl (Nat.le_of_ble_eq_true rfl) (Nat.le_of_ble_eq_true rfl) (Nat.le_of_ble_eq_true rfl) (Nat.le_of_ble_eq_true rfl) (av := []) (S := []) rfl (pc' := 254) rfl ?_
      intro T h v X hQ
      obtain ⟨rfl, rfl⟩ := hQ
      show own_Go p e below n0 (own_FinW room_1 s (fun v h => v = some (.int 1))) (T.setTop (mkF m 254 #[.val (.int i0), .val (.int i1), .val (.int i2), .val (.int i3), .val (.ref da), .val (.int (0 : Int32)), .val (.int (0 : Int32)), .val (.int (5 : Int32)), .val (.ref rd), .val (.int (0 : Int32)), .val (.int (0 : Int32)), .val (.ref out), .unset] [(.int (own_hr (5 : Int32) (5 : Int32)))]))
      rw [show own_hr (5 : Int32) (5 : Int32) = 0 from by decide]
      show own_Go p e below n0 (own_FinW room_1 s (fun v h => v = some (.int 1))) (T.setTop (mkF m 254 #[.val (.int i0), .val (.int i1), .val (.int i2), .val (.int i3), .val (.ref da), .val (.int (0 : Int32)), .val (.int (0 : Int32)), .val (.int (5 : Int32)), .val (.ref rd), .val (.int (0 : Int32)), .val (.int (0 : Int32)), .val (.ref out), .unset] [(.int (0 : Int32))]))
      refine own_if_eq C X at_254 (pcT := 259) (pc' := 257) (by decide) (by decide) rfl (fun hc254 => ?_) (fun hc254 => absurd hc254 (by decide))
      refine own_aload C X at_259 rfl rfl (pc' := 261) rfl ?_
      have hbg := own_big C X
      refine own_callV C X at_261 (own_m_rest55 l Z a0 hw rd _ n0 hbg da t0 t1 t2 t3 t4 A_da E_da O_rd (Ne.symm ne_da_rd) ge_rd) O_rd.1 (hw _ (List.mem_of_getElem? (i := 36) rfl)) (hw _ (List.mem_of_getElem? (i := 37) rfl)) (hw _ (List.mem_of_getElem? (i := 39) rfl)) (hw _ (List.mem_of_getElem? (i := 38) rfl)) (hw _ (List.mem_of_getElem? (i := 3) rfl)) (hw _ (List.mem_of_getElem? (i := 40) rfl)) (by decide) own_pd_2087 rfl rfl (Nat.le_of_ble_eq_true rfl) (Nat.le_of_ble_eq_true rfl) (Nat.le_of_ble_eq_true rfl) (Nat.le_of_ble_eq_true rfl) (av := []) (S := []) rfl (pc' := 264) rfl ?_
      intro T h v X hQ
      obtain ⟨ou2, rfl, gq_ou2, K_, O_n, A_ou2⟩ := hQ
      have ne_da_ou2 : da ≠ ou2 := Nat.ne_of_lt (Nat.lt_of_lt_of_le A_da.lt gq_ou2)
      have ne_rd_ou2 : rd ≠ ou2 := Nat.ne_of_lt (Nat.lt_of_lt_of_le O_rd.lt gq_ou2)
      have ne_out_ou2 : out ≠ ou2 := Nat.ne_of_lt (Nat.lt_of_lt_of_le A_out.lt gq_ou2)
      have ge_ou2 : n0 ≤ ou2 := Nat.le_trans hbg gq_ou2
      have O_rd := O_n
      have A_da := A_da.keep K_ (ninS ne_da_rd nin0)
      have E_da := E_da.keep K_
      have A_out := A_out.keep K_ (ninS (Ne.symm ne_rd_out) nin0)
      have hSk := Nat.le_trans hSk K_.1
      show own_Go p e below n0 (own_FinW room_1 s (fun v h => v = some (.int 1))) (T.setTop (mkF m 264 #[.val (.int i0), .val (.int i1), .val (.int i2), .val (.int i3), .val (.ref da), .val (.int (0 : Int32)), .val (.int (0 : Int32)), .val (.int (5 : Int32)), .val (.ref rd), .val (.int (0 : Int32)), .val (.int (0 : Int32)), .val (.ref out), .unset] [(.ref ou2)]))
      refine own_alenI C X at_264 (n := 0) A_ou2 rfl (pc' := 265) rfl ?_
      refine own_if_eq C X at_265 (pcT := 270) (pc' := 268) (by decide) (by decide) rfl (fun hc265 => ?_) (fun hc265 => absurd hc265 (by decide))
      refine own_aload C X at_270 rfl rfl (pc' := 272) rfl ?_
      refine own_alenI C X at_272 (n := 5) A_out rfl (pc' := 273) rfl ?_
      refine own_if_le C X at_273 (pcT := 306) (pc' := 276) (by decide) (by decide) rfl (fun hc273 => absurd hc273 (by decide)) (fun hc273 => ?_)
      refine own_aload C X at_276 rfl rfl (pc' := 278) rfl ?_
      refine own_iload C X at_278 rfl (pc' := 280) rfl ?_
      refine own_baload C X at_280 A_da (by decide) (i := 0) rfl (pc' := 281) rfl ?_
      refine own_istore C X at_281 (L' := #[.val (.int i0), .val (.int i1), .val (.int i2), .val (.int i3), .val (.ref da), .val (.int (0 : Int32)), .val (.int (0 : Int32)), .val (.int (5 : Int32)), .val (.ref rd), .val (.int (0 : Int32)), .val (.int (0 : Int32)), .val (.ref out), .val (.int t0)]) rfl (pc' := 283) rfl ?_
      refine own_aload C X at_283 rfl rfl (pc' := 285) rfl ?_
      refine own_iconst C X at_285 (v := 0) (by decide) (pc' := 286) rfl ?_
      refine own_aload C X at_286 rfl rfl (pc' := 288) rfl ?_
      refine own_iconst C X at_288 (v := 0) (by decide) (pc' := 289) rfl ?_
      refine own_baload C X at_289 A_out (by decide) (i := 0) rfl (pc' := 290) rfl ?_
      refine own_iconst C X at_290 (v := 1) (by decide) (pc' := 291) rfl ?_
      refine own_ixor C X at_291 rfl (pc' := 292) rfl ?_
      obtain ⟨tx, e_tx⟩ : ∃ z : Int32, (t0 ^^^ (1 : Int32)).toInt8.toInt32 = z := ⟨_, rfl⟩
      refine own_i2b C X at_292 e_tx (pc' := 293) rfl ?_
      refine own_bastore C X at_293 A_out (by decide) (i := 0) (Nat.le_of_ble_eq_true rfl) (own_i2bn e_tx) ge_out (pc' := 294) rfl ?_
      intro T h X K_ A_out_
      have A_out : own_IA Z h out .byte [tx, t1, t2, t3, t4] := A_out_
      have A_da := A_da.keep K_ (ninS ne_da_out nin0)
      have E_da := E_da.keep K_
      have O_rd := O_rd.keep K_ (ninS ne_rd_out nin0)
      have A_ou2 := A_ou2.keep K_ (ninS (Ne.symm ne_out_ou2) nin0)
      have hSk := Nat.le_trans hSk K_.1
      refine own_aload C X at_294 rfl rfl (pc' := 296) rfl ?_
      refine own_iload C X at_296 rfl (pc' := 298) rfl ?_
      refine own_baload C X at_298 A_da (by decide) (i := 0) rfl (pc' := 299) rfl ?_
      refine own_iload C X at_299 rfl (pc' := 301) rfl ?_
      refine own_icmp_eq C X at_301 (pcT := 306) (pc' := 304) (by decide) (by decide) rfl (fun hc301 => ?_) (fun hc301 => absurd hc301 (not_not_intro rfl))
      refine own_iconst C X at_306 (v := 1) (by decide) (pc' := 307) rfl ?_
      exact own_ireturn_zW C X hS hSk at_307 (Nat.le_of_ble_eq_true rfl) (Nat.le_of_ble_eq_true rfl) (rfl)
    · refine own_istore C X at_127 (L' := #[.val (.int i0), .val (.int i1), .val (.int i2), .val (.int i3), .val (.ref da), .val (.int (0 : Int32)), .val (.int (0 : Int32)), .val (.int (5 : Int32)), .val (.ref rd), .val (.int (1 : Int32)), .unset, .unset, .unset]) rfl (pc' := 129) rfl ?_
      refine own_aload C X at_129 rfl rfl (pc' := 131) rfl ?_
      refine own_iload C X at_131 rfl (pc' := 133) rfl ?_
      refine own_ldcS C X hS hSk at_133 (hw _ (List.mem_of_getElem? (i := 20) rfl)) (own_strW hw) (n := 1024) (by decide) (by decide) (Nat.le_of_ble_eq_true rfl) (Nat.le_of_ble_eq_true rfl) (pc' := 135) rfl ?_
      intro T h ss vm k_ C X K_ hS hSk_
      have A_da := A_da.keep K_ nin0
      have E_da := E_da.keep K_
      have O_rd := O_rd.keep K_ nin0
      have hSk := Nat.le_trans hSk K_.1
      have hSk := hSk_
      refine own_callV C X at_135 (own_m_skip l Z a0 hw rd (1 : Int32) ss _ n0 (own_big C X) da (0 : Int32) (5 : Int32) (1 : Int32) (by decide) (by decide) O_rd ge_rd) O_rd.1 (hw _ (List.mem_of_getElem? (i := 27) rfl)) (hw _ (List.mem_of_getElem? (i := 28) rfl)) (hw _ (List.mem_of_getElem? (i := 30) rfl)) (hw _ (List.mem_of_getElem? (i := 29) rfl)) (hw _ (List.mem_of_getElem? (i := 3) rfl)) (hw _ (List.mem_of_getElem? (i := 31) rfl)) (by decide) own_pd_34082 rfl rfl (Nat.le_of_ble_eq_true rfl) (Nat.le_of_ble_eq_true rfl) (Nat.le_of_ble_eq_true rfl) (Nat.le_of_ble_eq_true rfl) (av := [(.int (1 : Int32)), (.ref ss)]) (S := []) rfl (pc' := 138) rfl ?_
      intro T h v X hQ
      obtain ⟨rfl, K_, O_rd⟩ := hQ
      have A_da := A_da.keep K_ (ninS ne_da_rd nin0)
      have E_da := E_da.keep K_
      have hSk := Nat.le_trans hSk K_.1
      show own_Go p e below n0 (own_FinW room_1 s (fun v h => v = some (.int 1))) (T.setTop (mkF m 138 #[.val (.int i0), .val (.int i1), .val (.int i2), .val (.int i3), .val (.ref da), .val (.int (0 : Int32)), .val (.int (0 : Int32)), .val (.int (5 : Int32)), .val (.ref rd), .val (.int (1 : Int32)), .unset, .unset, .unset] []))
      refine own_iload C X at_138 rfl (pc' := 140) rfl ?_
      refine own_iload C X at_140 rfl (pc' := 142) rfl ?_
      refine own_iadd C X at_142 (z := 1) (by decide) (pc' := 143) rfl ?_
      refine own_istore C X at_143 (L' := #[.val (.int i0), .val (.int i1), .val (.int i2), .val (.int i3), .val (.ref da), .val (.int (0 : Int32)), .val (.int (0 : Int32)), .val (.int (5 : Int32)), .val (.ref rd), .val (.int (1 : Int32)), .val (.int (1 : Int32)), .unset, .unset]) rfl (pc' := 145) rfl ?_
      refine own_aload C X at_145 rfl rfl (pc' := 147) rfl ?_
      have hbg := own_big C X
      refine own_callV C X at_147 (own_m_rest15 l Z a0 hw rd _ n0 hbg da t0 t1 t2 t3 t4 A_da E_da O_rd (Ne.symm ne_da_rd) ge_rd) O_rd.1 (hw _ (List.mem_of_getElem? (i := 36) rfl)) (hw _ (List.mem_of_getElem? (i := 37) rfl)) (hw _ (List.mem_of_getElem? (i := 39) rfl)) (hw _ (List.mem_of_getElem? (i := 38) rfl)) (hw _ (List.mem_of_getElem? (i := 3) rfl)) (hw _ (List.mem_of_getElem? (i := 40) rfl)) (by decide) own_pd_2087 rfl rfl (Nat.le_of_ble_eq_true rfl) (Nat.le_of_ble_eq_true rfl) (Nat.le_of_ble_eq_true rfl) (Nat.le_of_ble_eq_true rfl) (av := []) (S := []) rfl (pc' := 150) rfl ?_
      intro T h v X hQ
      obtain ⟨out, rfl, gq_out, K_, O_n, A_out⟩ := hQ
      have ne_da_out : da ≠ out := Nat.ne_of_lt (Nat.lt_of_lt_of_le A_da.lt gq_out)
      have ne_rd_out : rd ≠ out := Nat.ne_of_lt (Nat.lt_of_lt_of_le O_rd.lt gq_out)
      have ge_out : n0 ≤ out := Nat.le_trans hbg gq_out
      have O_rd := O_n
      have A_da := A_da.keep K_ (ninS ne_da_rd nin0)
      have E_da := E_da.keep K_
      have hSk := Nat.le_trans hSk K_.1
      show own_Go p e below n0 (own_FinW room_1 s (fun v h => v = some (.int 1))) (T.setTop (mkF m 150 #[.val (.int i0), .val (.int i1), .val (.int i2), .val (.int i3), .val (.ref da), .val (.int (0 : Int32)), .val (.int (0 : Int32)), .val (.int (5 : Int32)), .val (.ref rd), .val (.int (1 : Int32)), .val (.int (1 : Int32)), .unset, .unset] [(.ref out)]))
      refine own_astore C X at_150 rfl (L' := #[.val (.int i0), .val (.int i1), .val (.int i2), .val (.int i3), .val (.ref da), .val (.int (0 : Int32)), .val (.int (0 : Int32)), .val (.int (5 : Int32)), .val (.ref rd), .val (.int (1 : Int32)), .val (.int (1 : Int32)), .val (.ref out), .unset]) rfl (pc' := 152) rfl ?_
      refine own_aload C X at_152 rfl rfl (pc' := 154) rfl ?_
      refine own_aload C X at_154 rfl rfl (pc' := 156) rfl ?_
      refine own_acmp_ne C X at_156 rfl rfl (pcT := 161) (pc' := 159) (by decide) (by decide) rfl (fun hc156 => ?_) (fun hc156 => absurd hc156 (fun q => (Ne.symm ne_da_out) (Value.ref.inj q)))
      refine own_aload C X at_161 rfl rfl (pc' := 163) rfl ?_
      refine own_alenI C X at_163 (n := 4) A_out rfl (pc' := 164) rfl ?_
      refine own_iload C X at_164 rfl (pc' := 166) rfl ?_
      refine own_iload C X at_166 rfl (pc' := 168) rfl ?_
      refine own_isub C X at_168 (z := 4) (by decide) (pc' := 169) rfl ?_
      refine own_icmp_eq C X at_169 (pcT := 174) (pc' := 172) (by decide) (by decide) rfl (fun hc169 => ?_) (fun hc169 => absurd hc169 (by decide))
      refine own_aload C X at_174 rfl rfl (pc' := 176) rfl ?_
      refine own_aload C X at_176 rfl rfl (pc' := 178) rfl ?_
      refine own_iload C X at_178 rfl (pc' := 180) rfl ?_
      refine own_iconst C X at_180 (v := 0) (by decide) (pc' := 181) rfl ?_
      refine own_callS C X at_181 (own_m_sameY l Z a0 hw out da (1 : Int32) (0 : Int32) _ n0 (own_big C X) [t1, t2, t3, t4] [t0, t1, t2, t3, t4] 4 rfl A_out A_da (by decide) 0 1 t1 (by decide) (by decide) rfl rfl) (hw _ (List.mem_of_getElem? (i := 59) rfl)) (hw _ (List.mem_of_getElem? (i := 60) rfl)) (hw _ (List.mem_of_getElem? (i := 61) rfl)) (hw _ (List.mem_of_getElem? (i := 62) rfl)) (by decide) own_pd_6987 rfl rfl (Nat.le_of_ble_eq_true rfl) (Nat.le_of_ble_eq_true rfl) (Nat.le_of_ble_eq_true rfl) (Nat.le_of_ble_eq_true rfl) (av := [(.ref out), (.ref da), (.int (1 : Int32)), (.int (0 : Int32))]) (S := []) rfl (pc' := 184) rfl ?_
      intro T h v X hQ
      obtain ⟨rfl, rfl⟩ := hQ
      show own_Go p e below n0 (own_FinW room_1 s (fun v h => v = some (.int 1))) (T.setTop (mkF m 184 #[.val (.int i0), .val (.int i1), .val (.int i2), .val (.int i3), .val (.ref da), .val (.int (0 : Int32)), .val (.int (0 : Int32)), .val (.int (5 : Int32)), .val (.ref rd), .val (.int (1 : Int32)), .val (.int (1 : Int32)), .val (.ref out), .unset] [(.int (1 : Int32))]))
      refine own_if_ne C X at_184 (pcT := 189) (pc' := 187) (by decide) (by decide) rfl (fun hc184 => ?_) (fun hc184 => absurd hc184 (by decide))
      refine own_aload C X at_189 rfl rfl (pc' := 191) rfl ?_
      refine own_aload C X at_191 rfl rfl (pc' := 193) rfl ?_
      refine own_iload C X at_193 rfl (pc' := 195) rfl ?_
      refine own_iconst C X at_195 (v := 1) (by decide) (pc' := 196) rfl ?_
      refine own_callS C X at_196 (own_m_sameY l Z a0 hw out da (1 : Int32) (1 : Int32) _ n0 (own_big C X) [t1, t2, t3, t4] [t0, t1, t2, t3, t4] 4 rfl A_out A_da (by decide) 1 2 t2 (by decide) (by decide) rfl rfl) (hw _ (List.mem_of_getElem? (i := 59) rfl)) (hw _ (List.mem_of_getElem? (i := 60) rfl)) (hw _ (List.mem_of_getElem? (i := 61) rfl)) (hw _ (List.mem_of_getElem? (i := 62) rfl)) (by decide) own_pd_6987 rfl rfl (Nat.le_of_ble_eq_true rfl) (Nat.le_of_ble_eq_true rfl) (Nat.le_of_ble_eq_true rfl) (Nat.le_of_ble_eq_true rfl) (av := [(.ref out), (.ref da), (.int (1 : Int32)), (.int (1 : Int32))]) (S := []) rfl (pc' := 199) rfl ?_
      intro T h v X hQ
      obtain ⟨rfl, rfl⟩ := hQ
      show own_Go p e below n0 (own_FinW room_1 s (fun v h => v = some (.int 1))) (T.setTop (mkF m 199 #[.val (.int i0), .val (.int i1), .val (.int i2), .val (.int i3), .val (.ref da), .val (.int (0 : Int32)), .val (.int (0 : Int32)), .val (.int (5 : Int32)), .val (.ref rd), .val (.int (1 : Int32)), .val (.int (1 : Int32)), .val (.ref out), .unset] [(.int (1 : Int32))]))
      refine own_if_ne C X at_199 (pcT := 204) (pc' := 202) (by decide) (by decide) rfl (fun hc199 => ?_) (fun hc199 => absurd hc199 (by decide))
      refine own_aload C X at_204 rfl rfl (pc' := 206) rfl ?_
      refine own_aload C X at_206 rfl rfl (pc' := 208) rfl ?_
      refine own_iload C X at_208 rfl (pc' := 210) rfl ?_
      refine own_iconst C X at_210 (v := 2) (by decide) (pc' := 211) rfl ?_
      refine own_callS C X at_211 (own_m_sameY l Z a0 hw out da (1 : Int32) (2 : Int32) _ n0 (own_big C X) [t1, t2, t3, t4] [t0, t1, t2, t3, t4] 4 rfl A_out A_da (by decide) 2 3 t3 (by decide) (by decide) rfl rfl) (hw _ (List.mem_of_getElem? (i := 59) rfl)) (hw _ (List.mem_of_getElem? (i := 60) rfl)) (hw _ (List.mem_of_getElem? (i := 61) rfl)) (hw _ (List.mem_of_getElem? (i := 62) rfl)) (by decide) own_pd_6987 rfl rfl (Nat.le_of_ble_eq_true rfl) (Nat.le_of_ble_eq_true rfl) (Nat.le_of_ble_eq_true rfl) (Nat.le_of_ble_eq_true rfl) (av := [(.ref out), (.ref da), (.int (1 : Int32)), (.int (2 : Int32))]) (S := []) rfl (pc' := 214) rfl ?_
      intro T h v X hQ
      obtain ⟨rfl, rfl⟩ := hQ
      show own_Go p e below n0 (own_FinW room_1 s (fun v h => v = some (.int 1))) (T.setTop (mkF m 214 #[.val (.int i0), .val (.int i1), .val (.int i2), .val (.int i3), .val (.ref da), .val (.int (0 : Int32)), .val (.int (0 : Int32)), .val (.int (5 : Int32)), .val (.ref rd), .val (.int (1 : Int32)), .val (.int (1 : Int32)), .val (.ref out), .unset] [(.int (1 : Int32))]))
      refine own_if_ne C X at_214 (pcT := 219) (pc' := 217) (by decide) (by decide) rfl (fun hc214 => ?_) (fun hc214 => absurd hc214 (by decide))
      refine own_aload C X at_219 rfl rfl (pc' := 221) rfl ?_
      refine own_aload C X at_221 rfl rfl (pc' := 223) rfl ?_
      refine own_iload C X at_223 rfl (pc' := 225) rfl ?_
      refine own_iconst C X at_225 (v := 3) (by decide) (pc' := 226) rfl ?_
      refine own_callS C X at_226 (own_m_sameY l Z a0 hw out da (1 : Int32) (3 : Int32) _ n0 (own_big C X) [t1, t2, t3, t4] [t0, t1, t2, t3, t4] 4 rfl A_out A_da (by decide) 3 4 t4 (by decide) (by decide) rfl rfl) (hw _ (List.mem_of_getElem? (i := 59) rfl)) (hw _ (List.mem_of_getElem? (i := 60) rfl)) (hw _ (List.mem_of_getElem? (i := 61) rfl)) (hw _ (List.mem_of_getElem? (i := 62) rfl)) (by decide) own_pd_6987 rfl rfl (Nat.le_of_ble_eq_true rfl) (Nat.le_of_ble_eq_true rfl) (Nat.le_of_ble_eq_true rfl) (Nat.le_of_ble_eq_true rfl) (av := [(.ref out), (.ref da), (.int (1 : Int32)), (.int (3 : Int32))]) (S := []) rfl (pc' := 229) rfl ?_
      intro T h v X hQ
      obtain ⟨rfl, rfl⟩ := hQ
      show own_Go p e below n0 (own_FinW room_1 s (fun v h => v = some (.int 1))) (T.setTop (mkF m 229 #[.val (.int i0), .val (.int i1), .val (.int i2), .val (.int i3), .val (.ref da), .val (.int (0 : Int32)), .val (.int (0 : Int32)), .val (.int (5 : Int32)), .val (.ref rd), .val (.int (1 : Int32)), .val (.int (1 : Int32)), .val (.ref out), .unset] [(.int (1 : Int32))]))
      refine own_if_ne C X at_229 (pcT := 234) (pc' := 232) (by decide) (by decide) rfl (fun hc229 => ?_) (fun hc229 => absurd hc229 (by decide))
      refine own_aload C X at_234 rfl rfl (pc' := 236) rfl ?_
      refine own_aload C X at_236 rfl rfl (pc' := 238) rfl ?_
      refine own_iload C X at_238 rfl (pc' := 240) rfl ?_
      refine own_iconst C X at_240 (v := 4) (by decide) (pc' := 241) rfl ?_
      refine own_callS C X at_241 (own_m_sameN l Z a0 hw out da (1 : Int32) (4 : Int32) _ n0 (own_big C X) [t1, t2, t3, t4] [t0, t1, t2, t3, t4] 4 rfl A_out A_da (by decide)) (hw _ (List.mem_of_getElem? (i := 59) rfl)) (hw _ (List.mem_of_getElem? (i := 60) rfl)) (hw _ (List.mem_of_getElem? (i := 61) rfl)) (hw _ (List.mem_of_getElem? (i := 62) rfl)) (by decide) own_pd_6987 rfl rfl (Nat.le_of_ble_eq_true rfl) (Nat.le_of_ble_eq_true rfl) (Nat.le_of_ble_eq_true rfl) (Nat.le_of_ble_eq_true rfl) (av := [(.ref out), (.ref da), (.int (1 : Int32)), (.int (4 : Int32))]) (S := []) rfl (pc' := 244) rfl ?_
      intro T h v X hQ
      obtain ⟨rfl, rfl⟩ := hQ
      show own_Go p e below n0 (own_FinW room_1 s (fun v h => v = some (.int 1))) (T.setTop (mkF m 244 #[.val (.int i0), .val (.int i1), .val (.int i2), .val (.int i3), .val (.ref da), .val (.int (0 : Int32)), .val (.int (0 : Int32)), .val (.int (5 : Int32)), .val (.ref rd), .val (.int (1 : Int32)), .val (.int (1 : Int32)), .val (.ref out), .unset] [(.int (1 : Int32))]))
      refine own_if_ne C X at_244 (pcT := 249) (pc' := 247) (by decide) (by decide) rfl (fun hc244 => ?_) (fun hc244 => absurd hc244 (by decide))
      refine own_aload C X at_249 rfl rfl (pc' := 251) rfl ?_
      refine own_callV C X at_251 (own_m_hr l Z a0 hw rd _ n0 (own_big C X) da (5 : Int32) (5 : Int32) O_rd) O_rd.1 (hw _ (List.mem_of_getElem? (i := 63) rfl)) (hw _ (List.mem_of_getElem? (i := 64) rfl)) (hw _ (List.mem_of_getElem? (i := 66) rfl)) (hw _ (List.mem_of_getElem? (i := 65) rfl)) (hw _ (List.mem_of_getElem? (i := 3) rfl)) (hw _ (List.mem_of_getElem? (i := 67) rfl)) (by decide) own_pd_1418 rfl rfl (Nat.le_of_ble_eq_true rfl) (Nat.le_of_ble_eq_true rfl) (Nat.le_of_ble_eq_true rfl) (Nat.le_of_ble_eq_true rfl) (av := []) (S := []) rfl (pc' := 254) rfl ?_
      intro T h v X hQ
      obtain ⟨rfl, rfl⟩ := hQ
      show own_Go p e below n0 (own_FinW room_1 s (fun v h => v = some (.int 1))) (T.setTop (mkF m 254 #[.val (.int i0), .val (.int i1), .val (.int i2), .val (.int i3), .val (.ref da), .val (.int (0 : Int32)), .val (.int (0 : Int32)), .val (.int (5 : Int32)), .val (.ref rd), .val (.int (1 : Int32)), .val (.int (1 : Int32)), .val (.ref out), .unset] [(.int (own_hr (5 : Int32) (5 : Int32)))]))
      rw [show own_hr (5 : Int32) (5 : Int32) = 0 from by decide]
      show own_Go p e below n0 (own_FinW room_1 s (fun v h => v = some (.int 1))) (T.setTop (mkF m 254 #[.val (.int i0), .val (.int i1), .val (.int i2), .val (.int i3), .val (.ref da), .val (.int (0 : Int32)), .val (.int (0 : Int32)), .val (.int (5 : Int32)), .val (.ref rd), .val (.int (1 : Int32)), .val (.int (1 : Int32)), .val (.ref out), .unset] [(.int (0 : Int32))]))
      refine own_if_eq C X at_254 (pcT := 259) (pc' := 257) (by decide) (by decide) rfl (fun hc254 => ?_) (fun hc254 => absurd hc254 (by decide))
      refine own_aload C X at_259 rfl rfl (pc' := 261) rfl ?_
      have hbg := own_big C X
      refine own_callV C X at_261 (own_m_rest55 l Z a0 hw rd _ n0 hbg da t0 t1 t2 t3 t4 A_da E_da O_rd (Ne.symm ne_da_rd) ge_rd) O_rd.1 (hw _ (List.mem_of_getElem? (i := 36) rfl)) (hw _ (List.mem_of_getElem? (i := 37) rfl)) (hw _ (List.mem_of_getElem? (i := 39) rfl)) (hw _ (List.mem_of_getElem? (i := 38) rfl)) (hw _ (List.mem_of_getElem? (i := 3) rfl)) (hw _ (List.mem_of_getElem? (i := 40) rfl)) (by decide) own_pd_2087 rfl rfl (Nat.le_of_ble_eq_true rfl) (Nat.le_of_ble_eq_true rfl) (Nat.le_of_ble_eq_true rfl) (Nat.le_of_ble_eq_true rfl) (av := []) (S := []) rfl (pc' := 264) rfl ?_
      intro T h v X hQ
      obtain ⟨ou2, rfl, gq_ou2, K_, O_n, A_ou2⟩ := hQ
      have ne_da_ou2 : da ≠ ou2 := Nat.ne_of_lt (Nat.lt_of_lt_of_le A_da.lt gq_ou2)
      have ne_rd_ou2 : rd ≠ ou2 := Nat.ne_of_lt (Nat.lt_of_lt_of_le O_rd.lt gq_ou2)
      have ne_out_ou2 : out ≠ ou2 := Nat.ne_of_lt (Nat.lt_of_lt_of_le A_out.lt gq_ou2)
      have ge_ou2 : n0 ≤ ou2 := Nat.le_trans hbg gq_ou2
      have O_rd := O_n
      have A_da := A_da.keep K_ (ninS ne_da_rd nin0)
      have E_da := E_da.keep K_
      have A_out := A_out.keep K_ (ninS (Ne.symm ne_rd_out) nin0)
      have hSk := Nat.le_trans hSk K_.1
      show own_Go p e below n0 (own_FinW room_1 s (fun v h => v = some (.int 1))) (T.setTop (mkF m 264 #[.val (.int i0), .val (.int i1), .val (.int i2), .val (.int i3), .val (.ref da), .val (.int (0 : Int32)), .val (.int (0 : Int32)), .val (.int (5 : Int32)), .val (.ref rd), .val (.int (1 : Int32)), .val (.int (1 : Int32)), .val (.ref out), .unset] [(.ref ou2)]))
      refine own_alenI C X at_264 (n := 0) A_ou2 rfl (pc' := 265) rfl ?_
      refine own_if_eq C X at_265 (pcT := 270) (pc' := 268) (by decide) (by decide) rfl (fun hc265 => ?_) (fun hc265 => absurd hc265 (by decide))
      refine own_aload C X at_270 rfl rfl (pc' := 272) rfl ?_
      refine own_alenI C X at_272 (n := 4) A_out rfl (pc' := 273) rfl ?_
      refine own_if_le C X at_273 (pcT := 306) (pc' := 276) (by decide) (by decide) rfl (fun hc273 => absurd hc273 (by decide)) (fun hc273 => ?_)
      refine own_aload C X at_276 rfl rfl (pc' := 278) rfl ?_
      refine own_iload C X at_278 rfl (pc' := 280) rfl ?_
      refine own_baload C X at_280 A_da (by decide) (i := 1) rfl (pc' := 281) rfl ?_
      refine own_istore C X at_281 (L' := #[.val (.int i0), .val (.int i1), .val (.int i2), .val (.int i3), .val (.ref da), .val (.int (0 : Int32)), .val (.int (0 : Int32)), .val (.int (5 : Int32)), .val (.ref rd), .val (.int (1 : Int32)), .val (.int (1 : Int32)), .val (.ref out), .val (.int t1)]) rfl (pc' := 283) rfl ?_
      refine own_aload C X at_283 rfl rfl (pc' := 285) rfl ?_
      refine own_iconst C X at_285 (v := 0) (by decide) (pc' := 286) rfl ?_
      refine own_aload C X at_286 rfl rfl (pc' := 288) rfl ?_
      refine own_iconst C X at_288 (v := 0) (by decide) (pc' := 289) rfl ?_
      refine own_baload C X at_289 A_out (by decide) (i := 0) rfl (pc' := 290) rfl ?_
      refine own_iconst C X at_290 (v := 1) (by decide) (pc' := 291) rfl ?_
      refine own_ixor C X at_291 rfl (pc' := 292) rfl ?_
      obtain ⟨tx, e_tx⟩ : ∃ z : Int32, (t1 ^^^ (1 : Int32)).toInt8.toInt32 = z := ⟨_, rfl⟩
      refine own_i2b C X at_292 e_tx (pc' := 293) rfl ?_
      refine own_bastore C X at_293 A_out (by decide) (i := 0) (Nat.le_of_ble_eq_true rfl) (own_i2bn e_tx) ge_out (pc' := 294) rfl ?_
      intro T h X K_ A_out_
      have A_out : own_IA Z h out .byte [tx, t2, t3, t4] := A_out_
      have A_da := A_da.keep K_ (ninS ne_da_out nin0)
      have E_da := E_da.keep K_
      have O_rd := O_rd.keep K_ (ninS ne_rd_out nin0)
      have A_ou2 := A_ou2.keep K_ (ninS (Ne.symm ne_out_ou2) nin0)
      have hSk := Nat.le_trans hSk K_.1
      refine own_aload C X at_294 rfl rfl (pc' := 296) rfl ?_
      refine own_iload C X at_296 rfl (pc' := 298) rfl ?_
      refine own_baload C X at_298 A_da (by decide) (i := 1) rfl (pc' := 299) rfl ?_
      refine own_iload C X at_299 rfl (pc' := 301) rfl ?_
      refine own_icmp_eq C X at_301 (pcT := 306) (pc' := 304) (by decide) (by decide) rfl (fun hc301 => ?_) (fun hc301 => absurd hc301 (not_not_intro rfl))
      refine own_iconst C X at_306 (v := 1) (by decide) (pc' := 307) rfl ?_
      exact own_ireturn_zW C X hS hSk at_307 (Nat.le_of_ble_eq_true rfl) (Nat.le_of_ble_eq_true rfl) (rfl)
    · refine own_istore C X at_127 (L' := #[.val (.int i0), .val (.int i1), .val (.int i2), .val (.int i3), .val (.ref da), .val (.int (0 : Int32)), .val (.int (0 : Int32)), .val (.int (5 : Int32)), .val (.ref rd), .val (.int (2 : Int32)), .unset, .unset, .unset]) rfl (pc' := 129) rfl ?_
      refine own_aload C X at_129 rfl rfl (pc' := 131) rfl ?_
      refine own_iload C X at_131 rfl (pc' := 133) rfl ?_
      refine own_ldcS C X hS hSk at_133 (hw _ (List.mem_of_getElem? (i := 20) rfl)) (own_strW hw) (n := 1024) (by decide) (by decide) (Nat.le_of_ble_eq_true rfl) (Nat.le_of_ble_eq_true rfl) (pc' := 135) rfl ?_
      intro T h ss vm k_ C X K_ hS hSk_
      have A_da := A_da.keep K_ nin0
      have E_da := E_da.keep K_
      have O_rd := O_rd.keep K_ nin0
      have hSk := Nat.le_trans hSk K_.1
      have hSk := hSk_
      refine own_callV C X at_135 (own_m_skip l Z a0 hw rd (2 : Int32) ss _ n0 (own_big C X) da (0 : Int32) (5 : Int32) (2 : Int32) (by decide) (by decide) O_rd ge_rd) O_rd.1 (hw _ (List.mem_of_getElem? (i := 27) rfl)) (hw _ (List.mem_of_getElem? (i := 28) rfl)) (hw _ (List.mem_of_getElem? (i := 30) rfl)) (hw _ (List.mem_of_getElem? (i := 29) rfl)) (hw _ (List.mem_of_getElem? (i := 3) rfl)) (hw _ (List.mem_of_getElem? (i := 31) rfl)) (by decide) own_pd_34082 rfl rfl (Nat.le_of_ble_eq_true rfl) (Nat.le_of_ble_eq_true rfl) (Nat.le_of_ble_eq_true rfl) (Nat.le_of_ble_eq_true rfl) (av := [(.int (2 : Int32)), (.ref ss)]) (S := []) rfl (pc' := 138) rfl ?_
      intro T h v X hQ
      obtain ⟨rfl, K_, O_rd⟩ := hQ
      have A_da := A_da.keep K_ (ninS ne_da_rd nin0)
      have E_da := E_da.keep K_
      have hSk := Nat.le_trans hSk K_.1
      show own_Go p e below n0 (own_FinW room_1 s (fun v h => v = some (.int 1))) (T.setTop (mkF m 138 #[.val (.int i0), .val (.int i1), .val (.int i2), .val (.int i3), .val (.ref da), .val (.int (0 : Int32)), .val (.int (0 : Int32)), .val (.int (5 : Int32)), .val (.ref rd), .val (.int (2 : Int32)), .unset, .unset, .unset] []))
      refine own_iload C X at_138 rfl (pc' := 140) rfl ?_
      refine own_iload C X at_140 rfl (pc' := 142) rfl ?_
      refine own_iadd C X at_142 (z := 2) (by decide) (pc' := 143) rfl ?_
      refine own_istore C X at_143 (L' := #[.val (.int i0), .val (.int i1), .val (.int i2), .val (.int i3), .val (.ref da), .val (.int (0 : Int32)), .val (.int (0 : Int32)), .val (.int (5 : Int32)), .val (.ref rd), .val (.int (2 : Int32)), .val (.int (2 : Int32)), .unset, .unset]) rfl (pc' := 145) rfl ?_
      refine own_aload C X at_145 rfl rfl (pc' := 147) rfl ?_
      have hbg := own_big C X
      refine own_callV C X at_147 (own_m_rest25 l Z a0 hw rd _ n0 hbg da t0 t1 t2 t3 t4 A_da E_da O_rd (Ne.symm ne_da_rd) ge_rd) O_rd.1 (hw _ (List.mem_of_getElem? (i := 36) rfl)) (hw _ (List.mem_of_getElem? (i := 37) rfl)) (hw _ (List.mem_of_getElem? (i := 39) rfl)) (hw _ (List.mem_of_getElem? (i := 38) rfl)) (hw _ (List.mem_of_getElem? (i := 3) rfl)) (hw _ (List.mem_of_getElem? (i := 40) rfl)) (by decide) own_pd_2087 rfl rfl (Nat.le_of_ble_eq_true rfl) (Nat.le_of_ble_eq_true rfl) (Nat.le_of_ble_eq_true rfl) (Nat.le_of_ble_eq_true rfl) (av := []) (S := []) rfl (pc' := 150) rfl ?_
      intro T h v X hQ
      obtain ⟨out, rfl, gq_out, K_, O_n, A_out⟩ := hQ
      have ne_da_out : da ≠ out := Nat.ne_of_lt (Nat.lt_of_lt_of_le A_da.lt gq_out)
      have ne_rd_out : rd ≠ out := Nat.ne_of_lt (Nat.lt_of_lt_of_le O_rd.lt gq_out)
      have ge_out : n0 ≤ out := Nat.le_trans hbg gq_out
      have O_rd := O_n
      have A_da := A_da.keep K_ (ninS ne_da_rd nin0)
      have E_da := E_da.keep K_
      have hSk := Nat.le_trans hSk K_.1
      show own_Go p e below n0 (own_FinW room_1 s (fun v h => v = some (.int 1))) (T.setTop (mkF m 150 #[.val (.int i0), .val (.int i1), .val (.int i2), .val (.int i3), .val (.ref da), .val (.int (0 : Int32)), .val (.int (0 : Int32)), .val (.int (5 : Int32)), .val (.ref rd), .val (.int (2 : Int32)), .val (.int (2 : Int32)), .unset, .unset] [(.ref out)]))
      refine own_astore C X at_150 rfl (L' := #[.val (.int i0), .val (.int i1), .val (.int i2), .val (.int i3), .val (.ref da), .val (.int (0 : Int32)), .val (.int (0 : Int32)), .val (.int (5 : Int32)), .val (.ref rd), .val (.int (2 : Int32)), .val (.int (2 : Int32)), .val (.ref out), .unset]) rfl (pc' := 152) rfl ?_
      refine own_aload C X at_152 rfl rfl (pc' := 154) rfl ?_
      refine own_aload C X at_154 rfl rfl (pc' := 156) rfl ?_
      refine own_acmp_ne C X at_156 rfl rfl (pcT := 161) (pc' := 159) (by decide) (by decide) rfl (fun hc156 => ?_) (fun hc156 => absurd hc156 (fun q => (Ne.symm ne_da_out) (Value.ref.inj q)))
      refine own_aload C X at_161 rfl rfl (pc' := 163) rfl ?_
      refine own_alenI C X at_163 (n := 3) A_out rfl (pc' := 164) rfl ?_
      refine own_iload C X at_164 rfl (pc' := 166) rfl ?_
      refine own_iload C X at_166 rfl (pc' := 168) rfl ?_
      refine own_isub C X at_168 (z := 3) (by decide) (pc' := 169) rfl ?_
      refine own_icmp_eq C X at_169 (pcT := 174) (pc' := 172) (by decide) (by decide) rfl (fun hc169 => ?_) (fun hc169 => absurd hc169 (by decide))
      refine own_aload C X at_174 rfl rfl (pc' := 176) rfl ?_
      refine own_aload C X at_176 rfl rfl (pc' := 178) rfl ?_
      refine own_iload C X at_178 rfl (pc' := 180) rfl ?_
      refine own_iconst C X at_180 (v := 0) (by decide) (pc' := 181) rfl ?_
      refine own_callS C X at_181 (own_m_sameY l Z a0 hw out da (2 : Int32) (0 : Int32) _ n0 (own_big C X) [t2, t3, t4] [t0, t1, t2, t3, t4] 3 rfl A_out A_da (by decide) 0 2 t2 (by decide) (by decide) rfl rfl) (hw _ (List.mem_of_getElem? (i := 59) rfl)) (hw _ (List.mem_of_getElem? (i := 60) rfl)) (hw _ (List.mem_of_getElem? (i := 61) rfl)) (hw _ (List.mem_of_getElem? (i := 62) rfl)) (by decide) own_pd_6987 rfl rfl (Nat.le_of_ble_eq_true rfl) (Nat.le_of_ble_eq_true rfl) (Nat.le_of_ble_eq_true rfl) (Nat.le_of_ble_eq_true rfl) (av := [(.ref out), (.ref da), (.int (2 : Int32)), (.int (0 : Int32))]) (S := []) rfl (pc' := 184) rfl ?_
      intro T h v X hQ
      obtain ⟨rfl, rfl⟩ := hQ
      show own_Go p e below n0 (own_FinW room_1 s (fun v h => v = some (.int 1))) (T.setTop (mkF m 184 #[.val (.int i0), .val (.int i1), .val (.int i2), .val (.int i3), .val (.ref da), .val (.int (0 : Int32)), .val (.int (0 : Int32)), .val (.int (5 : Int32)), .val (.ref rd), .val (.int (2 : Int32)), .val (.int (2 : Int32)), .val (.ref out), .unset] [(.int (1 : Int32))]))
      refine own_if_ne C X at_184 (pcT := 189) (pc' := 187) (by decide) (by decide) rfl (fun hc184 => ?_) (fun hc184 => absurd hc184 (by decide))
      refine own_aload C X at_189 rfl rfl (pc' := 191) rfl ?_
      refine own_aload C X at_191 rfl rfl (pc' := 193) rfl ?_
      refine own_iload C X at_193 rfl (pc' := 195) rfl ?_
      refine own_iconst C X at_195 (v := 1) (by decide) (pc' := 196) rfl ?_
      refine own_callS C X at_196 (own_m_sameY l Z a0 hw out da (2 : Int32) (1 : Int32) _ n0 (own_big C X) [t2, t3, t4] [t0, t1, t2, t3, t4] 3 rfl A_out A_da (by decide) 1 3 t3 (by decide) (by decide) rfl rfl) (hw _ (List.mem_of_getElem? (i := 59) rfl)) (hw _ (List.mem_of_getElem? (i := 60) rfl)) (hw _ (List.mem_of_getElem? (i := 61) rfl)) (hw _ (List.mem_of_getElem? (i := 62) rfl)) (by decide) own_pd_6987 rfl rfl (Nat.le_of_ble_eq_true rfl) (Nat.le_of_ble_eq_true rfl) (Nat.le_of_ble_eq_true rfl) (Nat.le_of_ble_eq_true rfl) (av := [(.ref out), (.ref da), (.int (2 : Int32)), (.int (1 : Int32))]) (S := []) rfl (pc' := 199) rfl ?_
      intro T h v X hQ
      obtain ⟨rfl, rfl⟩ := hQ
      show own_Go p e below n0 (own_FinW room_1 s (fun v h => v = some (.int 1))) (T.setTop (mkF m 199 #[.val (.int i0), .val (.int i1), .val (.int i2), .val (.int i3), .val (.ref da), .val (.int (0 : Int32)), .val (.int (0 : Int32)), .val (.int (5 : Int32)), .val (.ref rd), .val (.int (2 : Int32)), .val (.int (2 : Int32)), .val (.ref out), .unset] [(.int (1 : Int32))]))
      refine own_if_ne C X at_199 (pcT := 204) (pc' := 202) (by decide) (by decide) rfl (fun hc199 => ?_) (fun hc199 => absurd hc199 (by decide))
      refine own_aload C X at_204 rfl rfl (pc' := 206) rfl ?_
      refine own_aload C X at_206 rfl rfl (pc' := 208) rfl ?_
      refine own_iload C X at_208 rfl (pc' := 210) rfl ?_
      refine own_iconst C X at_210 (v := 2) (by decide) (pc' := 211) rfl ?_
      refine own_callS C X at_211 (own_m_sameY l Z a0 hw out da (2 : Int32) (2 : Int32) _ n0 (own_big C X) [t2, t3, t4] [t0, t1, t2, t3, t4] 3 rfl A_out A_da (by decide) 2 4 t4 (by decide) (by decide) rfl rfl) (hw _ (List.mem_of_getElem? (i := 59) rfl)) (hw _ (List.mem_of_getElem? (i := 60) rfl)) (hw _ (List.mem_of_getElem? (i := 61) rfl)) (hw _ (List.mem_of_getElem? (i := 62) rfl)) (by decide) own_pd_6987 rfl rfl (Nat.le_of_ble_eq_true rfl) (Nat.le_of_ble_eq_true rfl) (Nat.le_of_ble_eq_true rfl) (Nat.le_of_ble_eq_true rfl) (av := [(.ref out), (.ref da), (.int (2 : Int32)), (.int (2 : Int32))]) (S := []) rfl (pc' := 214) rfl ?_
      intro T h v X hQ
      obtain ⟨rfl, rfl⟩ := hQ
      show own_Go p e below n0 (own_FinW room_1 s (fun v h => v = some (.int 1))) (T.setTop (mkF m 214 #[.val (.int i0), .val (.int i1), .val (.int i2), .val (.int i3), .val (.ref da), .val (.int (0 : Int32)), .val (.int (0 : Int32)), .val (.int (5 : Int32)), .val (.ref rd), .val (.int (2 : Int32)), .val (.int (2 : Int32)), .val (.ref out), .unset] [(.int (1 : Int32))]))
      refine own_if_ne C X at_214 (pcT := 219) (pc' := 217) (by decide) (by decide) rfl (fun hc214 => ?_) (fun hc214 => absurd hc214 (by decide))
      refine own_aload C X at_219 rfl rfl (pc' := 221) rfl ?_
      refine own_aload C X at_221 rfl rfl (pc' := 223) rfl ?_
      refine own_iload C X at_223 rfl (pc' := 225) rfl ?_
      refine own_iconst C X at_225 (v := 3) (by decide) (pc' := 226) rfl ?_
      refine own_callS C X at_226 (own_m_sameN l Z a0 hw out da (2 : Int32) (3 : Int32) _ n0 (own_big C X) [t2, t3, t4] [t0, t1, t2, t3, t4] 3 rfl A_out A_da (by decide)) (hw _ (List.mem_of_getElem? (i := 59) rfl)) (hw _ (List.mem_of_getElem? (i := 60) rfl)) (hw _ (List.mem_of_getElem? (i := 61) rfl)) (hw _ (List.mem_of_getElem? (i := 62) rfl)) (by decide) own_pd_6987 rfl rfl (Nat.le_of_ble_eq_true rfl) (Nat.le_of_ble_eq_true rfl) (Nat.le_of_ble_eq_true rfl) (Nat.le_of_ble_eq_true rfl) (av := [(.ref out), (.ref da), (.int (2 : Int32)), (.int (3 : Int32))]) (S := []) rfl (pc' := 229) rfl ?_
      intro T h v X hQ
      obtain ⟨rfl, rfl⟩ := hQ
      show own_Go p e below n0 (own_FinW room_1 s (fun v h => v = some (.int 1))) (T.setTop (mkF m 229 #[.val (.int i0), .val (.int i1), .val (.int i2), .val (.int i3), .val (.ref da), .val (.int (0 : Int32)), .val (.int (0 : Int32)), .val (.int (5 : Int32)), .val (.ref rd), .val (.int (2 : Int32)), .val (.int (2 : Int32)), .val (.ref out), .unset] [(.int (1 : Int32))]))
      refine own_if_ne C X at_229 (pcT := 234) (pc' := 232) (by decide) (by decide) rfl (fun hc229 => ?_) (fun hc229 => absurd hc229 (by decide))
      refine own_aload C X at_234 rfl rfl (pc' := 236) rfl ?_
      refine own_aload C X at_236 rfl rfl (pc' := 238) rfl ?_
      refine own_iload C X at_238 rfl (pc' := 240) rfl ?_
      refine own_iconst C X at_240 (v := 4) (by decide) (pc' := 241) rfl ?_
      refine own_callS C X at_241 (own_m_sameN l Z a0 hw out da (2 : Int32) (4 : Int32) _ n0 (own_big C X) [t2, t3, t4] [t0, t1, t2, t3, t4] 3 rfl A_out A_da (by decide)) (hw _ (List.mem_of_getElem? (i := 59) rfl)) (hw _ (List.mem_of_getElem? (i := 60) rfl)) (hw _ (List.mem_of_getElem? (i := 61) rfl)) (hw _ (List.mem_of_getElem? (i := 62) rfl)) (by decide) own_pd_6987 rfl rfl (Nat.le_of_ble_eq_true rfl) (Nat.le_of_ble_eq_true rfl) (Nat.le_of_ble_eq_true rfl) (Nat.le_of_ble_eq_true rfl) (av := [(.ref out), (.ref da), (.int (2 : Int32)), (.int (4 : Int32))]) (S := []) rfl (pc' := 244) rfl ?_
      intro T h v X hQ
      obtain ⟨rfl, rfl⟩ := hQ
      show own_Go p e below n0 (own_FinW room_1 s (fun v h => v = some (.int 1))) (T.setTop (mkF m 244 #[.val (.int i0), .val (.int i1), .val (.int i2), .val (.int i3), .val (.ref da), .val (.int (0 : Int32)), .val (.int (0 : Int32)), .val (.int (5 : Int32)), .val (.ref rd), .val (.int (2 : Int32)), .val (.int (2 : Int32)), .val (.ref out), .unset] [(.int (1 : Int32))]))
      refine own_if_ne C X at_244 (pcT := 249) (pc' := 247) (by decide) (by decide) rfl (fun hc244 => ?_) (fun hc244 => absurd hc244 (by decide))
      refine own_aload C X at_249 rfl rfl (pc' := 251) rfl ?_
      refine own_callV C X at_251 (own_m_hr l Z a0 hw rd _ n0 (own_big C X) da (5 : Int32) (5 : Int32) O_rd) O_rd.1 (hw _ (List.mem_of_getElem? (i := 63) rfl)) (hw _ (List.mem_of_getElem? (i := 64) rfl)) (hw _ (List.mem_of_getElem? (i := 66) rfl)) (hw _ (List.mem_of_getElem? (i := 65) rfl)) (hw _ (List.mem_of_getElem? (i := 3) rfl)) (hw _ (List.mem_of_getElem? (i := 67) rfl)) (by decide) own_pd_1418 rfl rfl (Nat.le_of_ble_eq_true rfl) (Nat.le_of_ble_eq_true rfl) (Nat.le_of_ble_eq_true rfl) (Nat.le_of_ble_eq_true rfl) (av := []) (S := []) rfl (pc' := 254) rfl ?_
      intro T h v X hQ
      obtain ⟨rfl, rfl⟩ := hQ
      show own_Go p e below n0 (own_FinW room_1 s (fun v h => v = some (.int 1))) (T.setTop (mkF m 254 #[.val (.int i0), .val (.int i1), .val (.int i2), .val (.int i3), .val (.ref da), .val (.int (0 : Int32)), .val (.int (0 : Int32)), .val (.int (5 : Int32)), .val (.ref rd), .val (.int (2 : Int32)), .val (.int (2 : Int32)), .val (.ref out), .unset] [(.int (own_hr (5 : Int32) (5 : Int32)))]))
      rw [show own_hr (5 : Int32) (5 : Int32) = 0 from by decide]
      show own_Go p e below n0 (own_FinW room_1 s (fun v h => v = some (.int 1))) (T.setTop (mkF m 254 #[.val (.int i0), .val (.int i1), .val (.int i2), .val (.int i3), .val (.ref da), .val (.int (0 : Int32)), .val (.int (0 : Int32)), .val (.int (5 : Int32)), .val (.ref rd), .val (.int (2 : Int32)), .val (.int (2 : Int32)), .val (.ref out), .unset] [(.int (0 : Int32))]))
      refine own_if_eq C X at_254 (pcT := 259) (pc' := 257) (by decide) (by decide) rfl (fun hc254 => ?_) (fun hc254 => absurd hc254 (by decide))
      refine own_aload C X at_259 rfl rfl (pc' := 261) rfl ?_
      have hbg := own_big C X
      refine own_callV C X at_261 (own_m_rest55 l Z a0 hw rd _ n0 hbg da t0 t1 t2 t3 t4 A_da E_da O_rd (Ne.symm ne_da_rd) ge_rd) O_rd.1 (hw _ (List.mem_of_getElem? (i := 36) rfl)) (hw _ (List.mem_of_getElem? (i := 37) rfl)) (hw _ (List.mem_of_getElem? (i := 39) rfl)) (hw _ (List.mem_of_getElem? (i := 38) rfl)) (hw _ (List.mem_of_getElem? (i := 3) rfl)) (hw _ (List.mem_of_getElem? (i := 40) rfl)) (by decide) own_pd_2087 rfl rfl (Nat.le_of_ble_eq_true rfl) (Nat.le_of_ble_eq_true rfl) (Nat.le_of_ble_eq_true rfl) (Nat.le_of_ble_eq_true rfl) (av := []) (S := []) rfl (pc' := 264) rfl ?_
      intro T h v X hQ
      obtain ⟨ou2, rfl, gq_ou2, K_, O_n, A_ou2⟩ := hQ
      have ne_da_ou2 : da ≠ ou2 := Nat.ne_of_lt (Nat.lt_of_lt_of_le A_da.lt gq_ou2)
      have ne_rd_ou2 : rd ≠ ou2 := Nat.ne_of_lt (Nat.lt_of_lt_of_le O_rd.lt gq_ou2)
      have ne_out_ou2 : out ≠ ou2 := Nat.ne_of_lt (Nat.lt_of_lt_of_le A_out.lt gq_ou2)
      have ge_ou2 : n0 ≤ ou2 := Nat.le_trans hbg gq_ou2
      have O_rd := O_n
      have A_da := A_da.keep K_ (ninS ne_da_rd nin0)
      have E_da := E_da.keep K_
      have A_out := A_out.keep K_ (ninS (Ne.symm ne_rd_out) nin0)
      have hSk := Nat.le_trans hSk K_.1
      show own_Go p e below n0 (own_FinW room_1 s (fun v h => v = some (.int 1))) (T.setTop (mkF m 264 #[.val (.int i0), .val (.int i1), .val (.int i2), .val (.int i3), .val (.ref da), .val (.int (0 : Int32)), .val (.int (0 : Int32)), .val (.int (5 : Int32)), .val (.ref rd), .val (.int (2 : Int32)), .val (.int (2 : Int32)), .val (.ref out), .unset] [(.ref ou2)]))
      refine own_alenI C X at_264 (n := 0) A_ou2 rfl (pc' := 265) rfl ?_
      refine own_if_eq C X at_265 (pcT := 270) (pc' := 268) (by decide) (by decide) rfl (fun hc265 => ?_) (fun hc265 => absurd hc265 (by decide))
      refine own_aload C X at_270 rfl rfl (pc' := 272) rfl ?_
      refine own_alenI C X at_272 (n := 3) A_out rfl (pc' := 273) rfl ?_
      refine own_if_le C X at_273 (pcT := 306) (pc' := 276) (by decide) (by decide) rfl (fun hc273 => absurd hc273 (by decide)) (fun hc273 => ?_)
      refine own_aload C X at_276 rfl rfl (pc' := 278) rfl ?_
      refine own_iload C X at_278 rfl (pc' := 280) rfl ?_
      refine own_baload C X at_280 A_da (by decide) (i := 2) rfl (pc' := 281) rfl ?_
      refine own_istore C X at_281 (L' := #[.val (.int i0), .val (.int i1), .val (.int i2), .val (.int i3), .val (.ref da), .val (.int (0 : Int32)), .val (.int (0 : Int32)), .val (.int (5 : Int32)), .val (.ref rd), .val (.int (2 : Int32)), .val (.int (2 : Int32)), .val (.ref out), .val (.int t2)]) rfl (pc' := 283) rfl ?_
      refine own_aload C X at_283 rfl rfl (pc' := 285) rfl ?_
      refine own_iconst C X at_285 (v := 0) (by decide) (pc' := 286) rfl ?_
      refine own_aload C X at_286 rfl rfl (pc' := 288) rfl ?_
      refine own_iconst C X at_288 (v := 0) (by decide) (pc' := 289) rfl ?_
      refine own_baload C X at_289 A_out (by decide) (i := 0) rfl (pc' := 290) rfl ?_
      refine own_iconst C X at_290 (v := 1) (by decide) (pc' := 291) rfl ?_
      refine own_ixor C X at_291 rfl (pc' := 292) rfl ?_
      obtain ⟨tx, e_tx⟩ : ∃ z : Int32, (t2 ^^^ (1 : Int32)).toInt8.toInt32 = z := ⟨_, rfl⟩
      refine own_i2b C X at_292 e_tx (pc' := 293) rfl ?_
      refine own_bastore C X at_293 A_out (by decide) (i := 0) (Nat.le_of_ble_eq_true rfl) (own_i2bn e_tx) ge_out (pc' := 294) rfl ?_
      intro T h X K_ A_out_
      have A_out : own_IA Z h out .byte [tx, t3, t4] := A_out_
      have A_da := A_da.keep K_ (ninS ne_da_out nin0)
      have E_da := E_da.keep K_
      have O_rd := O_rd.keep K_ (ninS ne_rd_out nin0)
      have A_ou2 := A_ou2.keep K_ (ninS (Ne.symm ne_out_ou2) nin0)
      have hSk := Nat.le_trans hSk K_.1
      refine own_aload C X at_294 rfl rfl (pc' := 296) rfl ?_
      refine own_iload C X at_296 rfl (pc' := 298) rfl ?_
      refine own_baload C X at_298 A_da (by decide) (i := 2) rfl (pc' := 299) rfl ?_
      refine own_iload C X at_299 rfl (pc' := 301) rfl ?_
      refine own_icmp_eq C X at_301 (pcT := 306) (pc' := 304) (by decide) (by decide) rfl (fun hc301 => ?_) (fun hc301 => absurd hc301 (not_not_intro rfl))
      refine own_iconst C X at_306 (v := 1) (by decide) (pc' := 307) rfl ?_
      exact own_ireturn_zW C X hS hSk at_307 (Nat.le_of_ble_eq_true rfl) (Nat.le_of_ble_eq_true rfl) (rfl)
    · refine own_istore C X at_127 (L' := #[.val (.int i0), .val (.int i1), .val (.int i2), .val (.int i3), .val (.ref da), .val (.int (0 : Int32)), .val (.int (0 : Int32)), .val (.int (5 : Int32)), .val (.ref rd), .val (.int (3 : Int32)), .unset, .unset, .unset]) rfl (pc' := 129) rfl ?_
      refine own_aload C X at_129 rfl rfl (pc' := 131) rfl ?_
      refine own_iload C X at_131 rfl (pc' := 133) rfl ?_
      refine own_ldcS C X hS hSk at_133 (hw _ (List.mem_of_getElem? (i := 20) rfl)) (own_strW hw) (n := 1024) (by decide) (by decide) (Nat.le_of_ble_eq_true rfl) (Nat.le_of_ble_eq_true rfl) (pc' := 135) rfl ?_
      intro T h ss vm k_ C X K_ hS hSk_
      have A_da := A_da.keep K_ nin0
      have E_da := E_da.keep K_
      have O_rd := O_rd.keep K_ nin0
      have hSk := Nat.le_trans hSk K_.1
      have hSk := hSk_
      refine own_callV C X at_135 (own_m_skip l Z a0 hw rd (3 : Int32) ss _ n0 (own_big C X) da (0 : Int32) (5 : Int32) (3 : Int32) (by decide) (by decide) O_rd ge_rd) O_rd.1 (hw _ (List.mem_of_getElem? (i := 27) rfl)) (hw _ (List.mem_of_getElem? (i := 28) rfl)) (hw _ (List.mem_of_getElem? (i := 30) rfl)) (hw _ (List.mem_of_getElem? (i := 29) rfl)) (hw _ (List.mem_of_getElem? (i := 3) rfl)) (hw _ (List.mem_of_getElem? (i := 31) rfl)) (by decide) own_pd_34082 rfl rfl (Nat.le_of_ble_eq_true rfl) (Nat.le_of_ble_eq_true rfl) (Nat.le_of_ble_eq_true rfl) (Nat.le_of_ble_eq_true rfl) (av := [(.int (3 : Int32)), (.ref ss)]) (S := []) rfl (pc' := 138) rfl ?_
      intro T h v X hQ
      obtain ⟨rfl, K_, O_rd⟩ := hQ
      have A_da := A_da.keep K_ (ninS ne_da_rd nin0)
      have E_da := E_da.keep K_
      have hSk := Nat.le_trans hSk K_.1
      show own_Go p e below n0 (own_FinW room_1 s (fun v h => v = some (.int 1))) (T.setTop (mkF m 138 #[.val (.int i0), .val (.int i1), .val (.int i2), .val (.int i3), .val (.ref da), .val (.int (0 : Int32)), .val (.int (0 : Int32)), .val (.int (5 : Int32)), .val (.ref rd), .val (.int (3 : Int32)), .unset, .unset, .unset] []))
      refine own_iload C X at_138 rfl (pc' := 140) rfl ?_
      refine own_iload C X at_140 rfl (pc' := 142) rfl ?_
      refine own_iadd C X at_142 (z := 3) (by decide) (pc' := 143) rfl ?_
      refine own_istore C X at_143 (L' := #[.val (.int i0), .val (.int i1), .val (.int i2), .val (.int i3), .val (.ref da), .val (.int (0 : Int32)), .val (.int (0 : Int32)), .val (.int (5 : Int32)), .val (.ref rd), .val (.int (3 : Int32)), .val (.int (3 : Int32)), .unset, .unset]) rfl (pc' := 145) rfl ?_
      refine own_aload C X at_145 rfl rfl (pc' := 147) rfl ?_
      have hbg := own_big C X
      refine own_callV C X at_147 (own_m_rest35 l Z a0 hw rd _ n0 hbg da t0 t1 t2 t3 t4 A_da E_da O_rd (Ne.symm ne_da_rd) ge_rd) O_rd.1 (hw _ (List.mem_of_getElem? (i := 36) rfl)) (hw _ (List.mem_of_getElem? (i := 37) rfl)) (hw _ (List.mem_of_getElem? (i := 39) rfl)) (hw _ (List.mem_of_getElem? (i := 38) rfl)) (hw _ (List.mem_of_getElem? (i := 3) rfl)) (hw _ (List.mem_of_getElem? (i := 40) rfl)) (by decide) own_pd_2087 rfl rfl (Nat.le_of_ble_eq_true rfl) (Nat.le_of_ble_eq_true rfl) (Nat.le_of_ble_eq_true rfl) (Nat.le_of_ble_eq_true rfl) (av := []) (S := []) rfl (pc' := 150) rfl ?_
      intro T h v X hQ
      obtain ⟨out, rfl, gq_out, K_, O_n, A_out⟩ := hQ
      have ne_da_out : da ≠ out := Nat.ne_of_lt (Nat.lt_of_lt_of_le A_da.lt gq_out)
      have ne_rd_out : rd ≠ out := Nat.ne_of_lt (Nat.lt_of_lt_of_le O_rd.lt gq_out)
      have ge_out : n0 ≤ out := Nat.le_trans hbg gq_out
      have O_rd := O_n
      have A_da := A_da.keep K_ (ninS ne_da_rd nin0)
      have E_da := E_da.keep K_
      have hSk := Nat.le_trans hSk K_.1
      show own_Go p e below n0 (own_FinW room_1 s (fun v h => v = some (.int 1))) (T.setTop (mkF m 150 #[.val (.int i0), .val (.int i1), .val (.int i2), .val (.int i3), .val (.ref da), .val (.int (0 : Int32)), .val (.int (0 : Int32)), .val (.int (5 : Int32)), .val (.ref rd), .val (.int (3 : Int32)), .val (.int (3 : Int32)), .unset, .unset] [(.ref out)]))
      refine own_astore C X at_150 rfl (L' := #[.val (.int i0), .val (.int i1), .val (.int i2), .val (.int i3), .val (.ref da), .val (.int (0 : Int32)), .val (.int (0 : Int32)), .val (.int (5 : Int32)), .val (.ref rd), .val (.int (3 : Int32)), .val (.int (3 : Int32)), .val (.ref out), .unset]) rfl (pc' := 152) rfl ?_
      refine own_aload C X at_152 rfl rfl (pc' := 154) rfl ?_
      refine own_aload C X at_154 rfl rfl (pc' := 156) rfl ?_
      refine own_acmp_ne C X at_156 rfl rfl (pcT := 161) (pc' := 159) (by decide) (by decide) rfl (fun hc156 => ?_) (fun hc156 => absurd hc156 (fun q => (Ne.symm ne_da_out) (Value.ref.inj q)))
      refine own_aload C X at_161 rfl rfl (pc' := 163) rfl ?_
      refine own_alenI C X at_163 (n := 2) A_out rfl (pc' := 164) rfl ?_
      refine own_iload C X at_164 rfl (pc' := 166) rfl ?_
      refine own_iload C X at_166 rfl (pc' := 168) rfl ?_
      refine own_isub C X at_168 (z := 2) (by decide) (pc' := 169) rfl ?_
      refine own_icmp_eq C X at_169 (pcT := 174) (pc' := 172) (by decide) (by decide) rfl (fun hc169 => ?_) (fun hc169 => absurd hc169 (by decide))
      refine own_aload C X at_174 rfl rfl (pc' := 176) rfl ?_
      refine own_aload C X at_176 rfl rfl (pc' := 178) rfl ?_
      refine own_iload C X at_178 rfl (pc' := 180) rfl ?_
      refine own_iconst C X at_180 (v := 0) (by decide) (pc' := 181) rfl ?_
      refine own_callS C X at_181 (own_m_sameY l Z a0 hw out da (3 : Int32) (0 : Int32) _ n0 (own_big C X) [t3, t4] [t0, t1, t2, t3, t4] 2 rfl A_out A_da (by decide) 0 3 t3 (by decide) (by decide) rfl rfl) (hw _ (List.mem_of_getElem? (i := 59) rfl)) (hw _ (List.mem_of_getElem? (i := 60) rfl)) (hw _ (List.mem_of_getElem? (i := 61) rfl)) (hw _ (List.mem_of_getElem? (i := 62) rfl)) (by decide) own_pd_6987 rfl rfl (Nat.le_of_ble_eq_true rfl) (Nat.le_of_ble_eq_true rfl) (Nat.le_of_ble_eq_true rfl) (Nat.le_of_ble_eq_true rfl) (av := [(.ref out), (.ref da), (.int (3 : Int32)), (.int (0 : Int32))]) (S := []) rfl (pc' := 184) rfl ?_
      intro T h v X hQ
      obtain ⟨rfl, rfl⟩ := hQ
      show own_Go p e below n0 (own_FinW room_1 s (fun v h => v = some (.int 1))) (T.setTop (mkF m 184 #[.val (.int i0), .val (.int i1), .val (.int i2), .val (.int i3), .val (.ref da), .val (.int (0 : Int32)), .val (.int (0 : Int32)), .val (.int (5 : Int32)), .val (.ref rd), .val (.int (3 : Int32)), .val (.int (3 : Int32)), .val (.ref out), .unset] [(.int (1 : Int32))]))
      refine own_if_ne C X at_184 (pcT := 189) (pc' := 187) (by decide) (by decide) rfl (fun hc184 => ?_) (fun hc184 => absurd hc184 (by decide))
      refine own_aload C X at_189 rfl rfl (pc' := 191) rfl ?_
      refine own_aload C X at_191 rfl rfl (pc' := 193) rfl ?_
      refine own_iload C X at_193 rfl (pc' := 195) rfl ?_
      refine own_iconst C X at_195 (v := 1) (by decide) (pc' := 196) rfl ?_
      refine own_callS C X at_196 (own_m_sameY l Z a0 hw out da (3 : Int32) (1 : Int32) _ n0 (own_big C X) [t3, t4] [t0, t1, t2, t3, t4] 2 rfl A_out A_da (by decide) 1 4 t4 (by decide) (by decide) rfl rfl) (hw _ (List.mem_of_getElem? (i := 59) rfl)) (hw _ (List.mem_of_getElem? (i := 60) rfl)) (hw _ (List.mem_of_getElem? (i := 61) rfl)) (hw _ (List.mem_of_getElem? (i := 62) rfl)) (by decide) own_pd_6987 rfl rfl (Nat.le_of_ble_eq_true rfl) (Nat.le_of_ble_eq_true rfl) (Nat.le_of_ble_eq_true rfl) (Nat.le_of_ble_eq_true rfl) (av := [(.ref out), (.ref da), (.int (3 : Int32)), (.int (1 : Int32))]) (S := []) rfl (pc' := 199) rfl ?_
      intro T h v X hQ
      obtain ⟨rfl, rfl⟩ := hQ
      show own_Go p e below n0 (own_FinW room_1 s (fun v h => v = some (.int 1))) (T.setTop (mkF m 199 #[.val (.int i0), .val (.int i1), .val (.int i2), .val (.int i3), .val (.ref da), .val (.int (0 : Int32)), .val (.int (0 : Int32)), .val (.int (5 : Int32)), .val (.ref rd), .val (.int (3 : Int32)), .val (.int (3 : Int32)), .val (.ref out), .unset] [(.int (1 : Int32))]))
      refine own_if_ne C X at_199 (pcT := 204) (pc' := 202) (by decide) (by decide) rfl (fun hc199 => ?_) (fun hc199 => absurd hc199 (by decide))
      refine own_aload C X at_204 rfl rfl (pc' := 206) rfl ?_
      refine own_aload C X at_206 rfl rfl (pc' := 208) rfl ?_
      refine own_iload C X at_208 rfl (pc' := 210) rfl ?_
      refine own_iconst C X at_210 (v := 2) (by decide) (pc' := 211) rfl ?_
      refine own_callS C X at_211 (own_m_sameN l Z a0 hw out da (3 : Int32) (2 : Int32) _ n0 (own_big C X) [t3, t4] [t0, t1, t2, t3, t4] 2 rfl A_out A_da (by decide)) (hw _ (List.mem_of_getElem? (i := 59) rfl)) (hw _ (List.mem_of_getElem? (i := 60) rfl)) (hw _ (List.mem_of_getElem? (i := 61) rfl)) (hw _ (List.mem_of_getElem? (i := 62) rfl)) (by decide) own_pd_6987 rfl rfl (Nat.le_of_ble_eq_true rfl) (Nat.le_of_ble_eq_true rfl) (Nat.le_of_ble_eq_true rfl) (Nat.le_of_ble_eq_true rfl) (av := [(.ref out), (.ref da), (.int (3 : Int32)), (.int (2 : Int32))]) (S := []) rfl (pc' := 214) rfl ?_
      intro T h v X hQ
      obtain ⟨rfl, rfl⟩ := hQ
      show own_Go p e below n0 (own_FinW room_1 s (fun v h => v = some (.int 1))) (T.setTop (mkF m 214 #[.val (.int i0), .val (.int i1), .val (.int i2), .val (.int i3), .val (.ref da), .val (.int (0 : Int32)), .val (.int (0 : Int32)), .val (.int (5 : Int32)), .val (.ref rd), .val (.int (3 : Int32)), .val (.int (3 : Int32)), .val (.ref out), .unset] [(.int (1 : Int32))]))
      refine own_if_ne C X at_214 (pcT := 219) (pc' := 217) (by decide) (by decide) rfl (fun hc214 => ?_) (fun hc214 => absurd hc214 (by decide))
      refine own_aload C X at_219 rfl rfl (pc' := 221) rfl ?_
      refine own_aload C X at_221 rfl rfl (pc' := 223) rfl ?_
      refine own_iload C X at_223 rfl (pc' := 225) rfl ?_
      refine own_iconst C X at_225 (v := 3) (by decide) (pc' := 226) rfl ?_
      refine own_callS C X at_226 (own_m_sameN l Z a0 hw out da (3 : Int32) (3 : Int32) _ n0 (own_big C X) [t3, t4] [t0, t1, t2, t3, t4] 2 rfl A_out A_da (by decide)) (hw _ (List.mem_of_getElem? (i := 59) rfl)) (hw _ (List.mem_of_getElem? (i := 60) rfl)) (hw _ (List.mem_of_getElem? (i := 61) rfl)) (hw _ (List.mem_of_getElem? (i := 62) rfl)) (by decide) own_pd_6987 rfl rfl (Nat.le_of_ble_eq_true rfl) (Nat.le_of_ble_eq_true rfl) (Nat.le_of_ble_eq_true rfl) (Nat.le_of_ble_eq_true rfl) (av := [(.ref out), (.ref da), (.int (3 : Int32)), (.int (3 : Int32))]) (S := []) rfl (pc' := 229) rfl ?_
      intro T h v X hQ
      obtain ⟨rfl, rfl⟩ := hQ
      show own_Go p e below n0 (own_FinW room_1 s (fun v h => v = some (.int 1))) (T.setTop (mkF m 229 #[.val (.int i0), .val (.int i1), .val (.int i2), .val (.int i3), .val (.ref da), .val (.int (0 : Int32)), .val (.int (0 : Int32)), .val (.int (5 : Int32)), .val (.ref rd), .val (.int (3 : Int32)), .val (.int (3 : Int32)), .val (.ref out), .unset] [(.int (1 : Int32))]))
      refine own_if_ne C X at_229 (pcT := 234) (pc' := 232) (by decide) (by decide) rfl (fun hc229 => ?_) (fun hc229 => absurd hc229 (by decide))
      refine own_aload C X at_234 rfl rfl (pc' := 236) rfl ?_
      refine own_aload C X at_236 rfl rfl (pc' := 238) rfl ?_
      refine own_iload C X at_238 rfl (pc' := 240) rfl ?_
      refine own_iconst C X at_240 (v := 4) (by decide) (pc' := 241) rfl ?_
      refine own_callS C X at_241 (own_m_sameN l Z a0 hw out da (3 : Int32) (4 : Int32) _ n0 (own_big C X) [t3, t4] [t0, t1, t2, t3, t4] 2 rfl A_out A_da (by decide)) (hw _ (List.mem_of_getElem? (i := 59) rfl)) (hw _ (List.mem_of_getElem? (i := 60) rfl)) (hw _ (List.mem_of_getElem? (i := 61) rfl)) (hw _ (List.mem_of_getElem? (i := 62) rfl)) (by decide) own_pd_6987 rfl rfl (Nat.le_of_ble_eq_true rfl) (Nat.le_of_ble_eq_true rfl) (Nat.le_of_ble_eq_true rfl) (Nat.le_of_ble_eq_true rfl) (av := [(.ref out), (.ref da), (.int (3 : Int32)), (.int (4 : Int32))]) (S := []) rfl (pc' := 244) rfl ?_
      intro T h v X hQ
      obtain ⟨rfl, rfl⟩ := hQ
      show own_Go p e below n0 (own_FinW room_1 s (fun v h => v = some (.int 1))) (T.setTop (mkF m 244 #[.val (.int i0), .val (.int i1), .val (.int i2), .val (.int i3), .val (.ref da), .val (.int (0 : Int32)), .val (.int (0 : Int32)), .val (.int (5 : Int32)), .val (.ref rd), .val (.int (3 : Int32)), .val (.int (3 : Int32)), .val (.ref out), .unset] [(.int (1 : Int32))]))
      refine own_if_ne C X at_244 (pcT := 249) (pc' := 247) (by decide) (by decide) rfl (fun hc244 => ?_) (fun hc244 => absurd hc244 (by decide))
      refine own_aload C X at_249 rfl rfl (pc' := 251) rfl ?_
      refine own_callV C X at_251 (own_m_hr l Z a0 hw rd _ n0 (own_big C X) da (5 : Int32) (5 : Int32) O_rd) O_rd.1 (hw _ (List.mem_of_getElem? (i := 63) rfl)) (hw _ (List.mem_of_getElem? (i := 64) rfl)) (hw _ (List.mem_of_getElem? (i := 66) rfl)) (hw _ (List.mem_of_getElem? (i := 65) rfl)) (hw _ (List.mem_of_getElem? (i := 3) rfl)) (hw _ (List.mem_of_getElem? (i := 67) rfl)) (by decide) own_pd_1418 rfl rfl (Nat.le_of_ble_eq_true rfl) (Nat.le_of_ble_eq_true rfl) (Nat.le_of_ble_eq_true rfl) (Nat.le_of_ble_eq_true rfl) (av := []) (S := []) rfl (pc' := 254) rfl ?_
      intro T h v X hQ
      obtain ⟨rfl, rfl⟩ := hQ
      show own_Go p e below n0 (own_FinW room_1 s (fun v h => v = some (.int 1))) (T.setTop (mkF m 254 #[.val (.int i0), .val (.int i1), .val (.int i2), .val (.int i3), .val (.ref da), .val (.int (0 : Int32)), .val (.int (0 : Int32)), .val (.int (5 : Int32)), .val (.ref rd), .val (.int (3 : Int32)), .val (.int (3 : Int32)), .val (.ref out), .unset] [(.int (own_hr (5 : Int32) (5 : Int32)))]))
      rw [show own_hr (5 : Int32) (5 : Int32) = 0 from by decide]
      show own_Go p e below n0 (own_FinW room_1 s (fun v h => v = some (.int 1))) (T.setTop (mkF m 254 #[.val (.int i0), .val (.int i1), .val (.int i2), .val (.int i3), .val (.ref da), .val (.int (0 : Int32)), .val (.int (0 : Int32)), .val (.int (5 : Int32)), .val (.ref rd), .val (.int (3 : Int32)), .val (.int (3 : Int32)), .val (.ref out), .unset] [(.int (0 : Int32))]))
      refine own_if_eq C X at_254 (pcT := 259) (pc' := 257) (by decide) (by decide) rfl (fun hc254 => ?_) (fun hc254 => absurd hc254 (by decide))
      refine own_aload C X at_259 rfl rfl (pc' := 261) rfl ?_
      have hbg := own_big C X
      refine own_callV C X at_261 (own_m_rest55 l Z a0 hw rd _ n0 hbg da t0 t1 t2 t3 t4 A_da E_da O_rd (Ne.symm ne_da_rd) ge_rd) O_rd.1 (hw _ (List.mem_of_getElem? (i := 36) rfl)) (hw _ (List.mem_of_getElem? (i := 37) rfl)) (hw _ (List.mem_of_getElem? (i := 39) rfl)) (hw _ (List.mem_of_getElem? (i := 38) rfl)) (hw _ (List.mem_of_getElem? (i := 3) rfl)) (hw _ (List.mem_of_getElem? (i := 40) rfl)) (by decide) own_pd_2087 rfl rfl (Nat.le_of_ble_eq_true rfl) (Nat.le_of_ble_eq_true rfl) (Nat.le_of_ble_eq_true rfl) (Nat.le_of_ble_eq_true rfl) (av := []) (S := []) rfl (pc' := 264) rfl ?_
      intro T h v X hQ
      obtain ⟨ou2, rfl, gq_ou2, K_, O_n, A_ou2⟩ := hQ
      have ne_da_ou2 : da ≠ ou2 := Nat.ne_of_lt (Nat.lt_of_lt_of_le A_da.lt gq_ou2)
      have ne_rd_ou2 : rd ≠ ou2 := Nat.ne_of_lt (Nat.lt_of_lt_of_le O_rd.lt gq_ou2)
      have ne_out_ou2 : out ≠ ou2 := Nat.ne_of_lt (Nat.lt_of_lt_of_le A_out.lt gq_ou2)
      have ge_ou2 : n0 ≤ ou2 := Nat.le_trans hbg gq_ou2
      have O_rd := O_n
      have A_da := A_da.keep K_ (ninS ne_da_rd nin0)
      have E_da := E_da.keep K_
      have A_out := A_out.keep K_ (ninS (Ne.symm ne_rd_out) nin0)
      have hSk := Nat.le_trans hSk K_.1
      show own_Go p e below n0 (own_FinW room_1 s (fun v h => v = some (.int 1))) (T.setTop (mkF m 264 #[.val (.int i0), .val (.int i1), .val (.int i2), .val (.int i3), .val (.ref da), .val (.int (0 : Int32)), .val (.int (0 : Int32)), .val (.int (5 : Int32)), .val (.ref rd), .val (.int (3 : Int32)), .val (.int (3 : Int32)), .val (.ref out), .unset] [(.ref ou2)]))
      refine own_alenI C X at_264 (n := 0) A_ou2 rfl (pc' := 265) rfl ?_
      refine own_if_eq C X at_265 (pcT := 270) (pc' := 268) (by decide) (by decide) rfl (fun hc265 => ?_) (fun hc265 => absurd hc265 (by decide))
      refine own_aload C X at_270 rfl rfl (pc' := 272) rfl ?_
      refine own_alenI C X at_272 (n := 2) A_out rfl (pc' := 273) rfl ?_
      refine own_if_le C X at_273 (pcT := 306) (pc' := 276) (by decide) (by decide) rfl (fun hc273 => absurd hc273 (by decide)) (fun hc273 => ?_)
      refine own_aload C X at_276 rfl rfl (pc' := 278) rfl ?_
      refine own_iload C X at_278 rfl (pc' := 280) rfl ?_
      refine own_baload C X at_280 A_da (by decide) (i := 3) rfl (pc' := 281) rfl ?_
      refine own_istore C X at_281 (L' := #[.val (.int i0), .val (.int i1), .val (.int i2), .val (.int i3), .val (.ref da), .val (.int (0 : Int32)), .val (.int (0 : Int32)), .val (.int (5 : Int32)), .val (.ref rd), .val (.int (3 : Int32)), .val (.int (3 : Int32)), .val (.ref out), .val (.int t3)]) rfl (pc' := 283) rfl ?_
      refine own_aload C X at_283 rfl rfl (pc' := 285) rfl ?_
      refine own_iconst C X at_285 (v := 0) (by decide) (pc' := 286) rfl ?_
      refine own_aload C X at_286 rfl rfl (pc' := 288) rfl ?_
      refine own_iconst C X at_288 (v := 0) (by decide) (pc' := 289) rfl ?_
      refine own_baload C X at_289 A_out (by decide) (i := 0) rfl (pc' := 290) rfl ?_
      refine own_iconst C X at_290 (v := 1) (by decide) (pc' := 291) rfl ?_
      refine own_ixor C X at_291 rfl (pc' := 292) rfl ?_
      obtain ⟨tx, e_tx⟩ : ∃ z : Int32, (t3 ^^^ (1 : Int32)).toInt8.toInt32 = z := ⟨_, rfl⟩
      refine own_i2b C X at_292 e_tx (pc' := 293) rfl ?_
      refine own_bastore C X at_293 A_out (by decide) (i := 0) (Nat.le_of_ble_eq_true rfl) (own_i2bn e_tx) ge_out (pc' := 294) rfl ?_
      intro T h X K_ A_out_
      have A_out : own_IA Z h out .byte [tx, t4] := A_out_
      have A_da := A_da.keep K_ (ninS ne_da_out nin0)
      have E_da := E_da.keep K_
      have O_rd := O_rd.keep K_ (ninS ne_rd_out nin0)
      have A_ou2 := A_ou2.keep K_ (ninS (Ne.symm ne_out_ou2) nin0)
      have hSk := Nat.le_trans hSk K_.1
      refine own_aload C X at_294 rfl rfl (pc' := 296) rfl ?_
      refine own_iload C X at_296 rfl (pc' := 298) rfl ?_
      refine own_baload C X at_298 A_da (by decide) (i := 3) rfl (pc' := 299) rfl ?_
      refine own_iload C X at_299 rfl (pc' := 301) rfl ?_
      refine own_icmp_eq C X at_301 (pcT := 306) (pc' := 304) (by decide) (by decide) rfl (fun hc301 => ?_) (fun hc301 => absurd hc301 (not_not_intro rfl))
      refine own_iconst C X at_306 (v := 1) (by decide) (pc' := 307) rfl ?_
      exact own_ireturn_zW C X hS hSk at_307 (Nat.le_of_ble_eq_true rfl) (Nat.le_of_ble_eq_true rfl) (rfl)
    · refine own_istore C X at_127 (L' := #[.val (.int i0), .val (.int i1), .val (.int i2), .val (.int i3), .val (.ref da), .val (.int (0 : Int32)), .val (.int (0 : Int32)), .val (.int (5 : Int32)), .val (.ref rd), .val (.int (4 : Int32)), .unset, .unset, .unset]) rfl (pc' := 129) rfl ?_
      refine own_aload C X at_129 rfl rfl (pc' := 131) rfl ?_
      refine own_iload C X at_131 rfl (pc' := 133) rfl ?_
      refine own_ldcS C X hS hSk at_133 (hw _ (List.mem_of_getElem? (i := 20) rfl)) (own_strW hw) (n := 1024) (by decide) (by decide) (Nat.le_of_ble_eq_true rfl) (Nat.le_of_ble_eq_true rfl) (pc' := 135) rfl ?_
      intro T h ss vm k_ C X K_ hS hSk_
      have A_da := A_da.keep K_ nin0
      have E_da := E_da.keep K_
      have O_rd := O_rd.keep K_ nin0
      have hSk := Nat.le_trans hSk K_.1
      have hSk := hSk_
      refine own_callV C X at_135 (own_m_skip l Z a0 hw rd (4 : Int32) ss _ n0 (own_big C X) da (0 : Int32) (5 : Int32) (4 : Int32) (by decide) (by decide) O_rd ge_rd) O_rd.1 (hw _ (List.mem_of_getElem? (i := 27) rfl)) (hw _ (List.mem_of_getElem? (i := 28) rfl)) (hw _ (List.mem_of_getElem? (i := 30) rfl)) (hw _ (List.mem_of_getElem? (i := 29) rfl)) (hw _ (List.mem_of_getElem? (i := 3) rfl)) (hw _ (List.mem_of_getElem? (i := 31) rfl)) (by decide) own_pd_34082 rfl rfl (Nat.le_of_ble_eq_true rfl) (Nat.le_of_ble_eq_true rfl) (Nat.le_of_ble_eq_true rfl) (Nat.le_of_ble_eq_true rfl) (av := [(.int (4 : Int32)), (.ref ss)]) (S := []) rfl (pc' := 138) rfl ?_
      intro T h v X hQ
      obtain ⟨rfl, K_, O_rd⟩ := hQ
      have A_da := A_da.keep K_ (ninS ne_da_rd nin0)
      have E_da := E_da.keep K_
      have hSk := Nat.le_trans hSk K_.1
      show own_Go p e below n0 (own_FinW room_1 s (fun v h => v = some (.int 1))) (T.setTop (mkF m 138 #[.val (.int i0), .val (.int i1), .val (.int i2), .val (.int i3), .val (.ref da), .val (.int (0 : Int32)), .val (.int (0 : Int32)), .val (.int (5 : Int32)), .val (.ref rd), .val (.int (4 : Int32)), .unset, .unset, .unset] []))
      refine own_iload C X at_138 rfl (pc' := 140) rfl ?_
      refine own_iload C X at_140 rfl (pc' := 142) rfl ?_
      refine own_iadd C X at_142 (z := 4) (by decide) (pc' := 143) rfl ?_
      refine own_istore C X at_143 (L' := #[.val (.int i0), .val (.int i1), .val (.int i2), .val (.int i3), .val (.ref da), .val (.int (0 : Int32)), .val (.int (0 : Int32)), .val (.int (5 : Int32)), .val (.ref rd), .val (.int (4 : Int32)), .val (.int (4 : Int32)), .unset, .unset]) rfl (pc' := 145) rfl ?_
      refine own_aload C X at_145 rfl rfl (pc' := 147) rfl ?_
      have hbg := own_big C X
      refine own_callV C X at_147 (own_m_rest45 l Z a0 hw rd _ n0 hbg da t0 t1 t2 t3 t4 A_da E_da O_rd (Ne.symm ne_da_rd) ge_rd) O_rd.1 (hw _ (List.mem_of_getElem? (i := 36) rfl)) (hw _ (List.mem_of_getElem? (i := 37) rfl)) (hw _ (List.mem_of_getElem? (i := 39) rfl)) (hw _ (List.mem_of_getElem? (i := 38) rfl)) (hw _ (List.mem_of_getElem? (i := 3) rfl)) (hw _ (List.mem_of_getElem? (i := 40) rfl)) (by decide) own_pd_2087 rfl rfl (Nat.le_of_ble_eq_true rfl) (Nat.le_of_ble_eq_true rfl) (Nat.le_of_ble_eq_true rfl) (Nat.le_of_ble_eq_true rfl) (av := []) (S := []) rfl (pc' := 150) rfl ?_
      intro T h v X hQ
      obtain ⟨out, rfl, gq_out, K_, O_n, A_out⟩ := hQ
      have ne_da_out : da ≠ out := Nat.ne_of_lt (Nat.lt_of_lt_of_le A_da.lt gq_out)
      have ne_rd_out : rd ≠ out := Nat.ne_of_lt (Nat.lt_of_lt_of_le O_rd.lt gq_out)
      have ge_out : n0 ≤ out := Nat.le_trans hbg gq_out
      have O_rd := O_n
      have A_da := A_da.keep K_ (ninS ne_da_rd nin0)
      have E_da := E_da.keep K_
      have hSk := Nat.le_trans hSk K_.1
      show own_Go p e below n0 (own_FinW room_1 s (fun v h => v = some (.int 1))) (T.setTop (mkF m 150 #[.val (.int i0), .val (.int i1), .val (.int i2), .val (.int i3), .val (.ref da), .val (.int (0 : Int32)), .val (.int (0 : Int32)), .val (.int (5 : Int32)), .val (.ref rd), .val (.int (4 : Int32)), .val (.int (4 : Int32)), .unset, .unset] [(.ref out)]))
      refine own_astore C X at_150 rfl (L' := #[.val (.int i0), .val (.int i1), .val (.int i2), .val (.int i3), .val (.ref da), .val (.int (0 : Int32)), .val (.int (0 : Int32)), .val (.int (5 : Int32)), .val (.ref rd), .val (.int (4 : Int32)), .val (.int (4 : Int32)), .val (.ref out), .unset]) rfl (pc' := 152) rfl ?_
      refine own_aload C X at_152 rfl rfl (pc' := 154) rfl ?_
      refine own_aload C X at_154 rfl rfl (pc' := 156) rfl ?_
      refine own_acmp_ne C X at_156 rfl rfl (pcT := 161) (pc' := 159) (by decide) (by decide) rfl (fun hc156 => ?_) (fun hc156 => absurd hc156 (fun q => (Ne.symm ne_da_out) (Value.ref.inj q)))
      refine own_aload C X at_161 rfl rfl (pc' := 163) rfl ?_
      refine own_alenI C X at_163 (n := 1) A_out rfl (pc' := 164) rfl ?_
      refine own_iload C X at_164 rfl (pc' := 166) rfl ?_
      refine own_iload C X at_166 rfl (pc' := 168) rfl ?_
      refine own_isub C X at_168 (z := 1) (by decide) (pc' := 169) rfl ?_
      refine own_icmp_eq C X at_169 (pcT := 174) (pc' := 172) (by decide) (by decide) rfl (fun hc169 => ?_) (fun hc169 => absurd hc169 (by decide))
      refine own_aload C X at_174 rfl rfl (pc' := 176) rfl ?_
      refine own_aload C X at_176 rfl rfl (pc' := 178) rfl ?_
      refine own_iload C X at_178 rfl (pc' := 180) rfl ?_
      refine own_iconst C X at_180 (v := 0) (by decide) (pc' := 181) rfl ?_
      refine own_callS C X at_181 (own_m_sameY l Z a0 hw out da (4 : Int32) (0 : Int32) _ n0 (own_big C X) [t4] [t0, t1, t2, t3, t4] 1 rfl A_out A_da (by decide) 0 4 t4 (by decide) (by decide) rfl rfl) (hw _ (List.mem_of_getElem? (i := 59) rfl)) (hw _ (List.mem_of_getElem? (i := 60) rfl)) (hw _ (List.mem_of_getElem? (i := 61) rfl)) (hw _ (List.mem_of_getElem? (i := 62) rfl)) (by decide) own_pd_6987 rfl rfl (Nat.le_of_ble_eq_true rfl) (Nat.le_of_ble_eq_true rfl) (Nat.le_of_ble_eq_true rfl) (Nat.le_of_ble_eq_true rfl) (av := [(.ref out), (.ref da), (.int (4 : Int32)), (.int (0 : Int32))]) (S := []) rfl (pc' := 184) rfl ?_
      intro T h v X hQ
      obtain ⟨rfl, rfl⟩ := hQ
      show own_Go p e below n0 (own_FinW room_1 s (fun v h => v = some (.int 1))) (T.setTop (mkF m 184 #[.val (.int i0), .val (.int i1), .val (.int i2), .val (.int i3), .val (.ref da), .val (.int (0 : Int32)), .val (.int (0 : Int32)), .val (.int (5 : Int32)), .val (.ref rd), .val (.int (4 : Int32)), .val (.int (4 : Int32)), .val (.ref out), .unset] [(.int (1 : Int32))]))
      refine own_if_ne C X at_184 (pcT := 189) (pc' := 187) (by decide) (by decide) rfl (fun hc184 => ?_) (fun hc184 => absurd hc184 (by decide))
      refine own_aload C X at_189 rfl rfl (pc' := 191) rfl ?_
      refine own_aload C X at_191 rfl rfl (pc' := 193) rfl ?_
      refine own_iload C X at_193 rfl (pc' := 195) rfl ?_
      refine own_iconst C X at_195 (v := 1) (by decide) (pc' := 196) rfl ?_
      refine own_callS C X at_196 (own_m_sameN l Z a0 hw out da (4 : Int32) (1 : Int32) _ n0 (own_big C X) [t4] [t0, t1, t2, t3, t4] 1 rfl A_out A_da (by decide)) (hw _ (List.mem_of_getElem? (i := 59) rfl)) (hw _ (List.mem_of_getElem? (i := 60) rfl)) (hw _ (List.mem_of_getElem? (i := 61) rfl)) (hw _ (List.mem_of_getElem? (i := 62) rfl)) (by decide) own_pd_6987 rfl rfl (Nat.le_of_ble_eq_true rfl) (Nat.le_of_ble_eq_true rfl) (Nat.le_of_ble_eq_true rfl) (Nat.le_of_ble_eq_true rfl) (av := [(.ref out), (.ref da), (.int (4 : Int32)), (.int (1 : Int32))]) (S := []) rfl (pc' := 199) rfl ?_
      intro T h v X hQ
      obtain ⟨rfl, rfl⟩ := hQ
      show own_Go p e below n0 (own_FinW room_1 s (fun v h => v = some (.int 1))) (T.setTop (mkF m 199 #[.val (.int i0), .val (.int i1), .val (.int i2), .val (.int i3), .val (.ref da), .val (.int (0 : Int32)), .val (.int (0 : Int32)), .val (.int (5 : Int32)), .val (.ref rd), .val (.int (4 : Int32)), .val (.int (4 : Int32)), .val (.ref out), .unset] [(.int (1 : Int32))]))
      refine own_if_ne C X at_199 (pcT := 204) (pc' := 202) (by decide) (by decide) rfl (fun hc199 => ?_) (fun hc199 => absurd hc199 (by decide))
      refine own_aload C X at_204 rfl rfl (pc' := 206) rfl ?_
      refine own_aload C X at_206 rfl rfl (pc' := 208) rfl ?_
      refine own_iload C X at_208 rfl (pc' := 210) rfl ?_
      refine own_iconst C X at_210 (v := 2) (by decide) (pc' := 211) rfl ?_
      refine own_callS C X at_211 (own_m_sameN l Z a0 hw out da (4 : Int32) (2 : Int32) _ n0 (own_big C X) [t4] [t0, t1, t2, t3, t4] 1 rfl A_out A_da (by decide)) (hw _ (List.mem_of_getElem? (i := 59) rfl)) (hw _ (List.mem_of_getElem? (i := 60) rfl)) (hw _ (List.mem_of_getElem? (i := 61) rfl)) (hw _ (List.mem_of_getElem? (i := 62) rfl)) (by decide) own_pd_6987 rfl rfl (Nat.le_of_ble_eq_true rfl) (Nat.le_of_ble_eq_true rfl) (Nat.le_of_ble_eq_true rfl) (Nat.le_of_ble_eq_true rfl) (av := [(.ref out), (.ref da), (.int (4 : Int32)), (.int (2 : Int32))]) (S := []) rfl (pc' := 214) rfl ?_
      intro T h v X hQ
      obtain ⟨rfl, rfl⟩ := hQ
      show own_Go p e below n0 (own_FinW room_1 s (fun v h => v = some (.int 1))) (T.setTop (mkF m 214 #[.val (.int i0), .val (.int i1), .val (.int i2), .val (.int i3), .val (.ref da), .val (.int (0 : Int32)), .val (.int (0 : Int32)), .val (.int (5 : Int32)), .val (.ref rd), .val (.int (4 : Int32)), .val (.int (4 : Int32)), .val (.ref out), .unset] [(.int (1 : Int32))]))
      refine own_if_ne C X at_214 (pcT := 219) (pc' := 217) (by decide) (by decide) rfl (fun hc214 => ?_) (fun hc214 => absurd hc214 (by decide))
      refine own_aload C X at_219 rfl rfl (pc' := 221) rfl ?_
      refine own_aload C X at_221 rfl rfl (pc' := 223) rfl ?_
      refine own_iload C X at_223 rfl (pc' := 225) rfl ?_
      refine own_iconst C X at_225 (v := 3) (by decide) (pc' := 226) rfl ?_
      refine own_callS C X at_226 (own_m_sameN l Z a0 hw out da (4 : Int32) (3 : Int32) _ n0 (own_big C X) [t4] [t0, t1, t2, t3, t4] 1 rfl A_out A_da (by decide)) (hw _ (List.mem_of_getElem? (i := 59) rfl)) (hw _ (List.mem_of_getElem? (i := 60) rfl)) (hw _ (List.mem_of_getElem? (i := 61) rfl)) (hw _ (List.mem_of_getElem? (i := 62) rfl)) (by decide) own_pd_6987 rfl rfl (Nat.le_of_ble_eq_true rfl) (Nat.le_of_ble_eq_true rfl) (Nat.le_of_ble_eq_true rfl) (Nat.le_of_ble_eq_true rfl) (av := [(.ref out), (.ref da), (.int (4 : Int32)), (.int (3 : Int32))]) (S := []) rfl (pc' := 229) rfl ?_
      intro T h v X hQ
      obtain ⟨rfl, rfl⟩ := hQ
      show own_Go p e below n0 (own_FinW room_1 s (fun v h => v = some (.int 1))) (T.setTop (mkF m 229 #[.val (.int i0), .val (.int i1), .val (.int i2), .val (.int i3), .val (.ref da), .val (.int (0 : Int32)), .val (.int (0 : Int32)), .val (.int (5 : Int32)), .val (.ref rd), .val (.int (4 : Int32)), .val (.int (4 : Int32)), .val (.ref out), .unset] [(.int (1 : Int32))]))
      refine own_if_ne C X at_229 (pcT := 234) (pc' := 232) (by decide) (by decide) rfl (fun hc229 => ?_) (fun hc229 => absurd hc229 (by decide))
      refine own_aload C X at_234 rfl rfl (pc' := 236) rfl ?_
      refine own_aload C X at_236 rfl rfl (pc' := 238) rfl ?_
      refine own_iload C X at_238 rfl (pc' := 240) rfl ?_
      refine own_iconst C X at_240 (v := 4) (by decide) (pc' := 241) rfl ?_
      refine own_callS C X at_241 (own_m_sameN l Z a0 hw out da (4 : Int32) (4 : Int32) _ n0 (own_big C X) [t4] [t0, t1, t2, t3, t4] 1 rfl A_out A_da (by decide)) (hw _ (List.mem_of_getElem? (i := 59) rfl)) (hw _ (List.mem_of_getElem? (i := 60) rfl)) (hw _ (List.mem_of_getElem? (i := 61) rfl)) (hw _ (List.mem_of_getElem? (i := 62) rfl)) (by decide) own_pd_6987 rfl rfl (Nat.le_of_ble_eq_true rfl) (Nat.le_of_ble_eq_true rfl) (Nat.le_of_ble_eq_true rfl) (Nat.le_of_ble_eq_true rfl) (av := [(.ref out), (.ref da), (.int (4 : Int32)), (.int (4 : Int32))]) (S := []) rfl (pc' := 244) rfl ?_
      intro T h v X hQ
      obtain ⟨rfl, rfl⟩ := hQ
      show own_Go p e below n0 (own_FinW room_1 s (fun v h => v = some (.int 1))) (T.setTop (mkF m 244 #[.val (.int i0), .val (.int i1), .val (.int i2), .val (.int i3), .val (.ref da), .val (.int (0 : Int32)), .val (.int (0 : Int32)), .val (.int (5 : Int32)), .val (.ref rd), .val (.int (4 : Int32)), .val (.int (4 : Int32)), .val (.ref out), .unset] [(.int (1 : Int32))]))
      refine own_if_ne C X at_244 (pcT := 249) (pc' := 247) (by decide) (by decide) rfl (fun hc244 => ?_) (fun hc244 => absurd hc244 (by decide))
      refine own_aload C X at_249 rfl rfl (pc' := 251) rfl ?_
      refine own_callV C X at_251 (own_m_hr l Z a0 hw rd _ n0 (own_big C X) da (5 : Int32) (5 : Int32) O_rd) O_rd.1 (hw _ (List.mem_of_getElem? (i := 63) rfl)) (hw _ (List.mem_of_getElem? (i := 64) rfl)) (hw _ (List.mem_of_getElem? (i := 66) rfl)) (hw _ (List.mem_of_getElem? (i := 65) rfl)) (hw _ (List.mem_of_getElem? (i := 3) rfl)) (hw _ (List.mem_of_getElem? (i := 67) rfl)) (by decide) own_pd_1418 rfl rfl (Nat.le_of_ble_eq_true rfl) (Nat.le_of_ble_eq_true rfl) (Nat.le_of_ble_eq_true rfl) (Nat.le_of_ble_eq_true rfl) (av := []) (S := []) rfl (pc' := 254) rfl ?_
      intro T h v X hQ
      obtain ⟨rfl, rfl⟩ := hQ
      show own_Go p e below n0 (own_FinW room_1 s (fun v h => v = some (.int 1))) (T.setTop (mkF m 254 #[.val (.int i0), .val (.int i1), .val (.int i2), .val (.int i3), .val (.ref da), .val (.int (0 : Int32)), .val (.int (0 : Int32)), .val (.int (5 : Int32)), .val (.ref rd), .val (.int (4 : Int32)), .val (.int (4 : Int32)), .val (.ref out), .unset] [(.int (own_hr (5 : Int32) (5 : Int32)))]))
      rw [show own_hr (5 : Int32) (5 : Int32) = 0 from by decide]
      show own_Go p e below n0 (own_FinW room_1 s (fun v h => v = some (.int 1))) (T.setTop (mkF m 254 #[.val (.int i0), .val (.int i1), .val (.int i2), .val (.int i3), .val (.ref da), .val (.int (0 : Int32)), .val (.int (0 : Int32)), .val (.int (5 : Int32)), .val (.ref rd), .val (.int (4 : Int32)), .val (.int (4 : Int32)), .val (.ref out), .unset] [(.int (0 : Int32))]))
      refine own_if_eq C X at_254 (pcT := 259) (pc' := 257) (by decide) (by decide) rfl (fun hc254 => ?_) (fun hc254 => absurd hc254 (by decide))
      refine own_aload C X at_259 rfl rfl (pc' := 261) rfl ?_
      have hbg := own_big C X
      refine own_callV C X at_261 (own_m_rest55 l Z a0 hw rd _ n0 hbg da t0 t1 t2 t3 t4 A_da E_da O_rd (Ne.symm ne_da_rd) ge_rd) O_rd.1 (hw _ (List.mem_of_getElem? (i := 36) rfl)) (hw _ (List.mem_of_getElem? (i := 37) rfl)) (hw _ (List.mem_of_getElem? (i := 39) rfl)) (hw _ (List.mem_of_getElem? (i := 38) rfl)) (hw _ (List.mem_of_getElem? (i := 3) rfl)) (hw _ (List.mem_of_getElem? (i := 40) rfl)) (by decide) own_pd_2087 rfl rfl (Nat.le_of_ble_eq_true rfl) (Nat.le_of_ble_eq_true rfl) (Nat.le_of_ble_eq_true rfl) (Nat.le_of_ble_eq_true rfl) (av := []) (S := []) rfl (pc' := 264) rfl ?_
      intro T h v X hQ
      obtain ⟨ou2, rfl, gq_ou2, K_, O_n, A_ou2⟩ := hQ
      have ne_da_ou2 : da ≠ ou2 := Nat.ne_of_lt (Nat.lt_of_lt_of_le A_da.lt gq_ou2)
      have ne_rd_ou2 : rd ≠ ou2 := Nat.ne_of_lt (Nat.lt_of_lt_of_le O_rd.lt gq_ou2)
      have ne_out_ou2 : out ≠ ou2 := Nat.ne_of_lt (Nat.lt_of_lt_of_le A_out.lt gq_ou2)
      have ge_ou2 : n0 ≤ ou2 := Nat.le_trans hbg gq_ou2
      have O_rd := O_n
      have A_da := A_da.keep K_ (ninS ne_da_rd nin0)
      have E_da := E_da.keep K_
      have A_out := A_out.keep K_ (ninS (Ne.symm ne_rd_out) nin0)
      have hSk := Nat.le_trans hSk K_.1
      show own_Go p e below n0 (own_FinW room_1 s (fun v h => v = some (.int 1))) (T.setTop (mkF m 264 #[.val (.int i0), .val (.int i1), .val (.int i2), .val (.int i3), .val (.ref da), .val (.int (0 : Int32)), .val (.int (0 : Int32)), .val (.int (5 : Int32)), .val (.ref rd), .val (.int (4 : Int32)), .val (.int (4 : Int32)), .val (.ref out), .unset] [(.ref ou2)]))
      refine own_alenI C X at_264 (n := 0) A_ou2 rfl (pc' := 265) rfl ?_
      refine own_if_eq C X at_265 (pcT := 270) (pc' := 268) (by decide) (by decide) rfl (fun hc265 => ?_) (fun hc265 => absurd hc265 (by decide))
      refine own_aload C X at_270 rfl rfl (pc' := 272) rfl ?_
      refine own_alenI C X at_272 (n := 1) A_out rfl (pc' := 273) rfl ?_
      refine own_if_le C X at_273 (pcT := 306) (pc' := 276) (by decide) (by decide) rfl (fun hc273 => absurd hc273 (by decide)) (fun hc273 => ?_)
      refine own_aload C X at_276 rfl rfl (pc' := 278) rfl ?_
      refine own_iload C X at_278 rfl (pc' := 280) rfl ?_
      refine own_baload C X at_280 A_da (by decide) (i := 4) rfl (pc' := 281) rfl ?_
      refine own_istore C X at_281 (L' := #[.val (.int i0), .val (.int i1), .val (.int i2), .val (.int i3), .val (.ref da), .val (.int (0 : Int32)), .val (.int (0 : Int32)), .val (.int (5 : Int32)), .val (.ref rd), .val (.int (4 : Int32)), .val (.int (4 : Int32)), .val (.ref out), .val (.int t4)]) rfl (pc' := 283) rfl ?_
      refine own_aload C X at_283 rfl rfl (pc' := 285) rfl ?_
      refine own_iconst C X at_285 (v := 0) (by decide) (pc' := 286) rfl ?_
      refine own_aload C X at_286 rfl rfl (pc' := 288) rfl ?_
      refine own_iconst C X at_288 (v := 0) (by decide) (pc' := 289) rfl ?_
      refine own_baload C X at_289 A_out (by decide) (i := 0) rfl (pc' := 290) rfl ?_
      refine own_iconst C X at_290 (v := 1) (by decide) (pc' := 291) rfl ?_
      refine own_ixor C X at_291 rfl (pc' := 292) rfl ?_
      obtain ⟨tx, e_tx⟩ : ∃ z : Int32, (t4 ^^^ (1 : Int32)).toInt8.toInt32 = z := ⟨_, rfl⟩
      refine own_i2b C X at_292 e_tx (pc' := 293) rfl ?_
      refine own_bastore C X at_293 A_out (by decide) (i := 0) (Nat.le_of_ble_eq_true rfl) (own_i2bn e_tx) ge_out (pc' := 294) rfl ?_
      intro T h X K_ A_out_
      have A_out : own_IA Z h out .byte [tx] := A_out_
      have A_da := A_da.keep K_ (ninS ne_da_out nin0)
      have E_da := E_da.keep K_
      have O_rd := O_rd.keep K_ (ninS ne_rd_out nin0)
      have A_ou2 := A_ou2.keep K_ (ninS (Ne.symm ne_out_ou2) nin0)
      have hSk := Nat.le_trans hSk K_.1
      refine own_aload C X at_294 rfl rfl (pc' := 296) rfl ?_
      refine own_iload C X at_296 rfl (pc' := 298) rfl ?_
      refine own_baload C X at_298 A_da (by decide) (i := 4) rfl (pc' := 299) rfl ?_
      refine own_iload C X at_299 rfl (pc' := 301) rfl ?_
      refine own_icmp_eq C X at_301 (pcT := 306) (pc' := 304) (by decide) (by decide) rfl (fun hc301 => ?_) (fun hc301 => absurd hc301 (not_not_intro rfl))
      refine own_iconst C X at_306 (v := 1) (by decide) (pc' := 307) rfl ?_
      exact own_ireturn_zW C X hS hSk at_307 (Nat.le_of_ble_eq_true rfl) (Nat.le_of_ble_eq_true rfl) (rfl)
    · refine own_istore C X at_127 (L' := #[.val (.int i0), .val (.int i1), .val (.int i2), .val (.int i3), .val (.ref da), .val (.int (0 : Int32)), .val (.int (0 : Int32)), .val (.int (5 : Int32)), .val (.ref rd), .val (.int (5 : Int32)), .unset, .unset, .unset]) rfl (pc' := 129) rfl ?_
      refine own_aload C X at_129 rfl rfl (pc' := 131) rfl ?_
      refine own_iload C X at_131 rfl (pc' := 133) rfl ?_
      refine own_ldcS C X hS hSk at_133 (hw _ (List.mem_of_getElem? (i := 20) rfl)) (own_strW hw) (n := 1024) (by decide) (by decide) (Nat.le_of_ble_eq_true rfl) (Nat.le_of_ble_eq_true rfl) (pc' := 135) rfl ?_
      intro T h ss vm k_ C X K_ hS hSk_
      have A_da := A_da.keep K_ nin0
      have E_da := E_da.keep K_
      have O_rd := O_rd.keep K_ nin0
      have hSk := Nat.le_trans hSk K_.1
      have hSk := hSk_
      refine own_callV C X at_135 (own_m_skip l Z a0 hw rd (5 : Int32) ss _ n0 (own_big C X) da (0 : Int32) (5 : Int32) (5 : Int32) (by decide) (by decide) O_rd ge_rd) O_rd.1 (hw _ (List.mem_of_getElem? (i := 27) rfl)) (hw _ (List.mem_of_getElem? (i := 28) rfl)) (hw _ (List.mem_of_getElem? (i := 30) rfl)) (hw _ (List.mem_of_getElem? (i := 29) rfl)) (hw _ (List.mem_of_getElem? (i := 3) rfl)) (hw _ (List.mem_of_getElem? (i := 31) rfl)) (by decide) own_pd_34082 rfl rfl (Nat.le_of_ble_eq_true rfl) (Nat.le_of_ble_eq_true rfl) (Nat.le_of_ble_eq_true rfl) (Nat.le_of_ble_eq_true rfl) (av := [(.int (5 : Int32)), (.ref ss)]) (S := []) rfl (pc' := 138) rfl ?_
      intro T h v X hQ
      obtain ⟨rfl, K_, O_rd⟩ := hQ
      have A_da := A_da.keep K_ (ninS ne_da_rd nin0)
      have E_da := E_da.keep K_
      have hSk := Nat.le_trans hSk K_.1
      show own_Go p e below n0 (own_FinW room_1 s (fun v h => v = some (.int 1))) (T.setTop (mkF m 138 #[.val (.int i0), .val (.int i1), .val (.int i2), .val (.int i3), .val (.ref da), .val (.int (0 : Int32)), .val (.int (0 : Int32)), .val (.int (5 : Int32)), .val (.ref rd), .val (.int (5 : Int32)), .unset, .unset, .unset] []))
      refine own_iload C X at_138 rfl (pc' := 140) rfl ?_
      refine own_iload C X at_140 rfl (pc' := 142) rfl ?_
      refine own_iadd C X at_142 (z := 5) (by decide) (pc' := 143) rfl ?_
      refine own_istore C X at_143 (L' := #[.val (.int i0), .val (.int i1), .val (.int i2), .val (.int i3), .val (.ref da), .val (.int (0 : Int32)), .val (.int (0 : Int32)), .val (.int (5 : Int32)), .val (.ref rd), .val (.int (5 : Int32)), .val (.int (5 : Int32)), .unset, .unset]) rfl (pc' := 145) rfl ?_
      refine own_aload C X at_145 rfl rfl (pc' := 147) rfl ?_
      have hbg := own_big C X
      refine own_callV C X at_147 (own_m_rest55 l Z a0 hw rd _ n0 hbg da t0 t1 t2 t3 t4 A_da E_da O_rd (Ne.symm ne_da_rd) ge_rd) O_rd.1 (hw _ (List.mem_of_getElem? (i := 36) rfl)) (hw _ (List.mem_of_getElem? (i := 37) rfl)) (hw _ (List.mem_of_getElem? (i := 39) rfl)) (hw _ (List.mem_of_getElem? (i := 38) rfl)) (hw _ (List.mem_of_getElem? (i := 3) rfl)) (hw _ (List.mem_of_getElem? (i := 40) rfl)) (by decide) own_pd_2087 rfl rfl (Nat.le_of_ble_eq_true rfl) (Nat.le_of_ble_eq_true rfl) (Nat.le_of_ble_eq_true rfl) (Nat.le_of_ble_eq_true rfl) (av := []) (S := []) rfl (pc' := 150) rfl ?_
      intro T h v X hQ
      obtain ⟨out, rfl, gq_out, K_, O_n, A_out⟩ := hQ
      have ne_da_out : da ≠ out := Nat.ne_of_lt (Nat.lt_of_lt_of_le A_da.lt gq_out)
      have ne_rd_out : rd ≠ out := Nat.ne_of_lt (Nat.lt_of_lt_of_le O_rd.lt gq_out)
      have ge_out : n0 ≤ out := Nat.le_trans hbg gq_out
      have O_rd := O_n
      have A_da := A_da.keep K_ (ninS ne_da_rd nin0)
      have E_da := E_da.keep K_
      have hSk := Nat.le_trans hSk K_.1
      show own_Go p e below n0 (own_FinW room_1 s (fun v h => v = some (.int 1))) (T.setTop (mkF m 150 #[.val (.int i0), .val (.int i1), .val (.int i2), .val (.int i3), .val (.ref da), .val (.int (0 : Int32)), .val (.int (0 : Int32)), .val (.int (5 : Int32)), .val (.ref rd), .val (.int (5 : Int32)), .val (.int (5 : Int32)), .unset, .unset] [(.ref out)]))
      refine own_astore C X at_150 rfl (L' := #[.val (.int i0), .val (.int i1), .val (.int i2), .val (.int i3), .val (.ref da), .val (.int (0 : Int32)), .val (.int (0 : Int32)), .val (.int (5 : Int32)), .val (.ref rd), .val (.int (5 : Int32)), .val (.int (5 : Int32)), .val (.ref out), .unset]) rfl (pc' := 152) rfl ?_
      refine own_aload C X at_152 rfl rfl (pc' := 154) rfl ?_
      refine own_aload C X at_154 rfl rfl (pc' := 156) rfl ?_
      refine own_acmp_ne C X at_156 rfl rfl (pcT := 161) (pc' := 159) (by decide) (by decide) rfl (fun hc156 => ?_) (fun hc156 => absurd hc156 (fun q => (Ne.symm ne_da_out) (Value.ref.inj q)))
      refine own_aload C X at_161 rfl rfl (pc' := 163) rfl ?_
      refine own_alenI C X at_163 (n := 0) A_out rfl (pc' := 164) rfl ?_
      refine own_iload C X at_164 rfl (pc' := 166) rfl ?_
      refine own_iload C X at_166 rfl (pc' := 168) rfl ?_
      refine own_isub C X at_168 (z := 0) (by decide) (pc' := 169) rfl ?_
      refine own_icmp_eq C X at_169 (pcT := 174) (pc' := 172) (by decide) (by decide) rfl (fun hc169 => ?_) (fun hc169 => absurd hc169 (by decide))
      refine own_aload C X at_174 rfl rfl (pc' := 176) rfl ?_
      refine own_aload C X at_176 rfl rfl (pc' := 178) rfl ?_
      refine own_iload C X at_178 rfl (pc' := 180) rfl ?_
      refine own_iconst C X at_180 (v := 0) (by decide) (pc' := 181) rfl ?_
      refine own_callS C X at_181 (own_m_sameN l Z a0 hw out da (5 : Int32) (0 : Int32) _ n0 (own_big C X) [] [t0, t1, t2, t3, t4] 0 rfl A_out A_da (by decide)) (hw _ (List.mem_of_getElem? (i := 59) rfl)) (hw _ (List.mem_of_getElem? (i := 60) rfl)) (hw _ (List.mem_of_getElem? (i := 61) rfl)) (hw _ (List.mem_of_getElem? (i := 62) rfl)) (by decide) own_pd_6987 rfl rfl (Nat.le_of_ble_eq_true rfl) (Nat.le_of_ble_eq_true rfl) (Nat.le_of_ble_eq_true rfl) (Nat.le_of_ble_eq_true rfl) (av := [(.ref out), (.ref da), (.int (5 : Int32)), (.int (0 : Int32))]) (S := []) rfl (pc' := 184) rfl ?_
      intro T h v X hQ
      obtain ⟨rfl, rfl⟩ := hQ
      show own_Go p e below n0 (own_FinW room_1 s (fun v h => v = some (.int 1))) (T.setTop (mkF m 184 #[.val (.int i0), .val (.int i1), .val (.int i2), .val (.int i3), .val (.ref da), .val (.int (0 : Int32)), .val (.int (0 : Int32)), .val (.int (5 : Int32)), .val (.ref rd), .val (.int (5 : Int32)), .val (.int (5 : Int32)), .val (.ref out), .unset] [(.int (1 : Int32))]))
      refine own_if_ne C X at_184 (pcT := 189) (pc' := 187) (by decide) (by decide) rfl (fun hc184 => ?_) (fun hc184 => absurd hc184 (by decide))
      refine own_aload C X at_189 rfl rfl (pc' := 191) rfl ?_
      refine own_aload C X at_191 rfl rfl (pc' := 193) rfl ?_
      refine own_iload C X at_193 rfl (pc' := 195) rfl ?_
      refine own_iconst C X at_195 (v := 1) (by decide) (pc' := 196) rfl ?_
      refine own_callS C X at_196 (own_m_sameN l Z a0 hw out da (5 : Int32) (1 : Int32) _ n0 (own_big C X) [] [t0, t1, t2, t3, t4] 0 rfl A_out A_da (by decide)) (hw _ (List.mem_of_getElem? (i := 59) rfl)) (hw _ (List.mem_of_getElem? (i := 60) rfl)) (hw _ (List.mem_of_getElem? (i := 61) rfl)) (hw _ (List.mem_of_getElem? (i := 62) rfl)) (by decide) own_pd_6987 rfl rfl (Nat.le_of_ble_eq_true rfl) (Nat.le_of_ble_eq_true rfl) (Nat.le_of_ble_eq_true rfl) (Nat.le_of_ble_eq_true rfl) (av := [(.ref out), (.ref da), (.int (5 : Int32)), (.int (1 : Int32))]) (S := []) rfl (pc' := 199) rfl ?_
      intro T h v X hQ
      obtain ⟨rfl, rfl⟩ := hQ
      show own_Go p e below n0 (own_FinW room_1 s (fun v h => v = some (.int 1))) (T.setTop (mkF m 199 #[.val (.int i0), .val (.int i1), .val (.int i2), .val (.int i3), .val (.ref da), .val (.int (0 : Int32)), .val (.int (0 : Int32)), .val (.int (5 : Int32)), .val (.ref rd), .val (.int (5 : Int32)), .val (.int (5 : Int32)), .val (.ref out), .unset] [(.int (1 : Int32))]))
      refine own_if_ne C X at_199 (pcT := 204) (pc' := 202) (by decide) (by decide) rfl (fun hc199 => ?_) (fun hc199 => absurd hc199 (by decide))
      refine own_aload C X at_204 rfl rfl (pc' := 206) rfl ?_
      refine own_aload C X at_206 rfl rfl (pc' := 208) rfl ?_
      refine own_iload C X at_208 rfl (pc' := 210) rfl ?_
      refine own_iconst C X at_210 (v := 2) (by decide) (pc' := 211) rfl ?_
      refine own_callS C X at_211 (own_m_sameN l Z a0 hw out da (5 : Int32) (2 : Int32) _ n0 (own_big C X) [] [t0, t1, t2, t3, t4] 0 rfl A_out A_da (by decide)) (hw _ (List.mem_of_getElem? (i := 59) rfl)) (hw _ (List.mem_of_getElem? (i := 60) rfl)) (hw _ (List.mem_of_getElem? (i := 61) rfl)) (hw _ (List.mem_of_getElem? (i := 62) rfl)) (by decide) own_pd_6987 rfl rfl (Nat.le_of_ble_eq_true rfl) (Nat.le_of_ble_eq_true rfl) (Nat.le_of_ble_eq_true rfl) (Nat.le_of_ble_eq_true rfl) (av := [(.ref out), (.ref da), (.int (5 : Int32)), (.int (2 : Int32))]) (S := []) rfl (pc' := 214) rfl ?_
      intro T h v X hQ
      obtain ⟨rfl, rfl⟩ := hQ
      show own_Go p e below n0 (own_FinW room_1 s (fun v h => v = some (.int 1))) (T.setTop (mkF m 214 #[.val (.int i0), .val (.int i1), .val (.int i2), .val (.int i3), .val (.ref da), .val (.int (0 : Int32)), .val (.int (0 : Int32)), .val (.int (5 : Int32)), .val (.ref rd), .val (.int (5 : Int32)), .val (.int (5 : Int32)), .val (.ref out), .unset] [(.int (1 : Int32))]))
      refine own_if_ne C X at_214 (pcT := 219) (pc' := 217) (by decide) (by decide) rfl (fun hc214 => ?_) (fun hc214 => absurd hc214 (by decide))
      refine own_aload C X at_219 rfl rfl (pc' := 221) rfl ?_
      refine own_aload C X at_221 rfl rfl (pc' := 223) rfl ?_
      refine own_iload C X at_223 rfl (pc' := 225) rfl ?_
      refine own_iconst C X at_225 (v := 3) (by decide) (pc' := 226) rfl ?_
      refine own_callS C X at_226 (own_m_sameN l Z a0 hw out da (5 : Int32) (3 : Int32) _ n0 (own_big C X) [] [t0, t1, t2, t3, t4] 0 rfl A_out A_da (by decide)) (hw _ (List.mem_of_getElem? (i := 59) rfl)) (hw _ (List.mem_of_getElem? (i := 60) rfl)) (hw _ (List.mem_of_getElem? (i := 61) rfl)) (hw _ (List.mem_of_getElem? (i := 62) rfl)) (by decide) own_pd_6987 rfl rfl (Nat.le_of_ble_eq_true rfl) (Nat.le_of_ble_eq_true rfl) (Nat.le_of_ble_eq_true rfl) (Nat.le_of_ble_eq_true rfl) (av := [(.ref out), (.ref da), (.int (5 : Int32)), (.int (3 : Int32))]) (S := []) rfl (pc' := 229) rfl ?_
      intro T h v X hQ
      obtain ⟨rfl, rfl⟩ := hQ
      show own_Go p e below n0 (own_FinW room_1 s (fun v h => v = some (.int 1))) (T.setTop (mkF m 229 #[.val (.int i0), .val (.int i1), .val (.int i2), .val (.int i3), .val (.ref da), .val (.int (0 : Int32)), .val (.int (0 : Int32)), .val (.int (5 : Int32)), .val (.ref rd), .val (.int (5 : Int32)), .val (.int (5 : Int32)), .val (.ref out), .unset] [(.int (1 : Int32))]))
      refine own_if_ne C X at_229 (pcT := 234) (pc' := 232) (by decide) (by decide) rfl (fun hc229 => ?_) (fun hc229 => absurd hc229 (by decide))
      refine own_aload C X at_234 rfl rfl (pc' := 236) rfl ?_
      refine own_aload C X at_236 rfl rfl (pc' := 238) rfl ?_
      refine own_iload C X at_238 rfl (pc' := 240) rfl ?_
      refine own_iconst C X at_240 (v := 4) (by decide) (pc' := 241) rfl ?_
      refine own_callS C X at_241 (own_m_sameN l Z a0 hw out da (5 : Int32) (4 : Int32) _ n0 (own_big C X) [] [t0, t1, t2, t3, t4] 0 rfl A_out A_da (by decide)) (hw _ (List.mem_of_getElem? (i := 59) rfl)) (hw _ (List.mem_of_getElem? (i := 60) rfl)) (hw _ (List.mem_of_getElem? (i := 61) rfl)) (hw _ (List.mem_of_getElem? (i := 62) rfl)) (by decide) own_pd_6987 rfl rfl (Nat.le_of_ble_eq_true rfl) (Nat.le_of_ble_eq_true rfl) (Nat.le_of_ble_eq_true rfl) (Nat.le_of_ble_eq_true rfl) (av := [(.ref out), (.ref da), (.int (5 : Int32)), (.int (4 : Int32))]) (S := []) rfl (pc' := 244) rfl ?_
      intro T h v X hQ
      obtain ⟨rfl, rfl⟩ := hQ
      show own_Go p e below n0 (own_FinW room_1 s (fun v h => v = some (.int 1))) (T.setTop (mkF m 244 #[.val (.int i0), .val (.int i1), .val (.int i2), .val (.int i3), .val (.ref da), .val (.int (0 : Int32)), .val (.int (0 : Int32)), .val (.int (5 : Int32)), .val (.ref rd), .val (.int (5 : Int32)), .val (.int (5 : Int32)), .val (.ref out), .unset] [(.int (1 : Int32))]))
      refine own_if_ne C X at_244 (pcT := 249) (pc' := 247) (by decide) (by decide) rfl (fun hc244 => ?_) (fun hc244 => absurd hc244 (by decide))
      refine own_aload C X at_249 rfl rfl (pc' := 251) rfl ?_
      refine own_callV C X at_251 (own_m_hr l Z a0 hw rd _ n0 (own_big C X) da (5 : Int32) (5 : Int32) O_rd) O_rd.1 (hw _ (List.mem_of_getElem? (i := 63) rfl)) (hw _ (List.mem_of_getElem? (i := 64) rfl)) (hw _ (List.mem_of_getElem? (i := 66) rfl)) (hw _ (List.mem_of_getElem? (i := 65) rfl)) (hw _ (List.mem_of_getElem? (i := 3) rfl)) (hw _ (List.mem_of_getElem? (i := 67) rfl)) (by decide) own_pd_1418 rfl rfl (Nat.le_of_ble_eq_true rfl) (Nat.le_of_ble_eq_true rfl) (Nat.le_of_ble_eq_true rfl) (Nat.le_of_ble_eq_true rfl) (av := []) (S := []) rfl (pc' := 254) rfl ?_
      intro T h v X hQ
      obtain ⟨rfl, rfl⟩ := hQ
      show own_Go p e below n0 (own_FinW room_1 s (fun v h => v = some (.int 1))) (T.setTop (mkF m 254 #[.val (.int i0), .val (.int i1), .val (.int i2), .val (.int i3), .val (.ref da), .val (.int (0 : Int32)), .val (.int (0 : Int32)), .val (.int (5 : Int32)), .val (.ref rd), .val (.int (5 : Int32)), .val (.int (5 : Int32)), .val (.ref out), .unset] [(.int (own_hr (5 : Int32) (5 : Int32)))]))
      rw [show own_hr (5 : Int32) (5 : Int32) = 0 from by decide]
      show own_Go p e below n0 (own_FinW room_1 s (fun v h => v = some (.int 1))) (T.setTop (mkF m 254 #[.val (.int i0), .val (.int i1), .val (.int i2), .val (.int i3), .val (.ref da), .val (.int (0 : Int32)), .val (.int (0 : Int32)), .val (.int (5 : Int32)), .val (.ref rd), .val (.int (5 : Int32)), .val (.int (5 : Int32)), .val (.ref out), .unset] [(.int (0 : Int32))]))
      refine own_if_eq C X at_254 (pcT := 259) (pc' := 257) (by decide) (by decide) rfl (fun hc254 => ?_) (fun hc254 => absurd hc254 (by decide))
      refine own_aload C X at_259 rfl rfl (pc' := 261) rfl ?_
      have hbg := own_big C X
      refine own_callV C X at_261 (own_m_rest55 l Z a0 hw rd _ n0 hbg da t0 t1 t2 t3 t4 A_da E_da O_rd (Ne.symm ne_da_rd) ge_rd) O_rd.1 (hw _ (List.mem_of_getElem? (i := 36) rfl)) (hw _ (List.mem_of_getElem? (i := 37) rfl)) (hw _ (List.mem_of_getElem? (i := 39) rfl)) (hw _ (List.mem_of_getElem? (i := 38) rfl)) (hw _ (List.mem_of_getElem? (i := 3) rfl)) (hw _ (List.mem_of_getElem? (i := 40) rfl)) (by decide) own_pd_2087 rfl rfl (Nat.le_of_ble_eq_true rfl) (Nat.le_of_ble_eq_true rfl) (Nat.le_of_ble_eq_true rfl) (Nat.le_of_ble_eq_true rfl) (av := []) (S := []) rfl (pc' := 264) rfl ?_
      intro T h v X hQ
      obtain ⟨ou2, rfl, gq_ou2, K_, O_n, A_ou2⟩ := hQ
      have ne_da_ou2 : da ≠ ou2 := Nat.ne_of_lt (Nat.lt_of_lt_of_le A_da.lt gq_ou2)
      have ne_rd_ou2 : rd ≠ ou2 := Nat.ne_of_lt (Nat.lt_of_lt_of_le O_rd.lt gq_ou2)
      have ne_out_ou2 : out ≠ ou2 := Nat.ne_of_lt (Nat.lt_of_lt_of_le A_out.lt gq_ou2)
      have ge_ou2 : n0 ≤ ou2 := Nat.le_trans hbg gq_ou2
      have O_rd := O_n
      have A_da := A_da.keep K_ (ninS ne_da_rd nin0)
      have E_da := E_da.keep K_
      have A_out := A_out.keep K_ (ninS (Ne.symm ne_rd_out) nin0)
      have hSk := Nat.le_trans hSk K_.1
      show own_Go p e below n0 (own_FinW room_1 s (fun v h => v = some (.int 1))) (T.setTop (mkF m 264 #[.val (.int i0), .val (.int i1), .val (.int i2), .val (.int i3), .val (.ref da), .val (.int (0 : Int32)), .val (.int (0 : Int32)), .val (.int (5 : Int32)), .val (.ref rd), .val (.int (5 : Int32)), .val (.int (5 : Int32)), .val (.ref out), .unset] [(.ref ou2)]))
      refine own_alenI C X at_264 (n := 0) A_ou2 rfl (pc' := 265) rfl ?_
      refine own_if_eq C X at_265 (pcT := 270) (pc' := 268) (by decide) (by decide) rfl (fun hc265 => ?_) (fun hc265 => absurd hc265 (by decide))
      refine own_aload C X at_270 rfl rfl (pc' := 272) rfl ?_
      refine own_alenI C X at_272 (n := 0) A_out rfl (pc' := 273) rfl ?_
      refine own_if_le C X at_273 (pcT := 306) (pc' := 276) (by decide) (by decide) rfl (fun hc273 => ?_) (fun hc273 => absurd hc273 (by decide))
      refine own_iconst C X at_306 (v := 1) (by decide) (pc' := 307) rfl ?_
      exact own_ireturn_zW C X hS hSk at_307 (Nat.le_of_ble_eq_true rfl) (Nat.le_of_ble_eq_true rfl) (rfl)
  · refine own_iconst C X at_50 (v := 1) (by decide) (pc' := 51) rfl ?_
    refine own_goto C X at_51 (pc' := 55) (by decide) (by decide) ?_
    refine own_istore C X at_55 (L' := #[.val (.int i0), .val (.int i1), .val (.int i2), .val (.int i3), .val (.ref da), .val (.int (1 : Int32)), .unset, .unset, .unset, .unset, .unset, .unset, .unset]) rfl (pc' := 57) rfl ?_
    refine own_iconst C X at_57 (v := 0) (by decide) (pc' := 58) rfl ?_
    refine own_istore C X at_58 (L' := #[.val (.int i0), .val (.int i1), .val (.int i2), .val (.int i3), .val (.ref da), .val (.int (1 : Int32)), .val (.int (0 : Int32)), .unset, .unset, .unset, .unset, .unset, .unset]) rfl (pc' := 60) rfl ?_
    refine own_iconst C X at_60 (v := 5) (by decide) (pc' := 61) rfl ?_
    refine own_istore C X at_61 (L' := #[.val (.int i0), .val (.int i1), .val (.int i2), .val (.int i3), .val (.ref da), .val (.int (1 : Int32)), .val (.int (0 : Int32)), .val (.int (5 : Int32)), .unset, .unset, .unset, .unset, .unset]) rfl (pc' := 63) rfl ?_
    refine own_new C X at_63 (hw _ (List.mem_of_getElem? (i := 1) rfl)) (hw _ (List.mem_of_getElem? (i := 2) rfl)) (hw _ (List.mem_of_getElem? (i := 3) rfl)) (Nat.le_of_ble_eq_true rfl) (Nat.le_of_ble_eq_true rfl) [("data", "[B", .null), ("pos", "I", (.int (0 : Int32))), ("limit", "I", (.int (0 : Int32)))] (by decide) ?_ (pc' := 66) rfl ?_
    · intro f hf; simp only [List.mem_cons, List.not_mem_nil, or_false] at hf
      rcases hf with rfl | rfl | rfl
      · exact ⟨(Or.inr (hw _ (List.mem_of_getElem? (i := 14) rfl))), (.array .byte), by decide, rfl⟩
      · exact ⟨(Or.inl (hw _ (List.mem_of_getElem? (i := 16) rfl))), .int, by decide, rfl⟩
      · exact ⟨(Or.inr (hw _ (List.mem_of_getElem? (i := 18) rfl))), .int, by decide, rfl⟩
    intro T h rd e_rd X K_ ge_rd O_rd
    have ne_da_rd : da ≠ rd := by rw [e_rd]; exact Nat.ne_of_lt A_da.lt
    have A_da := A_da.keep K_ nin0
    have E_da := E_da.keep K_
    have hSk := Nat.le_trans hSk K_.1
    refine own_dup C X at_66 rfl (pc' := 67) rfl ?_
    refine own_aload C X at_67 rfl rfl (pc' := 69) rfl ?_
    refine own_callInit C X at_69 (own_m_ini1 l Z a0 hw rd da _ n0 (own_big C X) [t0, t1, t2, t3, t4] (5 : Int32) rfl O_rd A_da (Ne.symm ne_da_rd) ge_rd) rfl (hw _ (List.mem_of_getElem? (i := 4) rfl)) (hw _ (List.mem_of_getElem? (i := 5) rfl)) (hw _ (List.mem_of_getElem? (i := 3) rfl)) (hw _ (List.mem_of_getElem? (i := 6) rfl)) (by decide) own_pd_2958 rfl rfl (Nat.le_of_ble_eq_true rfl) (Nat.le_of_ble_eq_true rfl) (Nat.le_of_ble_eq_true rfl) (Nat.le_of_ble_eq_true rfl) (av := [(.ref da)]) (S := [(.ref rd)]) rfl (pc' := 72) rfl ?_
    intro T h v X hQ
    obtain ⟨rfl, K_, O_rd⟩ := hQ
    have A_da := A_da.keep K_ (ninS ne_da_rd nin0)
    have E_da := E_da.keep K_
    have hSk := Nat.le_trans hSk K_.1
    show own_Go p e below n0 (own_FinW room_1 s (fun v h => v = some (.int 1))) (T.setTop (mkF m 72 #[.val (.int i0), .val (.int i1), .val (.int i2), .val (.int i3), .val (.ref da), .val (.int (1 : Int32)), .val (.int (0 : Int32)), .val (.int (5 : Int32)), .unset, .unset, .unset, .unset, .unset] [(.ref rd)]))
    refine own_astore C X at_72 rfl (L' := #[.val (.int i0), .val (.int i1), .val (.int i2), .val (.int i3), .val (.ref da), .val (.int (1 : Int32)), .val (.int (0 : Int32)), .val (.int (5 : Int32)), .val (.ref rd), .unset, .unset, .unset, .unset]) rfl (pc' := 74) rfl ?_
    refine own_iload C X at_74 rfl (pc' := 76) rfl ?_
    refine own_if_eq C X at_76 (pcT := 115) (pc' := 79) (by decide) (by decide) rfl (fun hc76 => absurd hc76 (by decide)) (fun hc76 => ?_)
    refine own_iloadN C X at_79 rfl (pc' := 80) rfl ?_
    refine own_iconst C X at_80 (v := 1) (by decide) (pc' := 81) rfl ?_
    refine own_iushr C X at_81 rfl (pc' := 82) rfl ?_
    refine own_ldcI C X at_82 (hw _ (List.mem_of_getElem? (i := 19) rfl)) (pc' := 84) rfl ?_
    refine own_iand C X at_84 rfl (pc' := 85) rfl ?_
    refine own_iconst C X at_85 (v := 5) (by decide) (pc' := 86) rfl ?_
    obtain ⟨ln, e_ln⟩ : ∃ z : Int32, ((((i2.toUInt32 >>> ((1 : Int32) &&& 31).toUInt32).toInt32) &&& (2147483647 : Int32)) % (5 : Int32)) = z := ⟨_, rfl⟩
    refine own_irem C X at_86 (by decide) e_ln (pc' := 87) rfl ?_
    rcases own_md5 _ ln e_ln with rfl | rfl | rfl | rfl | rfl
    · refine own_istore C X at_87 (L' := #[.val (.int i0), .val (.int i1), .val (.int i2), .val (.int i3), .val (.ref da), .val (.int (1 : Int32)), .val (.int (0 : Int32)), .val (.int (5 : Int32)), .val (.ref rd), .val (.int (0 : Int32)), .unset, .unset, .unset]) rfl (pc' := 89) rfl ?_
      refine own_aload C X at_89 rfl rfl (pc' := 91) rfl ?_
      refine own_iconst C X at_91 (v := 0) (by decide) (pc' := 92) rfl ?_
      refine own_iload C X at_92 rfl (pc' := 94) rfl ?_
      refine own_i2b C X at_94 (z := 0) (by decide) (pc' := 95) rfl ?_
      refine own_bastore C X at_95 A_da (by decide) (i := 0) (Nat.le_of_ble_eq_true rfl) (v := 0) (by decide) ge_da (pc' := 96) rfl ?_
      intro T h X K_ A_da_
      have A_da : own_IA Z h da .byte [(0 : Int32), t1, t2, t3, t4] := A_da_
      have E_da := E_da.keep K_
      have O_rd := O_rd.keep K_ (ninS (Ne.symm ne_da_rd) nin0)
      have hSk := Nat.le_trans hSk K_.1
      refine own_aload C X at_96 rfl rfl (pc' := 98) rfl ?_
      refine own_iconst C X at_98 (v := 1) (by decide) (pc' := 99) rfl ?_
      refine own_ldcS C X hS hSk at_99 (hw _ (List.mem_of_getElem? (i := 68) rfl)) (own_strW hw) (n := 1024) (by decide) (by decide) (Nat.le_of_ble_eq_true rfl) (Nat.le_of_ble_eq_true rfl) (pc' := 101) rfl ?_
      intro T h sv vm k_ C X K_ hS hSk_
      have A_da := A_da.keep K_ nin0
      have E_da := E_da.keep K_
      have O_rd := O_rd.keep K_ nin0
      have hSk := Nat.le_trans hSk K_.1
      have hSk := hSk_
      have hbg := own_big C X
      refine own_callV C X at_101 (own_m_vec l Z a0 hw rd sv _ n0 (own_big C X) da [(0 : Int32), t1, t2, t3, t4] (5 : Int32) (0 : Int32) (0 : Int32) rfl (by decide) (by decide) O_rd A_da (Ne.symm ne_da_rd) ge_rd (1 : Int32) (by decide) (by decide)) O_rd.1 (hw _ (List.mem_of_getElem? (i := 69) rfl)) (hw _ (List.mem_of_getElem? (i := 70) rfl)) (hw _ (List.mem_of_getElem? (i := 72) rfl)) (hw _ (List.mem_of_getElem? (i := 71) rfl)) (hw _ (List.mem_of_getElem? (i := 3) rfl)) (hw _ (List.mem_of_getElem? (i := 73) rfl)) (by decide) own_pd_251861 rfl rfl (Nat.le_of_ble_eq_true rfl) (Nat.le_of_ble_eq_true rfl) (Nat.le_of_ble_eq_true rfl) (Nat.le_of_ble_eq_true rfl) (av := [(.int (1 : Int32)), (.ref sv)]) (S := []) rfl (pc' := 104) rfl ?_
      intro T h v X hQ
      obtain ⟨inn, rfl, gq_inn, K_, O_n, O_inn⟩ := hQ
      have ne_da_inn : da ≠ inn := Nat.ne_of_lt (Nat.lt_of_lt_of_le A_da.lt gq_inn)
      have ne_rd_inn : rd ≠ inn := Nat.ne_of_lt (Nat.lt_of_lt_of_le O_rd.lt gq_inn)
      have ge_inn : n0 ≤ inn := Nat.le_trans hbg gq_inn
      have O_rd := O_n
      have A_da := A_da.keep K_ (ninS ne_da_rd nin0)
      have E_da := E_da.keep K_
      have hSk := Nat.le_trans hSk K_.1
      show own_Go p e below n0 (own_FinW room_1 s (fun v h => v = some (.int 1))) (T.setTop (mkF m 104 #[.val (.int i0), .val (.int i1), .val (.int i2), .val (.int i3), .val (.ref da), .val (.int (1 : Int32)), .val (.int (0 : Int32)), .val (.int (5 : Int32)), .val (.ref rd), .val (.int (0 : Int32)), .unset, .unset, .unset] [(.ref inn)]))
      refine own_astore C X at_104 rfl (L' := #[.val (.int i0), .val (.int i1), .val (.int i2), .val (.int i3), .val (.ref da), .val (.int (1 : Int32)), .val (.int (0 : Int32)), .val (.int (5 : Int32)), .val (.ref inn), .val (.int (0 : Int32)), .unset, .unset, .unset]) rfl (pc' := 106) rfl ?_
      refine own_iconst C X at_106 (v := 1) (by decide) (pc' := 107) rfl ?_
      refine own_istore C X at_107 (L' := #[.val (.int i0), .val (.int i1), .val (.int i2), .val (.int i3), .val (.ref da), .val (.int (1 : Int32)), .val (.int (1 : Int32)), .val (.int (5 : Int32)), .val (.ref inn), .val (.int (0 : Int32)), .unset, .unset, .unset]) rfl (pc' := 109) rfl ?_
      refine own_iconst C X at_109 (v := 1) (by decide) (pc' := 110) rfl ?_
      refine own_iload C X at_110 rfl (pc' := 112) rfl ?_
      refine own_iadd C X at_112 (z := 1) (by decide) (pc' := 113) rfl ?_
      refine own_istore C X at_113 (L' := #[.val (.int i0), .val (.int i1), .val (.int i2), .val (.int i3), .val (.ref da), .val (.int (1 : Int32)), .val (.int (1 : Int32)), .val (.int (1 : Int32)), .val (.ref inn), .val (.int (0 : Int32)), .unset, .unset, .unset]) rfl (pc' := 115) rfl ?_
      refine own_iloadN C X at_115 rfl (pc' := 116) rfl ?_
      refine own_ldcI C X at_116 (hw _ (List.mem_of_getElem? (i := 19) rfl)) (pc' := 118) rfl ?_
      refine own_iand C X at_118 rfl (pc' := 119) rfl ?_
      refine own_iload C X at_119 rfl (pc' := 121) rfl ?_
      refine own_iload C X at_121 rfl (pc' := 123) rfl ?_
      refine own_isub C X at_123 (z := 0) (by decide) (pc' := 124) rfl ?_
      refine own_iconst C X at_124 (v := 1) (by decide) (pc' := 125) rfl ?_
      refine own_iadd C X at_125 (z := 1) (by decide) (pc' := 126) rfl ?_
      obtain ⟨kk, e_kk⟩ : ∃ z : Int32, ((i3 &&& (2147483647 : Int32)) % (1 : Int32)) = z := ⟨_, rfl⟩
      refine own_irem C X at_126 (by decide) e_kk (pc' := 127) rfl ?_
      rcases own_md1 _ kk e_kk with rfl
      · refine own_istore C X at_127 (L' := #[.val (.int i0), .val (.int i1), .val (.int i2), .val (.int i3), .val (.ref da), .val (.int (1 : Int32)), .val (.int (1 : Int32)), .val (.int (1 : Int32)), .val (.ref inn), .val (.int (0 : Int32)), .unset, .unset, .unset]) rfl (pc' := 129) rfl ?_
        refine own_aload C X at_129 rfl rfl (pc' := 131) rfl ?_
        refine own_iload C X at_131 rfl (pc' := 133) rfl ?_
        refine own_ldcS C X hS hSk at_133 (hw _ (List.mem_of_getElem? (i := 20) rfl)) (own_strW hw) (n := 1024) (by decide) (by decide) (Nat.le_of_ble_eq_true rfl) (Nat.le_of_ble_eq_true rfl) (pc' := 135) rfl ?_
        intro T h ss vm k_ C X K_ hS hSk_
        have A_da := A_da.keep K_ nin0
        have E_da := E_da.keep K_
        have O_rd := O_rd.keep K_ nin0
        have O_inn := O_inn.keep K_ nin0
        have hSk := Nat.le_trans hSk K_.1
        have hSk := hSk_
        refine own_callV C X at_135 (own_m_skip l Z a0 hw inn (0 : Int32) ss _ n0 (own_big C X) da (1 : Int32) (1 : Int32) (1 : Int32) (by decide) (by decide) O_inn ge_inn) O_inn.1 (hw _ (List.mem_of_getElem? (i := 27) rfl)) (hw _ (List.mem_of_getElem? (i := 28) rfl)) (hw _ (List.mem_of_getElem? (i := 30) rfl)) (hw _ (List.mem_of_getElem? (i := 29) rfl)) (hw _ (List.mem_of_getElem? (i := 3) rfl)) (hw _ (List.mem_of_getElem? (i := 31) rfl)) (by decide) own_pd_34082 rfl rfl (Nat.le_of_ble_eq_true rfl) (Nat.le_of_ble_eq_true rfl) (Nat.le_of_ble_eq_true rfl) (Nat.le_of_ble_eq_true rfl) (av := [(.int (0 : Int32)), (.ref ss)]) (S := []) rfl (pc' := 138) rfl ?_
        intro T h v X hQ
        obtain ⟨rfl, K_, O_inn⟩ := hQ
        have A_da := A_da.keep K_ (ninS ne_da_inn nin0)
        have E_da := E_da.keep K_
        have O_rd := O_rd.keep K_ (ninS ne_rd_inn nin0)
        have hSk := Nat.le_trans hSk K_.1
        show own_Go p e below n0 (own_FinW room_1 s (fun v h => v = some (.int 1))) (T.setTop (mkF m 138 #[.val (.int i0), .val (.int i1), .val (.int i2), .val (.int i3), .val (.ref da), .val (.int (1 : Int32)), .val (.int (1 : Int32)), .val (.int (1 : Int32)), .val (.ref inn), .val (.int (0 : Int32)), .unset, .unset, .unset] []))
        refine own_iload C X at_138 rfl (pc' := 140) rfl ?_
        refine own_iload C X at_140 rfl (pc' := 142) rfl ?_
        refine own_iadd C X at_142 (z := 1) (by decide) (pc' := 143) rfl ?_
        refine own_istore C X at_143 (L' := #[.val (.int i0), .val (.int i1), .val (.int i2), .val (.int i3), .val (.ref da), .val (.int (1 : Int32)), .val (.int (1 : Int32)), .val (.int (1 : Int32)), .val (.ref inn), .val (.int (0 : Int32)), .val (.int (1 : Int32)), .unset, .unset]) rfl (pc' := 145) rfl ?_
        refine own_aload C X at_145 rfl rfl (pc' := 147) rfl ?_
        have hbg := own_big C X
        refine own_callV C X at_147 (own_m_rest11 l Z a0 hw inn _ n0 hbg da (0 : Int32) t1 t2 t3 t4 A_da E_da O_inn (Ne.symm ne_da_inn) ge_inn) O_inn.1 (hw _ (List.mem_of_getElem? (i := 36) rfl)) (hw _ (List.mem_of_getElem? (i := 37) rfl)) (hw _ (List.mem_of_getElem? (i := 39) rfl)) (hw _ (List.mem_of_getElem? (i := 38) rfl)) (hw _ (List.mem_of_getElem? (i := 3) rfl)) (hw _ (List.mem_of_getElem? (i := 40) rfl)) (by decide) own_pd_2087 rfl rfl (Nat.le_of_ble_eq_true rfl) (Nat.le_of_ble_eq_true rfl) (Nat.le_of_ble_eq_true rfl) (Nat.le_of_ble_eq_true rfl) (av := []) (S := []) rfl (pc' := 150) rfl ?_
        intro T h v X hQ
        obtain ⟨out, rfl, gq_out, K_, O_n, A_out⟩ := hQ
        have ne_da_out : da ≠ out := Nat.ne_of_lt (Nat.lt_of_lt_of_le A_da.lt gq_out)
        have ne_rd_out : rd ≠ out := Nat.ne_of_lt (Nat.lt_of_lt_of_le O_rd.lt gq_out)
        have ne_inn_out : inn ≠ out := Nat.ne_of_lt (Nat.lt_of_lt_of_le O_inn.lt gq_out)
        have ge_out : n0 ≤ out := Nat.le_trans hbg gq_out
        have O_inn := O_n
        have A_da := A_da.keep K_ (ninS ne_da_inn nin0)
        have E_da := E_da.keep K_
        have O_rd := O_rd.keep K_ (ninS ne_rd_inn nin0)
        have hSk := Nat.le_trans hSk K_.1
        show own_Go p e below n0 (own_FinW room_1 s (fun v h => v = some (.int 1))) (T.setTop (mkF m 150 #[.val (.int i0), .val (.int i1), .val (.int i2), .val (.int i3), .val (.ref da), .val (.int (1 : Int32)), .val (.int (1 : Int32)), .val (.int (1 : Int32)), .val (.ref inn), .val (.int (0 : Int32)), .val (.int (1 : Int32)), .unset, .unset] [(.ref out)]))
        refine own_astore C X at_150 rfl (L' := #[.val (.int i0), .val (.int i1), .val (.int i2), .val (.int i3), .val (.ref da), .val (.int (1 : Int32)), .val (.int (1 : Int32)), .val (.int (1 : Int32)), .val (.ref inn), .val (.int (0 : Int32)), .val (.int (1 : Int32)), .val (.ref out), .unset]) rfl (pc' := 152) rfl ?_
        refine own_aload C X at_152 rfl rfl (pc' := 154) rfl ?_
        refine own_aload C X at_154 rfl rfl (pc' := 156) rfl ?_
        refine own_acmp_ne C X at_156 rfl rfl (pcT := 161) (pc' := 159) (by decide) (by decide) rfl (fun hc156 => ?_) (fun hc156 => absurd hc156 (fun q => (Ne.symm ne_da_out) (Value.ref.inj q)))
        refine own_aload C X at_161 rfl rfl (pc' := 163) rfl ?_
        refine own_alenI C X at_163 (n := 0) A_out rfl (pc' := 164) rfl ?_
        refine own_iload C X at_164 rfl (pc' := 166) rfl ?_
        refine own_iload C X at_166 rfl (pc' := 168) rfl ?_
        refine own_isub C X at_168 (z := 0) (by decide) (pc' := 169) rfl ?_
        refine own_icmp_eq C X at_169 (pcT := 174) (pc' := 172) (by decide) (by decide) rfl (fun hc169 => ?_) (fun hc169 => absurd hc169 (by decide))
        refine own_aload C X at_174 rfl rfl (pc' := 176) rfl ?_
        refine own_aload C X at_176 rfl rfl (pc' := 178) rfl ?_
        refine own_iload C X at_178 rfl (pc' := 180) rfl ?_
        refine own_iconst C X at_180 (v := 0) (by decide) (pc' := 181) rfl ?_
        refine own_callS C X at_181 (own_m_sameN l Z a0 hw out da (1 : Int32) (0 : Int32) _ n0 (own_big C X) [] [(0 : Int32), t1, t2, t3, t4] 0 rfl A_out A_da (by decide)) (hw _ (List.mem_of_getElem? (i := 59) rfl)) (hw _ (List.mem_of_getElem? (i := 60) rfl)) (hw _ (List.mem_of_getElem? (i := 61) rfl)) (hw _ (List.mem_of_getElem? (i := 62) rfl)) (by decide) own_pd_6987 rfl rfl (Nat.le_of_ble_eq_true rfl) (Nat.le_of_ble_eq_true rfl) (Nat.le_of_ble_eq_true rfl) (Nat.le_of_ble_eq_true rfl) (av := [(.ref out), (.ref da), (.int (1 : Int32)), (.int (0 : Int32))]) (S := []) rfl (pc' := 184) rfl ?_
        intro T h v X hQ
        obtain ⟨rfl, rfl⟩ := hQ
        show own_Go p e below n0 (own_FinW room_1 s (fun v h => v = some (.int 1))) (T.setTop (mkF m 184 #[.val (.int i0), .val (.int i1), .val (.int i2), .val (.int i3), .val (.ref da), .val (.int (1 : Int32)), .val (.int (1 : Int32)), .val (.int (1 : Int32)), .val (.ref inn), .val (.int (0 : Int32)), .val (.int (1 : Int32)), .val (.ref out), .unset] [(.int (1 : Int32))]))
        refine own_if_ne C X at_184 (pcT := 189) (pc' := 187) (by decide) (by decide) rfl (fun hc184 => ?_) (fun hc184 => absurd hc184 (by decide))
        refine own_aload C X at_189 rfl rfl (pc' := 191) rfl ?_
        refine own_aload C X at_191 rfl rfl (pc' := 193) rfl ?_
        refine own_iload C X at_193 rfl (pc' := 195) rfl ?_
        refine own_iconst C X at_195 (v := 1) (by decide) (pc' := 196) rfl ?_
        refine own_callS C X at_196 (own_m_sameN l Z a0 hw out da (1 : Int32) (1 : Int32) _ n0 (own_big C X) [] [(0 : Int32), t1, t2, t3, t4] 0 rfl A_out A_da (by decide)) (hw _ (List.mem_of_getElem? (i := 59) rfl)) (hw _ (List.mem_of_getElem? (i := 60) rfl)) (hw _ (List.mem_of_getElem? (i := 61) rfl)) (hw _ (List.mem_of_getElem? (i := 62) rfl)) (by decide) own_pd_6987 rfl rfl (Nat.le_of_ble_eq_true rfl) (Nat.le_of_ble_eq_true rfl) (Nat.le_of_ble_eq_true rfl) (Nat.le_of_ble_eq_true rfl) (av := [(.ref out), (.ref da), (.int (1 : Int32)), (.int (1 : Int32))]) (S := []) rfl (pc' := 199) rfl ?_
        intro T h v X hQ
        obtain ⟨rfl, rfl⟩ := hQ
        show own_Go p e below n0 (own_FinW room_1 s (fun v h => v = some (.int 1))) (T.setTop (mkF m 199 #[.val (.int i0), .val (.int i1), .val (.int i2), .val (.int i3), .val (.ref da), .val (.int (1 : Int32)), .val (.int (1 : Int32)), .val (.int (1 : Int32)), .val (.ref inn), .val (.int (0 : Int32)), .val (.int (1 : Int32)), .val (.ref out), .unset] [(.int (1 : Int32))]))
        refine own_if_ne C X at_199 (pcT := 204) (pc' := 202) (by decide) (by decide) rfl (fun hc199 => ?_) (fun hc199 => absurd hc199 (by decide))
        refine own_aload C X at_204 rfl rfl (pc' := 206) rfl ?_
        refine own_aload C X at_206 rfl rfl (pc' := 208) rfl ?_
        refine own_iload C X at_208 rfl (pc' := 210) rfl ?_
        refine own_iconst C X at_210 (v := 2) (by decide) (pc' := 211) rfl ?_
        refine own_callS C X at_211 (own_m_sameN l Z a0 hw out da (1 : Int32) (2 : Int32) _ n0 (own_big C X) [] [(0 : Int32), t1, t2, t3, t4] 0 rfl A_out A_da (by decide)) (hw _ (List.mem_of_getElem? (i := 59) rfl)) (hw _ (List.mem_of_getElem? (i := 60) rfl)) (hw _ (List.mem_of_getElem? (i := 61) rfl)) (hw _ (List.mem_of_getElem? (i := 62) rfl)) (by decide) own_pd_6987 rfl rfl (Nat.le_of_ble_eq_true rfl) (Nat.le_of_ble_eq_true rfl) (Nat.le_of_ble_eq_true rfl) (Nat.le_of_ble_eq_true rfl) (av := [(.ref out), (.ref da), (.int (1 : Int32)), (.int (2 : Int32))]) (S := []) rfl (pc' := 214) rfl ?_
        intro T h v X hQ
        obtain ⟨rfl, rfl⟩ := hQ
        show own_Go p e below n0 (own_FinW room_1 s (fun v h => v = some (.int 1))) (T.setTop (mkF m 214 #[.val (.int i0), .val (.int i1), .val (.int i2), .val (.int i3), .val (.ref da), .val (.int (1 : Int32)), .val (.int (1 : Int32)), .val (.int (1 : Int32)), .val (.ref inn), .val (.int (0 : Int32)), .val (.int (1 : Int32)), .val (.ref out), .unset] [(.int (1 : Int32))]))
        refine own_if_ne C X at_214 (pcT := 219) (pc' := 217) (by decide) (by decide) rfl (fun hc214 => ?_) (fun hc214 => absurd hc214 (by decide))
        refine own_aload C X at_219 rfl rfl (pc' := 221) rfl ?_
        refine own_aload C X at_221 rfl rfl (pc' := 223) rfl ?_
        refine own_iload C X at_223 rfl (pc' := 225) rfl ?_
        refine own_iconst C X at_225 (v := 3) (by decide) (pc' := 226) rfl ?_
        refine own_callS C X at_226 (own_m_sameN l Z a0 hw out da (1 : Int32) (3 : Int32) _ n0 (own_big C X) [] [(0 : Int32), t1, t2, t3, t4] 0 rfl A_out A_da (by decide)) (hw _ (List.mem_of_getElem? (i := 59) rfl)) (hw _ (List.mem_of_getElem? (i := 60) rfl)) (hw _ (List.mem_of_getElem? (i := 61) rfl)) (hw _ (List.mem_of_getElem? (i := 62) rfl)) (by decide) own_pd_6987 rfl rfl (Nat.le_of_ble_eq_true rfl) (Nat.le_of_ble_eq_true rfl) (Nat.le_of_ble_eq_true rfl) (Nat.le_of_ble_eq_true rfl) (av := [(.ref out), (.ref da), (.int (1 : Int32)), (.int (3 : Int32))]) (S := []) rfl (pc' := 229) rfl ?_
        intro T h v X hQ
        obtain ⟨rfl, rfl⟩ := hQ
        show own_Go p e below n0 (own_FinW room_1 s (fun v h => v = some (.int 1))) (T.setTop (mkF m 229 #[.val (.int i0), .val (.int i1), .val (.int i2), .val (.int i3), .val (.ref da), .val (.int (1 : Int32)), .val (.int (1 : Int32)), .val (.int (1 : Int32)), .val (.ref inn), .val (.int (0 : Int32)), .val (.int (1 : Int32)), .val (.ref out), .unset] [(.int (1 : Int32))]))
        refine own_if_ne C X at_229 (pcT := 234) (pc' := 232) (by decide) (by decide) rfl (fun hc229 => ?_) (fun hc229 => absurd hc229 (by decide))
        refine own_aload C X at_234 rfl rfl (pc' := 236) rfl ?_
        refine own_aload C X at_236 rfl rfl (pc' := 238) rfl ?_
        refine own_iload C X at_238 rfl (pc' := 240) rfl ?_
        refine own_iconst C X at_240 (v := 4) (by decide) (pc' := 241) rfl ?_
        refine own_callS C X at_241 (own_m_sameN l Z a0 hw out da (1 : Int32) (4 : Int32) _ n0 (own_big C X) [] [(0 : Int32), t1, t2, t3, t4] 0 rfl A_out A_da (by decide)) (hw _ (List.mem_of_getElem? (i := 59) rfl)) (hw _ (List.mem_of_getElem? (i := 60) rfl)) (hw _ (List.mem_of_getElem? (i := 61) rfl)) (hw _ (List.mem_of_getElem? (i := 62) rfl)) (by decide) own_pd_6987 rfl rfl (Nat.le_of_ble_eq_true rfl) (Nat.le_of_ble_eq_true rfl) (Nat.le_of_ble_eq_true rfl) (Nat.le_of_ble_eq_true rfl) (av := [(.ref out), (.ref da), (.int (1 : Int32)), (.int (4 : Int32))]) (S := []) rfl (pc' := 244) rfl ?_
        intro T h v X hQ
        obtain ⟨rfl, rfl⟩ := hQ
        show own_Go p e below n0 (own_FinW room_1 s (fun v h => v = some (.int 1))) (T.setTop (mkF m 244 #[.val (.int i0), .val (.int i1), .val (.int i2), .val (.int i3), .val (.ref da), .val (.int (1 : Int32)), .val (.int (1 : Int32)), .val (.int (1 : Int32)), .val (.ref inn), .val (.int (0 : Int32)), .val (.int (1 : Int32)), .val (.ref out), .unset] [(.int (1 : Int32))]))
        refine own_if_ne C X at_244 (pcT := 249) (pc' := 247) (by decide) (by decide) rfl (fun hc244 => ?_) (fun hc244 => absurd hc244 (by decide))
        refine own_aload C X at_249 rfl rfl (pc' := 251) rfl ?_
        refine own_callV C X at_251 (own_m_hr l Z a0 hw inn _ n0 (own_big C X) da (1 : Int32) (1 : Int32) O_inn) O_inn.1 (hw _ (List.mem_of_getElem? (i := 63) rfl)) (hw _ (List.mem_of_getElem? (i := 64) rfl)) (hw _ (List.mem_of_getElem? (i := 66) rfl)) (hw _ (List.mem_of_getElem? (i := 65) rfl)) (hw _ (List.mem_of_getElem? (i := 3) rfl)) (hw _ (List.mem_of_getElem? (i := 67) rfl)) (by decide) own_pd_1418 rfl rfl (Nat.le_of_ble_eq_true rfl) (Nat.le_of_ble_eq_true rfl) (Nat.le_of_ble_eq_true rfl) (Nat.le_of_ble_eq_true rfl) (av := []) (S := []) rfl (pc' := 254) rfl ?_
        intro T h v X hQ
        obtain ⟨rfl, rfl⟩ := hQ
        show own_Go p e below n0 (own_FinW room_1 s (fun v h => v = some (.int 1))) (T.setTop (mkF m 254 #[.val (.int i0), .val (.int i1), .val (.int i2), .val (.int i3), .val (.ref da), .val (.int (1 : Int32)), .val (.int (1 : Int32)), .val (.int (1 : Int32)), .val (.ref inn), .val (.int (0 : Int32)), .val (.int (1 : Int32)), .val (.ref out), .unset] [(.int (own_hr (1 : Int32) (1 : Int32)))]))
        rw [show own_hr (1 : Int32) (1 : Int32) = 0 from by decide]
        show own_Go p e below n0 (own_FinW room_1 s (fun v h => v = some (.int 1))) (T.setTop (mkF m 254 #[.val (.int i0), .val (.int i1), .val (.int i2), .val (.int i3), .val (.ref da), .val (.int (1 : Int32)), .val (.int (1 : Int32)), .val (.int (1 : Int32)), .val (.ref inn), .val (.int (0 : Int32)), .val (.int (1 : Int32)), .val (.ref out), .unset] [(.int (0 : Int32))]))
        refine own_if_eq C X at_254 (pcT := 259) (pc' := 257) (by decide) (by decide) rfl (fun hc254 => ?_) (fun hc254 => absurd hc254 (by decide))
        refine own_aload C X at_259 rfl rfl (pc' := 261) rfl ?_
        have hbg := own_big C X
        refine own_callV C X at_261 (own_m_rest11 l Z a0 hw inn _ n0 hbg da (0 : Int32) t1 t2 t3 t4 A_da E_da O_inn (Ne.symm ne_da_inn) ge_inn) O_inn.1 (hw _ (List.mem_of_getElem? (i := 36) rfl)) (hw _ (List.mem_of_getElem? (i := 37) rfl)) (hw _ (List.mem_of_getElem? (i := 39) rfl)) (hw _ (List.mem_of_getElem? (i := 38) rfl)) (hw _ (List.mem_of_getElem? (i := 3) rfl)) (hw _ (List.mem_of_getElem? (i := 40) rfl)) (by decide) own_pd_2087 rfl rfl (Nat.le_of_ble_eq_true rfl) (Nat.le_of_ble_eq_true rfl) (Nat.le_of_ble_eq_true rfl) (Nat.le_of_ble_eq_true rfl) (av := []) (S := []) rfl (pc' := 264) rfl ?_
        intro T h v X hQ
        obtain ⟨ou2, rfl, gq_ou2, K_, O_n, A_ou2⟩ := hQ
        have ne_da_ou2 : da ≠ ou2 := Nat.ne_of_lt (Nat.lt_of_lt_of_le A_da.lt gq_ou2)
        have ne_rd_ou2 : rd ≠ ou2 := Nat.ne_of_lt (Nat.lt_of_lt_of_le O_rd.lt gq_ou2)
        have ne_inn_ou2 : inn ≠ ou2 := Nat.ne_of_lt (Nat.lt_of_lt_of_le O_inn.lt gq_ou2)
        have ne_out_ou2 : out ≠ ou2 := Nat.ne_of_lt (Nat.lt_of_lt_of_le A_out.lt gq_ou2)
        have ge_ou2 : n0 ≤ ou2 := Nat.le_trans hbg gq_ou2
        have O_inn := O_n
        have A_da := A_da.keep K_ (ninS ne_da_inn nin0)
        have E_da := E_da.keep K_
        have O_rd := O_rd.keep K_ (ninS ne_rd_inn nin0)
        have A_out := A_out.keep K_ (ninS (Ne.symm ne_inn_out) nin0)
        have hSk := Nat.le_trans hSk K_.1
        show own_Go p e below n0 (own_FinW room_1 s (fun v h => v = some (.int 1))) (T.setTop (mkF m 264 #[.val (.int i0), .val (.int i1), .val (.int i2), .val (.int i3), .val (.ref da), .val (.int (1 : Int32)), .val (.int (1 : Int32)), .val (.int (1 : Int32)), .val (.ref inn), .val (.int (0 : Int32)), .val (.int (1 : Int32)), .val (.ref out), .unset] [(.ref ou2)]))
        refine own_alenI C X at_264 (n := 0) A_ou2 rfl (pc' := 265) rfl ?_
        refine own_if_eq C X at_265 (pcT := 270) (pc' := 268) (by decide) (by decide) rfl (fun hc265 => ?_) (fun hc265 => absurd hc265 (by decide))
        refine own_aload C X at_270 rfl rfl (pc' := 272) rfl ?_
        refine own_alenI C X at_272 (n := 0) A_out rfl (pc' := 273) rfl ?_
        refine own_if_le C X at_273 (pcT := 306) (pc' := 276) (by decide) (by decide) rfl (fun hc273 => ?_) (fun hc273 => absurd hc273 (by decide))
        refine own_iconst C X at_306 (v := 1) (by decide) (pc' := 307) rfl ?_
        exact own_ireturn_zW C X hS hSk at_307 (Nat.le_of_ble_eq_true rfl) (Nat.le_of_ble_eq_true rfl) (rfl)
    · refine own_istore C X at_87 (L' := #[.val (.int i0), .val (.int i1), .val (.int i2), .val (.int i3), .val (.ref da), .val (.int (1 : Int32)), .val (.int (0 : Int32)), .val (.int (5 : Int32)), .val (.ref rd), .val (.int (1 : Int32)), .unset, .unset, .unset]) rfl (pc' := 89) rfl ?_
      refine own_aload C X at_89 rfl rfl (pc' := 91) rfl ?_
      refine own_iconst C X at_91 (v := 0) (by decide) (pc' := 92) rfl ?_
      refine own_iload C X at_92 rfl (pc' := 94) rfl ?_
      refine own_i2b C X at_94 (z := 1) (by decide) (pc' := 95) rfl ?_
      refine own_bastore C X at_95 A_da (by decide) (i := 0) (Nat.le_of_ble_eq_true rfl) (v := 1) (by decide) ge_da (pc' := 96) rfl ?_
      intro T h X K_ A_da_
      have A_da : own_IA Z h da .byte [(1 : Int32), t1, t2, t3, t4] := A_da_
      have E_da := E_da.keep K_
      have O_rd := O_rd.keep K_ (ninS (Ne.symm ne_da_rd) nin0)
      have hSk := Nat.le_trans hSk K_.1
      refine own_aload C X at_96 rfl rfl (pc' := 98) rfl ?_
      refine own_iconst C X at_98 (v := 1) (by decide) (pc' := 99) rfl ?_
      refine own_ldcS C X hS hSk at_99 (hw _ (List.mem_of_getElem? (i := 68) rfl)) (own_strW hw) (n := 1024) (by decide) (by decide) (Nat.le_of_ble_eq_true rfl) (Nat.le_of_ble_eq_true rfl) (pc' := 101) rfl ?_
      intro T h sv vm k_ C X K_ hS hSk_
      have A_da := A_da.keep K_ nin0
      have E_da := E_da.keep K_
      have O_rd := O_rd.keep K_ nin0
      have hSk := Nat.le_trans hSk K_.1
      have hSk := hSk_
      have hbg := own_big C X
      refine own_callV C X at_101 (own_m_vec l Z a0 hw rd sv _ n0 (own_big C X) da [(1 : Int32), t1, t2, t3, t4] (5 : Int32) (1 : Int32) (1 : Int32) rfl (by decide) (by decide) O_rd A_da (Ne.symm ne_da_rd) ge_rd (2 : Int32) (by decide) (by decide)) O_rd.1 (hw _ (List.mem_of_getElem? (i := 69) rfl)) (hw _ (List.mem_of_getElem? (i := 70) rfl)) (hw _ (List.mem_of_getElem? (i := 72) rfl)) (hw _ (List.mem_of_getElem? (i := 71) rfl)) (hw _ (List.mem_of_getElem? (i := 3) rfl)) (hw _ (List.mem_of_getElem? (i := 73) rfl)) (by decide) own_pd_251861 rfl rfl (Nat.le_of_ble_eq_true rfl) (Nat.le_of_ble_eq_true rfl) (Nat.le_of_ble_eq_true rfl) (Nat.le_of_ble_eq_true rfl) (av := [(.int (1 : Int32)), (.ref sv)]) (S := []) rfl (pc' := 104) rfl ?_
      intro T h v X hQ
      obtain ⟨inn, rfl, gq_inn, K_, O_n, O_inn⟩ := hQ
      have ne_da_inn : da ≠ inn := Nat.ne_of_lt (Nat.lt_of_lt_of_le A_da.lt gq_inn)
      have ne_rd_inn : rd ≠ inn := Nat.ne_of_lt (Nat.lt_of_lt_of_le O_rd.lt gq_inn)
      have ge_inn : n0 ≤ inn := Nat.le_trans hbg gq_inn
      have O_rd := O_n
      have A_da := A_da.keep K_ (ninS ne_da_rd nin0)
      have E_da := E_da.keep K_
      have hSk := Nat.le_trans hSk K_.1
      show own_Go p e below n0 (own_FinW room_1 s (fun v h => v = some (.int 1))) (T.setTop (mkF m 104 #[.val (.int i0), .val (.int i1), .val (.int i2), .val (.int i3), .val (.ref da), .val (.int (1 : Int32)), .val (.int (0 : Int32)), .val (.int (5 : Int32)), .val (.ref rd), .val (.int (1 : Int32)), .unset, .unset, .unset] [(.ref inn)]))
      refine own_astore C X at_104 rfl (L' := #[.val (.int i0), .val (.int i1), .val (.int i2), .val (.int i3), .val (.ref da), .val (.int (1 : Int32)), .val (.int (0 : Int32)), .val (.int (5 : Int32)), .val (.ref inn), .val (.int (1 : Int32)), .unset, .unset, .unset]) rfl (pc' := 106) rfl ?_
      refine own_iconst C X at_106 (v := 1) (by decide) (pc' := 107) rfl ?_
      refine own_istore C X at_107 (L' := #[.val (.int i0), .val (.int i1), .val (.int i2), .val (.int i3), .val (.ref da), .val (.int (1 : Int32)), .val (.int (1 : Int32)), .val (.int (5 : Int32)), .val (.ref inn), .val (.int (1 : Int32)), .unset, .unset, .unset]) rfl (pc' := 109) rfl ?_
      refine own_iconst C X at_109 (v := 1) (by decide) (pc' := 110) rfl ?_
      refine own_iload C X at_110 rfl (pc' := 112) rfl ?_
      refine own_iadd C X at_112 (z := 2) (by decide) (pc' := 113) rfl ?_
      refine own_istore C X at_113 (L' := #[.val (.int i0), .val (.int i1), .val (.int i2), .val (.int i3), .val (.ref da), .val (.int (1 : Int32)), .val (.int (1 : Int32)), .val (.int (2 : Int32)), .val (.ref inn), .val (.int (1 : Int32)), .unset, .unset, .unset]) rfl (pc' := 115) rfl ?_
      refine own_iloadN C X at_115 rfl (pc' := 116) rfl ?_
      refine own_ldcI C X at_116 (hw _ (List.mem_of_getElem? (i := 19) rfl)) (pc' := 118) rfl ?_
      refine own_iand C X at_118 rfl (pc' := 119) rfl ?_
      refine own_iload C X at_119 rfl (pc' := 121) rfl ?_
      refine own_iload C X at_121 rfl (pc' := 123) rfl ?_
      refine own_isub C X at_123 (z := 1) (by decide) (pc' := 124) rfl ?_
      refine own_iconst C X at_124 (v := 1) (by decide) (pc' := 125) rfl ?_
      refine own_iadd C X at_125 (z := 2) (by decide) (pc' := 126) rfl ?_
      obtain ⟨kk, e_kk⟩ : ∃ z : Int32, ((i3 &&& (2147483647 : Int32)) % (2 : Int32)) = z := ⟨_, rfl⟩
      refine own_irem C X at_126 (by decide) e_kk (pc' := 127) rfl ?_
      rcases own_md2 _ kk e_kk with rfl | rfl
      · refine own_istore C X at_127 (L' := #[.val (.int i0), .val (.int i1), .val (.int i2), .val (.int i3), .val (.ref da), .val (.int (1 : Int32)), .val (.int (1 : Int32)), .val (.int (2 : Int32)), .val (.ref inn), .val (.int (0 : Int32)), .unset, .unset, .unset]) rfl (pc' := 129) rfl ?_
        refine own_aload C X at_129 rfl rfl (pc' := 131) rfl ?_
        refine own_iload C X at_131 rfl (pc' := 133) rfl ?_
        refine own_ldcS C X hS hSk at_133 (hw _ (List.mem_of_getElem? (i := 20) rfl)) (own_strW hw) (n := 1024) (by decide) (by decide) (Nat.le_of_ble_eq_true rfl) (Nat.le_of_ble_eq_true rfl) (pc' := 135) rfl ?_
        intro T h ss vm k_ C X K_ hS hSk_
        have A_da := A_da.keep K_ nin0
        have E_da := E_da.keep K_
        have O_rd := O_rd.keep K_ nin0
        have O_inn := O_inn.keep K_ nin0
        have hSk := Nat.le_trans hSk K_.1
        have hSk := hSk_
        refine own_callV C X at_135 (own_m_skip l Z a0 hw inn (0 : Int32) ss _ n0 (own_big C X) da (1 : Int32) (2 : Int32) (1 : Int32) (by decide) (by decide) O_inn ge_inn) O_inn.1 (hw _ (List.mem_of_getElem? (i := 27) rfl)) (hw _ (List.mem_of_getElem? (i := 28) rfl)) (hw _ (List.mem_of_getElem? (i := 30) rfl)) (hw _ (List.mem_of_getElem? (i := 29) rfl)) (hw _ (List.mem_of_getElem? (i := 3) rfl)) (hw _ (List.mem_of_getElem? (i := 31) rfl)) (by decide) own_pd_34082 rfl rfl (Nat.le_of_ble_eq_true rfl) (Nat.le_of_ble_eq_true rfl) (Nat.le_of_ble_eq_true rfl) (Nat.le_of_ble_eq_true rfl) (av := [(.int (0 : Int32)), (.ref ss)]) (S := []) rfl (pc' := 138) rfl ?_
        intro T h v X hQ
        obtain ⟨rfl, K_, O_inn⟩ := hQ
        have A_da := A_da.keep K_ (ninS ne_da_inn nin0)
        have E_da := E_da.keep K_
        have O_rd := O_rd.keep K_ (ninS ne_rd_inn nin0)
        have hSk := Nat.le_trans hSk K_.1
        show own_Go p e below n0 (own_FinW room_1 s (fun v h => v = some (.int 1))) (T.setTop (mkF m 138 #[.val (.int i0), .val (.int i1), .val (.int i2), .val (.int i3), .val (.ref da), .val (.int (1 : Int32)), .val (.int (1 : Int32)), .val (.int (2 : Int32)), .val (.ref inn), .val (.int (0 : Int32)), .unset, .unset, .unset] []))
        refine own_iload C X at_138 rfl (pc' := 140) rfl ?_
        refine own_iload C X at_140 rfl (pc' := 142) rfl ?_
        refine own_iadd C X at_142 (z := 1) (by decide) (pc' := 143) rfl ?_
        refine own_istore C X at_143 (L' := #[.val (.int i0), .val (.int i1), .val (.int i2), .val (.int i3), .val (.ref da), .val (.int (1 : Int32)), .val (.int (1 : Int32)), .val (.int (2 : Int32)), .val (.ref inn), .val (.int (0 : Int32)), .val (.int (1 : Int32)), .unset, .unset]) rfl (pc' := 145) rfl ?_
        refine own_aload C X at_145 rfl rfl (pc' := 147) rfl ?_
        have hbg := own_big C X
        refine own_callV C X at_147 (own_m_rest12 l Z a0 hw inn _ n0 hbg da (1 : Int32) t1 t2 t3 t4 A_da E_da O_inn (Ne.symm ne_da_inn) ge_inn) O_inn.1 (hw _ (List.mem_of_getElem? (i := 36) rfl)) (hw _ (List.mem_of_getElem? (i := 37) rfl)) (hw _ (List.mem_of_getElem? (i := 39) rfl)) (hw _ (List.mem_of_getElem? (i := 38) rfl)) (hw _ (List.mem_of_getElem? (i := 3) rfl)) (hw _ (List.mem_of_getElem? (i := 40) rfl)) (by decide) own_pd_2087 rfl rfl (Nat.le_of_ble_eq_true rfl) (Nat.le_of_ble_eq_true rfl) (Nat.le_of_ble_eq_true rfl) (Nat.le_of_ble_eq_true rfl) (av := []) (S := []) rfl (pc' := 150) rfl ?_
        intro T h v X hQ
        obtain ⟨out, rfl, gq_out, K_, O_n, A_out⟩ := hQ
        have ne_da_out : da ≠ out := Nat.ne_of_lt (Nat.lt_of_lt_of_le A_da.lt gq_out)
        have ne_rd_out : rd ≠ out := Nat.ne_of_lt (Nat.lt_of_lt_of_le O_rd.lt gq_out)
        have ne_inn_out : inn ≠ out := Nat.ne_of_lt (Nat.lt_of_lt_of_le O_inn.lt gq_out)
        have ge_out : n0 ≤ out := Nat.le_trans hbg gq_out
        have O_inn := O_n
        have A_da := A_da.keep K_ (ninS ne_da_inn nin0)
        have E_da := E_da.keep K_
        have O_rd := O_rd.keep K_ (ninS ne_rd_inn nin0)
        have hSk := Nat.le_trans hSk K_.1
        show own_Go p e below n0 (own_FinW room_1 s (fun v h => v = some (.int 1))) (T.setTop (mkF m 150 #[.val (.int i0), .val (.int i1), .val (.int i2), .val (.int i3), .val (.ref da), .val (.int (1 : Int32)), .val (.int (1 : Int32)), .val (.int (2 : Int32)), .val (.ref inn), .val (.int (0 : Int32)), .val (.int (1 : Int32)), .unset, .unset] [(.ref out)]))
        refine own_astore C X at_150 rfl (L' := #[.val (.int i0), .val (.int i1), .val (.int i2), .val (.int i3), .val (.ref da), .val (.int (1 : Int32)), .val (.int (1 : Int32)), .val (.int (2 : Int32)), .val (.ref inn), .val (.int (0 : Int32)), .val (.int (1 : Int32)), .val (.ref out), .unset]) rfl (pc' := 152) rfl ?_
        refine own_aload C X at_152 rfl rfl (pc' := 154) rfl ?_
        refine own_aload C X at_154 rfl rfl (pc' := 156) rfl ?_
        refine own_acmp_ne C X at_156 rfl rfl (pcT := 161) (pc' := 159) (by decide) (by decide) rfl (fun hc156 => ?_) (fun hc156 => absurd hc156 (fun q => (Ne.symm ne_da_out) (Value.ref.inj q)))
        refine own_aload C X at_161 rfl rfl (pc' := 163) rfl ?_
        refine own_alenI C X at_163 (n := 1) A_out rfl (pc' := 164) rfl ?_
        refine own_iload C X at_164 rfl (pc' := 166) rfl ?_
        refine own_iload C X at_166 rfl (pc' := 168) rfl ?_
        refine own_isub C X at_168 (z := 1) (by decide) (pc' := 169) rfl ?_
        refine own_icmp_eq C X at_169 (pcT := 174) (pc' := 172) (by decide) (by decide) rfl (fun hc169 => ?_) (fun hc169 => absurd hc169 (by decide))
        refine own_aload C X at_174 rfl rfl (pc' := 176) rfl ?_
        refine own_aload C X at_176 rfl rfl (pc' := 178) rfl ?_
        refine own_iload C X at_178 rfl (pc' := 180) rfl ?_
        refine own_iconst C X at_180 (v := 0) (by decide) (pc' := 181) rfl ?_
        refine own_callS C X at_181 (own_m_sameY l Z a0 hw out da (1 : Int32) (0 : Int32) _ n0 (own_big C X) [t1] [(1 : Int32), t1, t2, t3, t4] 1 rfl A_out A_da (by decide) 0 1 t1 (by decide) (by decide) rfl rfl) (hw _ (List.mem_of_getElem? (i := 59) rfl)) (hw _ (List.mem_of_getElem? (i := 60) rfl)) (hw _ (List.mem_of_getElem? (i := 61) rfl)) (hw _ (List.mem_of_getElem? (i := 62) rfl)) (by decide) own_pd_6987 rfl rfl (Nat.le_of_ble_eq_true rfl) (Nat.le_of_ble_eq_true rfl) (Nat.le_of_ble_eq_true rfl) (Nat.le_of_ble_eq_true rfl) (av := [(.ref out), (.ref da), (.int (1 : Int32)), (.int (0 : Int32))]) (S := []) rfl (pc' := 184) rfl ?_
        intro T h v X hQ
        obtain ⟨rfl, rfl⟩ := hQ
        show own_Go p e below n0 (own_FinW room_1 s (fun v h => v = some (.int 1))) (T.setTop (mkF m 184 #[.val (.int i0), .val (.int i1), .val (.int i2), .val (.int i3), .val (.ref da), .val (.int (1 : Int32)), .val (.int (1 : Int32)), .val (.int (2 : Int32)), .val (.ref inn), .val (.int (0 : Int32)), .val (.int (1 : Int32)), .val (.ref out), .unset] [(.int (1 : Int32))]))
        refine own_if_ne C X at_184 (pcT := 189) (pc' := 187) (by decide) (by decide) rfl (fun hc184 => ?_) (fun hc184 => absurd hc184 (by decide))
        refine own_aload C X at_189 rfl rfl (pc' := 191) rfl ?_
        refine own_aload C X at_191 rfl rfl (pc' := 193) rfl ?_
        refine own_iload C X at_193 rfl (pc' := 195) rfl ?_
        refine own_iconst C X at_195 (v := 1) (by decide) (pc' := 196) rfl ?_
        refine own_callS C X at_196 (own_m_sameN l Z a0 hw out da (1 : Int32) (1 : Int32) _ n0 (own_big C X) [t1] [(1 : Int32), t1, t2, t3, t4] 1 rfl A_out A_da (by decide)) (hw _ (List.mem_of_getElem? (i := 59) rfl)) (hw _ (List.mem_of_getElem? (i := 60) rfl)) (hw _ (List.mem_of_getElem? (i := 61) rfl)) (hw _ (List.mem_of_getElem? (i := 62) rfl)) (by decide) own_pd_6987 rfl rfl (Nat.le_of_ble_eq_true rfl) (Nat.le_of_ble_eq_true rfl) (Nat.le_of_ble_eq_true rfl) (Nat.le_of_ble_eq_true rfl) (av := [(.ref out), (.ref da), (.int (1 : Int32)), (.int (1 : Int32))]) (S := []) rfl (pc' := 199) rfl ?_
        intro T h v X hQ
        obtain ⟨rfl, rfl⟩ := hQ
        show own_Go p e below n0 (own_FinW room_1 s (fun v h => v = some (.int 1))) (T.setTop (mkF m 199 #[.val (.int i0), .val (.int i1), .val (.int i2), .val (.int i3), .val (.ref da), .val (.int (1 : Int32)), .val (.int (1 : Int32)), .val (.int (2 : Int32)), .val (.ref inn), .val (.int (0 : Int32)), .val (.int (1 : Int32)), .val (.ref out), .unset] [(.int (1 : Int32))]))
        refine own_if_ne C X at_199 (pcT := 204) (pc' := 202) (by decide) (by decide) rfl (fun hc199 => ?_) (fun hc199 => absurd hc199 (by decide))
        refine own_aload C X at_204 rfl rfl (pc' := 206) rfl ?_
        refine own_aload C X at_206 rfl rfl (pc' := 208) rfl ?_
        refine own_iload C X at_208 rfl (pc' := 210) rfl ?_
        refine own_iconst C X at_210 (v := 2) (by decide) (pc' := 211) rfl ?_
        refine own_callS C X at_211 (own_m_sameN l Z a0 hw out da (1 : Int32) (2 : Int32) _ n0 (own_big C X) [t1] [(1 : Int32), t1, t2, t3, t4] 1 rfl A_out A_da (by decide)) (hw _ (List.mem_of_getElem? (i := 59) rfl)) (hw _ (List.mem_of_getElem? (i := 60) rfl)) (hw _ (List.mem_of_getElem? (i := 61) rfl)) (hw _ (List.mem_of_getElem? (i := 62) rfl)) (by decide) own_pd_6987 rfl rfl (Nat.le_of_ble_eq_true rfl) (Nat.le_of_ble_eq_true rfl) (Nat.le_of_ble_eq_true rfl) (Nat.le_of_ble_eq_true rfl) (av := [(.ref out), (.ref da), (.int (1 : Int32)), (.int (2 : Int32))]) (S := []) rfl (pc' := 214) rfl ?_
        intro T h v X hQ
        obtain ⟨rfl, rfl⟩ := hQ
        show own_Go p e below n0 (own_FinW room_1 s (fun v h => v = some (.int 1))) (T.setTop (mkF m 214 #[.val (.int i0), .val (.int i1), .val (.int i2), .val (.int i3), .val (.ref da), .val (.int (1 : Int32)), .val (.int (1 : Int32)), .val (.int (2 : Int32)), .val (.ref inn), .val (.int (0 : Int32)), .val (.int (1 : Int32)), .val (.ref out), .unset] [(.int (1 : Int32))]))
        refine own_if_ne C X at_214 (pcT := 219) (pc' := 217) (by decide) (by decide) rfl (fun hc214 => ?_) (fun hc214 => absurd hc214 (by decide))
        refine own_aload C X at_219 rfl rfl (pc' := 221) rfl ?_
        refine own_aload C X at_221 rfl rfl (pc' := 223) rfl ?_
        refine own_iload C X at_223 rfl (pc' := 225) rfl ?_
        refine own_iconst C X at_225 (v := 3) (by decide) (pc' := 226) rfl ?_
        refine own_callS C X at_226 (own_m_sameN l Z a0 hw out da (1 : Int32) (3 : Int32) _ n0 (own_big C X) [t1] [(1 : Int32), t1, t2, t3, t4] 1 rfl A_out A_da (by decide)) (hw _ (List.mem_of_getElem? (i := 59) rfl)) (hw _ (List.mem_of_getElem? (i := 60) rfl)) (hw _ (List.mem_of_getElem? (i := 61) rfl)) (hw _ (List.mem_of_getElem? (i := 62) rfl)) (by decide) own_pd_6987 rfl rfl (Nat.le_of_ble_eq_true rfl) (Nat.le_of_ble_eq_true rfl) (Nat.le_of_ble_eq_true rfl) (Nat.le_of_ble_eq_true rfl) (av := [(.ref out), (.ref da), (.int (1 : Int32)), (.int (3 : Int32))]) (S := []) rfl (pc' := 229) rfl ?_
        intro T h v X hQ
        obtain ⟨rfl, rfl⟩ := hQ
        show own_Go p e below n0 (own_FinW room_1 s (fun v h => v = some (.int 1))) (T.setTop (mkF m 229 #[.val (.int i0), .val (.int i1), .val (.int i2), .val (.int i3), .val (.ref da), .val (.int (1 : Int32)), .val (.int (1 : Int32)), .val (.int (2 : Int32)), .val (.ref inn), .val (.int (0 : Int32)), .val (.int (1 : Int32)), .val (.ref out), .unset] [(.int (1 : Int32))]))
        refine own_if_ne C X at_229 (pcT := 234) (pc' := 232) (by decide) (by decide) rfl (fun hc229 => ?_) (fun hc229 => absurd hc229 (by decide))
        refine own_aload C X at_234 rfl rfl (pc' := 236) rfl ?_
        refine own_aload C X at_236 rfl rfl (pc' := 238) rfl ?_
        refine own_iload C X at_238 rfl (pc' := 240) rfl ?_
        refine own_iconst C X at_240 (v := 4) (by decide) (pc' := 241) rfl ?_
        refine own_callS C X at_241 (own_m_sameN l Z a0 hw out da (1 : Int32) (4 : Int32) _ n0 (own_big C X) [t1] [(1 : Int32), t1, t2, t3, t4] 1 rfl A_out A_da (by decide)) (hw _ (List.mem_of_getElem? (i := 59) rfl)) (hw _ (List.mem_of_getElem? (i := 60) rfl)) (hw _ (List.mem_of_getElem? (i := 61) rfl)) (hw _ (List.mem_of_getElem? (i := 62) rfl)) (by decide) own_pd_6987 rfl rfl (Nat.le_of_ble_eq_true rfl) (Nat.le_of_ble_eq_true rfl) (Nat.le_of_ble_eq_true rfl) (Nat.le_of_ble_eq_true rfl) (av := [(.ref out), (.ref da), (.int (1 : Int32)), (.int (4 : Int32))]) (S := []) rfl (pc' := 244) rfl ?_
        intro T h v X hQ
        obtain ⟨rfl, rfl⟩ := hQ
        show own_Go p e below n0 (own_FinW room_1 s (fun v h => v = some (.int 1))) (T.setTop (mkF m 244 #[.val (.int i0), .val (.int i1), .val (.int i2), .val (.int i3), .val (.ref da), .val (.int (1 : Int32)), .val (.int (1 : Int32)), .val (.int (2 : Int32)), .val (.ref inn), .val (.int (0 : Int32)), .val (.int (1 : Int32)), .val (.ref out), .unset] [(.int (1 : Int32))]))
        refine own_if_ne C X at_244 (pcT := 249) (pc' := 247) (by decide) (by decide) rfl (fun hc244 => ?_) (fun hc244 => absurd hc244 (by decide))
        refine own_aload C X at_249 rfl rfl (pc' := 251) rfl ?_
        refine own_callV C X at_251 (own_m_hr l Z a0 hw inn _ n0 (own_big C X) da (2 : Int32) (2 : Int32) O_inn) O_inn.1 (hw _ (List.mem_of_getElem? (i := 63) rfl)) (hw _ (List.mem_of_getElem? (i := 64) rfl)) (hw _ (List.mem_of_getElem? (i := 66) rfl)) (hw _ (List.mem_of_getElem? (i := 65) rfl)) (hw _ (List.mem_of_getElem? (i := 3) rfl)) (hw _ (List.mem_of_getElem? (i := 67) rfl)) (by decide) own_pd_1418 rfl rfl (Nat.le_of_ble_eq_true rfl) (Nat.le_of_ble_eq_true rfl) (Nat.le_of_ble_eq_true rfl) (Nat.le_of_ble_eq_true rfl) (av := []) (S := []) rfl (pc' := 254) rfl ?_
        intro T h v X hQ
        obtain ⟨rfl, rfl⟩ := hQ
        show own_Go p e below n0 (own_FinW room_1 s (fun v h => v = some (.int 1))) (T.setTop (mkF m 254 #[.val (.int i0), .val (.int i1), .val (.int i2), .val (.int i3), .val (.ref da), .val (.int (1 : Int32)), .val (.int (1 : Int32)), .val (.int (2 : Int32)), .val (.ref inn), .val (.int (0 : Int32)), .val (.int (1 : Int32)), .val (.ref out), .unset] [(.int (own_hr (2 : Int32) (2 : Int32)))]))
        rw [show own_hr (2 : Int32) (2 : Int32) = 0 from by decide]
        show own_Go p e below n0 (own_FinW room_1 s (fun v h => v = some (.int 1))) (T.setTop (mkF m 254 #[.val (.int i0), .val (.int i1), .val (.int i2), .val (.int i3), .val (.ref da), .val (.int (1 : Int32)), .val (.int (1 : Int32)), .val (.int (2 : Int32)), .val (.ref inn), .val (.int (0 : Int32)), .val (.int (1 : Int32)), .val (.ref out), .unset] [(.int (0 : Int32))]))
        refine own_if_eq C X at_254 (pcT := 259) (pc' := 257) (by decide) (by decide) rfl (fun hc254 => ?_) (fun hc254 => absurd hc254 (by decide))
        refine own_aload C X at_259 rfl rfl (pc' := 261) rfl ?_
        have hbg := own_big C X
        refine own_callV C X at_261 (own_m_rest22 l Z a0 hw inn _ n0 hbg da (1 : Int32) t1 t2 t3 t4 A_da E_da O_inn (Ne.symm ne_da_inn) ge_inn) O_inn.1 (hw _ (List.mem_of_getElem? (i := 36) rfl)) (hw _ (List.mem_of_getElem? (i := 37) rfl)) (hw _ (List.mem_of_getElem? (i := 39) rfl)) (hw _ (List.mem_of_getElem? (i := 38) rfl)) (hw _ (List.mem_of_getElem? (i := 3) rfl)) (hw _ (List.mem_of_getElem? (i := 40) rfl)) (by decide) own_pd_2087 rfl rfl (Nat.le_of_ble_eq_true rfl) (Nat.le_of_ble_eq_true rfl) (Nat.le_of_ble_eq_true rfl) (Nat.le_of_ble_eq_true rfl) (av := []) (S := []) rfl (pc' := 264) rfl ?_
        intro T h v X hQ
        obtain ⟨ou2, rfl, gq_ou2, K_, O_n, A_ou2⟩ := hQ
        have ne_da_ou2 : da ≠ ou2 := Nat.ne_of_lt (Nat.lt_of_lt_of_le A_da.lt gq_ou2)
        have ne_rd_ou2 : rd ≠ ou2 := Nat.ne_of_lt (Nat.lt_of_lt_of_le O_rd.lt gq_ou2)
        have ne_inn_ou2 : inn ≠ ou2 := Nat.ne_of_lt (Nat.lt_of_lt_of_le O_inn.lt gq_ou2)
        have ne_out_ou2 : out ≠ ou2 := Nat.ne_of_lt (Nat.lt_of_lt_of_le A_out.lt gq_ou2)
        have ge_ou2 : n0 ≤ ou2 := Nat.le_trans hbg gq_ou2
        have O_inn := O_n
        have A_da := A_da.keep K_ (ninS ne_da_inn nin0)
        have E_da := E_da.keep K_
        have O_rd := O_rd.keep K_ (ninS ne_rd_inn nin0)
        have A_out := A_out.keep K_ (ninS (Ne.symm ne_inn_out) nin0)
        have hSk := Nat.le_trans hSk K_.1
        show own_Go p e below n0 (own_FinW room_1 s (fun v h => v = some (.int 1))) (T.setTop (mkF m 264 #[.val (.int i0), .val (.int i1), .val (.int i2), .val (.int i3), .val (.ref da), .val (.int (1 : Int32)), .val (.int (1 : Int32)), .val (.int (2 : Int32)), .val (.ref inn), .val (.int (0 : Int32)), .val (.int (1 : Int32)), .val (.ref out), .unset] [(.ref ou2)]))
        refine own_alenI C X at_264 (n := 0) A_ou2 rfl (pc' := 265) rfl ?_
        refine own_if_eq C X at_265 (pcT := 270) (pc' := 268) (by decide) (by decide) rfl (fun hc265 => ?_) (fun hc265 => absurd hc265 (by decide))
        refine own_aload C X at_270 rfl rfl (pc' := 272) rfl ?_
        refine own_alenI C X at_272 (n := 1) A_out rfl (pc' := 273) rfl ?_
        refine own_if_le C X at_273 (pcT := 306) (pc' := 276) (by decide) (by decide) rfl (fun hc273 => absurd hc273 (by decide)) (fun hc273 => ?_)
        refine own_aload C X at_276 rfl rfl (pc' := 278) rfl ?_
        refine own_iload C X at_278 rfl (pc' := 280) rfl ?_
        refine own_baload C X at_280 A_da (by decide) (i := 1) rfl (pc' := 281) rfl ?_
        refine own_istore C X at_281 (L' := #[.val (.int i0), .val (.int i1), .val (.int i2), .val (.int i3), .val (.ref da), .val (.int (1 : Int32)), .val (.int (1 : Int32)), .val (.int (2 : Int32)), .val (.ref inn), .val (.int (0 : Int32)), .val (.int (1 : Int32)), .val (.ref out), .val (.int t1)]) rfl (pc' := 283) rfl ?_
        refine own_aload C X at_283 rfl rfl (pc' := 285) rfl ?_
        refine own_iconst C X at_285 (v := 0) (by decide) (pc' := 286) rfl ?_
        refine own_aload C X at_286 rfl rfl (pc' := 288) rfl ?_
        refine own_iconst C X at_288 (v := 0) (by decide) (pc' := 289) rfl ?_
        refine own_baload C X at_289 A_out (by decide) (i := 0) rfl (pc' := 290) rfl ?_
        refine own_iconst C X at_290 (v := 1) (by decide) (pc' := 291) rfl ?_
        refine own_ixor C X at_291 rfl (pc' := 292) rfl ?_
        obtain ⟨tx, e_tx⟩ : ∃ z : Int32, (t1 ^^^ (1 : Int32)).toInt8.toInt32 = z := ⟨_, rfl⟩
        refine own_i2b C X at_292 e_tx (pc' := 293) rfl ?_
        refine own_bastore C X at_293 A_out (by decide) (i := 0) (Nat.le_of_ble_eq_true rfl) (own_i2bn e_tx) ge_out (pc' := 294) rfl ?_
        intro T h X K_ A_out_
        have A_out : own_IA Z h out .byte [tx] := A_out_
        have A_da := A_da.keep K_ (ninS ne_da_out nin0)
        have E_da := E_da.keep K_
        have O_rd := O_rd.keep K_ (ninS ne_rd_out nin0)
        have O_inn := O_inn.keep K_ (ninS ne_inn_out nin0)
        have A_ou2 := A_ou2.keep K_ (ninS (Ne.symm ne_out_ou2) nin0)
        have hSk := Nat.le_trans hSk K_.1
        refine own_aload C X at_294 rfl rfl (pc' := 296) rfl ?_
        refine own_iload C X at_296 rfl (pc' := 298) rfl ?_
        refine own_baload C X at_298 A_da (by decide) (i := 1) rfl (pc' := 299) rfl ?_
        refine own_iload C X at_299 rfl (pc' := 301) rfl ?_
        refine own_icmp_eq C X at_301 (pcT := 306) (pc' := 304) (by decide) (by decide) rfl (fun hc301 => ?_) (fun hc301 => absurd hc301 (not_not_intro rfl))
        refine own_iconst C X at_306 (v := 1) (by decide) (pc' := 307) rfl ?_
        exact own_ireturn_zW C X hS hSk at_307 (Nat.le_of_ble_eq_true rfl) (Nat.le_of_ble_eq_true rfl) (rfl)
      · refine own_istore C X at_127 (L' := #[.val (.int i0), .val (.int i1), .val (.int i2), .val (.int i3), .val (.ref da), .val (.int (1 : Int32)), .val (.int (1 : Int32)), .val (.int (2 : Int32)), .val (.ref inn), .val (.int (1 : Int32)), .unset, .unset, .unset]) rfl (pc' := 129) rfl ?_
        refine own_aload C X at_129 rfl rfl (pc' := 131) rfl ?_
        refine own_iload C X at_131 rfl (pc' := 133) rfl ?_
        refine own_ldcS C X hS hSk at_133 (hw _ (List.mem_of_getElem? (i := 20) rfl)) (own_strW hw) (n := 1024) (by decide) (by decide) (Nat.le_of_ble_eq_true rfl) (Nat.le_of_ble_eq_true rfl) (pc' := 135) rfl ?_
        intro T h ss vm k_ C X K_ hS hSk_
        have A_da := A_da.keep K_ nin0
        have E_da := E_da.keep K_
        have O_rd := O_rd.keep K_ nin0
        have O_inn := O_inn.keep K_ nin0
        have hSk := Nat.le_trans hSk K_.1
        have hSk := hSk_
        refine own_callV C X at_135 (own_m_skip l Z a0 hw inn (1 : Int32) ss _ n0 (own_big C X) da (1 : Int32) (2 : Int32) (2 : Int32) (by decide) (by decide) O_inn ge_inn) O_inn.1 (hw _ (List.mem_of_getElem? (i := 27) rfl)) (hw _ (List.mem_of_getElem? (i := 28) rfl)) (hw _ (List.mem_of_getElem? (i := 30) rfl)) (hw _ (List.mem_of_getElem? (i := 29) rfl)) (hw _ (List.mem_of_getElem? (i := 3) rfl)) (hw _ (List.mem_of_getElem? (i := 31) rfl)) (by decide) own_pd_34082 rfl rfl (Nat.le_of_ble_eq_true rfl) (Nat.le_of_ble_eq_true rfl) (Nat.le_of_ble_eq_true rfl) (Nat.le_of_ble_eq_true rfl) (av := [(.int (1 : Int32)), (.ref ss)]) (S := []) rfl (pc' := 138) rfl ?_
        intro T h v X hQ
        obtain ⟨rfl, K_, O_inn⟩ := hQ
        have A_da := A_da.keep K_ (ninS ne_da_inn nin0)
        have E_da := E_da.keep K_
        have O_rd := O_rd.keep K_ (ninS ne_rd_inn nin0)
        have hSk := Nat.le_trans hSk K_.1
        show own_Go p e below n0 (own_FinW room_1 s (fun v h => v = some (.int 1))) (T.setTop (mkF m 138 #[.val (.int i0), .val (.int i1), .val (.int i2), .val (.int i3), .val (.ref da), .val (.int (1 : Int32)), .val (.int (1 : Int32)), .val (.int (2 : Int32)), .val (.ref inn), .val (.int (1 : Int32)), .unset, .unset, .unset] []))
        refine own_iload C X at_138 rfl (pc' := 140) rfl ?_
        refine own_iload C X at_140 rfl (pc' := 142) rfl ?_
        refine own_iadd C X at_142 (z := 2) (by decide) (pc' := 143) rfl ?_
        refine own_istore C X at_143 (L' := #[.val (.int i0), .val (.int i1), .val (.int i2), .val (.int i3), .val (.ref da), .val (.int (1 : Int32)), .val (.int (1 : Int32)), .val (.int (2 : Int32)), .val (.ref inn), .val (.int (1 : Int32)), .val (.int (2 : Int32)), .unset, .unset]) rfl (pc' := 145) rfl ?_
        refine own_aload C X at_145 rfl rfl (pc' := 147) rfl ?_
        have hbg := own_big C X
        refine own_callV C X at_147 (own_m_rest22 l Z a0 hw inn _ n0 hbg da (1 : Int32) t1 t2 t3 t4 A_da E_da O_inn (Ne.symm ne_da_inn) ge_inn) O_inn.1 (hw _ (List.mem_of_getElem? (i := 36) rfl)) (hw _ (List.mem_of_getElem? (i := 37) rfl)) (hw _ (List.mem_of_getElem? (i := 39) rfl)) (hw _ (List.mem_of_getElem? (i := 38) rfl)) (hw _ (List.mem_of_getElem? (i := 3) rfl)) (hw _ (List.mem_of_getElem? (i := 40) rfl)) (by decide) own_pd_2087 rfl rfl (Nat.le_of_ble_eq_true rfl) (Nat.le_of_ble_eq_true rfl) (Nat.le_of_ble_eq_true rfl) (Nat.le_of_ble_eq_true rfl) (av := []) (S := []) rfl (pc' := 150) rfl ?_
        intro T h v X hQ
        obtain ⟨out, rfl, gq_out, K_, O_n, A_out⟩ := hQ
        have ne_da_out : da ≠ out := Nat.ne_of_lt (Nat.lt_of_lt_of_le A_da.lt gq_out)
        have ne_rd_out : rd ≠ out := Nat.ne_of_lt (Nat.lt_of_lt_of_le O_rd.lt gq_out)
        have ne_inn_out : inn ≠ out := Nat.ne_of_lt (Nat.lt_of_lt_of_le O_inn.lt gq_out)
        have ge_out : n0 ≤ out := Nat.le_trans hbg gq_out
        have O_inn := O_n
        have A_da := A_da.keep K_ (ninS ne_da_inn nin0)
        have E_da := E_da.keep K_
        have O_rd := O_rd.keep K_ (ninS ne_rd_inn nin0)
        have hSk := Nat.le_trans hSk K_.1
        show own_Go p e below n0 (own_FinW room_1 s (fun v h => v = some (.int 1))) (T.setTop (mkF m 150 #[.val (.int i0), .val (.int i1), .val (.int i2), .val (.int i3), .val (.ref da), .val (.int (1 : Int32)), .val (.int (1 : Int32)), .val (.int (2 : Int32)), .val (.ref inn), .val (.int (1 : Int32)), .val (.int (2 : Int32)), .unset, .unset] [(.ref out)]))
        refine own_astore C X at_150 rfl (L' := #[.val (.int i0), .val (.int i1), .val (.int i2), .val (.int i3), .val (.ref da), .val (.int (1 : Int32)), .val (.int (1 : Int32)), .val (.int (2 : Int32)), .val (.ref inn), .val (.int (1 : Int32)), .val (.int (2 : Int32)), .val (.ref out), .unset]) rfl (pc' := 152) rfl ?_
        refine own_aload C X at_152 rfl rfl (pc' := 154) rfl ?_
        refine own_aload C X at_154 rfl rfl (pc' := 156) rfl ?_
        refine own_acmp_ne C X at_156 rfl rfl (pcT := 161) (pc' := 159) (by decide) (by decide) rfl (fun hc156 => ?_) (fun hc156 => absurd hc156 (fun q => (Ne.symm ne_da_out) (Value.ref.inj q)))
        refine own_aload C X at_161 rfl rfl (pc' := 163) rfl ?_
        refine own_alenI C X at_163 (n := 0) A_out rfl (pc' := 164) rfl ?_
        refine own_iload C X at_164 rfl (pc' := 166) rfl ?_
        refine own_iload C X at_166 rfl (pc' := 168) rfl ?_
        refine own_isub C X at_168 (z := 0) (by decide) (pc' := 169) rfl ?_
        refine own_icmp_eq C X at_169 (pcT := 174) (pc' := 172) (by decide) (by decide) rfl (fun hc169 => ?_) (fun hc169 => absurd hc169 (by decide))
        refine own_aload C X at_174 rfl rfl (pc' := 176) rfl ?_
        refine own_aload C X at_176 rfl rfl (pc' := 178) rfl ?_
        refine own_iload C X at_178 rfl (pc' := 180) rfl ?_
        refine own_iconst C X at_180 (v := 0) (by decide) (pc' := 181) rfl ?_
        refine own_callS C X at_181 (own_m_sameN l Z a0 hw out da (2 : Int32) (0 : Int32) _ n0 (own_big C X) [] [(1 : Int32), t1, t2, t3, t4] 0 rfl A_out A_da (by decide)) (hw _ (List.mem_of_getElem? (i := 59) rfl)) (hw _ (List.mem_of_getElem? (i := 60) rfl)) (hw _ (List.mem_of_getElem? (i := 61) rfl)) (hw _ (List.mem_of_getElem? (i := 62) rfl)) (by decide) own_pd_6987 rfl rfl (Nat.le_of_ble_eq_true rfl) (Nat.le_of_ble_eq_true rfl) (Nat.le_of_ble_eq_true rfl) (Nat.le_of_ble_eq_true rfl) (av := [(.ref out), (.ref da), (.int (2 : Int32)), (.int (0 : Int32))]) (S := []) rfl (pc' := 184) rfl ?_
        intro T h v X hQ
        obtain ⟨rfl, rfl⟩ := hQ
        show own_Go p e below n0 (own_FinW room_1 s (fun v h => v = some (.int 1))) (T.setTop (mkF m 184 #[.val (.int i0), .val (.int i1), .val (.int i2), .val (.int i3), .val (.ref da), .val (.int (1 : Int32)), .val (.int (1 : Int32)), .val (.int (2 : Int32)), .val (.ref inn), .val (.int (1 : Int32)), .val (.int (2 : Int32)), .val (.ref out), .unset] [(.int (1 : Int32))]))
        refine own_if_ne C X at_184 (pcT := 189) (pc' := 187) (by decide) (by decide) rfl (fun hc184 => ?_) (fun hc184 => absurd hc184 (by decide))
        refine own_aload C X at_189 rfl rfl (pc' := 191) rfl ?_
        refine own_aload C X at_191 rfl rfl (pc' := 193) rfl ?_
        refine own_iload C X at_193 rfl (pc' := 195) rfl ?_
        refine own_iconst C X at_195 (v := 1) (by decide) (pc' := 196) rfl ?_
        refine own_callS C X at_196 (own_m_sameN l Z a0 hw out da (2 : Int32) (1 : Int32) _ n0 (own_big C X) [] [(1 : Int32), t1, t2, t3, t4] 0 rfl A_out A_da (by decide)) (hw _ (List.mem_of_getElem? (i := 59) rfl)) (hw _ (List.mem_of_getElem? (i := 60) rfl)) (hw _ (List.mem_of_getElem? (i := 61) rfl)) (hw _ (List.mem_of_getElem? (i := 62) rfl)) (by decide) own_pd_6987 rfl rfl (Nat.le_of_ble_eq_true rfl) (Nat.le_of_ble_eq_true rfl) (Nat.le_of_ble_eq_true rfl) (Nat.le_of_ble_eq_true rfl) (av := [(.ref out), (.ref da), (.int (2 : Int32)), (.int (1 : Int32))]) (S := []) rfl (pc' := 199) rfl ?_
        intro T h v X hQ
        obtain ⟨rfl, rfl⟩ := hQ
        show own_Go p e below n0 (own_FinW room_1 s (fun v h => v = some (.int 1))) (T.setTop (mkF m 199 #[.val (.int i0), .val (.int i1), .val (.int i2), .val (.int i3), .val (.ref da), .val (.int (1 : Int32)), .val (.int (1 : Int32)), .val (.int (2 : Int32)), .val (.ref inn), .val (.int (1 : Int32)), .val (.int (2 : Int32)), .val (.ref out), .unset] [(.int (1 : Int32))]))
        refine own_if_ne C X at_199 (pcT := 204) (pc' := 202) (by decide) (by decide) rfl (fun hc199 => ?_) (fun hc199 => absurd hc199 (by decide))
        refine own_aload C X at_204 rfl rfl (pc' := 206) rfl ?_
        refine own_aload C X at_206 rfl rfl (pc' := 208) rfl ?_
        refine own_iload C X at_208 rfl (pc' := 210) rfl ?_
        refine own_iconst C X at_210 (v := 2) (by decide) (pc' := 211) rfl ?_
        refine own_callS C X at_211 (own_m_sameN l Z a0 hw out da (2 : Int32) (2 : Int32) _ n0 (own_big C X) [] [(1 : Int32), t1, t2, t3, t4] 0 rfl A_out A_da (by decide)) (hw _ (List.mem_of_getElem? (i := 59) rfl)) (hw _ (List.mem_of_getElem? (i := 60) rfl)) (hw _ (List.mem_of_getElem? (i := 61) rfl)) (hw _ (List.mem_of_getElem? (i := 62) rfl)) (by decide) own_pd_6987 rfl rfl (Nat.le_of_ble_eq_true rfl) (Nat.le_of_ble_eq_true rfl) (Nat.le_of_ble_eq_true rfl) (Nat.le_of_ble_eq_true rfl) (av := [(.ref out), (.ref da), (.int (2 : Int32)), (.int (2 : Int32))]) (S := []) rfl (pc' := 214) rfl ?_
        intro T h v X hQ
        obtain ⟨rfl, rfl⟩ := hQ
        show own_Go p e below n0 (own_FinW room_1 s (fun v h => v = some (.int 1))) (T.setTop (mkF m 214 #[.val (.int i0), .val (.int i1), .val (.int i2), .val (.int i3), .val (.ref da), .val (.int (1 : Int32)), .val (.int (1 : Int32)), .val (.int (2 : Int32)), .val (.ref inn), .val (.int (1 : Int32)), .val (.int (2 : Int32)), .val (.ref out), .unset] [(.int (1 : Int32))]))
        refine own_if_ne C X at_214 (pcT := 219) (pc' := 217) (by decide) (by decide) rfl (fun hc214 => ?_) (fun hc214 => absurd hc214 (by decide))
        refine own_aload C X at_219 rfl rfl (pc' := 221) rfl ?_
        refine own_aload C X at_221 rfl rfl (pc' := 223) rfl ?_
        refine own_iload C X at_223 rfl (pc' := 225) rfl ?_
        refine own_iconst C X at_225 (v := 3) (by decide) (pc' := 226) rfl ?_
        refine own_callS C X at_226 (own_m_sameN l Z a0 hw out da (2 : Int32) (3 : Int32) _ n0 (own_big C X) [] [(1 : Int32), t1, t2, t3, t4] 0 rfl A_out A_da (by decide)) (hw _ (List.mem_of_getElem? (i := 59) rfl)) (hw _ (List.mem_of_getElem? (i := 60) rfl)) (hw _ (List.mem_of_getElem? (i := 61) rfl)) (hw _ (List.mem_of_getElem? (i := 62) rfl)) (by decide) own_pd_6987 rfl rfl (Nat.le_of_ble_eq_true rfl) (Nat.le_of_ble_eq_true rfl) (Nat.le_of_ble_eq_true rfl) (Nat.le_of_ble_eq_true rfl) (av := [(.ref out), (.ref da), (.int (2 : Int32)), (.int (3 : Int32))]) (S := []) rfl (pc' := 229) rfl ?_
        intro T h v X hQ
        obtain ⟨rfl, rfl⟩ := hQ
        show own_Go p e below n0 (own_FinW room_1 s (fun v h => v = some (.int 1))) (T.setTop (mkF m 229 #[.val (.int i0), .val (.int i1), .val (.int i2), .val (.int i3), .val (.ref da), .val (.int (1 : Int32)), .val (.int (1 : Int32)), .val (.int (2 : Int32)), .val (.ref inn), .val (.int (1 : Int32)), .val (.int (2 : Int32)), .val (.ref out), .unset] [(.int (1 : Int32))]))
        refine own_if_ne C X at_229 (pcT := 234) (pc' := 232) (by decide) (by decide) rfl (fun hc229 => ?_) (fun hc229 => absurd hc229 (by decide))
        refine own_aload C X at_234 rfl rfl (pc' := 236) rfl ?_
        refine own_aload C X at_236 rfl rfl (pc' := 238) rfl ?_
        refine own_iload C X at_238 rfl (pc' := 240) rfl ?_
        refine own_iconst C X at_240 (v := 4) (by decide) (pc' := 241) rfl ?_
        refine own_callS C X at_241 (own_m_sameN l Z a0 hw out da (2 : Int32) (4 : Int32) _ n0 (own_big C X) [] [(1 : Int32), t1, t2, t3, t4] 0 rfl A_out A_da (by decide)) (hw _ (List.mem_of_getElem? (i := 59) rfl)) (hw _ (List.mem_of_getElem? (i := 60) rfl)) (hw _ (List.mem_of_getElem? (i := 61) rfl)) (hw _ (List.mem_of_getElem? (i := 62) rfl)) (by decide) own_pd_6987 rfl rfl (Nat.le_of_ble_eq_true rfl) (Nat.le_of_ble_eq_true rfl) (Nat.le_of_ble_eq_true rfl) (Nat.le_of_ble_eq_true rfl) (av := [(.ref out), (.ref da), (.int (2 : Int32)), (.int (4 : Int32))]) (S := []) rfl (pc' := 244) rfl ?_
        intro T h v X hQ
        obtain ⟨rfl, rfl⟩ := hQ
        show own_Go p e below n0 (own_FinW room_1 s (fun v h => v = some (.int 1))) (T.setTop (mkF m 244 #[.val (.int i0), .val (.int i1), .val (.int i2), .val (.int i3), .val (.ref da), .val (.int (1 : Int32)), .val (.int (1 : Int32)), .val (.int (2 : Int32)), .val (.ref inn), .val (.int (1 : Int32)), .val (.int (2 : Int32)), .val (.ref out), .unset] [(.int (1 : Int32))]))
        refine own_if_ne C X at_244 (pcT := 249) (pc' := 247) (by decide) (by decide) rfl (fun hc244 => ?_) (fun hc244 => absurd hc244 (by decide))
        refine own_aload C X at_249 rfl rfl (pc' := 251) rfl ?_
        refine own_callV C X at_251 (own_m_hr l Z a0 hw inn _ n0 (own_big C X) da (2 : Int32) (2 : Int32) O_inn) O_inn.1 (hw _ (List.mem_of_getElem? (i := 63) rfl)) (hw _ (List.mem_of_getElem? (i := 64) rfl)) (hw _ (List.mem_of_getElem? (i := 66) rfl)) (hw _ (List.mem_of_getElem? (i := 65) rfl)) (hw _ (List.mem_of_getElem? (i := 3) rfl)) (hw _ (List.mem_of_getElem? (i := 67) rfl)) (by decide) own_pd_1418 rfl rfl (Nat.le_of_ble_eq_true rfl) (Nat.le_of_ble_eq_true rfl) (Nat.le_of_ble_eq_true rfl) (Nat.le_of_ble_eq_true rfl) (av := []) (S := []) rfl (pc' := 254) rfl ?_
        intro T h v X hQ
        obtain ⟨rfl, rfl⟩ := hQ
        show own_Go p e below n0 (own_FinW room_1 s (fun v h => v = some (.int 1))) (T.setTop (mkF m 254 #[.val (.int i0), .val (.int i1), .val (.int i2), .val (.int i3), .val (.ref da), .val (.int (1 : Int32)), .val (.int (1 : Int32)), .val (.int (2 : Int32)), .val (.ref inn), .val (.int (1 : Int32)), .val (.int (2 : Int32)), .val (.ref out), .unset] [(.int (own_hr (2 : Int32) (2 : Int32)))]))
        rw [show own_hr (2 : Int32) (2 : Int32) = 0 from by decide]
        show own_Go p e below n0 (own_FinW room_1 s (fun v h => v = some (.int 1))) (T.setTop (mkF m 254 #[.val (.int i0), .val (.int i1), .val (.int i2), .val (.int i3), .val (.ref da), .val (.int (1 : Int32)), .val (.int (1 : Int32)), .val (.int (2 : Int32)), .val (.ref inn), .val (.int (1 : Int32)), .val (.int (2 : Int32)), .val (.ref out), .unset] [(.int (0 : Int32))]))
        refine own_if_eq C X at_254 (pcT := 259) (pc' := 257) (by decide) (by decide) rfl (fun hc254 => ?_) (fun hc254 => absurd hc254 (by decide))
        refine own_aload C X at_259 rfl rfl (pc' := 261) rfl ?_
        have hbg := own_big C X
        refine own_callV C X at_261 (own_m_rest22 l Z a0 hw inn _ n0 hbg da (1 : Int32) t1 t2 t3 t4 A_da E_da O_inn (Ne.symm ne_da_inn) ge_inn) O_inn.1 (hw _ (List.mem_of_getElem? (i := 36) rfl)) (hw _ (List.mem_of_getElem? (i := 37) rfl)) (hw _ (List.mem_of_getElem? (i := 39) rfl)) (hw _ (List.mem_of_getElem? (i := 38) rfl)) (hw _ (List.mem_of_getElem? (i := 3) rfl)) (hw _ (List.mem_of_getElem? (i := 40) rfl)) (by decide) own_pd_2087 rfl rfl (Nat.le_of_ble_eq_true rfl) (Nat.le_of_ble_eq_true rfl) (Nat.le_of_ble_eq_true rfl) (Nat.le_of_ble_eq_true rfl) (av := []) (S := []) rfl (pc' := 264) rfl ?_
        intro T h v X hQ
        obtain ⟨ou2, rfl, gq_ou2, K_, O_n, A_ou2⟩ := hQ
        have ne_da_ou2 : da ≠ ou2 := Nat.ne_of_lt (Nat.lt_of_lt_of_le A_da.lt gq_ou2)
        have ne_rd_ou2 : rd ≠ ou2 := Nat.ne_of_lt (Nat.lt_of_lt_of_le O_rd.lt gq_ou2)
        have ne_inn_ou2 : inn ≠ ou2 := Nat.ne_of_lt (Nat.lt_of_lt_of_le O_inn.lt gq_ou2)
        have ne_out_ou2 : out ≠ ou2 := Nat.ne_of_lt (Nat.lt_of_lt_of_le A_out.lt gq_ou2)
        have ge_ou2 : n0 ≤ ou2 := Nat.le_trans hbg gq_ou2
        have O_inn := O_n
        have A_da := A_da.keep K_ (ninS ne_da_inn nin0)
        have E_da := E_da.keep K_
        have O_rd := O_rd.keep K_ (ninS ne_rd_inn nin0)
        have A_out := A_out.keep K_ (ninS (Ne.symm ne_inn_out) nin0)
        have hSk := Nat.le_trans hSk K_.1
        show own_Go p e below n0 (own_FinW room_1 s (fun v h => v = some (.int 1))) (T.setTop (mkF m 264 #[.val (.int i0), .val (.int i1), .val (.int i2), .val (.int i3), .val (.ref da), .val (.int (1 : Int32)), .val (.int (1 : Int32)), .val (.int (2 : Int32)), .val (.ref inn), .val (.int (1 : Int32)), .val (.int (2 : Int32)), .val (.ref out), .unset] [(.ref ou2)]))
        refine own_alenI C X at_264 (n := 0) A_ou2 rfl (pc' := 265) rfl ?_
        refine own_if_eq C X at_265 (pcT := 270) (pc' := 268) (by decide) (by decide) rfl (fun hc265 => ?_) (fun hc265 => absurd hc265 (by decide))
        refine own_aload C X at_270 rfl rfl (pc' := 272) rfl ?_
        refine own_alenI C X at_272 (n := 0) A_out rfl (pc' := 273) rfl ?_
        refine own_if_le C X at_273 (pcT := 306) (pc' := 276) (by decide) (by decide) rfl (fun hc273 => ?_) (fun hc273 => absurd hc273 (by decide))
        refine own_iconst C X at_306 (v := 1) (by decide) (pc' := 307) rfl ?_
        exact own_ireturn_zW C X hS hSk at_307 (Nat.le_of_ble_eq_true rfl) (Nat.le_of_ble_eq_true rfl) (rfl)
    · refine own_istore C X at_87 (L' := #[.val (.int i0), .val (.int i1), .val (.int i2), .val (.int i3), .val (.ref da), .val (.int (1 : Int32)), .val (.int (0 : Int32)), .val (.int (5 : Int32)), .val (.ref rd), .val (.int (2 : Int32)), .unset, .unset, .unset]) rfl (pc' := 89) rfl ?_
      refine own_aload C X at_89 rfl rfl (pc' := 91) rfl ?_
      refine own_iconst C X at_91 (v := 0) (by decide) (pc' := 92) rfl ?_
      refine own_iload C X at_92 rfl (pc' := 94) rfl ?_
      refine own_i2b C X at_94 (z := 2) (by decide) (pc' := 95) rfl ?_
      refine own_bastore C X at_95 A_da (by decide) (i := 0) (Nat.le_of_ble_eq_true rfl) (v := 2) (by decide) ge_da (pc' := 96) rfl ?_
      intro T h X K_ A_da_
      have A_da : own_IA Z h da .byte [(2 : Int32), t1, t2, t3, t4] := A_da_
      have E_da := E_da.keep K_
      have O_rd := O_rd.keep K_ (ninS (Ne.symm ne_da_rd) nin0)
      have hSk := Nat.le_trans hSk K_.1
      refine own_aload C X at_96 rfl rfl (pc' := 98) rfl ?_
      refine own_iconst C X at_98 (v := 1) (by decide) (pc' := 99) rfl ?_
      refine own_ldcS C X hS hSk at_99 (hw _ (List.mem_of_getElem? (i := 68) rfl)) (own_strW hw) (n := 1024) (by decide) (by decide) (Nat.le_of_ble_eq_true rfl) (Nat.le_of_ble_eq_true rfl) (pc' := 101) rfl ?_
      intro T h sv vm k_ C X K_ hS hSk_
      have A_da := A_da.keep K_ nin0
      have E_da := E_da.keep K_
      have O_rd := O_rd.keep K_ nin0
      have hSk := Nat.le_trans hSk K_.1
      have hSk := hSk_
      have hbg := own_big C X
      refine own_callV C X at_101 (own_m_vec l Z a0 hw rd sv _ n0 (own_big C X) da [(2 : Int32), t1, t2, t3, t4] (5 : Int32) (2 : Int32) (2 : Int32) rfl (by decide) (by decide) O_rd A_da (Ne.symm ne_da_rd) ge_rd (3 : Int32) (by decide) (by decide)) O_rd.1 (hw _ (List.mem_of_getElem? (i := 69) rfl)) (hw _ (List.mem_of_getElem? (i := 70) rfl)) (hw _ (List.mem_of_getElem? (i := 72) rfl)) (hw _ (List.mem_of_getElem? (i := 71) rfl)) (hw _ (List.mem_of_getElem? (i := 3) rfl)) (hw _ (List.mem_of_getElem? (i := 73) rfl)) (by decide) own_pd_251861 rfl rfl (Nat.le_of_ble_eq_true rfl) (Nat.le_of_ble_eq_true rfl) (Nat.le_of_ble_eq_true rfl) (Nat.le_of_ble_eq_true rfl) (av := [(.int (1 : Int32)), (.ref sv)]) (S := []) rfl (pc' := 104) rfl ?_
      intro T h v X hQ
      obtain ⟨inn, rfl, gq_inn, K_, O_n, O_inn⟩ := hQ
      have ne_da_inn : da ≠ inn := Nat.ne_of_lt (Nat.lt_of_lt_of_le A_da.lt gq_inn)
      have ne_rd_inn : rd ≠ inn := Nat.ne_of_lt (Nat.lt_of_lt_of_le O_rd.lt gq_inn)
      have ge_inn : n0 ≤ inn := Nat.le_trans hbg gq_inn
      have O_rd := O_n
      have A_da := A_da.keep K_ (ninS ne_da_rd nin0)
      have E_da := E_da.keep K_
      have hSk := Nat.le_trans hSk K_.1
      show own_Go p e below n0 (own_FinW room_1 s (fun v h => v = some (.int 1))) (T.setTop (mkF m 104 #[.val (.int i0), .val (.int i1), .val (.int i2), .val (.int i3), .val (.ref da), .val (.int (1 : Int32)), .val (.int (0 : Int32)), .val (.int (5 : Int32)), .val (.ref rd), .val (.int (2 : Int32)), .unset, .unset, .unset] [(.ref inn)]))
      refine own_astore C X at_104 rfl (L' := #[.val (.int i0), .val (.int i1), .val (.int i2), .val (.int i3), .val (.ref da), .val (.int (1 : Int32)), .val (.int (0 : Int32)), .val (.int (5 : Int32)), .val (.ref inn), .val (.int (2 : Int32)), .unset, .unset, .unset]) rfl (pc' := 106) rfl ?_
      refine own_iconst C X at_106 (v := 1) (by decide) (pc' := 107) rfl ?_
      refine own_istore C X at_107 (L' := #[.val (.int i0), .val (.int i1), .val (.int i2), .val (.int i3), .val (.ref da), .val (.int (1 : Int32)), .val (.int (1 : Int32)), .val (.int (5 : Int32)), .val (.ref inn), .val (.int (2 : Int32)), .unset, .unset, .unset]) rfl (pc' := 109) rfl ?_
      refine own_iconst C X at_109 (v := 1) (by decide) (pc' := 110) rfl ?_
      refine own_iload C X at_110 rfl (pc' := 112) rfl ?_
      refine own_iadd C X at_112 (z := 3) (by decide) (pc' := 113) rfl ?_
      refine own_istore C X at_113 (L' := #[.val (.int i0), .val (.int i1), .val (.int i2), .val (.int i3), .val (.ref da), .val (.int (1 : Int32)), .val (.int (1 : Int32)), .val (.int (3 : Int32)), .val (.ref inn), .val (.int (2 : Int32)), .unset, .unset, .unset]) rfl (pc' := 115) rfl ?_
      refine own_iloadN C X at_115 rfl (pc' := 116) rfl ?_
      refine own_ldcI C X at_116 (hw _ (List.mem_of_getElem? (i := 19) rfl)) (pc' := 118) rfl ?_
      refine own_iand C X at_118 rfl (pc' := 119) rfl ?_
      refine own_iload C X at_119 rfl (pc' := 121) rfl ?_
      refine own_iload C X at_121 rfl (pc' := 123) rfl ?_
      refine own_isub C X at_123 (z := 2) (by decide) (pc' := 124) rfl ?_
      refine own_iconst C X at_124 (v := 1) (by decide) (pc' := 125) rfl ?_
      refine own_iadd C X at_125 (z := 3) (by decide) (pc' := 126) rfl ?_
      obtain ⟨kk, e_kk⟩ : ∃ z : Int32, ((i3 &&& (2147483647 : Int32)) % (3 : Int32)) = z := ⟨_, rfl⟩
      refine own_irem C X at_126 (by decide) e_kk (pc' := 127) rfl ?_
      rcases own_md3 _ kk e_kk with rfl | rfl | rfl
      · refine own_istore C X at_127 (L' := #[.val (.int i0), .val (.int i1), .val (.int i2), .val (.int i3), .val (.ref da), .val (.int (1 : Int32)), .val (.int (1 : Int32)), .val (.int (3 : Int32)), .val (.ref inn), .val (.int (0 : Int32)), .unset, .unset, .unset]) rfl (pc' := 129) rfl ?_
        refine own_aload C X at_129 rfl rfl (pc' := 131) rfl ?_
        refine own_iload C X at_131 rfl (pc' := 133) rfl ?_
        refine own_ldcS C X hS hSk at_133 (hw _ (List.mem_of_getElem? (i := 20) rfl)) (own_strW hw) (n := 1024) (by decide) (by decide) (Nat.le_of_ble_eq_true rfl) (Nat.le_of_ble_eq_true rfl) (pc' := 135) rfl ?_
        intro T h ss vm k_ C X K_ hS hSk_
        have A_da := A_da.keep K_ nin0
        have E_da := E_da.keep K_
        have O_rd := O_rd.keep K_ nin0
        have O_inn := O_inn.keep K_ nin0
        have hSk := Nat.le_trans hSk K_.1
        have hSk := hSk_
        refine own_callV C X at_135 (own_m_skip l Z a0 hw inn (0 : Int32) ss _ n0 (own_big C X) da (1 : Int32) (3 : Int32) (1 : Int32) (by decide) (by decide) O_inn ge_inn) O_inn.1 (hw _ (List.mem_of_getElem? (i := 27) rfl)) (hw _ (List.mem_of_getElem? (i := 28) rfl)) (hw _ (List.mem_of_getElem? (i := 30) rfl)) (hw _ (List.mem_of_getElem? (i := 29) rfl)) (hw _ (List.mem_of_getElem? (i := 3) rfl)) (hw _ (List.mem_of_getElem? (i := 31) rfl)) (by decide) own_pd_34082 rfl rfl (Nat.le_of_ble_eq_true rfl) (Nat.le_of_ble_eq_true rfl) (Nat.le_of_ble_eq_true rfl) (Nat.le_of_ble_eq_true rfl) (av := [(.int (0 : Int32)), (.ref ss)]) (S := []) rfl (pc' := 138) rfl ?_
        intro T h v X hQ
        obtain ⟨rfl, K_, O_inn⟩ := hQ
        have A_da := A_da.keep K_ (ninS ne_da_inn nin0)
        have E_da := E_da.keep K_
        have O_rd := O_rd.keep K_ (ninS ne_rd_inn nin0)
        have hSk := Nat.le_trans hSk K_.1
        show own_Go p e below n0 (own_FinW room_1 s (fun v h => v = some (.int 1))) (T.setTop (mkF m 138 #[.val (.int i0), .val (.int i1), .val (.int i2), .val (.int i3), .val (.ref da), .val (.int (1 : Int32)), .val (.int (1 : Int32)), .val (.int (3 : Int32)), .val (.ref inn), .val (.int (0 : Int32)), .unset, .unset, .unset] []))
        refine own_iload C X at_138 rfl (pc' := 140) rfl ?_
        refine own_iload C X at_140 rfl (pc' := 142) rfl ?_
        refine own_iadd C X at_142 (z := 1) (by decide) (pc' := 143) rfl ?_
        refine own_istore C X at_143 (L' := #[.val (.int i0), .val (.int i1), .val (.int i2), .val (.int i3), .val (.ref da), .val (.int (1 : Int32)), .val (.int (1 : Int32)), .val (.int (3 : Int32)), .val (.ref inn), .val (.int (0 : Int32)), .val (.int (1 : Int32)), .unset, .unset]) rfl (pc' := 145) rfl ?_
        refine own_aload C X at_145 rfl rfl (pc' := 147) rfl ?_
        have hbg := own_big C X
        refine own_callV C X at_147 (own_m_rest13 l Z a0 hw inn _ n0 hbg da (2 : Int32) t1 t2 t3 t4 A_da E_da O_inn (Ne.symm ne_da_inn) ge_inn) O_inn.1 (hw _ (List.mem_of_getElem? (i := 36) rfl)) (hw _ (List.mem_of_getElem? (i := 37) rfl)) (hw _ (List.mem_of_getElem? (i := 39) rfl)) (hw _ (List.mem_of_getElem? (i := 38) rfl)) (hw _ (List.mem_of_getElem? (i := 3) rfl)) (hw _ (List.mem_of_getElem? (i := 40) rfl)) (by decide) own_pd_2087 rfl rfl (Nat.le_of_ble_eq_true rfl) (Nat.le_of_ble_eq_true rfl) (Nat.le_of_ble_eq_true rfl) (Nat.le_of_ble_eq_true rfl) (av := []) (S := []) rfl (pc' := 150) rfl ?_
        intro T h v X hQ
        obtain ⟨out, rfl, gq_out, K_, O_n, A_out⟩ := hQ
        have ne_da_out : da ≠ out := Nat.ne_of_lt (Nat.lt_of_lt_of_le A_da.lt gq_out)
        have ne_rd_out : rd ≠ out := Nat.ne_of_lt (Nat.lt_of_lt_of_le O_rd.lt gq_out)
        have ne_inn_out : inn ≠ out := Nat.ne_of_lt (Nat.lt_of_lt_of_le O_inn.lt gq_out)
        have ge_out : n0 ≤ out := Nat.le_trans hbg gq_out
        have O_inn := O_n
        have A_da := A_da.keep K_ (ninS ne_da_inn nin0)
        have E_da := E_da.keep K_
        have O_rd := O_rd.keep K_ (ninS ne_rd_inn nin0)
        have hSk := Nat.le_trans hSk K_.1
        show own_Go p e below n0 (own_FinW room_1 s (fun v h => v = some (.int 1))) (T.setTop (mkF m 150 #[.val (.int i0), .val (.int i1), .val (.int i2), .val (.int i3), .val (.ref da), .val (.int (1 : Int32)), .val (.int (1 : Int32)), .val (.int (3 : Int32)), .val (.ref inn), .val (.int (0 : Int32)), .val (.int (1 : Int32)), .unset, .unset] [(.ref out)]))
        refine own_astore C X at_150 rfl (L' := #[.val (.int i0), .val (.int i1), .val (.int i2), .val (.int i3), .val (.ref da), .val (.int (1 : Int32)), .val (.int (1 : Int32)), .val (.int (3 : Int32)), .val (.ref inn), .val (.int (0 : Int32)), .val (.int (1 : Int32)), .val (.ref out), .unset]) rfl (pc' := 152) rfl ?_
        refine own_aload C X at_152 rfl rfl (pc' := 154) rfl ?_
        refine own_aload C X at_154 rfl rfl (pc' := 156) rfl ?_
        refine own_acmp_ne C X at_156 rfl rfl (pcT := 161) (pc' := 159) (by decide) (by decide) rfl (fun hc156 => ?_) (fun hc156 => absurd hc156 (fun q => (Ne.symm ne_da_out) (Value.ref.inj q)))
        refine own_aload C X at_161 rfl rfl (pc' := 163) rfl ?_
        refine own_alenI C X at_163 (n := 2) A_out rfl (pc' := 164) rfl ?_
        refine own_iload C X at_164 rfl (pc' := 166) rfl ?_
        refine own_iload C X at_166 rfl (pc' := 168) rfl ?_
        refine own_isub C X at_168 (z := 2) (by decide) (pc' := 169) rfl ?_
        refine own_icmp_eq C X at_169 (pcT := 174) (pc' := 172) (by decide) (by decide) rfl (fun hc169 => ?_) (fun hc169 => absurd hc169 (by decide))
        refine own_aload C X at_174 rfl rfl (pc' := 176) rfl ?_
        refine own_aload C X at_176 rfl rfl (pc' := 178) rfl ?_
        refine own_iload C X at_178 rfl (pc' := 180) rfl ?_
        refine own_iconst C X at_180 (v := 0) (by decide) (pc' := 181) rfl ?_
        refine own_callS C X at_181 (own_m_sameY l Z a0 hw out da (1 : Int32) (0 : Int32) _ n0 (own_big C X) [t1, t2] [(2 : Int32), t1, t2, t3, t4] 2 rfl A_out A_da (by decide) 0 1 t1 (by decide) (by decide) rfl rfl) (hw _ (List.mem_of_getElem? (i := 59) rfl)) (hw _ (List.mem_of_getElem? (i := 60) rfl)) (hw _ (List.mem_of_getElem? (i := 61) rfl)) (hw _ (List.mem_of_getElem? (i := 62) rfl)) (by decide) own_pd_6987 rfl rfl (Nat.le_of_ble_eq_true rfl) (Nat.le_of_ble_eq_true rfl) (Nat.le_of_ble_eq_true rfl) (Nat.le_of_ble_eq_true rfl) (av := [(.ref out), (.ref da), (.int (1 : Int32)), (.int (0 : Int32))]) (S := []) rfl (pc' := 184) rfl ?_
        intro T h v X hQ
        obtain ⟨rfl, rfl⟩ := hQ
        show own_Go p e below n0 (own_FinW room_1 s (fun v h => v = some (.int 1))) (T.setTop (mkF m 184 #[.val (.int i0), .val (.int i1), .val (.int i2), .val (.int i3), .val (.ref da), .val (.int (1 : Int32)), .val (.int (1 : Int32)), .val (.int (3 : Int32)), .val (.ref inn), .val (.int (0 : Int32)), .val (.int (1 : Int32)), .val (.ref out), .unset] [(.int (1 : Int32))]))
        refine own_if_ne C X at_184 (pcT := 189) (pc' := 187) (by decide) (by decide) rfl (fun hc184 => ?_) (fun hc184 => absurd hc184 (by decide))
        refine own_aload C X at_189 rfl rfl (pc' := 191) rfl ?_
        refine own_aload C X at_191 rfl rfl (pc' := 193) rfl ?_
        refine own_iload C X at_193 rfl (pc' := 195) rfl ?_
        refine own_iconst C X at_195 (v := 1) (by decide) (pc' := 196) rfl ?_
        refine own_callS C X at_196 (own_m_sameY l Z a0 hw out da (1 : Int32) (1 : Int32) _ n0 (own_big C X) [t1, t2] [(2 : Int32), t1, t2, t3, t4] 2 rfl A_out A_da (by decide) 1 2 t2 (by decide) (by decide) rfl rfl) (hw _ (List.mem_of_getElem? (i := 59) rfl)) (hw _ (List.mem_of_getElem? (i := 60) rfl)) (hw _ (List.mem_of_getElem? (i := 61) rfl)) (hw _ (List.mem_of_getElem? (i := 62) rfl)) (by decide) own_pd_6987 rfl rfl (Nat.le_of_ble_eq_true rfl) (Nat.le_of_ble_eq_true rfl) (Nat.le_of_ble_eq_true rfl) (Nat.le_of_ble_eq_true rfl) (av := [(.ref out), (.ref da), (.int (1 : Int32)), (.int (1 : Int32))]) (S := []) rfl (pc' := 199) rfl ?_
        intro T h v X hQ
        obtain ⟨rfl, rfl⟩ := hQ
        show own_Go p e below n0 (own_FinW room_1 s (fun v h => v = some (.int 1))) (T.setTop (mkF m 199 #[.val (.int i0), .val (.int i1), .val (.int i2), .val (.int i3), .val (.ref da), .val (.int (1 : Int32)), .val (.int (1 : Int32)), .val (.int (3 : Int32)), .val (.ref inn), .val (.int (0 : Int32)), .val (.int (1 : Int32)), .val (.ref out), .unset] [(.int (1 : Int32))]))
        refine own_if_ne C X at_199 (pcT := 204) (pc' := 202) (by decide) (by decide) rfl (fun hc199 => ?_) (fun hc199 => absurd hc199 (by decide))
        refine own_aload C X at_204 rfl rfl (pc' := 206) rfl ?_
        refine own_aload C X at_206 rfl rfl (pc' := 208) rfl ?_
        refine own_iload C X at_208 rfl (pc' := 210) rfl ?_
        refine own_iconst C X at_210 (v := 2) (by decide) (pc' := 211) rfl ?_
        refine own_callS C X at_211 (own_m_sameN l Z a0 hw out da (1 : Int32) (2 : Int32) _ n0 (own_big C X) [t1, t2] [(2 : Int32), t1, t2, t3, t4] 2 rfl A_out A_da (by decide)) (hw _ (List.mem_of_getElem? (i := 59) rfl)) (hw _ (List.mem_of_getElem? (i := 60) rfl)) (hw _ (List.mem_of_getElem? (i := 61) rfl)) (hw _ (List.mem_of_getElem? (i := 62) rfl)) (by decide) own_pd_6987 rfl rfl (Nat.le_of_ble_eq_true rfl) (Nat.le_of_ble_eq_true rfl) (Nat.le_of_ble_eq_true rfl) (Nat.le_of_ble_eq_true rfl) (av := [(.ref out), (.ref da), (.int (1 : Int32)), (.int (2 : Int32))]) (S := []) rfl (pc' := 214) rfl ?_
        intro T h v X hQ
        obtain ⟨rfl, rfl⟩ := hQ
        show own_Go p e below n0 (own_FinW room_1 s (fun v h => v = some (.int 1))) (T.setTop (mkF m 214 #[.val (.int i0), .val (.int i1), .val (.int i2), .val (.int i3), .val (.ref da), .val (.int (1 : Int32)), .val (.int (1 : Int32)), .val (.int (3 : Int32)), .val (.ref inn), .val (.int (0 : Int32)), .val (.int (1 : Int32)), .val (.ref out), .unset] [(.int (1 : Int32))]))
        refine own_if_ne C X at_214 (pcT := 219) (pc' := 217) (by decide) (by decide) rfl (fun hc214 => ?_) (fun hc214 => absurd hc214 (by decide))
        refine own_aload C X at_219 rfl rfl (pc' := 221) rfl ?_
        refine own_aload C X at_221 rfl rfl (pc' := 223) rfl ?_
        refine own_iload C X at_223 rfl (pc' := 225) rfl ?_
        refine own_iconst C X at_225 (v := 3) (by decide) (pc' := 226) rfl ?_
        refine own_callS C X at_226 (own_m_sameN l Z a0 hw out da (1 : Int32) (3 : Int32) _ n0 (own_big C X) [t1, t2] [(2 : Int32), t1, t2, t3, t4] 2 rfl A_out A_da (by decide)) (hw _ (List.mem_of_getElem? (i := 59) rfl)) (hw _ (List.mem_of_getElem? (i := 60) rfl)) (hw _ (List.mem_of_getElem? (i := 61) rfl)) (hw _ (List.mem_of_getElem? (i := 62) rfl)) (by decide) own_pd_6987 rfl rfl (Nat.le_of_ble_eq_true rfl) (Nat.le_of_ble_eq_true rfl) (Nat.le_of_ble_eq_true rfl) (Nat.le_of_ble_eq_true rfl) (av := [(.ref out), (.ref da), (.int (1 : Int32)), (.int (3 : Int32))]) (S := []) rfl (pc' := 229) rfl ?_
        intro T h v X hQ
        obtain ⟨rfl, rfl⟩ := hQ
        show own_Go p e below n0 (own_FinW room_1 s (fun v h => v = some (.int 1))) (T.setTop (mkF m 229 #[.val (.int i0), .val (.int i1), .val (.int i2), .val (.int i3), .val (.ref da), .val (.int (1 : Int32)), .val (.int (1 : Int32)), .val (.int (3 : Int32)), .val (.ref inn), .val (.int (0 : Int32)), .val (.int (1 : Int32)), .val (.ref out), .unset] [(.int (1 : Int32))]))
        refine own_if_ne C X at_229 (pcT := 234) (pc' := 232) (by decide) (by decide) rfl (fun hc229 => ?_) (fun hc229 => absurd hc229 (by decide))
        refine own_aload C X at_234 rfl rfl (pc' := 236) rfl ?_
        refine own_aload C X at_236 rfl rfl (pc' := 238) rfl ?_
        refine own_iload C X at_238 rfl (pc' := 240) rfl ?_
        refine own_iconst C X at_240 (v := 4) (by decide) (pc' := 241) rfl ?_
        refine own_callS C X at_241 (own_m_sameN l Z a0 hw out da (1 : Int32) (4 : Int32) _ n0 (own_big C X) [t1, t2] [(2 : Int32), t1, t2, t3, t4] 2 rfl A_out A_da (by decide)) (hw _ (List.mem_of_getElem? (i := 59) rfl)) (hw _ (List.mem_of_getElem? (i := 60) rfl)) (hw _ (List.mem_of_getElem? (i := 61) rfl)) (hw _ (List.mem_of_getElem? (i := 62) rfl)) (by decide) own_pd_6987 rfl rfl (Nat.le_of_ble_eq_true rfl) (Nat.le_of_ble_eq_true rfl) (Nat.le_of_ble_eq_true rfl) (Nat.le_of_ble_eq_true rfl) (av := [(.ref out), (.ref da), (.int (1 : Int32)), (.int (4 : Int32))]) (S := []) rfl (pc' := 244) rfl ?_
        intro T h v X hQ
        obtain ⟨rfl, rfl⟩ := hQ
        show own_Go p e below n0 (own_FinW room_1 s (fun v h => v = some (.int 1))) (T.setTop (mkF m 244 #[.val (.int i0), .val (.int i1), .val (.int i2), .val (.int i3), .val (.ref da), .val (.int (1 : Int32)), .val (.int (1 : Int32)), .val (.int (3 : Int32)), .val (.ref inn), .val (.int (0 : Int32)), .val (.int (1 : Int32)), .val (.ref out), .unset] [(.int (1 : Int32))]))
        refine own_if_ne C X at_244 (pcT := 249) (pc' := 247) (by decide) (by decide) rfl (fun hc244 => ?_) (fun hc244 => absurd hc244 (by decide))
        refine own_aload C X at_249 rfl rfl (pc' := 251) rfl ?_
        refine own_callV C X at_251 (own_m_hr l Z a0 hw inn _ n0 (own_big C X) da (3 : Int32) (3 : Int32) O_inn) O_inn.1 (hw _ (List.mem_of_getElem? (i := 63) rfl)) (hw _ (List.mem_of_getElem? (i := 64) rfl)) (hw _ (List.mem_of_getElem? (i := 66) rfl)) (hw _ (List.mem_of_getElem? (i := 65) rfl)) (hw _ (List.mem_of_getElem? (i := 3) rfl)) (hw _ (List.mem_of_getElem? (i := 67) rfl)) (by decide) own_pd_1418 rfl rfl (Nat.le_of_ble_eq_true rfl) (Nat.le_of_ble_eq_true rfl) (Nat.le_of_ble_eq_true rfl) (Nat.le_of_ble_eq_true rfl) (av := []) (S := []) rfl (pc' := 254) rfl ?_
        intro T h v X hQ
        obtain ⟨rfl, rfl⟩ := hQ
        show own_Go p e below n0 (own_FinW room_1 s (fun v h => v = some (.int 1))) (T.setTop (mkF m 254 #[.val (.int i0), .val (.int i1), .val (.int i2), .val (.int i3), .val (.ref da), .val (.int (1 : Int32)), .val (.int (1 : Int32)), .val (.int (3 : Int32)), .val (.ref inn), .val (.int (0 : Int32)), .val (.int (1 : Int32)), .val (.ref out), .unset] [(.int (own_hr (3 : Int32) (3 : Int32)))]))
        rw [show own_hr (3 : Int32) (3 : Int32) = 0 from by decide]
        show own_Go p e below n0 (own_FinW room_1 s (fun v h => v = some (.int 1))) (T.setTop (mkF m 254 #[.val (.int i0), .val (.int i1), .val (.int i2), .val (.int i3), .val (.ref da), .val (.int (1 : Int32)), .val (.int (1 : Int32)), .val (.int (3 : Int32)), .val (.ref inn), .val (.int (0 : Int32)), .val (.int (1 : Int32)), .val (.ref out), .unset] [(.int (0 : Int32))]))
        refine own_if_eq C X at_254 (pcT := 259) (pc' := 257) (by decide) (by decide) rfl (fun hc254 => ?_) (fun hc254 => absurd hc254 (by decide))
        refine own_aload C X at_259 rfl rfl (pc' := 261) rfl ?_
        have hbg := own_big C X
        refine own_callV C X at_261 (own_m_rest33 l Z a0 hw inn _ n0 hbg da (2 : Int32) t1 t2 t3 t4 A_da E_da O_inn (Ne.symm ne_da_inn) ge_inn) O_inn.1 (hw _ (List.mem_of_getElem? (i := 36) rfl)) (hw _ (List.mem_of_getElem? (i := 37) rfl)) (hw _ (List.mem_of_getElem? (i := 39) rfl)) (hw _ (List.mem_of_getElem? (i := 38) rfl)) (hw _ (List.mem_of_getElem? (i := 3) rfl)) (hw _ (List.mem_of_getElem? (i := 40) rfl)) (by decide) own_pd_2087 rfl rfl (Nat.le_of_ble_eq_true rfl) (Nat.le_of_ble_eq_true rfl) (Nat.le_of_ble_eq_true rfl) (Nat.le_of_ble_eq_true rfl) (av := []) (S := []) rfl (pc' := 264) rfl ?_
        intro T h v X hQ
        obtain ⟨ou2, rfl, gq_ou2, K_, O_n, A_ou2⟩ := hQ
        have ne_da_ou2 : da ≠ ou2 := Nat.ne_of_lt (Nat.lt_of_lt_of_le A_da.lt gq_ou2)
        have ne_rd_ou2 : rd ≠ ou2 := Nat.ne_of_lt (Nat.lt_of_lt_of_le O_rd.lt gq_ou2)
        have ne_inn_ou2 : inn ≠ ou2 := Nat.ne_of_lt (Nat.lt_of_lt_of_le O_inn.lt gq_ou2)
        have ne_out_ou2 : out ≠ ou2 := Nat.ne_of_lt (Nat.lt_of_lt_of_le A_out.lt gq_ou2)
        have ge_ou2 : n0 ≤ ou2 := Nat.le_trans hbg gq_ou2
        have O_inn := O_n
        have A_da := A_da.keep K_ (ninS ne_da_inn nin0)
        have E_da := E_da.keep K_
        have O_rd := O_rd.keep K_ (ninS ne_rd_inn nin0)
        have A_out := A_out.keep K_ (ninS (Ne.symm ne_inn_out) nin0)
        have hSk := Nat.le_trans hSk K_.1
        show own_Go p e below n0 (own_FinW room_1 s (fun v h => v = some (.int 1))) (T.setTop (mkF m 264 #[.val (.int i0), .val (.int i1), .val (.int i2), .val (.int i3), .val (.ref da), .val (.int (1 : Int32)), .val (.int (1 : Int32)), .val (.int (3 : Int32)), .val (.ref inn), .val (.int (0 : Int32)), .val (.int (1 : Int32)), .val (.ref out), .unset] [(.ref ou2)]))
        refine own_alenI C X at_264 (n := 0) A_ou2 rfl (pc' := 265) rfl ?_
        refine own_if_eq C X at_265 (pcT := 270) (pc' := 268) (by decide) (by decide) rfl (fun hc265 => ?_) (fun hc265 => absurd hc265 (by decide))
        refine own_aload C X at_270 rfl rfl (pc' := 272) rfl ?_
        refine own_alenI C X at_272 (n := 2) A_out rfl (pc' := 273) rfl ?_
        refine own_if_le C X at_273 (pcT := 306) (pc' := 276) (by decide) (by decide) rfl (fun hc273 => absurd hc273 (by decide)) (fun hc273 => ?_)
        refine own_aload C X at_276 rfl rfl (pc' := 278) rfl ?_
        refine own_iload C X at_278 rfl (pc' := 280) rfl ?_
        refine own_baload C X at_280 A_da (by decide) (i := 1) rfl (pc' := 281) rfl ?_
        refine own_istore C X at_281 (L' := #[.val (.int i0), .val (.int i1), .val (.int i2), .val (.int i3), .val (.ref da), .val (.int (1 : Int32)), .val (.int (1 : Int32)), .val (.int (3 : Int32)), .val (.ref inn), .val (.int (0 : Int32)), .val (.int (1 : Int32)), .val (.ref out), .val (.int t1)]) rfl (pc' := 283) rfl ?_
        refine own_aload C X at_283 rfl rfl (pc' := 285) rfl ?_
        refine own_iconst C X at_285 (v := 0) (by decide) (pc' := 286) rfl ?_
        refine own_aload C X at_286 rfl rfl (pc' := 288) rfl ?_
        refine own_iconst C X at_288 (v := 0) (by decide) (pc' := 289) rfl ?_
        refine own_baload C X at_289 A_out (by decide) (i := 0) rfl (pc' := 290) rfl ?_
        refine own_iconst C X at_290 (v := 1) (by decide) (pc' := 291) rfl ?_
        refine own_ixor C X at_291 rfl (pc' := 292) rfl ?_
        obtain ⟨tx, e_tx⟩ : ∃ z : Int32, (t1 ^^^ (1 : Int32)).toInt8.toInt32 = z := ⟨_, rfl⟩
        refine own_i2b C X at_292 e_tx (pc' := 293) rfl ?_
        refine own_bastore C X at_293 A_out (by decide) (i := 0) (Nat.le_of_ble_eq_true rfl) (own_i2bn e_tx) ge_out (pc' := 294) rfl ?_
        intro T h X K_ A_out_
        have A_out : own_IA Z h out .byte [tx, t2] := A_out_
        have A_da := A_da.keep K_ (ninS ne_da_out nin0)
        have E_da := E_da.keep K_
        have O_rd := O_rd.keep K_ (ninS ne_rd_out nin0)
        have O_inn := O_inn.keep K_ (ninS ne_inn_out nin0)
        have A_ou2 := A_ou2.keep K_ (ninS (Ne.symm ne_out_ou2) nin0)
        have hSk := Nat.le_trans hSk K_.1
        refine own_aload C X at_294 rfl rfl (pc' := 296) rfl ?_
        refine own_iload C X at_296 rfl (pc' := 298) rfl ?_
        refine own_baload C X at_298 A_da (by decide) (i := 1) rfl (pc' := 299) rfl ?_
        refine own_iload C X at_299 rfl (pc' := 301) rfl ?_
        refine own_icmp_eq C X at_301 (pcT := 306) (pc' := 304) (by decide) (by decide) rfl (fun hc301 => ?_) (fun hc301 => absurd hc301 (not_not_intro rfl))
        refine own_iconst C X at_306 (v := 1) (by decide) (pc' := 307) rfl ?_
        exact own_ireturn_zW C X hS hSk at_307 (Nat.le_of_ble_eq_true rfl) (Nat.le_of_ble_eq_true rfl) (rfl)
      · refine own_istore C X at_127 (L' := #[.val (.int i0), .val (.int i1), .val (.int i2), .val (.int i3), .val (.ref da), .val (.int (1 : Int32)), .val (.int (1 : Int32)), .val (.int (3 : Int32)), .val (.ref inn), .val (.int (1 : Int32)), .unset, .unset, .unset]) rfl (pc' := 129) rfl ?_
        refine own_aload C X at_129 rfl rfl (pc' := 131) rfl ?_
        refine own_iload C X at_131 rfl (pc' := 133) rfl ?_
        refine own_ldcS C X hS hSk at_133 (hw _ (List.mem_of_getElem? (i := 20) rfl)) (own_strW hw) (n := 1024) (by decide) (by decide) (Nat.le_of_ble_eq_true rfl) (Nat.le_of_ble_eq_true rfl) (pc' := 135) rfl ?_
        intro T h ss vm k_ C X K_ hS hSk_
        have A_da := A_da.keep K_ nin0
        have E_da := E_da.keep K_
        have O_rd := O_rd.keep K_ nin0
        have O_inn := O_inn.keep K_ nin0
        have hSk := Nat.le_trans hSk K_.1
        have hSk := hSk_
        refine own_callV C X at_135 (own_m_skip l Z a0 hw inn (1 : Int32) ss _ n0 (own_big C X) da (1 : Int32) (3 : Int32) (2 : Int32) (by decide) (by decide) O_inn ge_inn) O_inn.1 (hw _ (List.mem_of_getElem? (i := 27) rfl)) (hw _ (List.mem_of_getElem? (i := 28) rfl)) (hw _ (List.mem_of_getElem? (i := 30) rfl)) (hw _ (List.mem_of_getElem? (i := 29) rfl)) (hw _ (List.mem_of_getElem? (i := 3) rfl)) (hw _ (List.mem_of_getElem? (i := 31) rfl)) (by decide) own_pd_34082 rfl rfl (Nat.le_of_ble_eq_true rfl) (Nat.le_of_ble_eq_true rfl) (Nat.le_of_ble_eq_true rfl) (Nat.le_of_ble_eq_true rfl) (av := [(.int (1 : Int32)), (.ref ss)]) (S := []) rfl (pc' := 138) rfl ?_
        intro T h v X hQ
        obtain ⟨rfl, K_, O_inn⟩ := hQ
        have A_da := A_da.keep K_ (ninS ne_da_inn nin0)
        have E_da := E_da.keep K_
        have O_rd := O_rd.keep K_ (ninS ne_rd_inn nin0)
        have hSk := Nat.le_trans hSk K_.1
        show own_Go p e below n0 (own_FinW room_1 s (fun v h => v = some (.int 1))) (T.setTop (mkF m 138 #[.val (.int i0), .val (.int i1), .val (.int i2), .val (.int i3), .val (.ref da), .val (.int (1 : Int32)), .val (.int (1 : Int32)), .val (.int (3 : Int32)), .val (.ref inn), .val (.int (1 : Int32)), .unset, .unset, .unset] []))
        refine own_iload C X at_138 rfl (pc' := 140) rfl ?_
        refine own_iload C X at_140 rfl (pc' := 142) rfl ?_
        refine own_iadd C X at_142 (z := 2) (by decide) (pc' := 143) rfl ?_
        refine own_istore C X at_143 (L' := #[.val (.int i0), .val (.int i1), .val (.int i2), .val (.int i3), .val (.ref da), .val (.int (1 : Int32)), .val (.int (1 : Int32)), .val (.int (3 : Int32)), .val (.ref inn), .val (.int (1 : Int32)), .val (.int (2 : Int32)), .unset, .unset]) rfl (pc' := 145) rfl ?_
        refine own_aload C X at_145 rfl rfl (pc' := 147) rfl ?_
        have hbg := own_big C X
        refine own_callV C X at_147 (own_m_rest23 l Z a0 hw inn _ n0 hbg da (2 : Int32) t1 t2 t3 t4 A_da E_da O_inn (Ne.symm ne_da_inn) ge_inn) O_inn.1 (hw _ (List.mem_of_getElem? (i := 36) rfl)) (hw _ (List.mem_of_getElem? (i := 37) rfl)) (hw _ (List.mem_of_getElem? (i := 39) rfl)) (hw _ (List.mem_of_getElem? (i := 38) rfl)) (hw _ (List.mem_of_getElem? (i := 3) rfl)) (hw _ (List.mem_of_getElem? (i := 40) rfl)) (by decide) own_pd_2087 rfl rfl (Nat.le_of_ble_eq_true rfl) (Nat.le_of_ble_eq_true rfl) (Nat.le_of_ble_eq_true rfl) (Nat.le_of_ble_eq_true rfl) (av := []) (S := []) rfl (pc' := 150) rfl ?_
        intro T h v X hQ
        obtain ⟨out, rfl, gq_out, K_, O_n, A_out⟩ := hQ
        have ne_da_out : da ≠ out := Nat.ne_of_lt (Nat.lt_of_lt_of_le A_da.lt gq_out)
        have ne_rd_out : rd ≠ out := Nat.ne_of_lt (Nat.lt_of_lt_of_le O_rd.lt gq_out)
        have ne_inn_out : inn ≠ out := Nat.ne_of_lt (Nat.lt_of_lt_of_le O_inn.lt gq_out)
        have ge_out : n0 ≤ out := Nat.le_trans hbg gq_out
        have O_inn := O_n
        have A_da := A_da.keep K_ (ninS ne_da_inn nin0)
        have E_da := E_da.keep K_
        have O_rd := O_rd.keep K_ (ninS ne_rd_inn nin0)
        have hSk := Nat.le_trans hSk K_.1
        show own_Go p e below n0 (own_FinW room_1 s (fun v h => v = some (.int 1))) (T.setTop (mkF m 150 #[.val (.int i0), .val (.int i1), .val (.int i2), .val (.int i3), .val (.ref da), .val (.int (1 : Int32)), .val (.int (1 : Int32)), .val (.int (3 : Int32)), .val (.ref inn), .val (.int (1 : Int32)), .val (.int (2 : Int32)), .unset, .unset] [(.ref out)]))
        refine own_astore C X at_150 rfl (L' := #[.val (.int i0), .val (.int i1), .val (.int i2), .val (.int i3), .val (.ref da), .val (.int (1 : Int32)), .val (.int (1 : Int32)), .val (.int (3 : Int32)), .val (.ref inn), .val (.int (1 : Int32)), .val (.int (2 : Int32)), .val (.ref out), .unset]) rfl (pc' := 152) rfl ?_
        refine own_aload C X at_152 rfl rfl (pc' := 154) rfl ?_
        refine own_aload C X at_154 rfl rfl (pc' := 156) rfl ?_
        refine own_acmp_ne C X at_156 rfl rfl (pcT := 161) (pc' := 159) (by decide) (by decide) rfl (fun hc156 => ?_) (fun hc156 => absurd hc156 (fun q => (Ne.symm ne_da_out) (Value.ref.inj q)))
        refine own_aload C X at_161 rfl rfl (pc' := 163) rfl ?_
        refine own_alenI C X at_163 (n := 1) A_out rfl (pc' := 164) rfl ?_
        refine own_iload C X at_164 rfl (pc' := 166) rfl ?_
        refine own_iload C X at_166 rfl (pc' := 168) rfl ?_
        refine own_isub C X at_168 (z := 1) (by decide) (pc' := 169) rfl ?_
        refine own_icmp_eq C X at_169 (pcT := 174) (pc' := 172) (by decide) (by decide) rfl (fun hc169 => ?_) (fun hc169 => absurd hc169 (by decide))
        refine own_aload C X at_174 rfl rfl (pc' := 176) rfl ?_
        refine own_aload C X at_176 rfl rfl (pc' := 178) rfl ?_
        refine own_iload C X at_178 rfl (pc' := 180) rfl ?_
        refine own_iconst C X at_180 (v := 0) (by decide) (pc' := 181) rfl ?_
        refine own_callS C X at_181 (own_m_sameY l Z a0 hw out da (2 : Int32) (0 : Int32) _ n0 (own_big C X) [t2] [(2 : Int32), t1, t2, t3, t4] 1 rfl A_out A_da (by decide) 0 2 t2 (by decide) (by decide) rfl rfl) (hw _ (List.mem_of_getElem? (i := 59) rfl)) (hw _ (List.mem_of_getElem? (i := 60) rfl)) (hw _ (List.mem_of_getElem? (i := 61) rfl)) (hw _ (List.mem_of_getElem? (i := 62) rfl)) (by decide) own_pd_6987 rfl rfl (Nat.le_of_ble_eq_true rfl) (Nat.le_of_ble_eq_true rfl) (Nat.le_of_ble_eq_true rfl) (Nat.le_of_ble_eq_true rfl) (av := [(.ref out), (.ref da), (.int (2 : Int32)), (.int (0 : Int32))]) (S := []) rfl (pc' := 184) rfl ?_
        intro T h v X hQ
        obtain ⟨rfl, rfl⟩ := hQ
        show own_Go p e below n0 (own_FinW room_1 s (fun v h => v = some (.int 1))) (T.setTop (mkF m 184 #[.val (.int i0), .val (.int i1), .val (.int i2), .val (.int i3), .val (.ref da), .val (.int (1 : Int32)), .val (.int (1 : Int32)), .val (.int (3 : Int32)), .val (.ref inn), .val (.int (1 : Int32)), .val (.int (2 : Int32)), .val (.ref out), .unset] [(.int (1 : Int32))]))
        refine own_if_ne C X at_184 (pcT := 189) (pc' := 187) (by decide) (by decide) rfl (fun hc184 => ?_) (fun hc184 => absurd hc184 (by decide))
        refine own_aload C X at_189 rfl rfl (pc' := 191) rfl ?_
        refine own_aload C X at_191 rfl rfl (pc' := 193) rfl ?_
        refine own_iload C X at_193 rfl (pc' := 195) rfl ?_
        refine own_iconst C X at_195 (v := 1) (by decide) (pc' := 196) rfl ?_
        refine own_callS C X at_196 (own_m_sameN l Z a0 hw out da (2 : Int32) (1 : Int32) _ n0 (own_big C X) [t2] [(2 : Int32), t1, t2, t3, t4] 1 rfl A_out A_da (by decide)) (hw _ (List.mem_of_getElem? (i := 59) rfl)) (hw _ (List.mem_of_getElem? (i := 60) rfl)) (hw _ (List.mem_of_getElem? (i := 61) rfl)) (hw _ (List.mem_of_getElem? (i := 62) rfl)) (by decide) own_pd_6987 rfl rfl (Nat.le_of_ble_eq_true rfl) (Nat.le_of_ble_eq_true rfl) (Nat.le_of_ble_eq_true rfl) (Nat.le_of_ble_eq_true rfl) (av := [(.ref out), (.ref da), (.int (2 : Int32)), (.int (1 : Int32))]) (S := []) rfl (pc' := 199) rfl ?_
        intro T h v X hQ
        obtain ⟨rfl, rfl⟩ := hQ
        show own_Go p e below n0 (own_FinW room_1 s (fun v h => v = some (.int 1))) (T.setTop (mkF m 199 #[.val (.int i0), .val (.int i1), .val (.int i2), .val (.int i3), .val (.ref da), .val (.int (1 : Int32)), .val (.int (1 : Int32)), .val (.int (3 : Int32)), .val (.ref inn), .val (.int (1 : Int32)), .val (.int (2 : Int32)), .val (.ref out), .unset] [(.int (1 : Int32))]))
        refine own_if_ne C X at_199 (pcT := 204) (pc' := 202) (by decide) (by decide) rfl (fun hc199 => ?_) (fun hc199 => absurd hc199 (by decide))
        refine own_aload C X at_204 rfl rfl (pc' := 206) rfl ?_
        refine own_aload C X at_206 rfl rfl (pc' := 208) rfl ?_
        refine own_iload C X at_208 rfl (pc' := 210) rfl ?_
        refine own_iconst C X at_210 (v := 2) (by decide) (pc' := 211) rfl ?_
        refine own_callS C X at_211 (own_m_sameN l Z a0 hw out da (2 : Int32) (2 : Int32) _ n0 (own_big C X) [t2] [(2 : Int32), t1, t2, t3, t4] 1 rfl A_out A_da (by decide)) (hw _ (List.mem_of_getElem? (i := 59) rfl)) (hw _ (List.mem_of_getElem? (i := 60) rfl)) (hw _ (List.mem_of_getElem? (i := 61) rfl)) (hw _ (List.mem_of_getElem? (i := 62) rfl)) (by decide) own_pd_6987 rfl rfl (Nat.le_of_ble_eq_true rfl) (Nat.le_of_ble_eq_true rfl) (Nat.le_of_ble_eq_true rfl) (Nat.le_of_ble_eq_true rfl) (av := [(.ref out), (.ref da), (.int (2 : Int32)), (.int (2 : Int32))]) (S := []) rfl (pc' := 214) rfl ?_
        intro T h v X hQ
        obtain ⟨rfl, rfl⟩ := hQ
        show own_Go p e below n0 (own_FinW room_1 s (fun v h => v = some (.int 1))) (T.setTop (mkF m 214 #[.val (.int i0), .val (.int i1), .val (.int i2), .val (.int i3), .val (.ref da), .val (.int (1 : Int32)), .val (.int (1 : Int32)), .val (.int (3 : Int32)), .val (.ref inn), .val (.int (1 : Int32)), .val (.int (2 : Int32)), .val (.ref out), .unset] [(.int (1 : Int32))]))
        refine own_if_ne C X at_214 (pcT := 219) (pc' := 217) (by decide) (by decide) rfl (fun hc214 => ?_) (fun hc214 => absurd hc214 (by decide))
        refine own_aload C X at_219 rfl rfl (pc' := 221) rfl ?_
        refine own_aload C X at_221 rfl rfl (pc' := 223) rfl ?_
        refine own_iload C X at_223 rfl (pc' := 225) rfl ?_
        refine own_iconst C X at_225 (v := 3) (by decide) (pc' := 226) rfl ?_
        refine own_callS C X at_226 (own_m_sameN l Z a0 hw out da (2 : Int32) (3 : Int32) _ n0 (own_big C X) [t2] [(2 : Int32), t1, t2, t3, t4] 1 rfl A_out A_da (by decide)) (hw _ (List.mem_of_getElem? (i := 59) rfl)) (hw _ (List.mem_of_getElem? (i := 60) rfl)) (hw _ (List.mem_of_getElem? (i := 61) rfl)) (hw _ (List.mem_of_getElem? (i := 62) rfl)) (by decide) own_pd_6987 rfl rfl (Nat.le_of_ble_eq_true rfl) (Nat.le_of_ble_eq_true rfl) (Nat.le_of_ble_eq_true rfl) (Nat.le_of_ble_eq_true rfl) (av := [(.ref out), (.ref da), (.int (2 : Int32)), (.int (3 : Int32))]) (S := []) rfl (pc' := 229) rfl ?_
        intro T h v X hQ
        obtain ⟨rfl, rfl⟩ := hQ
        show own_Go p e below n0 (own_FinW room_1 s (fun v h => v = some (.int 1))) (T.setTop (mkF m 229 #[.val (.int i0), .val (.int i1), .val (.int i2), .val (.int i3), .val (.ref da), .val (.int (1 : Int32)), .val (.int (1 : Int32)), .val (.int (3 : Int32)), .val (.ref inn), .val (.int (1 : Int32)), .val (.int (2 : Int32)), .val (.ref out), .unset] [(.int (1 : Int32))]))
        refine own_if_ne C X at_229 (pcT := 234) (pc' := 232) (by decide) (by decide) rfl (fun hc229 => ?_) (fun hc229 => absurd hc229 (by decide))
        refine own_aload C X at_234 rfl rfl (pc' := 236) rfl ?_
        refine own_aload C X at_236 rfl rfl (pc' := 238) rfl ?_
        refine own_iload C X at_238 rfl (pc' := 240) rfl ?_
        refine own_iconst C X at_240 (v := 4) (by decide) (pc' := 241) rfl ?_
        refine own_callS C X at_241 (own_m_sameN l Z a0 hw out da (2 : Int32) (4 : Int32) _ n0 (own_big C X) [t2] [(2 : Int32), t1, t2, t3, t4] 1 rfl A_out A_da (by decide)) (hw _ (List.mem_of_getElem? (i := 59) rfl)) (hw _ (List.mem_of_getElem? (i := 60) rfl)) (hw _ (List.mem_of_getElem? (i := 61) rfl)) (hw _ (List.mem_of_getElem? (i := 62) rfl)) (by decide) own_pd_6987 rfl rfl (Nat.le_of_ble_eq_true rfl) (Nat.le_of_ble_eq_true rfl) (Nat.le_of_ble_eq_true rfl) (Nat.le_of_ble_eq_true rfl) (av := [(.ref out), (.ref da), (.int (2 : Int32)), (.int (4 : Int32))]) (S := []) rfl (pc' := 244) rfl ?_
        intro T h v X hQ
        obtain ⟨rfl, rfl⟩ := hQ
        show own_Go p e below n0 (own_FinW room_1 s (fun v h => v = some (.int 1))) (T.setTop (mkF m 244 #[.val (.int i0), .val (.int i1), .val (.int i2), .val (.int i3), .val (.ref da), .val (.int (1 : Int32)), .val (.int (1 : Int32)), .val (.int (3 : Int32)), .val (.ref inn), .val (.int (1 : Int32)), .val (.int (2 : Int32)), .val (.ref out), .unset] [(.int (1 : Int32))]))
        refine own_if_ne C X at_244 (pcT := 249) (pc' := 247) (by decide) (by decide) rfl (fun hc244 => ?_) (fun hc244 => absurd hc244 (by decide))
        refine own_aload C X at_249 rfl rfl (pc' := 251) rfl ?_
        refine own_callV C X at_251 (own_m_hr l Z a0 hw inn _ n0 (own_big C X) da (3 : Int32) (3 : Int32) O_inn) O_inn.1 (hw _ (List.mem_of_getElem? (i := 63) rfl)) (hw _ (List.mem_of_getElem? (i := 64) rfl)) (hw _ (List.mem_of_getElem? (i := 66) rfl)) (hw _ (List.mem_of_getElem? (i := 65) rfl)) (hw _ (List.mem_of_getElem? (i := 3) rfl)) (hw _ (List.mem_of_getElem? (i := 67) rfl)) (by decide) own_pd_1418 rfl rfl (Nat.le_of_ble_eq_true rfl) (Nat.le_of_ble_eq_true rfl) (Nat.le_of_ble_eq_true rfl) (Nat.le_of_ble_eq_true rfl) (av := []) (S := []) rfl (pc' := 254) rfl ?_
        intro T h v X hQ
        obtain ⟨rfl, rfl⟩ := hQ
        show own_Go p e below n0 (own_FinW room_1 s (fun v h => v = some (.int 1))) (T.setTop (mkF m 254 #[.val (.int i0), .val (.int i1), .val (.int i2), .val (.int i3), .val (.ref da), .val (.int (1 : Int32)), .val (.int (1 : Int32)), .val (.int (3 : Int32)), .val (.ref inn), .val (.int (1 : Int32)), .val (.int (2 : Int32)), .val (.ref out), .unset] [(.int (own_hr (3 : Int32) (3 : Int32)))]))
        rw [show own_hr (3 : Int32) (3 : Int32) = 0 from by decide]
        show own_Go p e below n0 (own_FinW room_1 s (fun v h => v = some (.int 1))) (T.setTop (mkF m 254 #[.val (.int i0), .val (.int i1), .val (.int i2), .val (.int i3), .val (.ref da), .val (.int (1 : Int32)), .val (.int (1 : Int32)), .val (.int (3 : Int32)), .val (.ref inn), .val (.int (1 : Int32)), .val (.int (2 : Int32)), .val (.ref out), .unset] [(.int (0 : Int32))]))
        refine own_if_eq C X at_254 (pcT := 259) (pc' := 257) (by decide) (by decide) rfl (fun hc254 => ?_) (fun hc254 => absurd hc254 (by decide))
        refine own_aload C X at_259 rfl rfl (pc' := 261) rfl ?_
        have hbg := own_big C X
        refine own_callV C X at_261 (own_m_rest33 l Z a0 hw inn _ n0 hbg da (2 : Int32) t1 t2 t3 t4 A_da E_da O_inn (Ne.symm ne_da_inn) ge_inn) O_inn.1 (hw _ (List.mem_of_getElem? (i := 36) rfl)) (hw _ (List.mem_of_getElem? (i := 37) rfl)) (hw _ (List.mem_of_getElem? (i := 39) rfl)) (hw _ (List.mem_of_getElem? (i := 38) rfl)) (hw _ (List.mem_of_getElem? (i := 3) rfl)) (hw _ (List.mem_of_getElem? (i := 40) rfl)) (by decide) own_pd_2087 rfl rfl (Nat.le_of_ble_eq_true rfl) (Nat.le_of_ble_eq_true rfl) (Nat.le_of_ble_eq_true rfl) (Nat.le_of_ble_eq_true rfl) (av := []) (S := []) rfl (pc' := 264) rfl ?_
        intro T h v X hQ
        obtain ⟨ou2, rfl, gq_ou2, K_, O_n, A_ou2⟩ := hQ
        have ne_da_ou2 : da ≠ ou2 := Nat.ne_of_lt (Nat.lt_of_lt_of_le A_da.lt gq_ou2)
        have ne_rd_ou2 : rd ≠ ou2 := Nat.ne_of_lt (Nat.lt_of_lt_of_le O_rd.lt gq_ou2)
        have ne_inn_ou2 : inn ≠ ou2 := Nat.ne_of_lt (Nat.lt_of_lt_of_le O_inn.lt gq_ou2)
        have ne_out_ou2 : out ≠ ou2 := Nat.ne_of_lt (Nat.lt_of_lt_of_le A_out.lt gq_ou2)
        have ge_ou2 : n0 ≤ ou2 := Nat.le_trans hbg gq_ou2
        have O_inn := O_n
        have A_da := A_da.keep K_ (ninS ne_da_inn nin0)
        have E_da := E_da.keep K_
        have O_rd := O_rd.keep K_ (ninS ne_rd_inn nin0)
        have A_out := A_out.keep K_ (ninS (Ne.symm ne_inn_out) nin0)
        have hSk := Nat.le_trans hSk K_.1
        show own_Go p e below n0 (own_FinW room_1 s (fun v h => v = some (.int 1))) (T.setTop (mkF m 264 #[.val (.int i0), .val (.int i1), .val (.int i2), .val (.int i3), .val (.ref da), .val (.int (1 : Int32)), .val (.int (1 : Int32)), .val (.int (3 : Int32)), .val (.ref inn), .val (.int (1 : Int32)), .val (.int (2 : Int32)), .val (.ref out), .unset] [(.ref ou2)]))
        refine own_alenI C X at_264 (n := 0) A_ou2 rfl (pc' := 265) rfl ?_
        refine own_if_eq C X at_265 (pcT := 270) (pc' := 268) (by decide) (by decide) rfl (fun hc265 => ?_) (fun hc265 => absurd hc265 (by decide))
        refine own_aload C X at_270 rfl rfl (pc' := 272) rfl ?_
        refine own_alenI C X at_272 (n := 1) A_out rfl (pc' := 273) rfl ?_
        refine own_if_le C X at_273 (pcT := 306) (pc' := 276) (by decide) (by decide) rfl (fun hc273 => absurd hc273 (by decide)) (fun hc273 => ?_)
        refine own_aload C X at_276 rfl rfl (pc' := 278) rfl ?_
        refine own_iload C X at_278 rfl (pc' := 280) rfl ?_
        refine own_baload C X at_280 A_da (by decide) (i := 2) rfl (pc' := 281) rfl ?_
        refine own_istore C X at_281 (L' := #[.val (.int i0), .val (.int i1), .val (.int i2), .val (.int i3), .val (.ref da), .val (.int (1 : Int32)), .val (.int (1 : Int32)), .val (.int (3 : Int32)), .val (.ref inn), .val (.int (1 : Int32)), .val (.int (2 : Int32)), .val (.ref out), .val (.int t2)]) rfl (pc' := 283) rfl ?_
        refine own_aload C X at_283 rfl rfl (pc' := 285) rfl ?_
        refine own_iconst C X at_285 (v := 0) (by decide) (pc' := 286) rfl ?_
        refine own_aload C X at_286 rfl rfl (pc' := 288) rfl ?_
        refine own_iconst C X at_288 (v := 0) (by decide) (pc' := 289) rfl ?_
        refine own_baload C X at_289 A_out (by decide) (i := 0) rfl (pc' := 290) rfl ?_
        refine own_iconst C X at_290 (v := 1) (by decide) (pc' := 291) rfl ?_
        refine own_ixor C X at_291 rfl (pc' := 292) rfl ?_
        obtain ⟨tx, e_tx⟩ : ∃ z : Int32, (t2 ^^^ (1 : Int32)).toInt8.toInt32 = z := ⟨_, rfl⟩
        refine own_i2b C X at_292 e_tx (pc' := 293) rfl ?_
        refine own_bastore C X at_293 A_out (by decide) (i := 0) (Nat.le_of_ble_eq_true rfl) (own_i2bn e_tx) ge_out (pc' := 294) rfl ?_
        intro T h X K_ A_out_
        have A_out : own_IA Z h out .byte [tx] := A_out_
        have A_da := A_da.keep K_ (ninS ne_da_out nin0)
        have E_da := E_da.keep K_
        have O_rd := O_rd.keep K_ (ninS ne_rd_out nin0)
        have O_inn := O_inn.keep K_ (ninS ne_inn_out nin0)
        have A_ou2 := A_ou2.keep K_ (ninS (Ne.symm ne_out_ou2) nin0)
        have hSk := Nat.le_trans hSk K_.1
        refine own_aload C X at_294 rfl rfl (pc' := 296) rfl ?_
        refine own_iload C X at_296 rfl (pc' := 298) rfl ?_
        refine own_baload C X at_298 A_da (by decide) (i := 2) rfl (pc' := 299) rfl ?_
        refine own_iload C X at_299 rfl (pc' := 301) rfl ?_
        refine own_icmp_eq C X at_301 (pcT := 306) (pc' := 304) (by decide) (by decide) rfl (fun hc301 => ?_) (fun hc301 => absurd hc301 (not_not_intro rfl))
        refine own_iconst C X at_306 (v := 1) (by decide) (pc' := 307) rfl ?_
        exact own_ireturn_zW C X hS hSk at_307 (Nat.le_of_ble_eq_true rfl) (Nat.le_of_ble_eq_true rfl) (rfl)
      · refine own_istore C X at_127 (L' := #[.val (.int i0), .val (.int i1), .val (.int i2), .val (.int i3), .val (.ref da), .val (.int (1 : Int32)), .val (.int (1 : Int32)), .val (.int (3 : Int32)), .val (.ref inn), .val (.int (2 : Int32)), .unset, .unset, .unset]) rfl (pc' := 129) rfl ?_
        refine own_aload C X at_129 rfl rfl (pc' := 131) rfl ?_
        refine own_iload C X at_131 rfl (pc' := 133) rfl ?_
        refine own_ldcS C X hS hSk at_133 (hw _ (List.mem_of_getElem? (i := 20) rfl)) (own_strW hw) (n := 1024) (by decide) (by decide) (Nat.le_of_ble_eq_true rfl) (Nat.le_of_ble_eq_true rfl) (pc' := 135) rfl ?_
        intro T h ss vm k_ C X K_ hS hSk_
        have A_da := A_da.keep K_ nin0
        have E_da := E_da.keep K_
        have O_rd := O_rd.keep K_ nin0
        have O_inn := O_inn.keep K_ nin0
        have hSk := Nat.le_trans hSk K_.1
        have hSk := hSk_
        refine own_callV C X at_135 (own_m_skip l Z a0 hw inn (2 : Int32) ss _ n0 (own_big C X) da (1 : Int32) (3 : Int32) (3 : Int32) (by decide) (by decide) O_inn ge_inn) O_inn.1 (hw _ (List.mem_of_getElem? (i := 27) rfl)) (hw _ (List.mem_of_getElem? (i := 28) rfl)) (hw _ (List.mem_of_getElem? (i := 30) rfl)) (hw _ (List.mem_of_getElem? (i := 29) rfl)) (hw _ (List.mem_of_getElem? (i := 3) rfl)) (hw _ (List.mem_of_getElem? (i := 31) rfl)) (by decide) own_pd_34082 rfl rfl (Nat.le_of_ble_eq_true rfl) (Nat.le_of_ble_eq_true rfl) (Nat.le_of_ble_eq_true rfl) (Nat.le_of_ble_eq_true rfl) (av := [(.int (2 : Int32)), (.ref ss)]) (S := []) rfl (pc' := 138) rfl ?_
        intro T h v X hQ
        obtain ⟨rfl, K_, O_inn⟩ := hQ
        have A_da := A_da.keep K_ (ninS ne_da_inn nin0)
        have E_da := E_da.keep K_
        have O_rd := O_rd.keep K_ (ninS ne_rd_inn nin0)
        have hSk := Nat.le_trans hSk K_.1
        show own_Go p e below n0 (own_FinW room_1 s (fun v h => v = some (.int 1))) (T.setTop (mkF m 138 #[.val (.int i0), .val (.int i1), .val (.int i2), .val (.int i3), .val (.ref da), .val (.int (1 : Int32)), .val (.int (1 : Int32)), .val (.int (3 : Int32)), .val (.ref inn), .val (.int (2 : Int32)), .unset, .unset, .unset] []))
        refine own_iload C X at_138 rfl (pc' := 140) rfl ?_
        refine own_iload C X at_140 rfl (pc' := 142) rfl ?_
        refine own_iadd C X at_142 (z := 3) (by decide) (pc' := 143) rfl ?_
        refine own_istore C X at_143 (L' := #[.val (.int i0), .val (.int i1), .val (.int i2), .val (.int i3), .val (.ref da), .val (.int (1 : Int32)), .val (.int (1 : Int32)), .val (.int (3 : Int32)), .val (.ref inn), .val (.int (2 : Int32)), .val (.int (3 : Int32)), .unset, .unset]) rfl (pc' := 145) rfl ?_
        refine own_aload C X at_145 rfl rfl (pc' := 147) rfl ?_
        have hbg := own_big C X
        refine own_callV C X at_147 (own_m_rest33 l Z a0 hw inn _ n0 hbg da (2 : Int32) t1 t2 t3 t4 A_da E_da O_inn (Ne.symm ne_da_inn) ge_inn) O_inn.1 (hw _ (List.mem_of_getElem? (i := 36) rfl)) (hw _ (List.mem_of_getElem? (i := 37) rfl)) (hw _ (List.mem_of_getElem? (i := 39) rfl)) (hw _ (List.mem_of_getElem? (i := 38) rfl)) (hw _ (List.mem_of_getElem? (i := 3) rfl)) (hw _ (List.mem_of_getElem? (i := 40) rfl)) (by decide) own_pd_2087 rfl rfl (Nat.le_of_ble_eq_true rfl) (Nat.le_of_ble_eq_true rfl) (Nat.le_of_ble_eq_true rfl) (Nat.le_of_ble_eq_true rfl) (av := []) (S := []) rfl (pc' := 150) rfl ?_
        intro T h v X hQ
        obtain ⟨out, rfl, gq_out, K_, O_n, A_out⟩ := hQ
        have ne_da_out : da ≠ out := Nat.ne_of_lt (Nat.lt_of_lt_of_le A_da.lt gq_out)
        have ne_rd_out : rd ≠ out := Nat.ne_of_lt (Nat.lt_of_lt_of_le O_rd.lt gq_out)
        have ne_inn_out : inn ≠ out := Nat.ne_of_lt (Nat.lt_of_lt_of_le O_inn.lt gq_out)
        have ge_out : n0 ≤ out := Nat.le_trans hbg gq_out
        have O_inn := O_n
        have A_da := A_da.keep K_ (ninS ne_da_inn nin0)
        have E_da := E_da.keep K_
        have O_rd := O_rd.keep K_ (ninS ne_rd_inn nin0)
        have hSk := Nat.le_trans hSk K_.1
        show own_Go p e below n0 (own_FinW room_1 s (fun v h => v = some (.int 1))) (T.setTop (mkF m 150 #[.val (.int i0), .val (.int i1), .val (.int i2), .val (.int i3), .val (.ref da), .val (.int (1 : Int32)), .val (.int (1 : Int32)), .val (.int (3 : Int32)), .val (.ref inn), .val (.int (2 : Int32)), .val (.int (3 : Int32)), .unset, .unset] [(.ref out)]))
        refine own_astore C X at_150 rfl (L' := #[.val (.int i0), .val (.int i1), .val (.int i2), .val (.int i3), .val (.ref da), .val (.int (1 : Int32)), .val (.int (1 : Int32)), .val (.int (3 : Int32)), .val (.ref inn), .val (.int (2 : Int32)), .val (.int (3 : Int32)), .val (.ref out), .unset]) rfl (pc' := 152) rfl ?_
        refine own_aload C X at_152 rfl rfl (pc' := 154) rfl ?_
        refine own_aload C X at_154 rfl rfl (pc' := 156) rfl ?_
        refine own_acmp_ne C X at_156 rfl rfl (pcT := 161) (pc' := 159) (by decide) (by decide) rfl (fun hc156 => ?_) (fun hc156 => absurd hc156 (fun q => (Ne.symm ne_da_out) (Value.ref.inj q)))
        refine own_aload C X at_161 rfl rfl (pc' := 163) rfl ?_
        refine own_alenI C X at_163 (n := 0) A_out rfl (pc' := 164) rfl ?_
        refine own_iload C X at_164 rfl (pc' := 166) rfl ?_
        refine own_iload C X at_166 rfl (pc' := 168) rfl ?_
        refine own_isub C X at_168 (z := 0) (by decide) (pc' := 169) rfl ?_
        refine own_icmp_eq C X at_169 (pcT := 174) (pc' := 172) (by decide) (by decide) rfl (fun hc169 => ?_) (fun hc169 => absurd hc169 (by decide))
        refine own_aload C X at_174 rfl rfl (pc' := 176) rfl ?_
        refine own_aload C X at_176 rfl rfl (pc' := 178) rfl ?_
        refine own_iload C X at_178 rfl (pc' := 180) rfl ?_
        refine own_iconst C X at_180 (v := 0) (by decide) (pc' := 181) rfl ?_
        refine own_callS C X at_181 (own_m_sameN l Z a0 hw out da (3 : Int32) (0 : Int32) _ n0 (own_big C X) [] [(2 : Int32), t1, t2, t3, t4] 0 rfl A_out A_da (by decide)) (hw _ (List.mem_of_getElem? (i := 59) rfl)) (hw _ (List.mem_of_getElem? (i := 60) rfl)) (hw _ (List.mem_of_getElem? (i := 61) rfl)) (hw _ (List.mem_of_getElem? (i := 62) rfl)) (by decide) own_pd_6987 rfl rfl (Nat.le_of_ble_eq_true rfl) (Nat.le_of_ble_eq_true rfl) (Nat.le_of_ble_eq_true rfl) (Nat.le_of_ble_eq_true rfl) (av := [(.ref out), (.ref da), (.int (3 : Int32)), (.int (0 : Int32))]) (S := []) rfl (pc' := 184) rfl ?_
        intro T h v X hQ
        obtain ⟨rfl, rfl⟩ := hQ
        show own_Go p e below n0 (own_FinW room_1 s (fun v h => v = some (.int 1))) (T.setTop (mkF m 184 #[.val (.int i0), .val (.int i1), .val (.int i2), .val (.int i3), .val (.ref da), .val (.int (1 : Int32)), .val (.int (1 : Int32)), .val (.int (3 : Int32)), .val (.ref inn), .val (.int (2 : Int32)), .val (.int (3 : Int32)), .val (.ref out), .unset] [(.int (1 : Int32))]))
        refine own_if_ne C X at_184 (pcT := 189) (pc' := 187) (by decide) (by decide) rfl (fun hc184 => ?_) (fun hc184 => absurd hc184 (by decide))
        refine own_aload C X at_189 rfl rfl (pc' := 191) rfl ?_
        refine own_aload C X at_191 rfl rfl (pc' := 193) rfl ?_
        refine own_iload C X at_193 rfl (pc' := 195) rfl ?_
        refine own_iconst C X at_195 (v := 1) (by decide) (pc' := 196) rfl ?_
        refine own_callS C X at_196 (own_m_sameN l Z a0 hw out da (3 : Int32) (1 : Int32) _ n0 (own_big C X) [] [(2 : Int32), t1, t2, t3, t4] 0 rfl A_out A_da (by decide)) (hw _ (List.mem_of_getElem? (i := 59) rfl)) (hw _ (List.mem_of_getElem? (i := 60) rfl)) (hw _ (List.mem_of_getElem? (i := 61) rfl)) (hw _ (List.mem_of_getElem? (i := 62) rfl)) (by decide) own_pd_6987 rfl rfl (Nat.le_of_ble_eq_true rfl) (Nat.le_of_ble_eq_true rfl) (Nat.le_of_ble_eq_true rfl) (Nat.le_of_ble_eq_true rfl) (av := [(.ref out), (.ref da), (.int (3 : Int32)), (.int (1 : Int32))]) (S := []) rfl (pc' := 199) rfl ?_
        intro T h v X hQ
        obtain ⟨rfl, rfl⟩ := hQ
        show own_Go p e below n0 (own_FinW room_1 s (fun v h => v = some (.int 1))) (T.setTop (mkF m 199 #[.val (.int i0), .val (.int i1), .val (.int i2), .val (.int i3), .val (.ref da), .val (.int (1 : Int32)), .val (.int (1 : Int32)), .val (.int (3 : Int32)), .val (.ref inn), .val (.int (2 : Int32)), .val (.int (3 : Int32)), .val (.ref out), .unset] [(.int (1 : Int32))]))
        refine own_if_ne C X at_199 (pcT := 204) (pc' := 202) (by decide) (by decide) rfl (fun hc199 => ?_) (fun hc199 => absurd hc199 (by decide))
        refine own_aload C X at_204 rfl rfl (pc' := 206) rfl ?_
        refine own_aload C X at_206 rfl rfl (pc' := 208) rfl ?_
        refine own_iload C X at_208 rfl (pc' := 210) rfl ?_
        refine own_iconst C X at_210 (v := 2) (by decide) (pc' := 211) rfl ?_
        refine own_callS C X at_211 (own_m_sameN l Z a0 hw out da (3 : Int32) (2 : Int32) _ n0 (own_big C X) [] [(2 : Int32), t1, t2, t3, t4] 0 rfl A_out A_da (by decide)) (hw _ (List.mem_of_getElem? (i := 59) rfl)) (hw _ (List.mem_of_getElem? (i := 60) rfl)) (hw _ (List.mem_of_getElem? (i := 61) rfl)) (hw _ (List.mem_of_getElem? (i := 62) rfl)) (by decide) own_pd_6987 rfl rfl (Nat.le_of_ble_eq_true rfl) (Nat.le_of_ble_eq_true rfl) (Nat.le_of_ble_eq_true rfl) (Nat.le_of_ble_eq_true rfl) (av := [(.ref out), (.ref da), (.int (3 : Int32)), (.int (2 : Int32))]) (S := []) rfl (pc' := 214) rfl ?_
        intro T h v X hQ
        obtain ⟨rfl, rfl⟩ := hQ
        show own_Go p e below n0 (own_FinW room_1 s (fun v h => v = some (.int 1))) (T.setTop (mkF m 214 #[.val (.int i0), .val (.int i1), .val (.int i2), .val (.int i3), .val (.ref da), .val (.int (1 : Int32)), .val (.int (1 : Int32)), .val (.int (3 : Int32)), .val (.ref inn), .val (.int (2 : Int32)), .val (.int (3 : Int32)), .val (.ref out), .unset] [(.int (1 : Int32))]))
        refine own_if_ne C X at_214 (pcT := 219) (pc' := 217) (by decide) (by decide) rfl (fun hc214 => ?_) (fun hc214 => absurd hc214 (by decide))
        refine own_aload C X at_219 rfl rfl (pc' := 221) rfl ?_
        refine own_aload C X at_221 rfl rfl (pc' := 223) rfl ?_
        refine own_iload C X at_223 rfl (pc' := 225) rfl ?_
        refine own_iconst C X at_225 (v := 3) (by decide) (pc' := 226) rfl ?_
        refine own_callS C X at_226 (own_m_sameN l Z a0 hw out da (3 : Int32) (3 : Int32) _ n0 (own_big C X) [] [(2 : Int32), t1, t2, t3, t4] 0 rfl A_out A_da (by decide)) (hw _ (List.mem_of_getElem? (i := 59) rfl)) (hw _ (List.mem_of_getElem? (i := 60) rfl)) (hw _ (List.mem_of_getElem? (i := 61) rfl)) (hw _ (List.mem_of_getElem? (i := 62) rfl)) (by decide) own_pd_6987 rfl rfl (Nat.le_of_ble_eq_true rfl) (Nat.le_of_ble_eq_true rfl) (Nat.le_of_ble_eq_true rfl) (Nat.le_of_ble_eq_true rfl) (av := [(.ref out), (.ref da), (.int (3 : Int32)), (.int (3 : Int32))]) (S := []) rfl (pc' := 229) rfl ?_
        intro T h v X hQ
        obtain ⟨rfl, rfl⟩ := hQ
        show own_Go p e below n0 (own_FinW room_1 s (fun v h => v = some (.int 1))) (T.setTop (mkF m 229 #[.val (.int i0), .val (.int i1), .val (.int i2), .val (.int i3), .val (.ref da), .val (.int (1 : Int32)), .val (.int (1 : Int32)), .val (.int (3 : Int32)), .val (.ref inn), .val (.int (2 : Int32)), .val (.int (3 : Int32)), .val (.ref out), .unset] [(.int (1 : Int32))]))
        refine own_if_ne C X at_229 (pcT := 234) (pc' := 232) (by decide) (by decide) rfl (fun hc229 => ?_) (fun hc229 => absurd hc229 (by decide))
        refine own_aload C X at_234 rfl rfl (pc' := 236) rfl ?_
        refine own_aload C X at_236 rfl rfl (pc' := 238) rfl ?_
        refine own_iload C X at_238 rfl (pc' := 240) rfl ?_
        refine own_iconst C X at_240 (v := 4) (by decide) (pc' := 241) rfl ?_
        refine own_callS C X at_241 (own_m_sameN l Z a0 hw out da (3 : Int32) (4 : Int32) _ n0 (own_big C X) [] [(2 : Int32), t1, t2, t3, t4] 0 rfl A_out A_da (by decide)) (hw _ (List.mem_of_getElem? (i := 59) rfl)) (hw _ (List.mem_of_getElem? (i := 60) rfl)) (hw _ (List.mem_of_getElem? (i := 61) rfl)) (hw _ (List.mem_of_getElem? (i := 62) rfl)) (by decide) own_pd_6987 rfl rfl (Nat.le_of_ble_eq_true rfl) (Nat.le_of_ble_eq_true rfl) (Nat.le_of_ble_eq_true rfl) (Nat.le_of_ble_eq_true rfl) (av := [(.ref out), (.ref da), (.int (3 : Int32)), (.int (4 : Int32))]) (S := []) rfl (pc' := 244) rfl ?_
        intro T h v X hQ
        obtain ⟨rfl, rfl⟩ := hQ
        show own_Go p e below n0 (own_FinW room_1 s (fun v h => v = some (.int 1))) (T.setTop (mkF m 244 #[.val (.int i0), .val (.int i1), .val (.int i2), .val (.int i3), .val (.ref da), .val (.int (1 : Int32)), .val (.int (1 : Int32)), .val (.int (3 : Int32)), .val (.ref inn), .val (.int (2 : Int32)), .val (.int (3 : Int32)), .val (.ref out), .unset] [(.int (1 : Int32))]))
        refine own_if_ne C X at_244 (pcT := 249) (pc' := 247) (by decide) (by decide) rfl (fun hc244 => ?_) (fun hc244 => absurd hc244 (by decide))
        refine own_aload C X at_249 rfl rfl (pc' := 251) rfl ?_
        refine own_callV C X at_251 (own_m_hr l Z a0 hw inn _ n0 (own_big C X) da (3 : Int32) (3 : Int32) O_inn) O_inn.1 (hw _ (List.mem_of_getElem? (i := 63) rfl)) (hw _ (List.mem_of_getElem? (i := 64) rfl)) (hw _ (List.mem_of_getElem? (i := 66) rfl)) (hw _ (List.mem_of_getElem? (i := 65) rfl)) (hw _ (List.mem_of_getElem? (i := 3) rfl)) (hw _ (List.mem_of_getElem? (i := 67) rfl)) (by decide) own_pd_1418 rfl rfl (Nat.le_of_ble_eq_true rfl) (Nat.le_of_ble_eq_true rfl) (Nat.le_of_ble_eq_true rfl) (Nat.le_of_ble_eq_true rfl) (av := []) (S := []) rfl (pc' := 254) rfl ?_
        intro T h v X hQ
        obtain ⟨rfl, rfl⟩ := hQ
        show own_Go p e below n0 (own_FinW room_1 s (fun v h => v = some (.int 1))) (T.setTop (mkF m 254 #[.val (.int i0), .val (.int i1), .val (.int i2), .val (.int i3), .val (.ref da), .val (.int (1 : Int32)), .val (.int (1 : Int32)), .val (.int (3 : Int32)), .val (.ref inn), .val (.int (2 : Int32)), .val (.int (3 : Int32)), .val (.ref out), .unset] [(.int (own_hr (3 : Int32) (3 : Int32)))]))
        rw [show own_hr (3 : Int32) (3 : Int32) = 0 from by decide]
        show own_Go p e below n0 (own_FinW room_1 s (fun v h => v = some (.int 1))) (T.setTop (mkF m 254 #[.val (.int i0), .val (.int i1), .val (.int i2), .val (.int i3), .val (.ref da), .val (.int (1 : Int32)), .val (.int (1 : Int32)), .val (.int (3 : Int32)), .val (.ref inn), .val (.int (2 : Int32)), .val (.int (3 : Int32)), .val (.ref out), .unset] [(.int (0 : Int32))]))
        refine own_if_eq C X at_254 (pcT := 259) (pc' := 257) (by decide) (by decide) rfl (fun hc254 => ?_) (fun hc254 => absurd hc254 (by decide))
        refine own_aload C X at_259 rfl rfl (pc' := 261) rfl ?_
        have hbg := own_big C X
        refine own_callV C X at_261 (own_m_rest33 l Z a0 hw inn _ n0 hbg da (2 : Int32) t1 t2 t3 t4 A_da E_da O_inn (Ne.symm ne_da_inn) ge_inn) O_inn.1 (hw _ (List.mem_of_getElem? (i := 36) rfl)) (hw _ (List.mem_of_getElem? (i := 37) rfl)) (hw _ (List.mem_of_getElem? (i := 39) rfl)) (hw _ (List.mem_of_getElem? (i := 38) rfl)) (hw _ (List.mem_of_getElem? (i := 3) rfl)) (hw _ (List.mem_of_getElem? (i := 40) rfl)) (by decide) own_pd_2087 rfl rfl (Nat.le_of_ble_eq_true rfl) (Nat.le_of_ble_eq_true rfl) (Nat.le_of_ble_eq_true rfl) (Nat.le_of_ble_eq_true rfl) (av := []) (S := []) rfl (pc' := 264) rfl ?_
        intro T h v X hQ
        obtain ⟨ou2, rfl, gq_ou2, K_, O_n, A_ou2⟩ := hQ
        have ne_da_ou2 : da ≠ ou2 := Nat.ne_of_lt (Nat.lt_of_lt_of_le A_da.lt gq_ou2)
        have ne_rd_ou2 : rd ≠ ou2 := Nat.ne_of_lt (Nat.lt_of_lt_of_le O_rd.lt gq_ou2)
        have ne_inn_ou2 : inn ≠ ou2 := Nat.ne_of_lt (Nat.lt_of_lt_of_le O_inn.lt gq_ou2)
        have ne_out_ou2 : out ≠ ou2 := Nat.ne_of_lt (Nat.lt_of_lt_of_le A_out.lt gq_ou2)
        have ge_ou2 : n0 ≤ ou2 := Nat.le_trans hbg gq_ou2
        have O_inn := O_n
        have A_da := A_da.keep K_ (ninS ne_da_inn nin0)
        have E_da := E_da.keep K_
        have O_rd := O_rd.keep K_ (ninS ne_rd_inn nin0)
        have A_out := A_out.keep K_ (ninS (Ne.symm ne_inn_out) nin0)
        have hSk := Nat.le_trans hSk K_.1
        show own_Go p e below n0 (own_FinW room_1 s (fun v h => v = some (.int 1))) (T.setTop (mkF m 264 #[.val (.int i0), .val (.int i1), .val (.int i2), .val (.int i3), .val (.ref da), .val (.int (1 : Int32)), .val (.int (1 : Int32)), .val (.int (3 : Int32)), .val (.ref inn), .val (.int (2 : Int32)), .val (.int (3 : Int32)), .val (.ref out), .unset] [(.ref ou2)]))
        refine own_alenI C X at_264 (n := 0) A_ou2 rfl (pc' := 265) rfl ?_
        refine own_if_eq C X at_265 (pcT := 270) (pc' := 268) (by decide) (by decide) rfl (fun hc265 => ?_) (fun hc265 => absurd hc265 (by decide))
        refine own_aload C X at_270 rfl rfl (pc' := 272) rfl ?_
        refine own_alenI C X at_272 (n := 0) A_out rfl (pc' := 273) rfl ?_
        refine own_if_le C X at_273 (pcT := 306) (pc' := 276) (by decide) (by decide) rfl (fun hc273 => ?_) (fun hc273 => absurd hc273 (by decide))
        refine own_iconst C X at_306 (v := 1) (by decide) (pc' := 307) rfl ?_
        exact own_ireturn_zW C X hS hSk at_307 (Nat.le_of_ble_eq_true rfl) (Nat.le_of_ble_eq_true rfl) (rfl)
    · refine own_istore C X at_87 (L' := #[.val (.int i0), .val (.int i1), .val (.int i2), .val (.int i3), .val (.ref da), .val (.int (1 : Int32)), .val (.int (0 : Int32)), .val (.int (5 : Int32)), .val (.ref rd), .val (.int (3 : Int32)), .unset, .unset, .unset]) rfl (pc' := 89) rfl ?_
      refine own_aload C X at_89 rfl rfl (pc' := 91) rfl ?_
      refine own_iconst C X at_91 (v := 0) (by decide) (pc' := 92) rfl ?_
      refine own_iload C X at_92 rfl (pc' := 94) rfl ?_
      refine own_i2b C X at_94 (z := 3) (by decide) (pc' := 95) rfl ?_
      refine own_bastore C X at_95 A_da (by decide) (i := 0) (Nat.le_of_ble_eq_true rfl) (v := 3) (by decide) ge_da (pc' := 96) rfl ?_
      intro T h X K_ A_da_
      have A_da : own_IA Z h da .byte [(3 : Int32), t1, t2, t3, t4] := A_da_
      have E_da := E_da.keep K_
      have O_rd := O_rd.keep K_ (ninS (Ne.symm ne_da_rd) nin0)
      have hSk := Nat.le_trans hSk K_.1
      refine own_aload C X at_96 rfl rfl (pc' := 98) rfl ?_
      refine own_iconst C X at_98 (v := 1) (by decide) (pc' := 99) rfl ?_
      refine own_ldcS C X hS hSk at_99 (hw _ (List.mem_of_getElem? (i := 68) rfl)) (own_strW hw) (n := 1024) (by decide) (by decide) (Nat.le_of_ble_eq_true rfl) (Nat.le_of_ble_eq_true rfl) (pc' := 101) rfl ?_
      intro T h sv vm k_ C X K_ hS hSk_
      have A_da := A_da.keep K_ nin0
      have E_da := E_da.keep K_
      have O_rd := O_rd.keep K_ nin0
      have hSk := Nat.le_trans hSk K_.1
      have hSk := hSk_
      have hbg := own_big C X
      refine own_callV C X at_101 (own_m_vec l Z a0 hw rd sv _ n0 (own_big C X) da [(3 : Int32), t1, t2, t3, t4] (5 : Int32) (3 : Int32) (3 : Int32) rfl (by decide) (by decide) O_rd A_da (Ne.symm ne_da_rd) ge_rd (4 : Int32) (by decide) (by decide)) O_rd.1 (hw _ (List.mem_of_getElem? (i := 69) rfl)) (hw _ (List.mem_of_getElem? (i := 70) rfl)) (hw _ (List.mem_of_getElem? (i := 72) rfl)) (hw _ (List.mem_of_getElem? (i := 71) rfl)) (hw _ (List.mem_of_getElem? (i := 3) rfl)) (hw _ (List.mem_of_getElem? (i := 73) rfl)) (by decide) own_pd_251861 rfl rfl (Nat.le_of_ble_eq_true rfl) (Nat.le_of_ble_eq_true rfl) (Nat.le_of_ble_eq_true rfl) (Nat.le_of_ble_eq_true rfl) (av := [(.int (1 : Int32)), (.ref sv)]) (S := []) rfl (pc' := 104) rfl ?_
      intro T h v X hQ
      obtain ⟨inn, rfl, gq_inn, K_, O_n, O_inn⟩ := hQ
      have ne_da_inn : da ≠ inn := Nat.ne_of_lt (Nat.lt_of_lt_of_le A_da.lt gq_inn)
      have ne_rd_inn : rd ≠ inn := Nat.ne_of_lt (Nat.lt_of_lt_of_le O_rd.lt gq_inn)
      have ge_inn : n0 ≤ inn := Nat.le_trans hbg gq_inn
      have O_rd := O_n
      have A_da := A_da.keep K_ (ninS ne_da_rd nin0)
      have E_da := E_da.keep K_
      have hSk := Nat.le_trans hSk K_.1
      show own_Go p e below n0 (own_FinW room_1 s (fun v h => v = some (.int 1))) (T.setTop (mkF m 104 #[.val (.int i0), .val (.int i1), .val (.int i2), .val (.int i3), .val (.ref da), .val (.int (1 : Int32)), .val (.int (0 : Int32)), .val (.int (5 : Int32)), .val (.ref rd), .val (.int (3 : Int32)), .unset, .unset, .unset] [(.ref inn)]))
      refine own_astore C X at_104 rfl (L' := #[.val (.int i0), .val (.int i1), .val (.int i2), .val (.int i3), .val (.ref da), .val (.int (1 : Int32)), .val (.int (0 : Int32)), .val (.int (5 : Int32)), .val (.ref inn), .val (.int (3 : Int32)), .unset, .unset, .unset]) rfl (pc' := 106) rfl ?_
      refine own_iconst C X at_106 (v := 1) (by decide) (pc' := 107) rfl ?_
      refine own_istore C X at_107 (L' := #[.val (.int i0), .val (.int i1), .val (.int i2), .val (.int i3), .val (.ref da), .val (.int (1 : Int32)), .val (.int (1 : Int32)), .val (.int (5 : Int32)), .val (.ref inn), .val (.int (3 : Int32)), .unset, .unset, .unset]) rfl (pc' := 109) rfl ?_
      refine own_iconst C X at_109 (v := 1) (by decide) (pc' := 110) rfl ?_
      refine own_iload C X at_110 rfl (pc' := 112) rfl ?_
      refine own_iadd C X at_112 (z := 4) (by decide) (pc' := 113) rfl ?_
      refine own_istore C X at_113 (L' := #[.val (.int i0), .val (.int i1), .val (.int i2), .val (.int i3), .val (.ref da), .val (.int (1 : Int32)), .val (.int (1 : Int32)), .val (.int (4 : Int32)), .val (.ref inn), .val (.int (3 : Int32)), .unset, .unset, .unset]) rfl (pc' := 115) rfl ?_
      refine own_iloadN C X at_115 rfl (pc' := 116) rfl ?_
      refine own_ldcI C X at_116 (hw _ (List.mem_of_getElem? (i := 19) rfl)) (pc' := 118) rfl ?_
      refine own_iand C X at_118 rfl (pc' := 119) rfl ?_
      refine own_iload C X at_119 rfl (pc' := 121) rfl ?_
      refine own_iload C X at_121 rfl (pc' := 123) rfl ?_
      refine own_isub C X at_123 (z := 3) (by decide) (pc' := 124) rfl ?_
      refine own_iconst C X at_124 (v := 1) (by decide) (pc' := 125) rfl ?_
      refine own_iadd C X at_125 (z := 4) (by decide) (pc' := 126) rfl ?_
      obtain ⟨kk, e_kk⟩ : ∃ z : Int32, ((i3 &&& (2147483647 : Int32)) % (4 : Int32)) = z := ⟨_, rfl⟩
      refine own_irem C X at_126 (by decide) e_kk (pc' := 127) rfl ?_
      rcases own_md4 _ kk e_kk with rfl | rfl | rfl | rfl
      · refine own_istore C X at_127 (L' := #[.val (.int i0), .val (.int i1), .val (.int i2), .val (.int i3), .val (.ref da), .val (.int (1 : Int32)), .val (.int (1 : Int32)), .val (.int (4 : Int32)), .val (.ref inn), .val (.int (0 : Int32)), .unset, .unset, .unset]) rfl (pc' := 129) rfl ?_
        refine own_aload C X at_129 rfl rfl (pc' := 131) rfl ?_
        refine own_iload C X at_131 rfl (pc' := 133) rfl ?_
        refine own_ldcS C X hS hSk at_133 (hw _ (List.mem_of_getElem? (i := 20) rfl)) (own_strW hw) (n := 1024) (by decide) (by decide) (Nat.le_of_ble_eq_true rfl) (Nat.le_of_ble_eq_true rfl) (pc' := 135) rfl ?_
        intro T h ss vm k_ C X K_ hS hSk_
        have A_da := A_da.keep K_ nin0
        have E_da := E_da.keep K_
        have O_rd := O_rd.keep K_ nin0
        have O_inn := O_inn.keep K_ nin0
        have hSk := Nat.le_trans hSk K_.1
        have hSk := hSk_
        refine own_callV C X at_135 (own_m_skip l Z a0 hw inn (0 : Int32) ss _ n0 (own_big C X) da (1 : Int32) (4 : Int32) (1 : Int32) (by decide) (by decide) O_inn ge_inn) O_inn.1 (hw _ (List.mem_of_getElem? (i := 27) rfl)) (hw _ (List.mem_of_getElem? (i := 28) rfl)) (hw _ (List.mem_of_getElem? (i := 30) rfl)) (hw _ (List.mem_of_getElem? (i := 29) rfl)) (hw _ (List.mem_of_getElem? (i := 3) rfl)) (hw _ (List.mem_of_getElem? (i := 31) rfl)) (by decide) own_pd_34082 rfl rfl (Nat.le_of_ble_eq_true rfl) (Nat.le_of_ble_eq_true rfl) (Nat.le_of_ble_eq_true rfl) (Nat.le_of_ble_eq_true rfl) (av := [(.int (0 : Int32)), (.ref ss)]) (S := []) rfl (pc' := 138) rfl ?_
        intro T h v X hQ
        obtain ⟨rfl, K_, O_inn⟩ := hQ
        have A_da := A_da.keep K_ (ninS ne_da_inn nin0)
        have E_da := E_da.keep K_
        have O_rd := O_rd.keep K_ (ninS ne_rd_inn nin0)
        have hSk := Nat.le_trans hSk K_.1
        show own_Go p e below n0 (own_FinW room_1 s (fun v h => v = some (.int 1))) (T.setTop (mkF m 138 #[.val (.int i0), .val (.int i1), .val (.int i2), .val (.int i3), .val (.ref da), .val (.int (1 : Int32)), .val (.int (1 : Int32)), .val (.int (4 : Int32)), .val (.ref inn), .val (.int (0 : Int32)), .unset, .unset, .unset] []))
        refine own_iload C X at_138 rfl (pc' := 140) rfl ?_
        refine own_iload C X at_140 rfl (pc' := 142) rfl ?_
        refine own_iadd C X at_142 (z := 1) (by decide) (pc' := 143) rfl ?_
        refine own_istore C X at_143 (L' := #[.val (.int i0), .val (.int i1), .val (.int i2), .val (.int i3), .val (.ref da), .val (.int (1 : Int32)), .val (.int (1 : Int32)), .val (.int (4 : Int32)), .val (.ref inn), .val (.int (0 : Int32)), .val (.int (1 : Int32)), .unset, .unset]) rfl (pc' := 145) rfl ?_
        refine own_aload C X at_145 rfl rfl (pc' := 147) rfl ?_
        have hbg := own_big C X
        refine own_callV C X at_147 (own_m_rest14 l Z a0 hw inn _ n0 hbg da (3 : Int32) t1 t2 t3 t4 A_da E_da O_inn (Ne.symm ne_da_inn) ge_inn) O_inn.1 (hw _ (List.mem_of_getElem? (i := 36) rfl)) (hw _ (List.mem_of_getElem? (i := 37) rfl)) (hw _ (List.mem_of_getElem? (i := 39) rfl)) (hw _ (List.mem_of_getElem? (i := 38) rfl)) (hw _ (List.mem_of_getElem? (i := 3) rfl)) (hw _ (List.mem_of_getElem? (i := 40) rfl)) (by decide) own_pd_2087 rfl rfl (Nat.le_of_ble_eq_true rfl) (Nat.le_of_ble_eq_true rfl) (Nat.le_of_ble_eq_true rfl) (Nat.le_of_ble_eq_true rfl) (av := []) (S := []) rfl (pc' := 150) rfl ?_
        intro T h v X hQ
        obtain ⟨out, rfl, gq_out, K_, O_n, A_out⟩ := hQ
        have ne_da_out : da ≠ out := Nat.ne_of_lt (Nat.lt_of_lt_of_le A_da.lt gq_out)
        have ne_rd_out : rd ≠ out := Nat.ne_of_lt (Nat.lt_of_lt_of_le O_rd.lt gq_out)
        have ne_inn_out : inn ≠ out := Nat.ne_of_lt (Nat.lt_of_lt_of_le O_inn.lt gq_out)
        have ge_out : n0 ≤ out := Nat.le_trans hbg gq_out
        have O_inn := O_n
        have A_da := A_da.keep K_ (ninS ne_da_inn nin0)
        have E_da := E_da.keep K_
        have O_rd := O_rd.keep K_ (ninS ne_rd_inn nin0)
        have hSk := Nat.le_trans hSk K_.1
        show own_Go p e below n0 (own_FinW room_1 s (fun v h => v = some (.int 1))) (T.setTop (mkF m 150 #[.val (.int i0), .val (.int i1), .val (.int i2), .val (.int i3), .val (.ref da), .val (.int (1 : Int32)), .val (.int (1 : Int32)), .val (.int (4 : Int32)), .val (.ref inn), .val (.int (0 : Int32)), .val (.int (1 : Int32)), .unset, .unset] [(.ref out)]))
        refine own_astore C X at_150 rfl (L' := #[.val (.int i0), .val (.int i1), .val (.int i2), .val (.int i3), .val (.ref da), .val (.int (1 : Int32)), .val (.int (1 : Int32)), .val (.int (4 : Int32)), .val (.ref inn), .val (.int (0 : Int32)), .val (.int (1 : Int32)), .val (.ref out), .unset]) rfl (pc' := 152) rfl ?_
        refine own_aload C X at_152 rfl rfl (pc' := 154) rfl ?_
        refine own_aload C X at_154 rfl rfl (pc' := 156) rfl ?_
        refine own_acmp_ne C X at_156 rfl rfl (pcT := 161) (pc' := 159) (by decide) (by decide) rfl (fun hc156 => ?_) (fun hc156 => absurd hc156 (fun q => (Ne.symm ne_da_out) (Value.ref.inj q)))
        refine own_aload C X at_161 rfl rfl (pc' := 163) rfl ?_
        refine own_alenI C X at_163 (n := 3) A_out rfl (pc' := 164) rfl ?_
        refine own_iload C X at_164 rfl (pc' := 166) rfl ?_
        refine own_iload C X at_166 rfl (pc' := 168) rfl ?_
        refine own_isub C X at_168 (z := 3) (by decide) (pc' := 169) rfl ?_
        refine own_icmp_eq C X at_169 (pcT := 174) (pc' := 172) (by decide) (by decide) rfl (fun hc169 => ?_) (fun hc169 => absurd hc169 (by decide))
        refine own_aload C X at_174 rfl rfl (pc' := 176) rfl ?_
        refine own_aload C X at_176 rfl rfl (pc' := 178) rfl ?_
        refine own_iload C X at_178 rfl (pc' := 180) rfl ?_
        refine own_iconst C X at_180 (v := 0) (by decide) (pc' := 181) rfl ?_
        refine own_callS C X at_181 (own_m_sameY l Z a0 hw out da (1 : Int32) (0 : Int32) _ n0 (own_big C X) [t1, t2, t3] [(3 : Int32), t1, t2, t3, t4] 3 rfl A_out A_da (by decide) 0 1 t1 (by decide) (by decide) rfl rfl) (hw _ (List.mem_of_getElem? (i := 59) rfl)) (hw _ (List.mem_of_getElem? (i := 60) rfl)) (hw _ (List.mem_of_getElem? (i := 61) rfl)) (hw _ (List.mem_of_getElem? (i := 62) rfl)) (by decide) own_pd_6987 rfl rfl (Nat.le_of_ble_eq_true rfl) (Nat.le_of_ble_eq_true rfl) (Nat.le_of_ble_eq_true rfl) (Nat.le_of_ble_eq_true rfl) (av := [(.ref out), (.ref da), (.int (1 : Int32)), (.int (0 : Int32))]) (S := []) rfl (pc' := 184) rfl ?_
        intro T h v X hQ
        obtain ⟨rfl, rfl⟩ := hQ
        show own_Go p e below n0 (own_FinW room_1 s (fun v h => v = some (.int 1))) (T.setTop (mkF m 184 #[.val (.int i0), .val (.int i1), .val (.int i2), .val (.int i3), .val (.ref da), .val (.int (1 : Int32)), .val (.int (1 : Int32)), .val (.int (4 : Int32)), .val (.ref inn), .val (.int (0 : Int32)), .val (.int (1 : Int32)), .val (.ref out), .unset] [(.int (1 : Int32))]))
        refine own_if_ne C X at_184 (pcT := 189) (pc' := 187) (by decide) (by decide) rfl (fun hc184 => ?_) (fun hc184 => absurd hc184 (by decide))
        refine own_aload C X at_189 rfl rfl (pc' := 191) rfl ?_
        refine own_aload C X at_191 rfl rfl (pc' := 193) rfl ?_
        refine own_iload C X at_193 rfl (pc' := 195) rfl ?_
        refine own_iconst C X at_195 (v := 1) (by decide) (pc' := 196) rfl ?_
        refine own_callS C X at_196 (own_m_sameY l Z a0 hw out da (1 : Int32) (1 : Int32) _ n0 (own_big C X) [t1, t2, t3] [(3 : Int32), t1, t2, t3, t4] 3 rfl A_out A_da (by decide) 1 2 t2 (by decide) (by decide) rfl rfl) (hw _ (List.mem_of_getElem? (i := 59) rfl)) (hw _ (List.mem_of_getElem? (i := 60) rfl)) (hw _ (List.mem_of_getElem? (i := 61) rfl)) (hw _ (List.mem_of_getElem? (i := 62) rfl)) (by decide) own_pd_6987 rfl rfl (Nat.le_of_ble_eq_true rfl) (Nat.le_of_ble_eq_true rfl) (Nat.le_of_ble_eq_true rfl) (Nat.le_of_ble_eq_true rfl) (av := [(.ref out), (.ref da), (.int (1 : Int32)), (.int (1 : Int32))]) (S := []) rfl (pc' := 199) rfl ?_
        intro T h v X hQ
        obtain ⟨rfl, rfl⟩ := hQ
        show own_Go p e below n0 (own_FinW room_1 s (fun v h => v = some (.int 1))) (T.setTop (mkF m 199 #[.val (.int i0), .val (.int i1), .val (.int i2), .val (.int i3), .val (.ref da), .val (.int (1 : Int32)), .val (.int (1 : Int32)), .val (.int (4 : Int32)), .val (.ref inn), .val (.int (0 : Int32)), .val (.int (1 : Int32)), .val (.ref out), .unset] [(.int (1 : Int32))]))
        refine own_if_ne C X at_199 (pcT := 204) (pc' := 202) (by decide) (by decide) rfl (fun hc199 => ?_) (fun hc199 => absurd hc199 (by decide))
        refine own_aload C X at_204 rfl rfl (pc' := 206) rfl ?_
        refine own_aload C X at_206 rfl rfl (pc' := 208) rfl ?_
        refine own_iload C X at_208 rfl (pc' := 210) rfl ?_
        refine own_iconst C X at_210 (v := 2) (by decide) (pc' := 211) rfl ?_
        refine own_callS C X at_211 (own_m_sameY l Z a0 hw out da (1 : Int32) (2 : Int32) _ n0 (own_big C X) [t1, t2, t3] [(3 : Int32), t1, t2, t3, t4] 3 rfl A_out A_da (by decide) 2 3 t3 (by decide) (by decide) rfl rfl) (hw _ (List.mem_of_getElem? (i := 59) rfl)) (hw _ (List.mem_of_getElem? (i := 60) rfl)) (hw _ (List.mem_of_getElem? (i := 61) rfl)) (hw _ (List.mem_of_getElem? (i := 62) rfl)) (by decide) own_pd_6987 rfl rfl (Nat.le_of_ble_eq_true rfl) (Nat.le_of_ble_eq_true rfl) (Nat.le_of_ble_eq_true rfl) (Nat.le_of_ble_eq_true rfl) (av := [(.ref out), (.ref da), (.int (1 : Int32)), (.int (2 : Int32))]) (S := []) rfl (pc' := 214) rfl ?_
        intro T h v X hQ
        obtain ⟨rfl, rfl⟩ := hQ
        show own_Go p e below n0 (own_FinW room_1 s (fun v h => v = some (.int 1))) (T.setTop (mkF m 214 #[.val (.int i0), .val (.int i1), .val (.int i2), .val (.int i3), .val (.ref da), .val (.int (1 : Int32)), .val (.int (1 : Int32)), .val (.int (4 : Int32)), .val (.ref inn), .val (.int (0 : Int32)), .val (.int (1 : Int32)), .val (.ref out), .unset] [(.int (1 : Int32))]))
        refine own_if_ne C X at_214 (pcT := 219) (pc' := 217) (by decide) (by decide) rfl (fun hc214 => ?_) (fun hc214 => absurd hc214 (by decide))
        refine own_aload C X at_219 rfl rfl (pc' := 221) rfl ?_
        refine own_aload C X at_221 rfl rfl (pc' := 223) rfl ?_
        refine own_iload C X at_223 rfl (pc' := 225) rfl ?_
        refine own_iconst C X at_225 (v := 3) (by decide) (pc' := 226) rfl ?_
        refine own_callS C X at_226 (own_m_sameN l Z a0 hw out da (1 : Int32) (3 : Int32) _ n0 (own_big C X) [t1, t2, t3] [(3 : Int32), t1, t2, t3, t4] 3 rfl A_out A_da (by decide)) (hw _ (List.mem_of_getElem? (i := 59) rfl)) (hw _ (List.mem_of_getElem? (i := 60) rfl)) (hw _ (List.mem_of_getElem? (i := 61) rfl)) (hw _ (List.mem_of_getElem? (i := 62) rfl)) (by decide) own_pd_6987 rfl rfl (Nat.le_of_ble_eq_true rfl) (Nat.le_of_ble_eq_true rfl) (Nat.le_of_ble_eq_true rfl) (Nat.le_of_ble_eq_true rfl) (av := [(.ref out), (.ref da), (.int (1 : Int32)), (.int (3 : Int32))]) (S := []) rfl (pc' := 229) rfl ?_
        intro T h v X hQ
        obtain ⟨rfl, rfl⟩ := hQ
        show own_Go p e below n0 (own_FinW room_1 s (fun v h => v = some (.int 1))) (T.setTop (mkF m 229 #[.val (.int i0), .val (.int i1), .val (.int i2), .val (.int i3), .val (.ref da), .val (.int (1 : Int32)), .val (.int (1 : Int32)), .val (.int (4 : Int32)), .val (.ref inn), .val (.int (0 : Int32)), .val (.int (1 : Int32)), .val (.ref out), .unset] [(.int (1 : Int32))]))
        refine own_if_ne C X at_229 (pcT := 234) (pc' := 232) (by decide) (by decide) rfl (fun hc229 => ?_) (fun hc229 => absurd hc229 (by decide))
        refine own_aload C X at_234 rfl rfl (pc' := 236) rfl ?_
        refine own_aload C X at_236 rfl rfl (pc' := 238) rfl ?_
        refine own_iload C X at_238 rfl (pc' := 240) rfl ?_
        refine own_iconst C X at_240 (v := 4) (by decide) (pc' := 241) rfl ?_
        refine own_callS C X at_241 (own_m_sameN l Z a0 hw out da (1 : Int32) (4 : Int32) _ n0 (own_big C X) [t1, t2, t3] [(3 : Int32), t1, t2, t3, t4] 3 rfl A_out A_da (by decide)) (hw _ (List.mem_of_getElem? (i := 59) rfl)) (hw _ (List.mem_of_getElem? (i := 60) rfl)) (hw _ (List.mem_of_getElem? (i := 61) rfl)) (hw _ (List.mem_of_getElem? (i := 62) rfl)) (by decide) own_pd_6987 rfl rfl (Nat.le_of_ble_eq_true rfl) (Nat.le_of_ble_eq_true rfl) (Nat.le_of_ble_eq_true rfl) (Nat.le_of_ble_eq_true rfl) (av := [(.ref out), (.ref da), (.int (1 : Int32)), (.int (4 : Int32))]) (S := []) rfl (pc' := 244) rfl ?_
        intro T h v X hQ
        obtain ⟨rfl, rfl⟩ := hQ
        show own_Go p e below n0 (own_FinW room_1 s (fun v h => v = some (.int 1))) (T.setTop (mkF m 244 #[.val (.int i0), .val (.int i1), .val (.int i2), .val (.int i3), .val (.ref da), .val (.int (1 : Int32)), .val (.int (1 : Int32)), .val (.int (4 : Int32)), .val (.ref inn), .val (.int (0 : Int32)), .val (.int (1 : Int32)), .val (.ref out), .unset] [(.int (1 : Int32))]))
        refine own_if_ne C X at_244 (pcT := 249) (pc' := 247) (by decide) (by decide) rfl (fun hc244 => ?_) (fun hc244 => absurd hc244 (by decide))
        refine own_aload C X at_249 rfl rfl (pc' := 251) rfl ?_
        refine own_callV C X at_251 (own_m_hr l Z a0 hw inn _ n0 (own_big C X) da (4 : Int32) (4 : Int32) O_inn) O_inn.1 (hw _ (List.mem_of_getElem? (i := 63) rfl)) (hw _ (List.mem_of_getElem? (i := 64) rfl)) (hw _ (List.mem_of_getElem? (i := 66) rfl)) (hw _ (List.mem_of_getElem? (i := 65) rfl)) (hw _ (List.mem_of_getElem? (i := 3) rfl)) (hw _ (List.mem_of_getElem? (i := 67) rfl)) (by decide) own_pd_1418 rfl rfl (Nat.le_of_ble_eq_true rfl) (Nat.le_of_ble_eq_true rfl) (Nat.le_of_ble_eq_true rfl) (Nat.le_of_ble_eq_true rfl) (av := []) (S := []) rfl (pc' := 254) rfl ?_
        intro T h v X hQ
        obtain ⟨rfl, rfl⟩ := hQ
        show own_Go p e below n0 (own_FinW room_1 s (fun v h => v = some (.int 1))) (T.setTop (mkF m 254 #[.val (.int i0), .val (.int i1), .val (.int i2), .val (.int i3), .val (.ref da), .val (.int (1 : Int32)), .val (.int (1 : Int32)), .val (.int (4 : Int32)), .val (.ref inn), .val (.int (0 : Int32)), .val (.int (1 : Int32)), .val (.ref out), .unset] [(.int (own_hr (4 : Int32) (4 : Int32)))]))
        rw [show own_hr (4 : Int32) (4 : Int32) = 0 from by decide]
        show own_Go p e below n0 (own_FinW room_1 s (fun v h => v = some (.int 1))) (T.setTop (mkF m 254 #[.val (.int i0), .val (.int i1), .val (.int i2), .val (.int i3), .val (.ref da), .val (.int (1 : Int32)), .val (.int (1 : Int32)), .val (.int (4 : Int32)), .val (.ref inn), .val (.int (0 : Int32)), .val (.int (1 : Int32)), .val (.ref out), .unset] [(.int (0 : Int32))]))
        refine own_if_eq C X at_254 (pcT := 259) (pc' := 257) (by decide) (by decide) rfl (fun hc254 => ?_) (fun hc254 => absurd hc254 (by decide))
        refine own_aload C X at_259 rfl rfl (pc' := 261) rfl ?_
        have hbg := own_big C X
        refine own_callV C X at_261 (own_m_rest44 l Z a0 hw inn _ n0 hbg da (3 : Int32) t1 t2 t3 t4 A_da E_da O_inn (Ne.symm ne_da_inn) ge_inn) O_inn.1 (hw _ (List.mem_of_getElem? (i := 36) rfl)) (hw _ (List.mem_of_getElem? (i := 37) rfl)) (hw _ (List.mem_of_getElem? (i := 39) rfl)) (hw _ (List.mem_of_getElem? (i := 38) rfl)) (hw _ (List.mem_of_getElem? (i := 3) rfl)) (hw _ (List.mem_of_getElem? (i := 40) rfl)) (by decide) own_pd_2087 rfl rfl (Nat.le_of_ble_eq_true rfl) (Nat.le_of_ble_eq_true rfl) (Nat.le_of_ble_eq_true rfl) (Nat.le_of_ble_eq_true rfl) (av := []) (S := []) rfl (pc' := 264) rfl ?_
        intro T h v X hQ
        obtain ⟨ou2, rfl, gq_ou2, K_, O_n, A_ou2⟩ := hQ
        have ne_da_ou2 : da ≠ ou2 := Nat.ne_of_lt (Nat.lt_of_lt_of_le A_da.lt gq_ou2)
        have ne_rd_ou2 : rd ≠ ou2 := Nat.ne_of_lt (Nat.lt_of_lt_of_le O_rd.lt gq_ou2)
        have ne_inn_ou2 : inn ≠ ou2 := Nat.ne_of_lt (Nat.lt_of_lt_of_le O_inn.lt gq_ou2)
        have ne_out_ou2 : out ≠ ou2 := Nat.ne_of_lt (Nat.lt_of_lt_of_le A_out.lt gq_ou2)
        have ge_ou2 : n0 ≤ ou2 := Nat.le_trans hbg gq_ou2
        have O_inn := O_n
        have A_da := A_da.keep K_ (ninS ne_da_inn nin0)
        have E_da := E_da.keep K_
        have O_rd := O_rd.keep K_ (ninS ne_rd_inn nin0)
        have A_out := A_out.keep K_ (ninS (Ne.symm ne_inn_out) nin0)
        have hSk := Nat.le_trans hSk K_.1
        show own_Go p e below n0 (own_FinW room_1 s (fun v h => v = some (.int 1))) (T.setTop (mkF m 264 #[.val (.int i0), .val (.int i1), .val (.int i2), .val (.int i3), .val (.ref da), .val (.int (1 : Int32)), .val (.int (1 : Int32)), .val (.int (4 : Int32)), .val (.ref inn), .val (.int (0 : Int32)), .val (.int (1 : Int32)), .val (.ref out), .unset] [(.ref ou2)]))
        refine own_alenI C X at_264 (n := 0) A_ou2 rfl (pc' := 265) rfl ?_
        refine own_if_eq C X at_265 (pcT := 270) (pc' := 268) (by decide) (by decide) rfl (fun hc265 => ?_) (fun hc265 => absurd hc265 (by decide))
        refine own_aload C X at_270 rfl rfl (pc' := 272) rfl ?_
        refine own_alenI C X at_272 (n := 3) A_out rfl (pc' := 273) rfl ?_
        refine own_if_le C X at_273 (pcT := 306) (pc' := 276) (by decide) (by decide) rfl (fun hc273 => absurd hc273 (by decide)) (fun hc273 => ?_)
        refine own_aload C X at_276 rfl rfl (pc' := 278) rfl ?_
        refine own_iload C X at_278 rfl (pc' := 280) rfl ?_
        refine own_baload C X at_280 A_da (by decide) (i := 1) rfl (pc' := 281) rfl ?_
        refine own_istore C X at_281 (L' := #[.val (.int i0), .val (.int i1), .val (.int i2), .val (.int i3), .val (.ref da), .val (.int (1 : Int32)), .val (.int (1 : Int32)), .val (.int (4 : Int32)), .val (.ref inn), .val (.int (0 : Int32)), .val (.int (1 : Int32)), .val (.ref out), .val (.int t1)]) rfl (pc' := 283) rfl ?_
        refine own_aload C X at_283 rfl rfl (pc' := 285) rfl ?_
        refine own_iconst C X at_285 (v := 0) (by decide) (pc' := 286) rfl ?_
        refine own_aload C X at_286 rfl rfl (pc' := 288) rfl ?_
        refine own_iconst C X at_288 (v := 0) (by decide) (pc' := 289) rfl ?_
        refine own_baload C X at_289 A_out (by decide) (i := 0) rfl (pc' := 290) rfl ?_
        refine own_iconst C X at_290 (v := 1) (by decide) (pc' := 291) rfl ?_
        refine own_ixor C X at_291 rfl (pc' := 292) rfl ?_
        obtain ⟨tx, e_tx⟩ : ∃ z : Int32, (t1 ^^^ (1 : Int32)).toInt8.toInt32 = z := ⟨_, rfl⟩
        refine own_i2b C X at_292 e_tx (pc' := 293) rfl ?_
        refine own_bastore C X at_293 A_out (by decide) (i := 0) (Nat.le_of_ble_eq_true rfl) (own_i2bn e_tx) ge_out (pc' := 294) rfl ?_
        intro T h X K_ A_out_
        have A_out : own_IA Z h out .byte [tx, t2, t3] := A_out_
        have A_da := A_da.keep K_ (ninS ne_da_out nin0)
        have E_da := E_da.keep K_
        have O_rd := O_rd.keep K_ (ninS ne_rd_out nin0)
        have O_inn := O_inn.keep K_ (ninS ne_inn_out nin0)
        have A_ou2 := A_ou2.keep K_ (ninS (Ne.symm ne_out_ou2) nin0)
        have hSk := Nat.le_trans hSk K_.1
        refine own_aload C X at_294 rfl rfl (pc' := 296) rfl ?_
        refine own_iload C X at_296 rfl (pc' := 298) rfl ?_
        refine own_baload C X at_298 A_da (by decide) (i := 1) rfl (pc' := 299) rfl ?_
        refine own_iload C X at_299 rfl (pc' := 301) rfl ?_
        refine own_icmp_eq C X at_301 (pcT := 306) (pc' := 304) (by decide) (by decide) rfl (fun hc301 => ?_) (fun hc301 => absurd hc301 (not_not_intro rfl))
        refine own_iconst C X at_306 (v := 1) (by decide) (pc' := 307) rfl ?_
        exact own_ireturn_zW C X hS hSk at_307 (Nat.le_of_ble_eq_true rfl) (Nat.le_of_ble_eq_true rfl) (rfl)
      · refine own_istore C X at_127 (L' := #[.val (.int i0), .val (.int i1), .val (.int i2), .val (.int i3), .val (.ref da), .val (.int (1 : Int32)), .val (.int (1 : Int32)), .val (.int (4 : Int32)), .val (.ref inn), .val (.int (1 : Int32)), .unset, .unset, .unset]) rfl (pc' := 129) rfl ?_
        refine own_aload C X at_129 rfl rfl (pc' := 131) rfl ?_
        refine own_iload C X at_131 rfl (pc' := 133) rfl ?_
        refine own_ldcS C X hS hSk at_133 (hw _ (List.mem_of_getElem? (i := 20) rfl)) (own_strW hw) (n := 1024) (by decide) (by decide) (Nat.le_of_ble_eq_true rfl) (Nat.le_of_ble_eq_true rfl) (pc' := 135) rfl ?_
        intro T h ss vm k_ C X K_ hS hSk_
        have A_da := A_da.keep K_ nin0
        have E_da := E_da.keep K_
        have O_rd := O_rd.keep K_ nin0
        have O_inn := O_inn.keep K_ nin0
        have hSk := Nat.le_trans hSk K_.1
        have hSk := hSk_
        refine own_callV C X at_135 (own_m_skip l Z a0 hw inn (1 : Int32) ss _ n0 (own_big C X) da (1 : Int32) (4 : Int32) (2 : Int32) (by decide) (by decide) O_inn ge_inn) O_inn.1 (hw _ (List.mem_of_getElem? (i := 27) rfl)) (hw _ (List.mem_of_getElem? (i := 28) rfl)) (hw _ (List.mem_of_getElem? (i := 30) rfl)) (hw _ (List.mem_of_getElem? (i := 29) rfl)) (hw _ (List.mem_of_getElem? (i := 3) rfl)) (hw _ (List.mem_of_getElem? (i := 31) rfl)) (by decide) own_pd_34082 rfl rfl (Nat.le_of_ble_eq_true rfl) (Nat.le_of_ble_eq_true rfl) (Nat.le_of_ble_eq_true rfl) (Nat.le_of_ble_eq_true rfl) (av := [(.int (1 : Int32)), (.ref ss)]) (S := []) rfl (pc' := 138) rfl ?_
        intro T h v X hQ
        obtain ⟨rfl, K_, O_inn⟩ := hQ
        have A_da := A_da.keep K_ (ninS ne_da_inn nin0)
        have E_da := E_da.keep K_
        have O_rd := O_rd.keep K_ (ninS ne_rd_inn nin0)
        have hSk := Nat.le_trans hSk K_.1
        show own_Go p e below n0 (own_FinW room_1 s (fun v h => v = some (.int 1))) (T.setTop (mkF m 138 #[.val (.int i0), .val (.int i1), .val (.int i2), .val (.int i3), .val (.ref da), .val (.int (1 : Int32)), .val (.int (1 : Int32)), .val (.int (4 : Int32)), .val (.ref inn), .val (.int (1 : Int32)), .unset, .unset, .unset] []))
        refine own_iload C X at_138 rfl (pc' := 140) rfl ?_
        refine own_iload C X at_140 rfl (pc' := 142) rfl ?_
        refine own_iadd C X at_142 (z := 2) (by decide) (pc' := 143) rfl ?_
        refine own_istore C X at_143 (L' := #[.val (.int i0), .val (.int i1), .val (.int i2), .val (.int i3), .val (.ref da), .val (.int (1 : Int32)), .val (.int (1 : Int32)), .val (.int (4 : Int32)), .val (.ref inn), .val (.int (1 : Int32)), .val (.int (2 : Int32)), .unset, .unset]) rfl (pc' := 145) rfl ?_
        refine own_aload C X at_145 rfl rfl (pc' := 147) rfl ?_
        have hbg := own_big C X
        refine own_callV C X at_147 (own_m_rest24 l Z a0 hw inn _ n0 hbg da (3 : Int32) t1 t2 t3 t4 A_da E_da O_inn (Ne.symm ne_da_inn) ge_inn) O_inn.1 (hw _ (List.mem_of_getElem? (i := 36) rfl)) (hw _ (List.mem_of_getElem? (i := 37) rfl)) (hw _ (List.mem_of_getElem? (i := 39) rfl)) (hw _ (List.mem_of_getElem? (i := 38) rfl)) (hw _ (List.mem_of_getElem? (i := 3) rfl)) (hw _ (List.mem_of_getElem? (i := 40) rfl)) (by decide) own_pd_2087 rfl rfl (Nat.le_of_ble_eq_true rfl) (Nat.le_of_ble_eq_true rfl) (Nat.le_of_ble_eq_true rfl) (Nat.le_of_ble_eq_true rfl) (av := []) (S := []) rfl (pc' := 150) rfl ?_
        intro T h v X hQ
        obtain ⟨out, rfl, gq_out, K_, O_n, A_out⟩ := hQ
        have ne_da_out : da ≠ out := Nat.ne_of_lt (Nat.lt_of_lt_of_le A_da.lt gq_out)
        have ne_rd_out : rd ≠ out := Nat.ne_of_lt (Nat.lt_of_lt_of_le O_rd.lt gq_out)
        have ne_inn_out : inn ≠ out := Nat.ne_of_lt (Nat.lt_of_lt_of_le O_inn.lt gq_out)
        have ge_out : n0 ≤ out := Nat.le_trans hbg gq_out
        have O_inn := O_n
        have A_da := A_da.keep K_ (ninS ne_da_inn nin0)
        have E_da := E_da.keep K_
        have O_rd := O_rd.keep K_ (ninS ne_rd_inn nin0)
        have hSk := Nat.le_trans hSk K_.1
        show own_Go p e below n0 (own_FinW room_1 s (fun v h => v = some (.int 1))) (T.setTop (mkF m 150 #[.val (.int i0), .val (.int i1), .val (.int i2), .val (.int i3), .val (.ref da), .val (.int (1 : Int32)), .val (.int (1 : Int32)), .val (.int (4 : Int32)), .val (.ref inn), .val (.int (1 : Int32)), .val (.int (2 : Int32)), .unset, .unset] [(.ref out)]))
        refine own_astore C X at_150 rfl (L' := #[.val (.int i0), .val (.int i1), .val (.int i2), .val (.int i3), .val (.ref da), .val (.int (1 : Int32)), .val (.int (1 : Int32)), .val (.int (4 : Int32)), .val (.ref inn), .val (.int (1 : Int32)), .val (.int (2 : Int32)), .val (.ref out), .unset]) rfl (pc' := 152) rfl ?_
        refine own_aload C X at_152 rfl rfl (pc' := 154) rfl ?_
        refine own_aload C X at_154 rfl rfl (pc' := 156) rfl ?_
        refine own_acmp_ne C X at_156 rfl rfl (pcT := 161) (pc' := 159) (by decide) (by decide) rfl (fun hc156 => ?_) (fun hc156 => absurd hc156 (fun q => (Ne.symm ne_da_out) (Value.ref.inj q)))
        refine own_aload C X at_161 rfl rfl (pc' := 163) rfl ?_
        refine own_alenI C X at_163 (n := 2) A_out rfl (pc' := 164) rfl ?_
        refine own_iload C X at_164 rfl (pc' := 166) rfl ?_
        refine own_iload C X at_166 rfl (pc' := 168) rfl ?_
        refine own_isub C X at_168 (z := 2) (by decide) (pc' := 169) rfl ?_
        refine own_icmp_eq C X at_169 (pcT := 174) (pc' := 172) (by decide) (by decide) rfl (fun hc169 => ?_) (fun hc169 => absurd hc169 (by decide))
        refine own_aload C X at_174 rfl rfl (pc' := 176) rfl ?_
        refine own_aload C X at_176 rfl rfl (pc' := 178) rfl ?_
        refine own_iload C X at_178 rfl (pc' := 180) rfl ?_
        refine own_iconst C X at_180 (v := 0) (by decide) (pc' := 181) rfl ?_
        refine own_callS C X at_181 (own_m_sameY l Z a0 hw out da (2 : Int32) (0 : Int32) _ n0 (own_big C X) [t2, t3] [(3 : Int32), t1, t2, t3, t4] 2 rfl A_out A_da (by decide) 0 2 t2 (by decide) (by decide) rfl rfl) (hw _ (List.mem_of_getElem? (i := 59) rfl)) (hw _ (List.mem_of_getElem? (i := 60) rfl)) (hw _ (List.mem_of_getElem? (i := 61) rfl)) (hw _ (List.mem_of_getElem? (i := 62) rfl)) (by decide) own_pd_6987 rfl rfl (Nat.le_of_ble_eq_true rfl) (Nat.le_of_ble_eq_true rfl) (Nat.le_of_ble_eq_true rfl) (Nat.le_of_ble_eq_true rfl) (av := [(.ref out), (.ref da), (.int (2 : Int32)), (.int (0 : Int32))]) (S := []) rfl (pc' := 184) rfl ?_
        intro T h v X hQ
        obtain ⟨rfl, rfl⟩ := hQ
        show own_Go p e below n0 (own_FinW room_1 s (fun v h => v = some (.int 1))) (T.setTop (mkF m 184 #[.val (.int i0), .val (.int i1), .val (.int i2), .val (.int i3), .val (.ref da), .val (.int (1 : Int32)), .val (.int (1 : Int32)), .val (.int (4 : Int32)), .val (.ref inn), .val (.int (1 : Int32)), .val (.int (2 : Int32)), .val (.ref out), .unset] [(.int (1 : Int32))]))
        refine own_if_ne C X at_184 (pcT := 189) (pc' := 187) (by decide) (by decide) rfl (fun hc184 => ?_) (fun hc184 => absurd hc184 (by decide))
        refine own_aload C X at_189 rfl rfl (pc' := 191) rfl ?_
        refine own_aload C X at_191 rfl rfl (pc' := 193) rfl ?_
        refine own_iload C X at_193 rfl (pc' := 195) rfl ?_
        refine own_iconst C X at_195 (v := 1) (by decide) (pc' := 196) rfl ?_
        refine own_callS C X at_196 (own_m_sameY l Z a0 hw out da (2 : Int32) (1 : Int32) _ n0 (own_big C X) [t2, t3] [(3 : Int32), t1, t2, t3, t4] 2 rfl A_out A_da (by decide) 1 3 t3 (by decide) (by decide) rfl rfl) (hw _ (List.mem_of_getElem? (i := 59) rfl)) (hw _ (List.mem_of_getElem? (i := 60) rfl)) (hw _ (List.mem_of_getElem? (i := 61) rfl)) (hw _ (List.mem_of_getElem? (i := 62) rfl)) (by decide) own_pd_6987 rfl rfl (Nat.le_of_ble_eq_true rfl) (Nat.le_of_ble_eq_true rfl) (Nat.le_of_ble_eq_true rfl) (Nat.le_of_ble_eq_true rfl) (av := [(.ref out), (.ref da), (.int (2 : Int32)), (.int (1 : Int32))]) (S := []) rfl (pc' := 199) rfl ?_
        intro T h v X hQ
        obtain ⟨rfl, rfl⟩ := hQ
        show own_Go p e below n0 (own_FinW room_1 s (fun v h => v = some (.int 1))) (T.setTop (mkF m 199 #[.val (.int i0), .val (.int i1), .val (.int i2), .val (.int i3), .val (.ref da), .val (.int (1 : Int32)), .val (.int (1 : Int32)), .val (.int (4 : Int32)), .val (.ref inn), .val (.int (1 : Int32)), .val (.int (2 : Int32)), .val (.ref out), .unset] [(.int (1 : Int32))]))
        refine own_if_ne C X at_199 (pcT := 204) (pc' := 202) (by decide) (by decide) rfl (fun hc199 => ?_) (fun hc199 => absurd hc199 (by decide))
        refine own_aload C X at_204 rfl rfl (pc' := 206) rfl ?_
        refine own_aload C X at_206 rfl rfl (pc' := 208) rfl ?_
        refine own_iload C X at_208 rfl (pc' := 210) rfl ?_
        refine own_iconst C X at_210 (v := 2) (by decide) (pc' := 211) rfl ?_
        refine own_callS C X at_211 (own_m_sameN l Z a0 hw out da (2 : Int32) (2 : Int32) _ n0 (own_big C X) [t2, t3] [(3 : Int32), t1, t2, t3, t4] 2 rfl A_out A_da (by decide)) (hw _ (List.mem_of_getElem? (i := 59) rfl)) (hw _ (List.mem_of_getElem? (i := 60) rfl)) (hw _ (List.mem_of_getElem? (i := 61) rfl)) (hw _ (List.mem_of_getElem? (i := 62) rfl)) (by decide) own_pd_6987 rfl rfl (Nat.le_of_ble_eq_true rfl) (Nat.le_of_ble_eq_true rfl) (Nat.le_of_ble_eq_true rfl) (Nat.le_of_ble_eq_true rfl) (av := [(.ref out), (.ref da), (.int (2 : Int32)), (.int (2 : Int32))]) (S := []) rfl (pc' := 214) rfl ?_
        intro T h v X hQ
        obtain ⟨rfl, rfl⟩ := hQ
        show own_Go p e below n0 (own_FinW room_1 s (fun v h => v = some (.int 1))) (T.setTop (mkF m 214 #[.val (.int i0), .val (.int i1), .val (.int i2), .val (.int i3), .val (.ref da), .val (.int (1 : Int32)), .val (.int (1 : Int32)), .val (.int (4 : Int32)), .val (.ref inn), .val (.int (1 : Int32)), .val (.int (2 : Int32)), .val (.ref out), .unset] [(.int (1 : Int32))]))
        refine own_if_ne C X at_214 (pcT := 219) (pc' := 217) (by decide) (by decide) rfl (fun hc214 => ?_) (fun hc214 => absurd hc214 (by decide))
        refine own_aload C X at_219 rfl rfl (pc' := 221) rfl ?_
        refine own_aload C X at_221 rfl rfl (pc' := 223) rfl ?_
        refine own_iload C X at_223 rfl (pc' := 225) rfl ?_
        refine own_iconst C X at_225 (v := 3) (by decide) (pc' := 226) rfl ?_
        refine own_callS C X at_226 (own_m_sameN l Z a0 hw out da (2 : Int32) (3 : Int32) _ n0 (own_big C X) [t2, t3] [(3 : Int32), t1, t2, t3, t4] 2 rfl A_out A_da (by decide)) (hw _ (List.mem_of_getElem? (i := 59) rfl)) (hw _ (List.mem_of_getElem? (i := 60) rfl)) (hw _ (List.mem_of_getElem? (i := 61) rfl)) (hw _ (List.mem_of_getElem? (i := 62) rfl)) (by decide) own_pd_6987 rfl rfl (Nat.le_of_ble_eq_true rfl) (Nat.le_of_ble_eq_true rfl) (Nat.le_of_ble_eq_true rfl) (Nat.le_of_ble_eq_true rfl) (av := [(.ref out), (.ref da), (.int (2 : Int32)), (.int (3 : Int32))]) (S := []) rfl (pc' := 229) rfl ?_
        intro T h v X hQ
        obtain ⟨rfl, rfl⟩ := hQ
        show own_Go p e below n0 (own_FinW room_1 s (fun v h => v = some (.int 1))) (T.setTop (mkF m 229 #[.val (.int i0), .val (.int i1), .val (.int i2), .val (.int i3), .val (.ref da), .val (.int (1 : Int32)), .val (.int (1 : Int32)), .val (.int (4 : Int32)), .val (.ref inn), .val (.int (1 : Int32)), .val (.int (2 : Int32)), .val (.ref out), .unset] [(.int (1 : Int32))]))
        refine own_if_ne C X at_229 (pcT := 234) (pc' := 232) (by decide) (by decide) rfl (fun hc229 => ?_) (fun hc229 => absurd hc229 (by decide))
        refine own_aload C X at_234 rfl rfl (pc' := 236) rfl ?_
        refine own_aload C X at_236 rfl rfl (pc' := 238) rfl ?_
        refine own_iload C X at_238 rfl (pc' := 240) rfl ?_
        refine own_iconst C X at_240 (v := 4) (by decide) (pc' := 241) rfl ?_
        refine own_callS C X at_241 (own_m_sameN l Z a0 hw out da (2 : Int32) (4 : Int32) _ n0 (own_big C X) [t2, t3] [(3 : Int32), t1, t2, t3, t4] 2 rfl A_out A_da (by decide)) (hw _ (List.mem_of_getElem? (i := 59) rfl)) (hw _ (List.mem_of_getElem? (i := 60) rfl)) (hw _ (List.mem_of_getElem? (i := 61) rfl)) (hw _ (List.mem_of_getElem? (i := 62) rfl)) (by decide) own_pd_6987 rfl rfl (Nat.le_of_ble_eq_true rfl) (Nat.le_of_ble_eq_true rfl) (Nat.le_of_ble_eq_true rfl) (Nat.le_of_ble_eq_true rfl) (av := [(.ref out), (.ref da), (.int (2 : Int32)), (.int (4 : Int32))]) (S := []) rfl (pc' := 244) rfl ?_
        intro T h v X hQ
        obtain ⟨rfl, rfl⟩ := hQ
        show own_Go p e below n0 (own_FinW room_1 s (fun v h => v = some (.int 1))) (T.setTop (mkF m 244 #[.val (.int i0), .val (.int i1), .val (.int i2), .val (.int i3), .val (.ref da), .val (.int (1 : Int32)), .val (.int (1 : Int32)), .val (.int (4 : Int32)), .val (.ref inn), .val (.int (1 : Int32)), .val (.int (2 : Int32)), .val (.ref out), .unset] [(.int (1 : Int32))]))
        refine own_if_ne C X at_244 (pcT := 249) (pc' := 247) (by decide) (by decide) rfl (fun hc244 => ?_) (fun hc244 => absurd hc244 (by decide))
        refine own_aload C X at_249 rfl rfl (pc' := 251) rfl ?_
        refine own_callV C X at_251 (own_m_hr l Z a0 hw inn _ n0 (own_big C X) da (4 : Int32) (4 : Int32) O_inn) O_inn.1 (hw _ (List.mem_of_getElem? (i := 63) rfl)) (hw _ (List.mem_of_getElem? (i := 64) rfl)) (hw _ (List.mem_of_getElem? (i := 66) rfl)) (hw _ (List.mem_of_getElem? (i := 65) rfl)) (hw _ (List.mem_of_getElem? (i := 3) rfl)) (hw _ (List.mem_of_getElem? (i := 67) rfl)) (by decide) own_pd_1418 rfl rfl (Nat.le_of_ble_eq_true rfl) (Nat.le_of_ble_eq_true rfl) (Nat.le_of_ble_eq_true rfl) (Nat.le_of_ble_eq_true rfl) (av := []) (S := []) rfl (pc' := 254) rfl ?_
        intro T h v X hQ
        obtain ⟨rfl, rfl⟩ := hQ
        show own_Go p e below n0 (own_FinW room_1 s (fun v h => v = some (.int 1))) (T.setTop (mkF m 254 #[.val (.int i0), .val (.int i1), .val (.int i2), .val (.int i3), .val (.ref da), .val (.int (1 : Int32)), .val (.int (1 : Int32)), .val (.int (4 : Int32)), .val (.ref inn), .val (.int (1 : Int32)), .val (.int (2 : Int32)), .val (.ref out), .unset] [(.int (own_hr (4 : Int32) (4 : Int32)))]))
        rw [show own_hr (4 : Int32) (4 : Int32) = 0 from by decide]
        show own_Go p e below n0 (own_FinW room_1 s (fun v h => v = some (.int 1))) (T.setTop (mkF m 254 #[.val (.int i0), .val (.int i1), .val (.int i2), .val (.int i3), .val (.ref da), .val (.int (1 : Int32)), .val (.int (1 : Int32)), .val (.int (4 : Int32)), .val (.ref inn), .val (.int (1 : Int32)), .val (.int (2 : Int32)), .val (.ref out), .unset] [(.int (0 : Int32))]))
        refine own_if_eq C X at_254 (pcT := 259) (pc' := 257) (by decide) (by decide) rfl (fun hc254 => ?_) (fun hc254 => absurd hc254 (by decide))
        refine own_aload C X at_259 rfl rfl (pc' := 261) rfl ?_
        have hbg := own_big C X
        refine own_callV C X at_261 (own_m_rest44 l Z a0 hw inn _ n0 hbg da (3 : Int32) t1 t2 t3 t4 A_da E_da O_inn (Ne.symm ne_da_inn) ge_inn) O_inn.1 (hw _ (List.mem_of_getElem? (i := 36) rfl)) (hw _ (List.mem_of_getElem? (i := 37) rfl)) (hw _ (List.mem_of_getElem? (i := 39) rfl)) (hw _ (List.mem_of_getElem? (i := 38) rfl)) (hw _ (List.mem_of_getElem? (i := 3) rfl)) (hw _ (List.mem_of_getElem? (i := 40) rfl)) (by decide) own_pd_2087 rfl rfl (Nat.le_of_ble_eq_true rfl) (Nat.le_of_ble_eq_true rfl) (Nat.le_of_ble_eq_true rfl) (Nat.le_of_ble_eq_true rfl) (av := []) (S := []) rfl (pc' := 264) rfl ?_
        intro T h v X hQ
        obtain ⟨ou2, rfl, gq_ou2, K_, O_n, A_ou2⟩ := hQ
        have ne_da_ou2 : da ≠ ou2 := Nat.ne_of_lt (Nat.lt_of_lt_of_le A_da.lt gq_ou2)
        have ne_rd_ou2 : rd ≠ ou2 := Nat.ne_of_lt (Nat.lt_of_lt_of_le O_rd.lt gq_ou2)
        have ne_inn_ou2 : inn ≠ ou2 := Nat.ne_of_lt (Nat.lt_of_lt_of_le O_inn.lt gq_ou2)
        have ne_out_ou2 : out ≠ ou2 := Nat.ne_of_lt (Nat.lt_of_lt_of_le A_out.lt gq_ou2)
        have ge_ou2 : n0 ≤ ou2 := Nat.le_trans hbg gq_ou2
        have O_inn := O_n
        have A_da := A_da.keep K_ (ninS ne_da_inn nin0)
        have E_da := E_da.keep K_
        have O_rd := O_rd.keep K_ (ninS ne_rd_inn nin0)
        have A_out := A_out.keep K_ (ninS (Ne.symm ne_inn_out) nin0)
        have hSk := Nat.le_trans hSk K_.1
        show own_Go p e below n0 (own_FinW room_1 s (fun v h => v = some (.int 1))) (T.setTop (mkF m 264 #[.val (.int i0), .val (.int i1), .val (.int i2), .val (.int i3), .val (.ref da), .val (.int (1 : Int32)), .val (.int (1 : Int32)), .val (.int (4 : Int32)), .val (.ref inn), .val (.int (1 : Int32)), .val (.int (2 : Int32)), .val (.ref out), .unset] [(.ref ou2)]))
        refine own_alenI C X at_264 (n := 0) A_ou2 rfl (pc' := 265) rfl ?_
        refine own_if_eq C X at_265 (pcT := 270) (pc' := 268) (by decide) (by decide) rfl (fun hc265 => ?_) (fun hc265 => absurd hc265 (by decide))
        refine own_aload C X at_270 rfl rfl (pc' := 272) rfl ?_
        refine own_alenI C X at_272 (n := 2) A_out rfl (pc' := 273) rfl ?_
        refine own_if_le C X at_273 (pcT := 306) (pc' := 276) (by decide) (by decide) rfl (fun hc273 => absurd hc273 (by decide)) (fun hc273 => ?_)
        refine own_aload C X at_276 rfl rfl (pc' := 278) rfl ?_
        refine own_iload C X at_278 rfl (pc' := 280) rfl ?_
        refine own_baload C X at_280 A_da (by decide) (i := 2) rfl (pc' := 281) rfl ?_
        refine own_istore C X at_281 (L' := #[.val (.int i0), .val (.int i1), .val (.int i2), .val (.int i3), .val (.ref da), .val (.int (1 : Int32)), .val (.int (1 : Int32)), .val (.int (4 : Int32)), .val (.ref inn), .val (.int (1 : Int32)), .val (.int (2 : Int32)), .val (.ref out), .val (.int t2)]) rfl (pc' := 283) rfl ?_
        refine own_aload C X at_283 rfl rfl (pc' := 285) rfl ?_
        refine own_iconst C X at_285 (v := 0) (by decide) (pc' := 286) rfl ?_
        refine own_aload C X at_286 rfl rfl (pc' := 288) rfl ?_
        refine own_iconst C X at_288 (v := 0) (by decide) (pc' := 289) rfl ?_
        refine own_baload C X at_289 A_out (by decide) (i := 0) rfl (pc' := 290) rfl ?_
        refine own_iconst C X at_290 (v := 1) (by decide) (pc' := 291) rfl ?_
        refine own_ixor C X at_291 rfl (pc' := 292) rfl ?_
        obtain ⟨tx, e_tx⟩ : ∃ z : Int32, (t2 ^^^ (1 : Int32)).toInt8.toInt32 = z := ⟨_, rfl⟩
        refine own_i2b C X at_292 e_tx (pc' := 293) rfl ?_
        refine own_bastore C X at_293 A_out (by decide) (i := 0) (Nat.le_of_ble_eq_true rfl) (own_i2bn e_tx) ge_out (pc' := 294) rfl ?_
        intro T h X K_ A_out_
        have A_out : own_IA Z h out .byte [tx, t3] := A_out_
        have A_da := A_da.keep K_ (ninS ne_da_out nin0)
        have E_da := E_da.keep K_
        have O_rd := O_rd.keep K_ (ninS ne_rd_out nin0)
        have O_inn := O_inn.keep K_ (ninS ne_inn_out nin0)
        have A_ou2 := A_ou2.keep K_ (ninS (Ne.symm ne_out_ou2) nin0)
        have hSk := Nat.le_trans hSk K_.1
        refine own_aload C X at_294 rfl rfl (pc' := 296) rfl ?_
        refine own_iload C X at_296 rfl (pc' := 298) rfl ?_
        refine own_baload C X at_298 A_da (by decide) (i := 2) rfl (pc' := 299) rfl ?_
        refine own_iload C X at_299 rfl (pc' := 301) rfl ?_
        refine own_icmp_eq C X at_301 (pcT := 306) (pc' := 304) (by decide) (by decide) rfl (fun hc301 => ?_) (fun hc301 => absurd hc301 (not_not_intro rfl))
        refine own_iconst C X at_306 (v := 1) (by decide) (pc' := 307) rfl ?_
        exact own_ireturn_zW C X hS hSk at_307 (Nat.le_of_ble_eq_true rfl) (Nat.le_of_ble_eq_true rfl) (rfl)
      · refine own_istore C X at_127 (L' := #[.val (.int i0), .val (.int i1), .val (.int i2), .val (.int i3), .val (.ref da), .val (.int (1 : Int32)), .val (.int (1 : Int32)), .val (.int (4 : Int32)), .val (.ref inn), .val (.int (2 : Int32)), .unset, .unset, .unset]) rfl (pc' := 129) rfl ?_
        refine own_aload C X at_129 rfl rfl (pc' := 131) rfl ?_
        refine own_iload C X at_131 rfl (pc' := 133) rfl ?_
        refine own_ldcS C X hS hSk at_133 (hw _ (List.mem_of_getElem? (i := 20) rfl)) (own_strW hw) (n := 1024) (by decide) (by decide) (Nat.le_of_ble_eq_true rfl) (Nat.le_of_ble_eq_true rfl) (pc' := 135) rfl ?_
        intro T h ss vm k_ C X K_ hS hSk_
        have A_da := A_da.keep K_ nin0
        have E_da := E_da.keep K_
        have O_rd := O_rd.keep K_ nin0
        have O_inn := O_inn.keep K_ nin0
        have hSk := Nat.le_trans hSk K_.1
        have hSk := hSk_
        refine own_callV C X at_135 (own_m_skip l Z a0 hw inn (2 : Int32) ss _ n0 (own_big C X) da (1 : Int32) (4 : Int32) (3 : Int32) (by decide) (by decide) O_inn ge_inn) O_inn.1 (hw _ (List.mem_of_getElem? (i := 27) rfl)) (hw _ (List.mem_of_getElem? (i := 28) rfl)) (hw _ (List.mem_of_getElem? (i := 30) rfl)) (hw _ (List.mem_of_getElem? (i := 29) rfl)) (hw _ (List.mem_of_getElem? (i := 3) rfl)) (hw _ (List.mem_of_getElem? (i := 31) rfl)) (by decide) own_pd_34082 rfl rfl (Nat.le_of_ble_eq_true rfl) (Nat.le_of_ble_eq_true rfl) (Nat.le_of_ble_eq_true rfl) (Nat.le_of_ble_eq_true rfl) (av := [(.int (2 : Int32)), (.ref ss)]) (S := []) rfl (pc' := 138) rfl ?_
        intro T h v X hQ
        obtain ⟨rfl, K_, O_inn⟩ := hQ
        have A_da := A_da.keep K_ (ninS ne_da_inn nin0)
        have E_da := E_da.keep K_
        have O_rd := O_rd.keep K_ (ninS ne_rd_inn nin0)
        have hSk := Nat.le_trans hSk K_.1
        show own_Go p e below n0 (own_FinW room_1 s (fun v h => v = some (.int 1))) (T.setTop (mkF m 138 #[.val (.int i0), .val (.int i1), .val (.int i2), .val (.int i3), .val (.ref da), .val (.int (1 : Int32)), .val (.int (1 : Int32)), .val (.int (4 : Int32)), .val (.ref inn), .val (.int (2 : Int32)), .unset, .unset, .unset] []))
        refine own_iload C X at_138 rfl (pc' := 140) rfl ?_
        refine own_iload C X at_140 rfl (pc' := 142) rfl ?_
        refine own_iadd C X at_142 (z := 3) (by decide) (pc' := 143) rfl ?_
        refine own_istore C X at_143 (L' := #[.val (.int i0), .val (.int i1), .val (.int i2), .val (.int i3), .val (.ref da), .val (.int (1 : Int32)), .val (.int (1 : Int32)), .val (.int (4 : Int32)), .val (.ref inn), .val (.int (2 : Int32)), .val (.int (3 : Int32)), .unset, .unset]) rfl (pc' := 145) rfl ?_
        refine own_aload C X at_145 rfl rfl (pc' := 147) rfl ?_
        have hbg := own_big C X
        refine own_callV C X at_147 (own_m_rest34 l Z a0 hw inn _ n0 hbg da (3 : Int32) t1 t2 t3 t4 A_da E_da O_inn (Ne.symm ne_da_inn) ge_inn) O_inn.1 (hw _ (List.mem_of_getElem? (i := 36) rfl)) (hw _ (List.mem_of_getElem? (i := 37) rfl)) (hw _ (List.mem_of_getElem? (i := 39) rfl)) (hw _ (List.mem_of_getElem? (i := 38) rfl)) (hw _ (List.mem_of_getElem? (i := 3) rfl)) (hw _ (List.mem_of_getElem? (i := 40) rfl)) (by decide) own_pd_2087 rfl rfl (Nat.le_of_ble_eq_true rfl) (Nat.le_of_ble_eq_true rfl) (Nat.le_of_ble_eq_true rfl) (Nat.le_of_ble_eq_true rfl) (av := []) (S := []) rfl (pc' := 150) rfl ?_
        intro T h v X hQ
        obtain ⟨out, rfl, gq_out, K_, O_n, A_out⟩ := hQ
        have ne_da_out : da ≠ out := Nat.ne_of_lt (Nat.lt_of_lt_of_le A_da.lt gq_out)
        have ne_rd_out : rd ≠ out := Nat.ne_of_lt (Nat.lt_of_lt_of_le O_rd.lt gq_out)
        have ne_inn_out : inn ≠ out := Nat.ne_of_lt (Nat.lt_of_lt_of_le O_inn.lt gq_out)
        have ge_out : n0 ≤ out := Nat.le_trans hbg gq_out
        have O_inn := O_n
        have A_da := A_da.keep K_ (ninS ne_da_inn nin0)
        have E_da := E_da.keep K_
        have O_rd := O_rd.keep K_ (ninS ne_rd_inn nin0)
        have hSk := Nat.le_trans hSk K_.1
        show own_Go p e below n0 (own_FinW room_1 s (fun v h => v = some (.int 1))) (T.setTop (mkF m 150 #[.val (.int i0), .val (.int i1), .val (.int i2), .val (.int i3), .val (.ref da), .val (.int (1 : Int32)), .val (.int (1 : Int32)), .val (.int (4 : Int32)), .val (.ref inn), .val (.int (2 : Int32)), .val (.int (3 : Int32)), .unset, .unset] [(.ref out)]))
        refine own_astore C X at_150 rfl (L' := #[.val (.int i0), .val (.int i1), .val (.int i2), .val (.int i3), .val (.ref da), .val (.int (1 : Int32)), .val (.int (1 : Int32)), .val (.int (4 : Int32)), .val (.ref inn), .val (.int (2 : Int32)), .val (.int (3 : Int32)), .val (.ref out), .unset]) rfl (pc' := 152) rfl ?_
        refine own_aload C X at_152 rfl rfl (pc' := 154) rfl ?_
        refine own_aload C X at_154 rfl rfl (pc' := 156) rfl ?_
        refine own_acmp_ne C X at_156 rfl rfl (pcT := 161) (pc' := 159) (by decide) (by decide) rfl (fun hc156 => ?_) (fun hc156 => absurd hc156 (fun q => (Ne.symm ne_da_out) (Value.ref.inj q)))
        refine own_aload C X at_161 rfl rfl (pc' := 163) rfl ?_
        refine own_alenI C X at_163 (n := 1) A_out rfl (pc' := 164) rfl ?_
        refine own_iload C X at_164 rfl (pc' := 166) rfl ?_
        refine own_iload C X at_166 rfl (pc' := 168) rfl ?_
        refine own_isub C X at_168 (z := 1) (by decide) (pc' := 169) rfl ?_
        refine own_icmp_eq C X at_169 (pcT := 174) (pc' := 172) (by decide) (by decide) rfl (fun hc169 => ?_) (fun hc169 => absurd hc169 (by decide))
        refine own_aload C X at_174 rfl rfl (pc' := 176) rfl ?_
        refine own_aload C X at_176 rfl rfl (pc' := 178) rfl ?_
        refine own_iload C X at_178 rfl (pc' := 180) rfl ?_
        refine own_iconst C X at_180 (v := 0) (by decide) (pc' := 181) rfl ?_
        refine own_callS C X at_181 (own_m_sameY l Z a0 hw out da (3 : Int32) (0 : Int32) _ n0 (own_big C X) [t3] [(3 : Int32), t1, t2, t3, t4] 1 rfl A_out A_da (by decide) 0 3 t3 (by decide) (by decide) rfl rfl) (hw _ (List.mem_of_getElem? (i := 59) rfl)) (hw _ (List.mem_of_getElem? (i := 60) rfl)) (hw _ (List.mem_of_getElem? (i := 61) rfl)) (hw _ (List.mem_of_getElem? (i := 62) rfl)) (by decide) own_pd_6987 rfl rfl (Nat.le_of_ble_eq_true rfl) (Nat.le_of_ble_eq_true rfl) (Nat.le_of_ble_eq_true rfl) (Nat.le_of_ble_eq_true rfl) (av := [(.ref out), (.ref da), (.int (3 : Int32)), (.int (0 : Int32))]) (S := []) rfl (pc' := 184) rfl ?_
        intro T h v X hQ
        obtain ⟨rfl, rfl⟩ := hQ
        show own_Go p e below n0 (own_FinW room_1 s (fun v h => v = some (.int 1))) (T.setTop (mkF m 184 #[.val (.int i0), .val (.int i1), .val (.int i2), .val (.int i3), .val (.ref da), .val (.int (1 : Int32)), .val (.int (1 : Int32)), .val (.int (4 : Int32)), .val (.ref inn), .val (.int (2 : Int32)), .val (.int (3 : Int32)), .val (.ref out), .unset] [(.int (1 : Int32))]))
        refine own_if_ne C X at_184 (pcT := 189) (pc' := 187) (by decide) (by decide) rfl (fun hc184 => ?_) (fun hc184 => absurd hc184 (by decide))
        refine own_aload C X at_189 rfl rfl (pc' := 191) rfl ?_
        refine own_aload C X at_191 rfl rfl (pc' := 193) rfl ?_
        refine own_iload C X at_193 rfl (pc' := 195) rfl ?_
        refine own_iconst C X at_195 (v := 1) (by decide) (pc' := 196) rfl ?_
        refine own_callS C X at_196 (own_m_sameN l Z a0 hw out da (3 : Int32) (1 : Int32) _ n0 (own_big C X) [t3] [(3 : Int32), t1, t2, t3, t4] 1 rfl A_out A_da (by decide)) (hw _ (List.mem_of_getElem? (i := 59) rfl)) (hw _ (List.mem_of_getElem? (i := 60) rfl)) (hw _ (List.mem_of_getElem? (i := 61) rfl)) (hw _ (List.mem_of_getElem? (i := 62) rfl)) (by decide) own_pd_6987 rfl rfl (Nat.le_of_ble_eq_true rfl) (Nat.le_of_ble_eq_true rfl) (Nat.le_of_ble_eq_true rfl) (Nat.le_of_ble_eq_true rfl) (av := [(.ref out), (.ref da), (.int (3 : Int32)), (.int (1 : Int32))]) (S := []) rfl (pc' := 199) rfl ?_
        intro T h v X hQ
        obtain ⟨rfl, rfl⟩ := hQ
        show own_Go p e below n0 (own_FinW room_1 s (fun v h => v = some (.int 1))) (T.setTop (mkF m 199 #[.val (.int i0), .val (.int i1), .val (.int i2), .val (.int i3), .val (.ref da), .val (.int (1 : Int32)), .val (.int (1 : Int32)), .val (.int (4 : Int32)), .val (.ref inn), .val (.int (2 : Int32)), .val (.int (3 : Int32)), .val (.ref out), .unset] [(.int (1 : Int32))]))
        refine own_if_ne C X at_199 (pcT := 204) (pc' := 202) (by decide) (by decide) rfl (fun hc199 => ?_) (fun hc199 => absurd hc199 (by decide))
        refine own_aload C X at_204 rfl rfl (pc' := 206) rfl ?_
        refine own_aload C X at_206 rfl rfl (pc' := 208) rfl ?_
        refine own_iload C X at_208 rfl (pc' := 210) rfl ?_
        refine own_iconst C X at_210 (v := 2) (by decide) (pc' := 211) rfl ?_
        refine own_callS C X at_211 (own_m_sameN l Z a0 hw out da (3 : Int32) (2 : Int32) _ n0 (own_big C X) [t3] [(3 : Int32), t1, t2, t3, t4] 1 rfl A_out A_da (by decide)) (hw _ (List.mem_of_getElem? (i := 59) rfl)) (hw _ (List.mem_of_getElem? (i := 60) rfl)) (hw _ (List.mem_of_getElem? (i := 61) rfl)) (hw _ (List.mem_of_getElem? (i := 62) rfl)) (by decide) own_pd_6987 rfl rfl (Nat.le_of_ble_eq_true rfl) (Nat.le_of_ble_eq_true rfl) (Nat.le_of_ble_eq_true rfl) (Nat.le_of_ble_eq_true rfl) (av := [(.ref out), (.ref da), (.int (3 : Int32)), (.int (2 : Int32))]) (S := []) rfl (pc' := 214) rfl ?_
        intro T h v X hQ
        obtain ⟨rfl, rfl⟩ := hQ
        show own_Go p e below n0 (own_FinW room_1 s (fun v h => v = some (.int 1))) (T.setTop (mkF m 214 #[.val (.int i0), .val (.int i1), .val (.int i2), .val (.int i3), .val (.ref da), .val (.int (1 : Int32)), .val (.int (1 : Int32)), .val (.int (4 : Int32)), .val (.ref inn), .val (.int (2 : Int32)), .val (.int (3 : Int32)), .val (.ref out), .unset] [(.int (1 : Int32))]))
        refine own_if_ne C X at_214 (pcT := 219) (pc' := 217) (by decide) (by decide) rfl (fun hc214 => ?_) (fun hc214 => absurd hc214 (by decide))
        refine own_aload C X at_219 rfl rfl (pc' := 221) rfl ?_
        refine own_aload C X at_221 rfl rfl (pc' := 223) rfl ?_
        refine own_iload C X at_223 rfl (pc' := 225) rfl ?_
        refine own_iconst C X at_225 (v := 3) (by decide) (pc' := 226) rfl ?_
        refine own_callS C X at_226 (own_m_sameN l Z a0 hw out da (3 : Int32) (3 : Int32) _ n0 (own_big C X) [t3] [(3 : Int32), t1, t2, t3, t4] 1 rfl A_out A_da (by decide)) (hw _ (List.mem_of_getElem? (i := 59) rfl)) (hw _ (List.mem_of_getElem? (i := 60) rfl)) (hw _ (List.mem_of_getElem? (i := 61) rfl)) (hw _ (List.mem_of_getElem? (i := 62) rfl)) (by decide) own_pd_6987 rfl rfl (Nat.le_of_ble_eq_true rfl) (Nat.le_of_ble_eq_true rfl) (Nat.le_of_ble_eq_true rfl) (Nat.le_of_ble_eq_true rfl) (av := [(.ref out), (.ref da), (.int (3 : Int32)), (.int (3 : Int32))]) (S := []) rfl (pc' := 229) rfl ?_
        intro T h v X hQ
        obtain ⟨rfl, rfl⟩ := hQ
        show own_Go p e below n0 (own_FinW room_1 s (fun v h => v = some (.int 1))) (T.setTop (mkF m 229 #[.val (.int i0), .val (.int i1), .val (.int i2), .val (.int i3), .val (.ref da), .val (.int (1 : Int32)), .val (.int (1 : Int32)), .val (.int (4 : Int32)), .val (.ref inn), .val (.int (2 : Int32)), .val (.int (3 : Int32)), .val (.ref out), .unset] [(.int (1 : Int32))]))
        refine own_if_ne C X at_229 (pcT := 234) (pc' := 232) (by decide) (by decide) rfl (fun hc229 => ?_) (fun hc229 => absurd hc229 (by decide))
        refine own_aload C X at_234 rfl rfl (pc' := 236) rfl ?_
        refine own_aload C X at_236 rfl rfl (pc' := 238) rfl ?_
        refine own_iload C X at_238 rfl (pc' := 240) rfl ?_
        refine own_iconst C X at_240 (v := 4) (by decide) (pc' := 241) rfl ?_
        refine own_callS C X at_241 (own_m_sameN l Z a0 hw out da (3 : Int32) (4 : Int32) _ n0 (own_big C X) [t3] [(3 : Int32), t1, t2, t3, t4] 1 rfl A_out A_da (by decide)) (hw _ (List.mem_of_getElem? (i := 59) rfl)) (hw _ (List.mem_of_getElem? (i := 60) rfl)) (hw _ (List.mem_of_getElem? (i := 61) rfl)) (hw _ (List.mem_of_getElem? (i := 62) rfl)) (by decide) own_pd_6987 rfl rfl (Nat.le_of_ble_eq_true rfl) (Nat.le_of_ble_eq_true rfl) (Nat.le_of_ble_eq_true rfl) (Nat.le_of_ble_eq_true rfl) (av := [(.ref out), (.ref da), (.int (3 : Int32)), (.int (4 : Int32))]) (S := []) rfl (pc' := 244) rfl ?_
        intro T h v X hQ
        obtain ⟨rfl, rfl⟩ := hQ
        show own_Go p e below n0 (own_FinW room_1 s (fun v h => v = some (.int 1))) (T.setTop (mkF m 244 #[.val (.int i0), .val (.int i1), .val (.int i2), .val (.int i3), .val (.ref da), .val (.int (1 : Int32)), .val (.int (1 : Int32)), .val (.int (4 : Int32)), .val (.ref inn), .val (.int (2 : Int32)), .val (.int (3 : Int32)), .val (.ref out), .unset] [(.int (1 : Int32))]))
        refine own_if_ne C X at_244 (pcT := 249) (pc' := 247) (by decide) (by decide) rfl (fun hc244 => ?_) (fun hc244 => absurd hc244 (by decide))
        refine own_aload C X at_249 rfl rfl (pc' := 251) rfl ?_
        refine own_callV C X at_251 (own_m_hr l Z a0 hw inn _ n0 (own_big C X) da (4 : Int32) (4 : Int32) O_inn) O_inn.1 (hw _ (List.mem_of_getElem? (i := 63) rfl)) (hw _ (List.mem_of_getElem? (i := 64) rfl)) (hw _ (List.mem_of_getElem? (i := 66) rfl)) (hw _ (List.mem_of_getElem? (i := 65) rfl)) (hw _ (List.mem_of_getElem? (i := 3) rfl)) (hw _ (List.mem_of_getElem? (i := 67) rfl)) (by decide) own_pd_1418 rfl rfl (Nat.le_of_ble_eq_true rfl) (Nat.le_of_ble_eq_true rfl) (Nat.le_of_ble_eq_true rfl) (Nat.le_of_ble_eq_true rfl) (av := []) (S := []) rfl (pc' := 254) rfl ?_
        intro T h v X hQ
        obtain ⟨rfl, rfl⟩ := hQ
        show own_Go p e below n0 (own_FinW room_1 s (fun v h => v = some (.int 1))) (T.setTop (mkF m 254 #[.val (.int i0), .val (.int i1), .val (.int i2), .val (.int i3), .val (.ref da), .val (.int (1 : Int32)), .val (.int (1 : Int32)), .val (.int (4 : Int32)), .val (.ref inn), .val (.int (2 : Int32)), .val (.int (3 : Int32)), .val (.ref out), .unset] [(.int (own_hr (4 : Int32) (4 : Int32)))]))
        rw [show own_hr (4 : Int32) (4 : Int32) = 0 from by decide]
        show own_Go p e below n0 (own_FinW room_1 s (fun v h => v = some (.int 1))) (T.setTop (mkF m 254 #[.val (.int i0), .val (.int i1), .val (.int i2), .val (.int i3), .val (.ref da), .val (.int (1 : Int32)), .val (.int (1 : Int32)), .val (.int (4 : Int32)), .val (.ref inn), .val (.int (2 : Int32)), .val (.int (3 : Int32)), .val (.ref out), .unset] [(.int (0 : Int32))]))
        refine own_if_eq C X at_254 (pcT := 259) (pc' := 257) (by decide) (by decide) rfl (fun hc254 => ?_) (fun hc254 => absurd hc254 (by decide))
        refine own_aload C X at_259 rfl rfl (pc' := 261) rfl ?_
        have hbg := own_big C X
        refine own_callV C X at_261 (own_m_rest44 l Z a0 hw inn _ n0 hbg da (3 : Int32) t1 t2 t3 t4 A_da E_da O_inn (Ne.symm ne_da_inn) ge_inn) O_inn.1 (hw _ (List.mem_of_getElem? (i := 36) rfl)) (hw _ (List.mem_of_getElem? (i := 37) rfl)) (hw _ (List.mem_of_getElem? (i := 39) rfl)) (hw _ (List.mem_of_getElem? (i := 38) rfl)) (hw _ (List.mem_of_getElem? (i := 3) rfl)) (hw _ (List.mem_of_getElem? (i := 40) rfl)) (by decide) own_pd_2087 rfl rfl (Nat.le_of_ble_eq_true rfl) (Nat.le_of_ble_eq_true rfl) (Nat.le_of_ble_eq_true rfl) (Nat.le_of_ble_eq_true rfl) (av := []) (S := []) rfl (pc' := 264) rfl ?_
        intro T h v X hQ
        obtain ⟨ou2, rfl, gq_ou2, K_, O_n, A_ou2⟩ := hQ
        have ne_da_ou2 : da ≠ ou2 := Nat.ne_of_lt (Nat.lt_of_lt_of_le A_da.lt gq_ou2)
        have ne_rd_ou2 : rd ≠ ou2 := Nat.ne_of_lt (Nat.lt_of_lt_of_le O_rd.lt gq_ou2)
        have ne_inn_ou2 : inn ≠ ou2 := Nat.ne_of_lt (Nat.lt_of_lt_of_le O_inn.lt gq_ou2)
        have ne_out_ou2 : out ≠ ou2 := Nat.ne_of_lt (Nat.lt_of_lt_of_le A_out.lt gq_ou2)
        have ge_ou2 : n0 ≤ ou2 := Nat.le_trans hbg gq_ou2
        have O_inn := O_n
        have A_da := A_da.keep K_ (ninS ne_da_inn nin0)
        have E_da := E_da.keep K_
        have O_rd := O_rd.keep K_ (ninS ne_rd_inn nin0)
        have A_out := A_out.keep K_ (ninS (Ne.symm ne_inn_out) nin0)
        have hSk := Nat.le_trans hSk K_.1
        show own_Go p e below n0 (own_FinW room_1 s (fun v h => v = some (.int 1))) (T.setTop (mkF m 264 #[.val (.int i0), .val (.int i1), .val (.int i2), .val (.int i3), .val (.ref da), .val (.int (1 : Int32)), .val (.int (1 : Int32)), .val (.int (4 : Int32)), .val (.ref inn), .val (.int (2 : Int32)), .val (.int (3 : Int32)), .val (.ref out), .unset] [(.ref ou2)]))
        refine own_alenI C X at_264 (n := 0) A_ou2 rfl (pc' := 265) rfl ?_
        refine own_if_eq C X at_265 (pcT := 270) (pc' := 268) (by decide) (by decide) rfl (fun hc265 => ?_) (fun hc265 => absurd hc265 (by decide))
        refine own_aload C X at_270 rfl rfl (pc' := 272) rfl ?_
        refine own_alenI C X at_272 (n := 1) A_out rfl (pc' := 273) rfl ?_
        refine own_if_le C X at_273 (pcT := 306) (pc' := 276) (by decide) (by decide) rfl (fun hc273 => absurd hc273 (by decide)) (fun hc273 => ?_)
        refine own_aload C X at_276 rfl rfl (pc' := 278) rfl ?_
        refine own_iload C X at_278 rfl (pc' := 280) rfl ?_
        refine own_baload C X at_280 A_da (by decide) (i := 3) rfl (pc' := 281) rfl ?_
        refine own_istore C X at_281 (L' := #[.val (.int i0), .val (.int i1), .val (.int i2), .val (.int i3), .val (.ref da), .val (.int (1 : Int32)), .val (.int (1 : Int32)), .val (.int (4 : Int32)), .val (.ref inn), .val (.int (2 : Int32)), .val (.int (3 : Int32)), .val (.ref out), .val (.int t3)]) rfl (pc' := 283) rfl ?_
        refine own_aload C X at_283 rfl rfl (pc' := 285) rfl ?_
        refine own_iconst C X at_285 (v := 0) (by decide) (pc' := 286) rfl ?_
        refine own_aload C X at_286 rfl rfl (pc' := 288) rfl ?_
        refine own_iconst C X at_288 (v := 0) (by decide) (pc' := 289) rfl ?_
        refine own_baload C X at_289 A_out (by decide) (i := 0) rfl (pc' := 290) rfl ?_
        refine own_iconst C X at_290 (v := 1) (by decide) (pc' := 291) rfl ?_
        refine own_ixor C X at_291 rfl (pc' := 292) rfl ?_
        obtain ⟨tx, e_tx⟩ : ∃ z : Int32, (t3 ^^^ (1 : Int32)).toInt8.toInt32 = z := ⟨_, rfl⟩
        refine own_i2b C X at_292 e_tx (pc' := 293) rfl ?_
        refine own_bastore C X at_293 A_out (by decide) (i := 0) (Nat.le_of_ble_eq_true rfl) (own_i2bn e_tx) ge_out (pc' := 294) rfl ?_
        intro T h X K_ A_out_
        have A_out : own_IA Z h out .byte [tx] := A_out_
        have A_da := A_da.keep K_ (ninS ne_da_out nin0)
        have E_da := E_da.keep K_
        have O_rd := O_rd.keep K_ (ninS ne_rd_out nin0)
        have O_inn := O_inn.keep K_ (ninS ne_inn_out nin0)
        have A_ou2 := A_ou2.keep K_ (ninS (Ne.symm ne_out_ou2) nin0)
        have hSk := Nat.le_trans hSk K_.1
        refine own_aload C X at_294 rfl rfl (pc' := 296) rfl ?_
        refine own_iload C X at_296 rfl (pc' := 298) rfl ?_
        refine own_baload C X at_298 A_da (by decide) (i := 3) rfl (pc' := 299) rfl ?_
        refine own_iload C X at_299 rfl (pc' := 301) rfl ?_
        refine own_icmp_eq C X at_301 (pcT := 306) (pc' := 304) (by decide) (by decide) rfl (fun hc301 => ?_) (fun hc301 => absurd hc301 (not_not_intro rfl))
        refine own_iconst C X at_306 (v := 1) (by decide) (pc' := 307) rfl ?_
        exact own_ireturn_zW C X hS hSk at_307 (Nat.le_of_ble_eq_true rfl) (Nat.le_of_ble_eq_true rfl) (rfl)
      · refine own_istore C X at_127 (L' := #[.val (.int i0), .val (.int i1), .val (.int i2), .val (.int i3), .val (.ref da), .val (.int (1 : Int32)), .val (.int (1 : Int32)), .val (.int (4 : Int32)), .val (.ref inn), .val (.int (3 : Int32)), .unset, .unset, .unset]) rfl (pc' := 129) rfl ?_
        refine own_aload C X at_129 rfl rfl (pc' := 131) rfl ?_
        refine own_iload C X at_131 rfl (pc' := 133) rfl ?_
        refine own_ldcS C X hS hSk at_133 (hw _ (List.mem_of_getElem? (i := 20) rfl)) (own_strW hw) (n := 1024) (by decide) (by decide) (Nat.le_of_ble_eq_true rfl) (Nat.le_of_ble_eq_true rfl) (pc' := 135) rfl ?_
        intro T h ss vm k_ C X K_ hS hSk_
        have A_da := A_da.keep K_ nin0
        have E_da := E_da.keep K_
        have O_rd := O_rd.keep K_ nin0
        have O_inn := O_inn.keep K_ nin0
        have hSk := Nat.le_trans hSk K_.1
        have hSk := hSk_
        refine own_callV C X at_135 (own_m_skip l Z a0 hw inn (3 : Int32) ss _ n0 (own_big C X) da (1 : Int32) (4 : Int32) (4 : Int32) (by decide) (by decide) O_inn ge_inn) O_inn.1 (hw _ (List.mem_of_getElem? (i := 27) rfl)) (hw _ (List.mem_of_getElem? (i := 28) rfl)) (hw _ (List.mem_of_getElem? (i := 30) rfl)) (hw _ (List.mem_of_getElem? (i := 29) rfl)) (hw _ (List.mem_of_getElem? (i := 3) rfl)) (hw _ (List.mem_of_getElem? (i := 31) rfl)) (by decide) own_pd_34082 rfl rfl (Nat.le_of_ble_eq_true rfl) (Nat.le_of_ble_eq_true rfl) (Nat.le_of_ble_eq_true rfl) (Nat.le_of_ble_eq_true rfl) (av := [(.int (3 : Int32)), (.ref ss)]) (S := []) rfl (pc' := 138) rfl ?_
        intro T h v X hQ
        obtain ⟨rfl, K_, O_inn⟩ := hQ
        have A_da := A_da.keep K_ (ninS ne_da_inn nin0)
        have E_da := E_da.keep K_
        have O_rd := O_rd.keep K_ (ninS ne_rd_inn nin0)
        have hSk := Nat.le_trans hSk K_.1
        show own_Go p e below n0 (own_FinW room_1 s (fun v h => v = some (.int 1))) (T.setTop (mkF m 138 #[.val (.int i0), .val (.int i1), .val (.int i2), .val (.int i3), .val (.ref da), .val (.int (1 : Int32)), .val (.int (1 : Int32)), .val (.int (4 : Int32)), .val (.ref inn), .val (.int (3 : Int32)), .unset, .unset, .unset] []))
        refine own_iload C X at_138 rfl (pc' := 140) rfl ?_
        refine own_iload C X at_140 rfl (pc' := 142) rfl ?_
        refine own_iadd C X at_142 (z := 4) (by decide) (pc' := 143) rfl ?_
        refine own_istore C X at_143 (L' := #[.val (.int i0), .val (.int i1), .val (.int i2), .val (.int i3), .val (.ref da), .val (.int (1 : Int32)), .val (.int (1 : Int32)), .val (.int (4 : Int32)), .val (.ref inn), .val (.int (3 : Int32)), .val (.int (4 : Int32)), .unset, .unset]) rfl (pc' := 145) rfl ?_
        refine own_aload C X at_145 rfl rfl (pc' := 147) rfl ?_
        have hbg := own_big C X
        refine own_callV C X at_147 (own_m_rest44 l Z a0 hw inn _ n0 hbg da (3 : Int32) t1 t2 t3 t4 A_da E_da O_inn (Ne.symm ne_da_inn) ge_inn) O_inn.1 (hw _ (List.mem_of_getElem? (i := 36) rfl)) (hw _ (List.mem_of_getElem? (i := 37) rfl)) (hw _ (List.mem_of_getElem? (i := 39) rfl)) (hw _ (List.mem_of_getElem? (i := 38) rfl)) (hw _ (List.mem_of_getElem? (i := 3) rfl)) (hw _ (List.mem_of_getElem? (i := 40) rfl)) (by decide) own_pd_2087 rfl rfl (Nat.le_of_ble_eq_true rfl) (Nat.le_of_ble_eq_true rfl) (Nat.le_of_ble_eq_true rfl) (Nat.le_of_ble_eq_true rfl) (av := []) (S := []) rfl (pc' := 150) rfl ?_
        intro T h v X hQ
        obtain ⟨out, rfl, gq_out, K_, O_n, A_out⟩ := hQ
        have ne_da_out : da ≠ out := Nat.ne_of_lt (Nat.lt_of_lt_of_le A_da.lt gq_out)
        have ne_rd_out : rd ≠ out := Nat.ne_of_lt (Nat.lt_of_lt_of_le O_rd.lt gq_out)
        have ne_inn_out : inn ≠ out := Nat.ne_of_lt (Nat.lt_of_lt_of_le O_inn.lt gq_out)
        have ge_out : n0 ≤ out := Nat.le_trans hbg gq_out
        have O_inn := O_n
        have A_da := A_da.keep K_ (ninS ne_da_inn nin0)
        have E_da := E_da.keep K_
        have O_rd := O_rd.keep K_ (ninS ne_rd_inn nin0)
        have hSk := Nat.le_trans hSk K_.1
        show own_Go p e below n0 (own_FinW room_1 s (fun v h => v = some (.int 1))) (T.setTop (mkF m 150 #[.val (.int i0), .val (.int i1), .val (.int i2), .val (.int i3), .val (.ref da), .val (.int (1 : Int32)), .val (.int (1 : Int32)), .val (.int (4 : Int32)), .val (.ref inn), .val (.int (3 : Int32)), .val (.int (4 : Int32)), .unset, .unset] [(.ref out)]))
        refine own_astore C X at_150 rfl (L' := #[.val (.int i0), .val (.int i1), .val (.int i2), .val (.int i3), .val (.ref da), .val (.int (1 : Int32)), .val (.int (1 : Int32)), .val (.int (4 : Int32)), .val (.ref inn), .val (.int (3 : Int32)), .val (.int (4 : Int32)), .val (.ref out), .unset]) rfl (pc' := 152) rfl ?_
        refine own_aload C X at_152 rfl rfl (pc' := 154) rfl ?_
        refine own_aload C X at_154 rfl rfl (pc' := 156) rfl ?_
        refine own_acmp_ne C X at_156 rfl rfl (pcT := 161) (pc' := 159) (by decide) (by decide) rfl (fun hc156 => ?_) (fun hc156 => absurd hc156 (fun q => (Ne.symm ne_da_out) (Value.ref.inj q)))
        refine own_aload C X at_161 rfl rfl (pc' := 163) rfl ?_
        refine own_alenI C X at_163 (n := 0) A_out rfl (pc' := 164) rfl ?_
        refine own_iload C X at_164 rfl (pc' := 166) rfl ?_
        refine own_iload C X at_166 rfl (pc' := 168) rfl ?_
        refine own_isub C X at_168 (z := 0) (by decide) (pc' := 169) rfl ?_
        refine own_icmp_eq C X at_169 (pcT := 174) (pc' := 172) (by decide) (by decide) rfl (fun hc169 => ?_) (fun hc169 => absurd hc169 (by decide))
        refine own_aload C X at_174 rfl rfl (pc' := 176) rfl ?_
        refine own_aload C X at_176 rfl rfl (pc' := 178) rfl ?_
        refine own_iload C X at_178 rfl (pc' := 180) rfl ?_
        refine own_iconst C X at_180 (v := 0) (by decide) (pc' := 181) rfl ?_
        refine own_callS C X at_181 (own_m_sameN l Z a0 hw out da (4 : Int32) (0 : Int32) _ n0 (own_big C X) [] [(3 : Int32), t1, t2, t3, t4] 0 rfl A_out A_da (by decide)) (hw _ (List.mem_of_getElem? (i := 59) rfl)) (hw _ (List.mem_of_getElem? (i := 60) rfl)) (hw _ (List.mem_of_getElem? (i := 61) rfl)) (hw _ (List.mem_of_getElem? (i := 62) rfl)) (by decide) own_pd_6987 rfl rfl (Nat.le_of_ble_eq_true rfl) (Nat.le_of_ble_eq_true rfl) (Nat.le_of_ble_eq_true rfl) (Nat.le_of_ble_eq_true rfl) (av := [(.ref out), (.ref da), (.int (4 : Int32)), (.int (0 : Int32))]) (S := []) rfl (pc' := 184) rfl ?_
        intro T h v X hQ
        obtain ⟨rfl, rfl⟩ := hQ
        show own_Go p e below n0 (own_FinW room_1 s (fun v h => v = some (.int 1))) (T.setTop (mkF m 184 #[.val (.int i0), .val (.int i1), .val (.int i2), .val (.int i3), .val (.ref da), .val (.int (1 : Int32)), .val (.int (1 : Int32)), .val (.int (4 : Int32)), .val (.ref inn), .val (.int (3 : Int32)), .val (.int (4 : Int32)), .val (.ref out), .unset] [(.int (1 : Int32))]))
        refine own_if_ne C X at_184 (pcT := 189) (pc' := 187) (by decide) (by decide) rfl (fun hc184 => ?_) (fun hc184 => absurd hc184 (by decide))
        refine own_aload C X at_189 rfl rfl (pc' := 191) rfl ?_
        refine own_aload C X at_191 rfl rfl (pc' := 193) rfl ?_
        refine own_iload C X at_193 rfl (pc' := 195) rfl ?_
        refine own_iconst C X at_195 (v := 1) (by decide) (pc' := 196) rfl ?_
        refine own_callS C X at_196 (own_m_sameN l Z a0 hw out da (4 : Int32) (1 : Int32) _ n0 (own_big C X) [] [(3 : Int32), t1, t2, t3, t4] 0 rfl A_out A_da (by decide)) (hw _ (List.mem_of_getElem? (i := 59) rfl)) (hw _ (List.mem_of_getElem? (i := 60) rfl)) (hw _ (List.mem_of_getElem? (i := 61) rfl)) (hw _ (List.mem_of_getElem? (i := 62) rfl)) (by decide) own_pd_6987 rfl rfl (Nat.le_of_ble_eq_true rfl) (Nat.le_of_ble_eq_true rfl) (Nat.le_of_ble_eq_true rfl) (Nat.le_of_ble_eq_true rfl) (av := [(.ref out), (.ref da), (.int (4 : Int32)), (.int (1 : Int32))]) (S := []) rfl (pc' := 199) rfl ?_
        intro T h v X hQ
        obtain ⟨rfl, rfl⟩ := hQ
        show own_Go p e below n0 (own_FinW room_1 s (fun v h => v = some (.int 1))) (T.setTop (mkF m 199 #[.val (.int i0), .val (.int i1), .val (.int i2), .val (.int i3), .val (.ref da), .val (.int (1 : Int32)), .val (.int (1 : Int32)), .val (.int (4 : Int32)), .val (.ref inn), .val (.int (3 : Int32)), .val (.int (4 : Int32)), .val (.ref out), .unset] [(.int (1 : Int32))]))
        refine own_if_ne C X at_199 (pcT := 204) (pc' := 202) (by decide) (by decide) rfl (fun hc199 => ?_) (fun hc199 => absurd hc199 (by decide))
        refine own_aload C X at_204 rfl rfl (pc' := 206) rfl ?_
        refine own_aload C X at_206 rfl rfl (pc' := 208) rfl ?_
        refine own_iload C X at_208 rfl (pc' := 210) rfl ?_
        refine own_iconst C X at_210 (v := 2) (by decide) (pc' := 211) rfl ?_
        refine own_callS C X at_211 (own_m_sameN l Z a0 hw out da (4 : Int32) (2 : Int32) _ n0 (own_big C X) [] [(3 : Int32), t1, t2, t3, t4] 0 rfl A_out A_da (by decide)) (hw _ (List.mem_of_getElem? (i := 59) rfl)) (hw _ (List.mem_of_getElem? (i := 60) rfl)) (hw _ (List.mem_of_getElem? (i := 61) rfl)) (hw _ (List.mem_of_getElem? (i := 62) rfl)) (by decide) own_pd_6987 rfl rfl (Nat.le_of_ble_eq_true rfl) (Nat.le_of_ble_eq_true rfl) (Nat.le_of_ble_eq_true rfl) (Nat.le_of_ble_eq_true rfl) (av := [(.ref out), (.ref da), (.int (4 : Int32)), (.int (2 : Int32))]) (S := []) rfl (pc' := 214) rfl ?_
        intro T h v X hQ
        obtain ⟨rfl, rfl⟩ := hQ
        show own_Go p e below n0 (own_FinW room_1 s (fun v h => v = some (.int 1))) (T.setTop (mkF m 214 #[.val (.int i0), .val (.int i1), .val (.int i2), .val (.int i3), .val (.ref da), .val (.int (1 : Int32)), .val (.int (1 : Int32)), .val (.int (4 : Int32)), .val (.ref inn), .val (.int (3 : Int32)), .val (.int (4 : Int32)), .val (.ref out), .unset] [(.int (1 : Int32))]))
        refine own_if_ne C X at_214 (pcT := 219) (pc' := 217) (by decide) (by decide) rfl (fun hc214 => ?_) (fun hc214 => absurd hc214 (by decide))
        refine own_aload C X at_219 rfl rfl (pc' := 221) rfl ?_
        refine own_aload C X at_221 rfl rfl (pc' := 223) rfl ?_
        refine own_iload C X at_223 rfl (pc' := 225) rfl ?_
        refine own_iconst C X at_225 (v := 3) (by decide) (pc' := 226) rfl ?_
        refine own_callS C X at_226 (own_m_sameN l Z a0 hw out da (4 : Int32) (3 : Int32) _ n0 (own_big C X) [] [(3 : Int32), t1, t2, t3, t4] 0 rfl A_out A_da (by decide)) (hw _ (List.mem_of_getElem? (i := 59) rfl)) (hw _ (List.mem_of_getElem? (i := 60) rfl)) (hw _ (List.mem_of_getElem? (i := 61) rfl)) (hw _ (List.mem_of_getElem? (i := 62) rfl)) (by decide) own_pd_6987 rfl rfl (Nat.le_of_ble_eq_true rfl) (Nat.le_of_ble_eq_true rfl) (Nat.le_of_ble_eq_true rfl) (Nat.le_of_ble_eq_true rfl) (av := [(.ref out), (.ref da), (.int (4 : Int32)), (.int (3 : Int32))]) (S := []) rfl (pc' := 229) rfl ?_
        intro T h v X hQ
        obtain ⟨rfl, rfl⟩ := hQ
        show own_Go p e below n0 (own_FinW room_1 s (fun v h => v = some (.int 1))) (T.setTop (mkF m 229 #[.val (.int i0), .val (.int i1), .val (.int i2), .val (.int i3), .val (.ref da), .val (.int (1 : Int32)), .val (.int (1 : Int32)), .val (.int (4 : Int32)), .val (.ref inn), .val (.int (3 : Int32)), .val (.int (4 : Int32)), .val (.ref out), .unset] [(.int (1 : Int32))]))
        refine own_if_ne C X at_229 (pcT := 234) (pc' := 232) (by decide) (by decide) rfl (fun hc229 => ?_) (fun hc229 => absurd hc229 (by decide))
        refine own_aload C X at_234 rfl rfl (pc' := 236) rfl ?_
        refine own_aload C X at_236 rfl rfl (pc' := 238) rfl ?_
        refine own_iload C X at_238 rfl (pc' := 240) rfl ?_
        refine own_iconst C X at_240 (v := 4) (by decide) (pc' := 241) rfl ?_
        refine own_callS C X at_241 (own_m_sameN l Z a0 hw out da (4 : Int32) (4 : Int32) _ n0 (own_big C X) [] [(3 : Int32), t1, t2, t3, t4] 0 rfl A_out A_da (by decide)) (hw _ (List.mem_of_getElem? (i := 59) rfl)) (hw _ (List.mem_of_getElem? (i := 60) rfl)) (hw _ (List.mem_of_getElem? (i := 61) rfl)) (hw _ (List.mem_of_getElem? (i := 62) rfl)) (by decide) own_pd_6987 rfl rfl (Nat.le_of_ble_eq_true rfl) (Nat.le_of_ble_eq_true rfl) (Nat.le_of_ble_eq_true rfl) (Nat.le_of_ble_eq_true rfl) (av := [(.ref out), (.ref da), (.int (4 : Int32)), (.int (4 : Int32))]) (S := []) rfl (pc' := 244) rfl ?_
        intro T h v X hQ
        obtain ⟨rfl, rfl⟩ := hQ
        show own_Go p e below n0 (own_FinW room_1 s (fun v h => v = some (.int 1))) (T.setTop (mkF m 244 #[.val (.int i0), .val (.int i1), .val (.int i2), .val (.int i3), .val (.ref da), .val (.int (1 : Int32)), .val (.int (1 : Int32)), .val (.int (4 : Int32)), .val (.ref inn), .val (.int (3 : Int32)), .val (.int (4 : Int32)), .val (.ref out), .unset] [(.int (1 : Int32))]))
        refine own_if_ne C X at_244 (pcT := 249) (pc' := 247) (by decide) (by decide) rfl (fun hc244 => ?_) (fun hc244 => absurd hc244 (by decide))
        refine own_aload C X at_249 rfl rfl (pc' := 251) rfl ?_
        refine own_callV C X at_251 (own_m_hr l Z a0 hw inn _ n0 (own_big C X) da (4 : Int32) (4 : Int32) O_inn) O_inn.1 (hw _ (List.mem_of_getElem? (i := 63) rfl)) (hw _ (List.mem_of_getElem? (i := 64) rfl)) (hw _ (List.mem_of_getElem? (i := 66) rfl)) (hw _ (List.mem_of_getElem? (i := 65) rfl)) (hw _ (List.mem_of_getElem? (i := 3) rfl)) (hw _ (List.mem_of_getElem? (i := 67) rfl)) (by decide) own_pd_1418 rfl rfl (Nat.le_of_ble_eq_true rfl) (Nat.le_of_ble_eq_true rfl) (Nat.le_of_ble_eq_true rfl) (Nat.le_of_ble_eq_true rfl) (av := []) (S := []) rfl (pc' := 254) rfl ?_
        intro T h v X hQ
        obtain ⟨rfl, rfl⟩ := hQ
        show own_Go p e below n0 (own_FinW room_1 s (fun v h => v = some (.int 1))) (T.setTop (mkF m 254 #[.val (.int i0), .val (.int i1), .val (.int i2), .val (.int i3), .val (.ref da), .val (.int (1 : Int32)), .val (.int (1 : Int32)), .val (.int (4 : Int32)), .val (.ref inn), .val (.int (3 : Int32)), .val (.int (4 : Int32)), .val (.ref out), .unset] [(.int (own_hr (4 : Int32) (4 : Int32)))]))
        rw [show own_hr (4 : Int32) (4 : Int32) = 0 from by decide]
        show own_Go p e below n0 (own_FinW room_1 s (fun v h => v = some (.int 1))) (T.setTop (mkF m 254 #[.val (.int i0), .val (.int i1), .val (.int i2), .val (.int i3), .val (.ref da), .val (.int (1 : Int32)), .val (.int (1 : Int32)), .val (.int (4 : Int32)), .val (.ref inn), .val (.int (3 : Int32)), .val (.int (4 : Int32)), .val (.ref out), .unset] [(.int (0 : Int32))]))
        refine own_if_eq C X at_254 (pcT := 259) (pc' := 257) (by decide) (by decide) rfl (fun hc254 => ?_) (fun hc254 => absurd hc254 (by decide))
        refine own_aload C X at_259 rfl rfl (pc' := 261) rfl ?_
        have hbg := own_big C X
        refine own_callV C X at_261 (own_m_rest44 l Z a0 hw inn _ n0 hbg da (3 : Int32) t1 t2 t3 t4 A_da E_da O_inn (Ne.symm ne_da_inn) ge_inn) O_inn.1 (hw _ (List.mem_of_getElem? (i := 36) rfl)) (hw _ (List.mem_of_getElem? (i := 37) rfl)) (hw _ (List.mem_of_getElem? (i := 39) rfl)) (hw _ (List.mem_of_getElem? (i := 38) rfl)) (hw _ (List.mem_of_getElem? (i := 3) rfl)) (hw _ (List.mem_of_getElem? (i := 40) rfl)) (by decide) own_pd_2087 rfl rfl (Nat.le_of_ble_eq_true rfl) (Nat.le_of_ble_eq_true rfl) (Nat.le_of_ble_eq_true rfl) (Nat.le_of_ble_eq_true rfl) (av := []) (S := []) rfl (pc' := 264) rfl ?_
        intro T h v X hQ
        obtain ⟨ou2, rfl, gq_ou2, K_, O_n, A_ou2⟩ := hQ
        have ne_da_ou2 : da ≠ ou2 := Nat.ne_of_lt (Nat.lt_of_lt_of_le A_da.lt gq_ou2)
        have ne_rd_ou2 : rd ≠ ou2 := Nat.ne_of_lt (Nat.lt_of_lt_of_le O_rd.lt gq_ou2)
        have ne_inn_ou2 : inn ≠ ou2 := Nat.ne_of_lt (Nat.lt_of_lt_of_le O_inn.lt gq_ou2)
        have ne_out_ou2 : out ≠ ou2 := Nat.ne_of_lt (Nat.lt_of_lt_of_le A_out.lt gq_ou2)
        have ge_ou2 : n0 ≤ ou2 := Nat.le_trans hbg gq_ou2
        have O_inn := O_n
        have A_da := A_da.keep K_ (ninS ne_da_inn nin0)
        have E_da := E_da.keep K_
        have O_rd := O_rd.keep K_ (ninS ne_rd_inn nin0)
        have A_out := A_out.keep K_ (ninS (Ne.symm ne_inn_out) nin0)
        have hSk := Nat.le_trans hSk K_.1
        show own_Go p e below n0 (own_FinW room_1 s (fun v h => v = some (.int 1))) (T.setTop (mkF m 264 #[.val (.int i0), .val (.int i1), .val (.int i2), .val (.int i3), .val (.ref da), .val (.int (1 : Int32)), .val (.int (1 : Int32)), .val (.int (4 : Int32)), .val (.ref inn), .val (.int (3 : Int32)), .val (.int (4 : Int32)), .val (.ref out), .unset] [(.ref ou2)]))
        refine own_alenI C X at_264 (n := 0) A_ou2 rfl (pc' := 265) rfl ?_
        refine own_if_eq C X at_265 (pcT := 270) (pc' := 268) (by decide) (by decide) rfl (fun hc265 => ?_) (fun hc265 => absurd hc265 (by decide))
        refine own_aload C X at_270 rfl rfl (pc' := 272) rfl ?_
        refine own_alenI C X at_272 (n := 0) A_out rfl (pc' := 273) rfl ?_
        refine own_if_le C X at_273 (pcT := 306) (pc' := 276) (by decide) (by decide) rfl (fun hc273 => ?_) (fun hc273 => absurd hc273 (by decide))
        refine own_iconst C X at_306 (v := 1) (by decide) (pc' := 307) rfl ?_
        exact own_ireturn_zW C X hS hSk at_307 (Nat.le_of_ble_eq_true rfl) (Nat.le_of_ble_eq_true rfl) (rfl)
    · refine own_istore C X at_87 (L' := #[.val (.int i0), .val (.int i1), .val (.int i2), .val (.int i3), .val (.ref da), .val (.int (1 : Int32)), .val (.int (0 : Int32)), .val (.int (5 : Int32)), .val (.ref rd), .val (.int (4 : Int32)), .unset, .unset, .unset]) rfl (pc' := 89) rfl ?_
      refine own_aload C X at_89 rfl rfl (pc' := 91) rfl ?_
      refine own_iconst C X at_91 (v := 0) (by decide) (pc' := 92) rfl ?_
      refine own_iload C X at_92 rfl (pc' := 94) rfl ?_
      refine own_i2b C X at_94 (z := 4) (by decide) (pc' := 95) rfl ?_
      refine own_bastore C X at_95 A_da (by decide) (i := 0) (Nat.le_of_ble_eq_true rfl) (v := 4) (by decide) ge_da (pc' := 96) rfl ?_
      intro T h X K_ A_da_
      have A_da : own_IA Z h da .byte [(4 : Int32), t1, t2, t3, t4] := A_da_
      have E_da := E_da.keep K_
      have O_rd := O_rd.keep K_ (ninS (Ne.symm ne_da_rd) nin0)
      have hSk := Nat.le_trans hSk K_.1
      refine own_aload C X at_96 rfl rfl (pc' := 98) rfl ?_
      refine own_iconst C X at_98 (v := 1) (by decide) (pc' := 99) rfl ?_
      refine own_ldcS C X hS hSk at_99 (hw _ (List.mem_of_getElem? (i := 68) rfl)) (own_strW hw) (n := 1024) (by decide) (by decide) (Nat.le_of_ble_eq_true rfl) (Nat.le_of_ble_eq_true rfl) (pc' := 101) rfl ?_
      intro T h sv vm k_ C X K_ hS hSk_
      have A_da := A_da.keep K_ nin0
      have E_da := E_da.keep K_
      have O_rd := O_rd.keep K_ nin0
      have hSk := Nat.le_trans hSk K_.1
      have hSk := hSk_
      have hbg := own_big C X
      refine own_callV C X at_101 (own_m_vec l Z a0 hw rd sv _ n0 (own_big C X) da [(4 : Int32), t1, t2, t3, t4] (5 : Int32) (4 : Int32) (4 : Int32) rfl (by decide) (by decide) O_rd A_da (Ne.symm ne_da_rd) ge_rd (5 : Int32) (by decide) (by decide)) O_rd.1 (hw _ (List.mem_of_getElem? (i := 69) rfl)) (hw _ (List.mem_of_getElem? (i := 70) rfl)) (hw _ (List.mem_of_getElem? (i := 72) rfl)) (hw _ (List.mem_of_getElem? (i := 71) rfl)) (hw _ (List.mem_of_getElem? (i := 3) rfl)) (hw _ (List.mem_of_getElem? (i := 73) rfl)) (by decide) own_pd_251861 rfl rfl (Nat.le_of_ble_eq_true rfl) (Nat.le_of_ble_eq_true rfl) (Nat.le_of_ble_eq_true rfl) (Nat.le_of_ble_eq_true rfl) (av := [(.int (1 : Int32)), (.ref sv)]) (S := []) rfl (pc' := 104) rfl ?_
      intro T h v X hQ
      obtain ⟨inn, rfl, gq_inn, K_, O_n, O_inn⟩ := hQ
      have ne_da_inn : da ≠ inn := Nat.ne_of_lt (Nat.lt_of_lt_of_le A_da.lt gq_inn)
      have ne_rd_inn : rd ≠ inn := Nat.ne_of_lt (Nat.lt_of_lt_of_le O_rd.lt gq_inn)
      have ge_inn : n0 ≤ inn := Nat.le_trans hbg gq_inn
      have O_rd := O_n
      have A_da := A_da.keep K_ (ninS ne_da_rd nin0)
      have E_da := E_da.keep K_
      have hSk := Nat.le_trans hSk K_.1
      show own_Go p e below n0 (own_FinW room_1 s (fun v h => v = some (.int 1))) (T.setTop (mkF m 104 #[.val (.int i0), .val (.int i1), .val (.int i2), .val (.int i3), .val (.ref da), .val (.int (1 : Int32)), .val (.int (0 : Int32)), .val (.int (5 : Int32)), .val (.ref rd), .val (.int (4 : Int32)), .unset, .unset, .unset] [(.ref inn)]))
      refine own_astore C X at_104 rfl (L' := #[.val (.int i0), .val (.int i1), .val (.int i2), .val (.int i3), .val (.ref da), .val (.int (1 : Int32)), .val (.int (0 : Int32)), .val (.int (5 : Int32)), .val (.ref inn), .val (.int (4 : Int32)), .unset, .unset, .unset]) rfl (pc' := 106) rfl ?_
      refine own_iconst C X at_106 (v := 1) (by decide) (pc' := 107) rfl ?_
      refine own_istore C X at_107 (L' := #[.val (.int i0), .val (.int i1), .val (.int i2), .val (.int i3), .val (.ref da), .val (.int (1 : Int32)), .val (.int (1 : Int32)), .val (.int (5 : Int32)), .val (.ref inn), .val (.int (4 : Int32)), .unset, .unset, .unset]) rfl (pc' := 109) rfl ?_
      refine own_iconst C X at_109 (v := 1) (by decide) (pc' := 110) rfl ?_
      refine own_iload C X at_110 rfl (pc' := 112) rfl ?_
      refine own_iadd C X at_112 (z := 5) (by decide) (pc' := 113) rfl ?_
      refine own_istore C X at_113 (L' := #[.val (.int i0), .val (.int i1), .val (.int i2), .val (.int i3), .val (.ref da), .val (.int (1 : Int32)), .val (.int (1 : Int32)), .val (.int (5 : Int32)), .val (.ref inn), .val (.int (4 : Int32)), .unset, .unset, .unset]) rfl (pc' := 115) rfl ?_
      refine own_iloadN C X at_115 rfl (pc' := 116) rfl ?_
      refine own_ldcI C X at_116 (hw _ (List.mem_of_getElem? (i := 19) rfl)) (pc' := 118) rfl ?_
      refine own_iand C X at_118 rfl (pc' := 119) rfl ?_
      refine own_iload C X at_119 rfl (pc' := 121) rfl ?_
      refine own_iload C X at_121 rfl (pc' := 123) rfl ?_
      refine own_isub C X at_123 (z := 4) (by decide) (pc' := 124) rfl ?_
      refine own_iconst C X at_124 (v := 1) (by decide) (pc' := 125) rfl ?_
      refine own_iadd C X at_125 (z := 5) (by decide) (pc' := 126) rfl ?_
      obtain ⟨kk, e_kk⟩ : ∃ z : Int32, ((i3 &&& (2147483647 : Int32)) % (5 : Int32)) = z := ⟨_, rfl⟩
      refine own_irem C X at_126 (by decide) e_kk (pc' := 127) rfl ?_
      rcases own_md5 _ kk e_kk with rfl | rfl | rfl | rfl | rfl
      · refine own_istore C X at_127 (L' := #[.val (.int i0), .val (.int i1), .val (.int i2), .val (.int i3), .val (.ref da), .val (.int (1 : Int32)), .val (.int (1 : Int32)), .val (.int (5 : Int32)), .val (.ref inn), .val (.int (0 : Int32)), .unset, .unset, .unset]) rfl (pc' := 129) rfl ?_
        refine own_aload C X at_129 rfl rfl (pc' := 131) rfl ?_
        refine own_iload C X at_131 rfl (pc' := 133) rfl ?_
        refine own_ldcS C X hS hSk at_133 (hw _ (List.mem_of_getElem? (i := 20) rfl)) (own_strW hw) (n := 1024) (by decide) (by decide) (Nat.le_of_ble_eq_true rfl) (Nat.le_of_ble_eq_true rfl) (pc' := 135) rfl ?_
        intro T h ss vm k_ C X K_ hS hSk_
        have A_da := A_da.keep K_ nin0
        have E_da := E_da.keep K_
        have O_rd := O_rd.keep K_ nin0
        have O_inn := O_inn.keep K_ nin0
        have hSk := Nat.le_trans hSk K_.1
        have hSk := hSk_
        refine own_callV C X at_135 (own_m_skip l Z a0 hw inn (0 : Int32) ss _ n0 (own_big C X) da (1 : Int32) (5 : Int32) (1 : Int32) (by decide) (by decide) O_inn ge_inn) O_inn.1 (hw _ (List.mem_of_getElem? (i := 27) rfl)) (hw _ (List.mem_of_getElem? (i := 28) rfl)) (hw _ (List.mem_of_getElem? (i := 30) rfl)) (hw _ (List.mem_of_getElem? (i := 29) rfl)) (hw _ (List.mem_of_getElem? (i := 3) rfl)) (hw _ (List.mem_of_getElem? (i := 31) rfl)) (by decide) own_pd_34082 rfl rfl (Nat.le_of_ble_eq_true rfl) (Nat.le_of_ble_eq_true rfl) (Nat.le_of_ble_eq_true rfl) (Nat.le_of_ble_eq_true rfl) (av := [(.int (0 : Int32)), (.ref ss)]) (S := []) rfl (pc' := 138) rfl ?_
        intro T h v X hQ
        obtain ⟨rfl, K_, O_inn⟩ := hQ
        have A_da := A_da.keep K_ (ninS ne_da_inn nin0)
        have E_da := E_da.keep K_
        have O_rd := O_rd.keep K_ (ninS ne_rd_inn nin0)
        have hSk := Nat.le_trans hSk K_.1
        show own_Go p e below n0 (own_FinW room_1 s (fun v h => v = some (.int 1))) (T.setTop (mkF m 138 #[.val (.int i0), .val (.int i1), .val (.int i2), .val (.int i3), .val (.ref da), .val (.int (1 : Int32)), .val (.int (1 : Int32)), .val (.int (5 : Int32)), .val (.ref inn), .val (.int (0 : Int32)), .unset, .unset, .unset] []))
        refine own_iload C X at_138 rfl (pc' := 140) rfl ?_
        refine own_iload C X at_140 rfl (pc' := 142) rfl ?_
        refine own_iadd C X at_142 (z := 1) (by decide) (pc' := 143) rfl ?_
        refine own_istore C X at_143 (L' := #[.val (.int i0), .val (.int i1), .val (.int i2), .val (.int i3), .val (.ref da), .val (.int (1 : Int32)), .val (.int (1 : Int32)), .val (.int (5 : Int32)), .val (.ref inn), .val (.int (0 : Int32)), .val (.int (1 : Int32)), .unset, .unset]) rfl (pc' := 145) rfl ?_
        refine own_aload C X at_145 rfl rfl (pc' := 147) rfl ?_
        have hbg := own_big C X
        refine own_callV C X at_147 (own_m_rest15 l Z a0 hw inn _ n0 hbg da (4 : Int32) t1 t2 t3 t4 A_da E_da O_inn (Ne.symm ne_da_inn) ge_inn) O_inn.1 (hw _ (List.mem_of_getElem? (i := 36) rfl)) (hw _ (List.mem_of_getElem? (i := 37) rfl)) (hw _ (List.mem_of_getElem? (i := 39) rfl)) (hw _ (List.mem_of_getElem? (i := 38) rfl)) (hw _ (List.mem_of_getElem? (i := 3) rfl)) (hw _ (List.mem_of_getElem? (i := 40) rfl)) (by decide) own_pd_2087 rfl rfl (Nat.le_of_ble_eq_true rfl) (Nat.le_of_ble_eq_true rfl) (Nat.le_of_ble_eq_true rfl) (Nat.le_of_ble_eq_true rfl) (av := []) (S := []) rfl (pc' := 150) rfl ?_
        intro T h v X hQ
        obtain ⟨out, rfl, gq_out, K_, O_n, A_out⟩ := hQ
        have ne_da_out : da ≠ out := Nat.ne_of_lt (Nat.lt_of_lt_of_le A_da.lt gq_out)
        have ne_rd_out : rd ≠ out := Nat.ne_of_lt (Nat.lt_of_lt_of_le O_rd.lt gq_out)
        have ne_inn_out : inn ≠ out := Nat.ne_of_lt (Nat.lt_of_lt_of_le O_inn.lt gq_out)
        have ge_out : n0 ≤ out := Nat.le_trans hbg gq_out
        have O_inn := O_n
        have A_da := A_da.keep K_ (ninS ne_da_inn nin0)
        have E_da := E_da.keep K_
        have O_rd := O_rd.keep K_ (ninS ne_rd_inn nin0)
        have hSk := Nat.le_trans hSk K_.1
        show own_Go p e below n0 (own_FinW room_1 s (fun v h => v = some (.int 1))) (T.setTop (mkF m 150 #[.val (.int i0), .val (.int i1), .val (.int i2), .val (.int i3), .val (.ref da), .val (.int (1 : Int32)), .val (.int (1 : Int32)), .val (.int (5 : Int32)), .val (.ref inn), .val (.int (0 : Int32)), .val (.int (1 : Int32)), .unset, .unset] [(.ref out)]))
        refine own_astore C X at_150 rfl (L' := #[.val (.int i0), .val (.int i1), .val (.int i2), .val (.int i3), .val (.ref da), .val (.int (1 : Int32)), .val (.int (1 : Int32)), .val (.int (5 : Int32)), .val (.ref inn), .val (.int (0 : Int32)), .val (.int (1 : Int32)), .val (.ref out), .unset]) rfl (pc' := 152) rfl ?_
        refine own_aload C X at_152 rfl rfl (pc' := 154) rfl ?_
        refine own_aload C X at_154 rfl rfl (pc' := 156) rfl ?_
        refine own_acmp_ne C X at_156 rfl rfl (pcT := 161) (pc' := 159) (by decide) (by decide) rfl (fun hc156 => ?_) (fun hc156 => absurd hc156 (fun q => (Ne.symm ne_da_out) (Value.ref.inj q)))
        refine own_aload C X at_161 rfl rfl (pc' := 163) rfl ?_
        refine own_alenI C X at_163 (n := 4) A_out rfl (pc' := 164) rfl ?_
        refine own_iload C X at_164 rfl (pc' := 166) rfl ?_
        refine own_iload C X at_166 rfl (pc' := 168) rfl ?_
        refine own_isub C X at_168 (z := 4) (by decide) (pc' := 169) rfl ?_
        refine own_icmp_eq C X at_169 (pcT := 174) (pc' := 172) (by decide) (by decide) rfl (fun hc169 => ?_) (fun hc169 => absurd hc169 (by decide))
        refine own_aload C X at_174 rfl rfl (pc' := 176) rfl ?_
        refine own_aload C X at_176 rfl rfl (pc' := 178) rfl ?_
        refine own_iload C X at_178 rfl (pc' := 180) rfl ?_
        refine own_iconst C X at_180 (v := 0) (by decide) (pc' := 181) rfl ?_
        refine own_callS C X at_181 (own_m_sameY l Z a0 hw out da (1 : Int32) (0 : Int32) _ n0 (own_big C X) [t1, t2, t3, t4] [(4 : Int32), t1, t2, t3, t4] 4 rfl A_out A_da (by decide) 0 1 t1 (by decide) (by decide) rfl rfl) (hw _ (List.mem_of_getElem? (i := 59) rfl)) (hw _ (List.mem_of_getElem? (i := 60) rfl)) (hw _ (List.mem_of_getElem? (i := 61) rfl)) (hw _ (List.mem_of_getElem? (i := 62) rfl)) (by decide) own_pd_6987 rfl rfl (Nat.le_of_ble_eq_true rfl) (Nat.le_of_ble_eq_true rfl) (Nat.le_of_ble_eq_true rfl) (Nat.le_of_ble_eq_true rfl) (av := [(.ref out), (.ref da), (.int (1 : Int32)), (.int (0 : Int32))]) (S := []) rfl (pc' := 184) rfl ?_
        intro T h v X hQ
        obtain ⟨rfl, rfl⟩ := hQ
        show own_Go p e below n0 (own_FinW room_1 s (fun v h => v = some (.int 1))) (T.setTop (mkF m 184 #[.val (.int i0), .val (.int i1), .val (.int i2), .val (.int i3), .val (.ref da), .val (.int (1 : Int32)), .val (.int (1 : Int32)), .val (.int (5 : Int32)), .val (.ref inn), .val (.int (0 : Int32)), .val (.int (1 : Int32)), .val (.ref out), .unset] [(.int (1 : Int32))]))
        refine own_if_ne C X at_184 (pcT := 189) (pc' := 187) (by decide) (by decide) rfl (fun hc184 => ?_) (fun hc184 => absurd hc184 (by decide))
        refine own_aload C X at_189 rfl rfl (pc' := 191) rfl ?_
        refine own_aload C X at_191 rfl rfl (pc' := 193) rfl ?_
        refine own_iload C X at_193 rfl (pc' := 195) rfl ?_
        refine own_iconst C X at_195 (v := 1) (by decide) (pc' := 196) rfl ?_
        refine own_callS C X at_196 (own_m_sameY l Z a0 hw out da (1 : Int32) (1 : Int32) _ n0 (own_big C X) [t1, t2, t3, t4] [(4 : Int32), t1, t2, t3, t4] 4 rfl A_out A_da (by decide) 1 2 t2 (by decide) (by decide) rfl rfl) (hw _ (List.mem_of_getElem? (i := 59) rfl)) (hw _ (List.mem_of_getElem? (i := 60) rfl)) (hw _ (List.mem_of_getElem? (i := 61) rfl)) (hw _ (List.mem_of_getElem? (i := 62) rfl)) (by decide) own_pd_6987 rfl rfl (Nat.le_of_ble_eq_true rfl) (Nat.le_of_ble_eq_true rfl) (Nat.le_of_ble_eq_true rfl) (Nat.le_of_ble_eq_true rfl) (av := [(.ref out), (.ref da), (.int (1 : Int32)), (.int (1 : Int32))]) (S := []) rfl (pc' := 199) rfl ?_
        intro T h v X hQ
        obtain ⟨rfl, rfl⟩ := hQ
        show own_Go p e below n0 (own_FinW room_1 s (fun v h => v = some (.int 1))) (T.setTop (mkF m 199 #[.val (.int i0), .val (.int i1), .val (.int i2), .val (.int i3), .val (.ref da), .val (.int (1 : Int32)), .val (.int (1 : Int32)), .val (.int (5 : Int32)), .val (.ref inn), .val (.int (0 : Int32)), .val (.int (1 : Int32)), .val (.ref out), .unset] [(.int (1 : Int32))]))
        refine own_if_ne C X at_199 (pcT := 204) (pc' := 202) (by decide) (by decide) rfl (fun hc199 => ?_) (fun hc199 => absurd hc199 (by decide))
        refine own_aload C X at_204 rfl rfl (pc' := 206) rfl ?_
        refine own_aload C X at_206 rfl rfl (pc' := 208) rfl ?_
        refine own_iload C X at_208 rfl (pc' := 210) rfl ?_
        refine own_iconst C X at_210 (v := 2) (by decide) (pc' := 211) rfl ?_
        refine own_callS C X at_211 (own_m_sameY l Z a0 hw out da (1 : Int32) (2 : Int32) _ n0 (own_big C X) [t1, t2, t3, t4] [(4 : Int32), t1, t2, t3, t4] 4 rfl A_out A_da (by decide) 2 3 t3 (by decide) (by decide) rfl rfl) (hw _ (List.mem_of_getElem? (i := 59) rfl)) (hw _ (List.mem_of_getElem? (i := 60) rfl)) (hw _ (List.mem_of_getElem? (i := 61) rfl)) (hw _ (List.mem_of_getElem? (i := 62) rfl)) (by decide) own_pd_6987 rfl rfl (Nat.le_of_ble_eq_true rfl) (Nat.le_of_ble_eq_true rfl) (Nat.le_of_ble_eq_true rfl) (Nat.le_of_ble_eq_true rfl) (av := [(.ref out), (.ref da), (.int (1 : Int32)), (.int (2 : Int32))]) (S := []) rfl (pc' := 214) rfl ?_
        intro T h v X hQ
        obtain ⟨rfl, rfl⟩ := hQ
        show own_Go p e below n0 (own_FinW room_1 s (fun v h => v = some (.int 1))) (T.setTop (mkF m 214 #[.val (.int i0), .val (.int i1), .val (.int i2), .val (.int i3), .val (.ref da), .val (.int (1 : Int32)), .val (.int (1 : Int32)), .val (.int (5 : Int32)), .val (.ref inn), .val (.int (0 : Int32)), .val (.int (1 : Int32)), .val (.ref out), .unset] [(.int (1 : Int32))]))
        refine own_if_ne C X at_214 (pcT := 219) (pc' := 217) (by decide) (by decide) rfl (fun hc214 => ?_) (fun hc214 => absurd hc214 (by decide))
        refine own_aload C X at_219 rfl rfl (pc' := 221) rfl ?_
        refine own_aload C X at_221 rfl rfl (pc' := 223) rfl ?_
        refine own_iload C X at_223 rfl (pc' := 225) rfl ?_
        refine own_iconst C X at_225 (v := 3) (by decide) (pc' := 226) rfl ?_
        refine own_callS C X at_226 (own_m_sameY l Z a0 hw out da (1 : Int32) (3 : Int32) _ n0 (own_big C X) [t1, t2, t3, t4] [(4 : Int32), t1, t2, t3, t4] 4 rfl A_out A_da (by decide) 3 4 t4 (by decide) (by decide) rfl rfl) (hw _ (List.mem_of_getElem? (i := 59) rfl)) (hw _ (List.mem_of_getElem? (i := 60) rfl)) (hw _ (List.mem_of_getElem? (i := 61) rfl)) (hw _ (List.mem_of_getElem? (i := 62) rfl)) (by decide) own_pd_6987 rfl rfl (Nat.le_of_ble_eq_true rfl) (Nat.le_of_ble_eq_true rfl) (Nat.le_of_ble_eq_true rfl) (Nat.le_of_ble_eq_true rfl) (av := [(.ref out), (.ref da), (.int (1 : Int32)), (.int (3 : Int32))]) (S := []) rfl (pc' := 229) rfl ?_
        intro T h v X hQ
        obtain ⟨rfl, rfl⟩ := hQ
        show own_Go p e below n0 (own_FinW room_1 s (fun v h => v = some (.int 1))) (T.setTop (mkF m 229 #[.val (.int i0), .val (.int i1), .val (.int i2), .val (.int i3), .val (.ref da), .val (.int (1 : Int32)), .val (.int (1 : Int32)), .val (.int (5 : Int32)), .val (.ref inn), .val (.int (0 : Int32)), .val (.int (1 : Int32)), .val (.ref out), .unset] [(.int (1 : Int32))]))
        refine own_if_ne C X at_229 (pcT := 234) (pc' := 232) (by decide) (by decide) rfl (fun hc229 => ?_) (fun hc229 => absurd hc229 (by decide))
        refine own_aload C X at_234 rfl rfl (pc' := 236) rfl ?_
        refine own_aload C X at_236 rfl rfl (pc' := 238) rfl ?_
        refine own_iload C X at_238 rfl (pc' := 240) rfl ?_
        refine own_iconst C X at_240 (v := 4) (by decide) (pc' := 241) rfl ?_
        refine own_callS C X at_241 (own_m_sameN l Z a0 hw out da (1 : Int32) (4 : Int32) _ n0 (own_big C X) [t1, t2, t3, t4] [(4 : Int32), t1, t2, t3, t4] 4 rfl A_out A_da (by decide)) (hw _ (List.mem_of_getElem? (i := 59) rfl)) (hw _ (List.mem_of_getElem? (i := 60) rfl)) (hw _ (List.mem_of_getElem? (i := 61) rfl)) (hw _ (List.mem_of_getElem? (i := 62) rfl)) (by decide) own_pd_6987 rfl rfl (Nat.le_of_ble_eq_true rfl) (Nat.le_of_ble_eq_true rfl) (Nat.le_of_ble_eq_true rfl) (Nat.le_of_ble_eq_true rfl) (av := [(.ref out), (.ref da), (.int (1 : Int32)), (.int (4 : Int32))]) (S := []) rfl (pc' := 244) rfl ?_
        intro T h v X hQ
        obtain ⟨rfl, rfl⟩ := hQ
        show own_Go p e below n0 (own_FinW room_1 s (fun v h => v = some (.int 1))) (T.setTop (mkF m 244 #[.val (.int i0), .val (.int i1), .val (.int i2), .val (.int i3), .val (.ref da), .val (.int (1 : Int32)), .val (.int (1 : Int32)), .val (.int (5 : Int32)), .val (.ref inn), .val (.int (0 : Int32)), .val (.int (1 : Int32)), .val (.ref out), .unset] [(.int (1 : Int32))]))
        refine own_if_ne C X at_244 (pcT := 249) (pc' := 247) (by decide) (by decide) rfl (fun hc244 => ?_) (fun hc244 => absurd hc244 (by decide))
        refine own_aload C X at_249 rfl rfl (pc' := 251) rfl ?_
        refine own_callV C X at_251 (own_m_hr l Z a0 hw inn _ n0 (own_big C X) da (5 : Int32) (5 : Int32) O_inn) O_inn.1 (hw _ (List.mem_of_getElem? (i := 63) rfl)) (hw _ (List.mem_of_getElem? (i := 64) rfl)) (hw _ (List.mem_of_getElem? (i := 66) rfl)) (hw _ (List.mem_of_getElem? (i := 65) rfl)) (hw _ (List.mem_of_getElem? (i := 3) rfl)) (hw _ (List.mem_of_getElem? (i := 67) rfl)) (by decide) own_pd_1418 rfl rfl (Nat.le_of_ble_eq_true rfl) (Nat.le_of_ble_eq_true rfl) (Nat.le_of_ble_eq_true rfl) (Nat.le_of_ble_eq_true rfl) (av := []) (S := []) rfl (pc' := 254) rfl ?_
        intro T h v X hQ
        obtain ⟨rfl, rfl⟩ := hQ
        show own_Go p e below n0 (own_FinW room_1 s (fun v h => v = some (.int 1))) (T.setTop (mkF m 254 #[.val (.int i0), .val (.int i1), .val (.int i2), .val (.int i3), .val (.ref da), .val (.int (1 : Int32)), .val (.int (1 : Int32)), .val (.int (5 : Int32)), .val (.ref inn), .val (.int (0 : Int32)), .val (.int (1 : Int32)), .val (.ref out), .unset] [(.int (own_hr (5 : Int32) (5 : Int32)))]))
        rw [show own_hr (5 : Int32) (5 : Int32) = 0 from by decide]
        show own_Go p e below n0 (own_FinW room_1 s (fun v h => v = some (.int 1))) (T.setTop (mkF m 254 #[.val (.int i0), .val (.int i1), .val (.int i2), .val (.int i3), .val (.ref da), .val (.int (1 : Int32)), .val (.int (1 : Int32)), .val (.int (5 : Int32)), .val (.ref inn), .val (.int (0 : Int32)), .val (.int (1 : Int32)), .val (.ref out), .unset] [(.int (0 : Int32))]))
        refine own_if_eq C X at_254 (pcT := 259) (pc' := 257) (by decide) (by decide) rfl (fun hc254 => ?_) (fun hc254 => absurd hc254 (by decide))
        refine own_aload C X at_259 rfl rfl (pc' := 261) rfl ?_
        have hbg := own_big C X
        refine own_callV C X at_261 (own_m_rest55 l Z a0 hw inn _ n0 hbg da (4 : Int32) t1 t2 t3 t4 A_da E_da O_inn (Ne.symm ne_da_inn) ge_inn) O_inn.1 (hw _ (List.mem_of_getElem? (i := 36) rfl)) (hw _ (List.mem_of_getElem? (i := 37) rfl)) (hw _ (List.mem_of_getElem? (i := 39) rfl)) (hw _ (List.mem_of_getElem? (i := 38) rfl)) (hw _ (List.mem_of_getElem? (i := 3) rfl)) (hw _ (List.mem_of_getElem? (i := 40) rfl)) (by decide) own_pd_2087 rfl rfl (Nat.le_of_ble_eq_true rfl) (Nat.le_of_ble_eq_true rfl) (Nat.le_of_ble_eq_true rfl) (Nat.le_of_ble_eq_true rfl) (av := []) (S := []) rfl (pc' := 264) rfl ?_
        intro T h v X hQ
        obtain ⟨ou2, rfl, gq_ou2, K_, O_n, A_ou2⟩ := hQ
        have ne_da_ou2 : da ≠ ou2 := Nat.ne_of_lt (Nat.lt_of_lt_of_le A_da.lt gq_ou2)
        have ne_rd_ou2 : rd ≠ ou2 := Nat.ne_of_lt (Nat.lt_of_lt_of_le O_rd.lt gq_ou2)
        have ne_inn_ou2 : inn ≠ ou2 := Nat.ne_of_lt (Nat.lt_of_lt_of_le O_inn.lt gq_ou2)
        have ne_out_ou2 : out ≠ ou2 := Nat.ne_of_lt (Nat.lt_of_lt_of_le A_out.lt gq_ou2)
        have ge_ou2 : n0 ≤ ou2 := Nat.le_trans hbg gq_ou2
        have O_inn := O_n
        have A_da := A_da.keep K_ (ninS ne_da_inn nin0)
        have E_da := E_da.keep K_
        have O_rd := O_rd.keep K_ (ninS ne_rd_inn nin0)
        have A_out := A_out.keep K_ (ninS (Ne.symm ne_inn_out) nin0)
        have hSk := Nat.le_trans hSk K_.1
        show own_Go p e below n0 (own_FinW room_1 s (fun v h => v = some (.int 1))) (T.setTop (mkF m 264 #[.val (.int i0), .val (.int i1), .val (.int i2), .val (.int i3), .val (.ref da), .val (.int (1 : Int32)), .val (.int (1 : Int32)), .val (.int (5 : Int32)), .val (.ref inn), .val (.int (0 : Int32)), .val (.int (1 : Int32)), .val (.ref out), .unset] [(.ref ou2)]))
        refine own_alenI C X at_264 (n := 0) A_ou2 rfl (pc' := 265) rfl ?_
        refine own_if_eq C X at_265 (pcT := 270) (pc' := 268) (by decide) (by decide) rfl (fun hc265 => ?_) (fun hc265 => absurd hc265 (by decide))
        refine own_aload C X at_270 rfl rfl (pc' := 272) rfl ?_
        refine own_alenI C X at_272 (n := 4) A_out rfl (pc' := 273) rfl ?_
        refine own_if_le C X at_273 (pcT := 306) (pc' := 276) (by decide) (by decide) rfl (fun hc273 => absurd hc273 (by decide)) (fun hc273 => ?_)
        refine own_aload C X at_276 rfl rfl (pc' := 278) rfl ?_
        refine own_iload C X at_278 rfl (pc' := 280) rfl ?_
        refine own_baload C X at_280 A_da (by decide) (i := 1) rfl (pc' := 281) rfl ?_
        refine own_istore C X at_281 (L' := #[.val (.int i0), .val (.int i1), .val (.int i2), .val (.int i3), .val (.ref da), .val (.int (1 : Int32)), .val (.int (1 : Int32)), .val (.int (5 : Int32)), .val (.ref inn), .val (.int (0 : Int32)), .val (.int (1 : Int32)), .val (.ref out), .val (.int t1)]) rfl (pc' := 283) rfl ?_
        refine own_aload C X at_283 rfl rfl (pc' := 285) rfl ?_
        refine own_iconst C X at_285 (v := 0) (by decide) (pc' := 286) rfl ?_
        refine own_aload C X at_286 rfl rfl (pc' := 288) rfl ?_
        refine own_iconst C X at_288 (v := 0) (by decide) (pc' := 289) rfl ?_
        refine own_baload C X at_289 A_out (by decide) (i := 0) rfl (pc' := 290) rfl ?_
        refine own_iconst C X at_290 (v := 1) (by decide) (pc' := 291) rfl ?_
        refine own_ixor C X at_291 rfl (pc' := 292) rfl ?_
        obtain ⟨tx, e_tx⟩ : ∃ z : Int32, (t1 ^^^ (1 : Int32)).toInt8.toInt32 = z := ⟨_, rfl⟩
        refine own_i2b C X at_292 e_tx (pc' := 293) rfl ?_
        refine own_bastore C X at_293 A_out (by decide) (i := 0) (Nat.le_of_ble_eq_true rfl) (own_i2bn e_tx) ge_out (pc' := 294) rfl ?_
        intro T h X K_ A_out_
        have A_out : own_IA Z h out .byte [tx, t2, t3, t4] := A_out_
        have A_da := A_da.keep K_ (ninS ne_da_out nin0)
        have E_da := E_da.keep K_
        have O_rd := O_rd.keep K_ (ninS ne_rd_out nin0)
        have O_inn := O_inn.keep K_ (ninS ne_inn_out nin0)
        have A_ou2 := A_ou2.keep K_ (ninS (Ne.symm ne_out_ou2) nin0)
        have hSk := Nat.le_trans hSk K_.1
        refine own_aload C X at_294 rfl rfl (pc' := 296) rfl ?_
        refine own_iload C X at_296 rfl (pc' := 298) rfl ?_
        refine own_baload C X at_298 A_da (by decide) (i := 1) rfl (pc' := 299) rfl ?_
        refine own_iload C X at_299 rfl (pc' := 301) rfl ?_
        refine own_icmp_eq C X at_301 (pcT := 306) (pc' := 304) (by decide) (by decide) rfl (fun hc301 => ?_) (fun hc301 => absurd hc301 (not_not_intro rfl))
        refine own_iconst C X at_306 (v := 1) (by decide) (pc' := 307) rfl ?_
        exact own_ireturn_zW C X hS hSk at_307 (Nat.le_of_ble_eq_true rfl) (Nat.le_of_ble_eq_true rfl) (rfl)
      · refine own_istore C X at_127 (L' := #[.val (.int i0), .val (.int i1), .val (.int i2), .val (.int i3), .val (.ref da), .val (.int (1 : Int32)), .val (.int (1 : Int32)), .val (.int (5 : Int32)), .val (.ref inn), .val (.int (1 : Int32)), .unset, .unset, .unset]) rfl (pc' := 129) rfl ?_
        refine own_aload C X at_129 rfl rfl (pc' := 131) rfl ?_
        refine own_iload C X at_131 rfl (pc' := 133) rfl ?_
        refine own_ldcS C X hS hSk at_133 (hw _ (List.mem_of_getElem? (i := 20) rfl)) (own_strW hw) (n := 1024) (by decide) (by decide) (Nat.le_of_ble_eq_true rfl) (Nat.le_of_ble_eq_true rfl) (pc' := 135) rfl ?_
        intro T h ss vm k_ C X K_ hS hSk_
        have A_da := A_da.keep K_ nin0
        have E_da := E_da.keep K_
        have O_rd := O_rd.keep K_ nin0
        have O_inn := O_inn.keep K_ nin0
        have hSk := Nat.le_trans hSk K_.1
        have hSk := hSk_
        refine own_callV C X at_135 (own_m_skip l Z a0 hw inn (1 : Int32) ss _ n0 (own_big C X) da (1 : Int32) (5 : Int32) (2 : Int32) (by decide) (by decide) O_inn ge_inn) O_inn.1 (hw _ (List.mem_of_getElem? (i := 27) rfl)) (hw _ (List.mem_of_getElem? (i := 28) rfl)) (hw _ (List.mem_of_getElem? (i := 30) rfl)) (hw _ (List.mem_of_getElem? (i := 29) rfl)) (hw _ (List.mem_of_getElem? (i := 3) rfl)) (hw _ (List.mem_of_getElem? (i := 31) rfl)) (by decide) own_pd_34082 rfl rfl (Nat.le_of_ble_eq_true rfl) (Nat.le_of_ble_eq_true rfl) (Nat.le_of_ble_eq_true rfl) (Nat.le_of_ble_eq_true rfl) (av := [(.int (1 : Int32)), (.ref ss)]) (S := []) rfl (pc' := 138) rfl ?_
        intro T h v X hQ
        obtain ⟨rfl, K_, O_inn⟩ := hQ
        have A_da := A_da.keep K_ (ninS ne_da_inn nin0)
        have E_da := E_da.keep K_
        have O_rd := O_rd.keep K_ (ninS ne_rd_inn nin0)
        have hSk := Nat.le_trans hSk K_.1
        show own_Go p e below n0 (own_FinW room_1 s (fun v h => v = some (.int 1))) (T.setTop (mkF m 138 #[.val (.int i0), .val (.int i1), .val (.int i2), .val (.int i3), .val (.ref da), .val (.int (1 : Int32)), .val (.int (1 : Int32)), .val (.int (5 : Int32)), .val (.ref inn), .val (.int (1 : Int32)), .unset, .unset, .unset] []))
        refine own_iload C X at_138 rfl (pc' := 140) rfl ?_
        refine own_iload C X at_140 rfl (pc' := 142) rfl ?_
        refine own_iadd C X at_142 (z := 2) (by decide) (pc' := 143) rfl ?_
        refine own_istore C X at_143 (L' := #[.val (.int i0), .val (.int i1), .val (.int i2), .val (.int i3), .val (.ref da), .val (.int (1 : Int32)), .val (.int (1 : Int32)), .val (.int (5 : Int32)), .val (.ref inn), .val (.int (1 : Int32)), .val (.int (2 : Int32)), .unset, .unset]) rfl (pc' := 145) rfl ?_
        refine own_aload C X at_145 rfl rfl (pc' := 147) rfl ?_
        have hbg := own_big C X
        refine own_callV C X at_147 (own_m_rest25 l Z a0 hw inn _ n0 hbg da (4 : Int32) t1 t2 t3 t4 A_da E_da O_inn (Ne.symm ne_da_inn) ge_inn) O_inn.1 (hw _ (List.mem_of_getElem? (i := 36) rfl)) (hw _ (List.mem_of_getElem? (i := 37) rfl)) (hw _ (List.mem_of_getElem? (i := 39) rfl)) (hw _ (List.mem_of_getElem? (i := 38) rfl)) (hw _ (List.mem_of_getElem? (i := 3) rfl)) (hw _ (List.mem_of_getElem? (i := 40) rfl)) (by decide) own_pd_2087 rfl rfl (Nat.le_of_ble_eq_true rfl) (Nat.le_of_ble_eq_true rfl) (Nat.le_of_ble_eq_true rfl) (Nat.le_of_ble_eq_true rfl) (av := []) (S := []) rfl (pc' := 150) rfl ?_
        intro T h v X hQ
        obtain ⟨out, rfl, gq_out, K_, O_n, A_out⟩ := hQ
        have ne_da_out : da ≠ out := Nat.ne_of_lt (Nat.lt_of_lt_of_le A_da.lt gq_out)
        have ne_rd_out : rd ≠ out := Nat.ne_of_lt (Nat.lt_of_lt_of_le O_rd.lt gq_out)
        have ne_inn_out : inn ≠ out := Nat.ne_of_lt (Nat.lt_of_lt_of_le O_inn.lt gq_out)
        have ge_out : n0 ≤ out := Nat.le_trans hbg gq_out
        have O_inn := O_n
        have A_da := A_da.keep K_ (ninS ne_da_inn nin0)
        have E_da := E_da.keep K_
        have O_rd := O_rd.keep K_ (ninS ne_rd_inn nin0)
        have hSk := Nat.le_trans hSk K_.1
        show own_Go p e below n0 (own_FinW room_1 s (fun v h => v = some (.int 1))) (T.setTop (mkF m 150 #[.val (.int i0), .val (.int i1), .val (.int i2), .val (.int i3), .val (.ref da), .val (.int (1 : Int32)), .val (.int (1 : Int32)), .val (.int (5 : Int32)), .val (.ref inn), .val (.int (1 : Int32)), .val (.int (2 : Int32)), .unset, .unset] [(.ref out)]))
        refine own_astore C X at_150 rfl (L' := #[.val (.int i0), .val (.int i1), .val (.int i2), .val (.int i3), .val (.ref da), .val (.int (1 : Int32)), .val (.int (1 : Int32)), .val (.int (5 : Int32)), .val (.ref inn), .val (.int (1 : Int32)), .val (.int (2 : Int32)), .val (.ref out), .unset]) rfl (pc' := 152) rfl ?_
        refine own_aload C X at_152 rfl rfl (pc' := 154) rfl ?_
        refine own_aload C X at_154 rfl rfl (pc' := 156) rfl ?_
        refine own_acmp_ne C X at_156 rfl rfl (pcT := 161) (pc' := 159) (by decide) (by decide) rfl (fun hc156 => ?_) (fun hc156 => absurd hc156 (fun q => (Ne.symm ne_da_out) (Value.ref.inj q)))
        refine own_aload C X at_161 rfl rfl (pc' := 163) rfl ?_
        refine own_alenI C X at_163 (n := 3) A_out rfl (pc' := 164) rfl ?_
        refine own_iload C X at_164 rfl (pc' := 166) rfl ?_
        refine own_iload C X at_166 rfl (pc' := 168) rfl ?_
        refine own_isub C X at_168 (z := 3) (by decide) (pc' := 169) rfl ?_
        refine own_icmp_eq C X at_169 (pcT := 174) (pc' := 172) (by decide) (by decide) rfl (fun hc169 => ?_) (fun hc169 => absurd hc169 (by decide))
        refine own_aload C X at_174 rfl rfl (pc' := 176) rfl ?_
        refine own_aload C X at_176 rfl rfl (pc' := 178) rfl ?_
        refine own_iload C X at_178 rfl (pc' := 180) rfl ?_
        refine own_iconst C X at_180 (v := 0) (by decide) (pc' := 181) rfl ?_
        refine own_callS C X at_181 (own_m_sameY l Z a0 hw out da (2 : Int32) (0 : Int32) _ n0 (own_big C X) [t2, t3, t4] [(4 : Int32), t1, t2, t3, t4] 3 rfl A_out A_da (by decide) 0 2 t2 (by decide) (by decide) rfl rfl) (hw _ (List.mem_of_getElem? (i := 59) rfl)) (hw _ (List.mem_of_getElem? (i := 60) rfl)) (hw _ (List.mem_of_getElem? (i := 61) rfl)) (hw _ (List.mem_of_getElem? (i := 62) rfl)) (by decide) own_pd_6987 rfl rfl (Nat.le_of_ble_eq_true rfl) (Nat.le_of_ble_eq_true rfl) (Nat.le_of_ble_eq_true rfl) (Nat.le_of_ble_eq_true rfl) (av := [(.ref out), (.ref da), (.int (2 : Int32)), (.int (0 : Int32))]) (S := []) rfl (pc' := 184) rfl ?_
        intro T h v X hQ
        obtain ⟨rfl, rfl⟩ := hQ
        show own_Go p e below n0 (own_FinW room_1 s (fun v h => v = some (.int 1))) (T.setTop (mkF m 184 #[.val (.int i0), .val (.int i1), .val (.int i2), .val (.int i3), .val (.ref da), .val (.int (1 : Int32)), .val (.int (1 : Int32)), .val (.int (5 : Int32)), .val (.ref inn), .val (.int (1 : Int32)), .val (.int (2 : Int32)), .val (.ref out), .unset] [(.int (1 : Int32))]))
        refine own_if_ne C X at_184 (pcT := 189) (pc' := 187) (by decide) (by decide) rfl (fun hc184 => ?_) (fun hc184 => absurd hc184 (by decide))
        refine own_aload C X at_189 rfl rfl (pc' := 191) rfl ?_
        refine own_aload C X at_191 rfl rfl (pc' := 193) rfl ?_
        refine own_iload C X at_193 rfl (pc' := 195) rfl ?_
        refine own_iconst C X at_195 (v := 1) (by decide) (pc' := 196) rfl ?_
        refine own_callS C X at_196 (own_m_sameY l Z a0 hw out da (2 : Int32) (1 : Int32) _ n0 (own_big C X) [t2, t3, t4] [(4 : Int32), t1, t2, t3, t4] 3 rfl A_out A_da (by decide) 1 3 t3 (by decide) (by decide) rfl rfl) (hw _ (List.mem_of_getElem? (i := 59) rfl)) (hw _ (List.mem_of_getElem? (i := 60) rfl)) (hw _ (List.mem_of_getElem? (i := 61) rfl)) (hw _ (List.mem_of_getElem? (i := 62) rfl)) (by decide) own_pd_6987 rfl rfl (Nat.le_of_ble_eq_true rfl) (Nat.le_of_ble_eq_true rfl) (Nat.le_of_ble_eq_true rfl) (Nat.le_of_ble_eq_true rfl) (av := [(.ref out), (.ref da), (.int (2 : Int32)), (.int (1 : Int32))]) (S := []) rfl (pc' := 199) rfl ?_
        intro T h v X hQ
        obtain ⟨rfl, rfl⟩ := hQ
        show own_Go p e below n0 (own_FinW room_1 s (fun v h => v = some (.int 1))) (T.setTop (mkF m 199 #[.val (.int i0), .val (.int i1), .val (.int i2), .val (.int i3), .val (.ref da), .val (.int (1 : Int32)), .val (.int (1 : Int32)), .val (.int (5 : Int32)), .val (.ref inn), .val (.int (1 : Int32)), .val (.int (2 : Int32)), .val (.ref out), .unset] [(.int (1 : Int32))]))
        refine own_if_ne C X at_199 (pcT := 204) (pc' := 202) (by decide) (by decide) rfl (fun hc199 => ?_) (fun hc199 => absurd hc199 (by decide))
        refine own_aload C X at_204 rfl rfl (pc' := 206) rfl ?_
        refine own_aload C X at_206 rfl rfl (pc' := 208) rfl ?_
        refine own_iload C X at_208 rfl (pc' := 210) rfl ?_
        refine own_iconst C X at_210 (v := 2) (by decide) (pc' := 211) rfl ?_
        refine own_callS C X at_211 (own_m_sameY l Z a0 hw out da (2 : Int32) (2 : Int32) _ n0 (own_big C X) [t2, t3, t4] [(4 : Int32), t1, t2, t3, t4] 3 rfl A_out A_da (by decide) 2 4 t4 (by decide) (by decide) rfl rfl) (hw _ (List.mem_of_getElem? (i := 59) rfl)) (hw _ (List.mem_of_getElem? (i := 60) rfl)) (hw _ (List.mem_of_getElem? (i := 61) rfl)) (hw _ (List.mem_of_getElem? (i := 62) rfl)) (by decide) own_pd_6987 rfl rfl (Nat.le_of_ble_eq_true rfl) (Nat.le_of_ble_eq_true rfl) (Nat.le_of_ble_eq_true rfl) (Nat.le_of_ble_eq_true rfl) (av := [(.ref out), (.ref da), (.int (2 : Int32)), (.int (2 : Int32))]) (S := []) rfl (pc' := 214) rfl ?_
        intro T h v X hQ
        obtain ⟨rfl, rfl⟩ := hQ
        show own_Go p e below n0 (own_FinW room_1 s (fun v h => v = some (.int 1))) (T.setTop (mkF m 214 #[.val (.int i0), .val (.int i1), .val (.int i2), .val (.int i3), .val (.ref da), .val (.int (1 : Int32)), .val (.int (1 : Int32)), .val (.int (5 : Int32)), .val (.ref inn), .val (.int (1 : Int32)), .val (.int (2 : Int32)), .val (.ref out), .unset] [(.int (1 : Int32))]))
        refine own_if_ne C X at_214 (pcT := 219) (pc' := 217) (by decide) (by decide) rfl (fun hc214 => ?_) (fun hc214 => absurd hc214 (by decide))
        refine own_aload C X at_219 rfl rfl (pc' := 221) rfl ?_
        refine own_aload C X at_221 rfl rfl (pc' := 223) rfl ?_
        refine own_iload C X at_223 rfl (pc' := 225) rfl ?_
        refine own_iconst C X at_225 (v := 3) (by decide) (pc' := 226) rfl ?_
        refine own_callS C X at_226 (own_m_sameN l Z a0 hw out da (2 : Int32) (3 : Int32) _ n0 (own_big C X) [t2, t3, t4] [(4 : Int32), t1, t2, t3, t4] 3 rfl A_out A_da (by decide)) (hw _ (List.mem_of_getElem? (i := 59) rfl)) (hw _ (List.mem_of_getElem? (i := 60) rfl)) (hw _ (List.mem_of_getElem? (i := 61) rfl)) (hw _ (List.mem_of_getElem? (i := 62) rfl)) (by decide) own_pd_6987 rfl rfl (Nat.le_of_ble_eq_true rfl) (Nat.le_of_ble_eq_true rfl) (Nat.le_of_ble_eq_true rfl) (Nat.le_of_ble_eq_true rfl) (av := [(.ref out), (.ref da), (.int (2 : Int32)), (.int (3 : Int32))]) (S := []) rfl (pc' := 229) rfl ?_
        intro T h v X hQ
        obtain ⟨rfl, rfl⟩ := hQ
        show own_Go p e below n0 (own_FinW room_1 s (fun v h => v = some (.int 1))) (T.setTop (mkF m 229 #[.val (.int i0), .val (.int i1), .val (.int i2), .val (.int i3), .val (.ref da), .val (.int (1 : Int32)), .val (.int (1 : Int32)), .val (.int (5 : Int32)), .val (.ref inn), .val (.int (1 : Int32)), .val (.int (2 : Int32)), .val (.ref out), .unset] [(.int (1 : Int32))]))
        refine own_if_ne C X at_229 (pcT := 234) (pc' := 232) (by decide) (by decide) rfl (fun hc229 => ?_) (fun hc229 => absurd hc229 (by decide))
        refine own_aload C X at_234 rfl rfl (pc' := 236) rfl ?_
        refine own_aload C X at_236 rfl rfl (pc' := 238) rfl ?_
        refine own_iload C X at_238 rfl (pc' := 240) rfl ?_
        refine own_iconst C X at_240 (v := 4) (by decide) (pc' := 241) rfl ?_
        refine own_callS C X at_241 (own_m_sameN l Z a0 hw out da (2 : Int32) (4 : Int32) _ n0 (own_big C X) [t2, t3, t4] [(4 : Int32), t1, t2, t3, t4] 3 rfl A_out A_da (by decide)) (hw _ (List.mem_of_getElem? (i := 59) rfl)) (hw _ (List.mem_of_getElem? (i := 60) rfl)) (hw _ (List.mem_of_getElem? (i := 61) rfl)) (hw _ (List.mem_of_getElem? (i := 62) rfl)) (by decide) own_pd_6987 rfl rfl (Nat.le_of_ble_eq_true rfl) (Nat.le_of_ble_eq_true rfl) (Nat.le_of_ble_eq_true rfl) (Nat.le_of_ble_eq_true rfl) (av := [(.ref out), (.ref da), (.int (2 : Int32)), (.int (4 : Int32))]) (S := []) rfl (pc' := 244) rfl ?_
        intro T h v X hQ
        obtain ⟨rfl, rfl⟩ := hQ
        show own_Go p e below n0 (own_FinW room_1 s (fun v h => v = some (.int 1))) (T.setTop (mkF m 244 #[.val (.int i0), .val (.int i1), .val (.int i2), .val (.int i3), .val (.ref da), .val (.int (1 : Int32)), .val (.int (1 : Int32)), .val (.int (5 : Int32)), .val (.ref inn), .val (.int (1 : Int32)), .val (.int (2 : Int32)), .val (.ref out), .unset] [(.int (1 : Int32))]))
        refine own_if_ne C X at_244 (pcT := 249) (pc' := 247) (by decide) (by decide) rfl (fun hc244 => ?_) (fun hc244 => absurd hc244 (by decide))
        refine own_aload C X at_249 rfl rfl (pc' := 251) rfl ?_
        refine own_callV C X at_251 (own_m_hr l Z a0 hw inn _ n0 (own_big C X) da (5 : Int32) (5 : Int32) O_inn) O_inn.1 (hw _ (List.mem_of_getElem? (i := 63) rfl)) (hw _ (List.mem_of_getElem? (i := 64) rfl)) (hw _ (List.mem_of_getElem? (i := 66) rfl)) (hw _ (List.mem_of_getElem? (i := 65) rfl)) (hw _ (List.mem_of_getElem? (i := 3) rfl)) (hw _ (List.mem_of_getElem? (i := 67) rfl)) (by decide) own_pd_1418 rfl rfl (Nat.le_of_ble_eq_true rfl) (Nat.le_of_ble_eq_true rfl) (Nat.le_of_ble_eq_true rfl) (Nat.le_of_ble_eq_true rfl) (av := []) (S := []) rfl (pc' := 254) rfl ?_
        intro T h v X hQ
        obtain ⟨rfl, rfl⟩ := hQ
        show own_Go p e below n0 (own_FinW room_1 s (fun v h => v = some (.int 1))) (T.setTop (mkF m 254 #[.val (.int i0), .val (.int i1), .val (.int i2), .val (.int i3), .val (.ref da), .val (.int (1 : Int32)), .val (.int (1 : Int32)), .val (.int (5 : Int32)), .val (.ref inn), .val (.int (1 : Int32)), .val (.int (2 : Int32)), .val (.ref out), .unset] [(.int (own_hr (5 : Int32) (5 : Int32)))]))
        rw [show own_hr (5 : Int32) (5 : Int32) = 0 from by decide]
        show own_Go p e below n0 (own_FinW room_1 s (fun v h => v = some (.int 1))) (T.setTop (mkF m 254 #[.val (.int i0), .val (.int i1), .val (.int i2), .val (.int i3), .val (.ref da), .val (.int (1 : Int32)), .val (.int (1 : Int32)), .val (.int (5 : Int32)), .val (.ref inn), .val (.int (1 : Int32)), .val (.int (2 : Int32)), .val (.ref out), .unset] [(.int (0 : Int32))]))
        refine own_if_eq C X at_254 (pcT := 259) (pc' := 257) (by decide) (by decide) rfl (fun hc254 => ?_) (fun hc254 => absurd hc254 (by decide))
        refine own_aload C X at_259 rfl rfl (pc' := 261) rfl ?_
        have hbg := own_big C X
        refine own_callV C X at_261 (own_m_rest55 l Z a0 hw inn _ n0 hbg da (4 : Int32) t1 t2 t3 t4 A_da E_da O_inn (Ne.symm ne_da_inn) ge_inn) O_inn.1 (hw _ (List.mem_of_getElem? (i := 36) rfl)) (hw _ (List.mem_of_getElem? (i := 37) rfl)) (hw _ (List.mem_of_getElem? (i := 39) rfl)) (hw _ (List.mem_of_getElem? (i := 38) rfl)) (hw _ (List.mem_of_getElem? (i := 3) rfl)) (hw _ (List.mem_of_getElem? (i := 40) rfl)) (by decide) own_pd_2087 rfl rfl (Nat.le_of_ble_eq_true rfl) (Nat.le_of_ble_eq_true rfl) (Nat.le_of_ble_eq_true rfl) (Nat.le_of_ble_eq_true rfl) (av := []) (S := []) rfl (pc' := 264) rfl ?_
        intro T h v X hQ
        obtain ⟨ou2, rfl, gq_ou2, K_, O_n, A_ou2⟩ := hQ
        have ne_da_ou2 : da ≠ ou2 := Nat.ne_of_lt (Nat.lt_of_lt_of_le A_da.lt gq_ou2)
        have ne_rd_ou2 : rd ≠ ou2 := Nat.ne_of_lt (Nat.lt_of_lt_of_le O_rd.lt gq_ou2)
        have ne_inn_ou2 : inn ≠ ou2 := Nat.ne_of_lt (Nat.lt_of_lt_of_le O_inn.lt gq_ou2)
        have ne_out_ou2 : out ≠ ou2 := Nat.ne_of_lt (Nat.lt_of_lt_of_le A_out.lt gq_ou2)
        have ge_ou2 : n0 ≤ ou2 := Nat.le_trans hbg gq_ou2
        have O_inn := O_n
        have A_da := A_da.keep K_ (ninS ne_da_inn nin0)
        have E_da := E_da.keep K_
        have O_rd := O_rd.keep K_ (ninS ne_rd_inn nin0)
        have A_out := A_out.keep K_ (ninS (Ne.symm ne_inn_out) nin0)
        have hSk := Nat.le_trans hSk K_.1
        show own_Go p e below n0 (own_FinW room_1 s (fun v h => v = some (.int 1))) (T.setTop (mkF m 264 #[.val (.int i0), .val (.int i1), .val (.int i2), .val (.int i3), .val (.ref da), .val (.int (1 : Int32)), .val (.int (1 : Int32)), .val (.int (5 : Int32)), .val (.ref inn), .val (.int (1 : Int32)), .val (.int (2 : Int32)), .val (.ref out), .unset] [(.ref ou2)]))
        refine own_alenI C X at_264 (n := 0) A_ou2 rfl (pc' := 265) rfl ?_
        refine own_if_eq C X at_265 (pcT := 270) (pc' := 268) (by decide) (by decide) rfl (fun hc265 => ?_) (fun hc265 => absurd hc265 (by decide))
        refine own_aload C X at_270 rfl rfl (pc' := 272) rfl ?_
        refine own_alenI C X at_272 (n := 3) A_out rfl (pc' := 273) rfl ?_
        refine own_if_le C X at_273 (pcT := 306) (pc' := 276) (by decide) (by decide) rfl (fun hc273 => absurd hc273 (by decide)) (fun hc273 => ?_)
        refine own_aload C X at_276 rfl rfl (pc' := 278) rfl ?_
        refine own_iload C X at_278 rfl (pc' := 280) rfl ?_
        refine own_baload C X at_280 A_da (by decide) (i := 2) rfl (pc' := 281) rfl ?_
        refine own_istore C X at_281 (L' := #[.val (.int i0), .val (.int i1), .val (.int i2), .val (.int i3), .val (.ref da), .val (.int (1 : Int32)), .val (.int (1 : Int32)), .val (.int (5 : Int32)), .val (.ref inn), .val (.int (1 : Int32)), .val (.int (2 : Int32)), .val (.ref out), .val (.int t2)]) rfl (pc' := 283) rfl ?_
        refine own_aload C X at_283 rfl rfl (pc' := 285) rfl ?_
        refine own_iconst C X at_285 (v := 0) (by decide) (pc' := 286) rfl ?_
        refine own_aload C X at_286 rfl rfl (pc' := 288) rfl ?_
        refine own_iconst C X at_288 (v := 0) (by decide) (pc' := 289) rfl ?_
        refine own_baload C X at_289 A_out (by decide) (i := 0) rfl (pc' := 290) rfl ?_
        refine own_iconst C X at_290 (v := 1) (by decide) (pc' := 291) rfl ?_
        refine own_ixor C X at_291 rfl (pc' := 292) rfl ?_
        obtain ⟨tx, e_tx⟩ : ∃ z : Int32, (t2 ^^^ (1 : Int32)).toInt8.toInt32 = z := ⟨_, rfl⟩
        refine own_i2b C X at_292 e_tx (pc' := 293) rfl ?_
        refine own_bastore C X at_293 A_out (by decide) (i := 0) (Nat.le_of_ble_eq_true rfl) (own_i2bn e_tx) ge_out (pc' := 294) rfl ?_
        intro T h X K_ A_out_
        have A_out : own_IA Z h out .byte [tx, t3, t4] := A_out_
        have A_da := A_da.keep K_ (ninS ne_da_out nin0)
        have E_da := E_da.keep K_
        have O_rd := O_rd.keep K_ (ninS ne_rd_out nin0)
        have O_inn := O_inn.keep K_ (ninS ne_inn_out nin0)
        have A_ou2 := A_ou2.keep K_ (ninS (Ne.symm ne_out_ou2) nin0)
        have hSk := Nat.le_trans hSk K_.1
        refine own_aload C X at_294 rfl rfl (pc' := 296) rfl ?_
        refine own_iload C X at_296 rfl (pc' := 298) rfl ?_
        refine own_baload C X at_298 A_da (by decide) (i := 2) rfl (pc' := 299) rfl ?_
        refine own_iload C X at_299 rfl (pc' := 301) rfl ?_
        refine own_icmp_eq C X at_301 (pcT := 306) (pc' := 304) (by decide) (by decide) rfl (fun hc301 => ?_) (fun hc301 => absurd hc301 (not_not_intro rfl))
        refine own_iconst C X at_306 (v := 1) (by decide) (pc' := 307) rfl ?_
        exact own_ireturn_zW C X hS hSk at_307 (Nat.le_of_ble_eq_true rfl) (Nat.le_of_ble_eq_true rfl) (rfl)
      · refine own_istore C X at_127 (L' := #[.val (.int i0), .val (.int i1), .val (.int i2), .val (.int i3), .val (.ref da), .val (.int (1 : Int32)), .val (.int (1 : Int32)), .val (.int (5 : Int32)), .val (.ref inn), .val (.int (2 : Int32)), .unset, .unset, .unset]) rfl (pc' := 129) rfl ?_
        refine own_aload C X at_129 rfl rfl (pc' := 131) rfl ?_
        refine own_iload C X at_131 rfl (pc' := 133) rfl ?_
        refine own_ldcS C X hS hSk at_133 (hw _ (List.mem_of_getElem? (i := 20) rfl)) (own_strW hw) (n := 1024) (by decide) (by decide) (Nat.le_of_ble_eq_true rfl) (Nat.le_of_ble_eq_true rfl) (pc' := 135) rfl ?_
        intro T h ss vm k_ C X K_ hS hSk_
        have A_da := A_da.keep K_ nin0
        have E_da := E_da.keep K_
        have O_rd := O_rd.keep K_ nin0
        have O_inn := O_inn.keep K_ nin0
        have hSk := Nat.le_trans hSk K_.1
        have hSk := hSk_
        refine own_callV C X at_135 (own_m_skip l Z a0 hw inn (2 : Int32) ss _ n0 (own_big C X) da (1 : Int32) (5 : Int32) (3 : Int32) (by decide) (by decide) O_inn ge_inn) O_inn.1 (hw _ (List.mem_of_getElem? (i := 27) rfl)) (hw _ (List.mem_of_getElem? (i := 28) rfl)) (hw _ (List.mem_of_getElem? (i := 30) rfl)) (hw _ (List.mem_of_getElem? (i := 29) rfl)) (hw _ (List.mem_of_getElem? (i := 3) rfl)) (hw _ (List.mem_of_getElem? (i := 31) rfl)) (by decide) own_pd_34082 rfl rfl (Nat.le_of_ble_eq_true rfl) (Nat.le_of_ble_eq_true rfl) (Nat.le_of_ble_eq_true rfl) (Nat.le_of_ble_eq_true rfl) (av := [(.int (2 : Int32)), (.ref ss)]) (S := []) rfl (pc' := 138) rfl ?_
        intro T h v X hQ
        obtain ⟨rfl, K_, O_inn⟩ := hQ
        have A_da := A_da.keep K_ (ninS ne_da_inn nin0)
        have E_da := E_da.keep K_
        have O_rd := O_rd.keep K_ (ninS ne_rd_inn nin0)
        have hSk := Nat.le_trans hSk K_.1
        show own_Go p e below n0 (own_FinW room_1 s (fun v h => v = some (.int 1))) (T.setTop (mkF m 138 #[.val (.int i0), .val (.int i1), .val (.int i2), .val (.int i3), .val (.ref da), .val (.int (1 : Int32)), .val (.int (1 : Int32)), .val (.int (5 : Int32)), .val (.ref inn), .val (.int (2 : Int32)), .unset, .unset, .unset] []))
        refine own_iload C X at_138 rfl (pc' := 140) rfl ?_
        refine own_iload C X at_140 rfl (pc' := 142) rfl ?_
        refine own_iadd C X at_142 (z := 3) (by decide) (pc' := 143) rfl ?_
        refine own_istore C X at_143 (L' := #[.val (.int i0), .val (.int i1), .val (.int i2), .val (.int i3), .val (.ref da), .val (.int (1 : Int32)), .val (.int (1 : Int32)), .val (.int (5 : Int32)), .val (.ref inn), .val (.int (2 : Int32)), .val (.int (3 : Int32)), .unset, .unset]) rfl (pc' := 145) rfl ?_
        refine own_aload C X at_145 rfl rfl (pc' := 147) rfl ?_
        have hbg := own_big C X
        refine own_callV C X at_147 (own_m_rest35 l Z a0 hw inn _ n0 hbg da (4 : Int32) t1 t2 t3 t4 A_da E_da O_inn (Ne.symm ne_da_inn) ge_inn) O_inn.1 (hw _ (List.mem_of_getElem? (i := 36) rfl)) (hw _ (List.mem_of_getElem? (i := 37) rfl)) (hw _ (List.mem_of_getElem? (i := 39) rfl)) (hw _ (List.mem_of_getElem? (i := 38) rfl)) (hw _ (List.mem_of_getElem? (i := 3) rfl)) (hw _ (List.mem_of_getElem? (i := 40) rfl)) (by decide) own_pd_2087 rfl rfl (Nat.le_of_ble_eq_true rfl) (Nat.le_of_ble_eq_true rfl) (Nat.le_of_ble_eq_true rfl) (Nat.le_of_ble_eq_true rfl) (av := []) (S := []) rfl (pc' := 150) rfl ?_
        intro T h v X hQ
        obtain ⟨out, rfl, gq_out, K_, O_n, A_out⟩ := hQ
        have ne_da_out : da ≠ out := Nat.ne_of_lt (Nat.lt_of_lt_of_le A_da.lt gq_out)
        have ne_rd_out : rd ≠ out := Nat.ne_of_lt (Nat.lt_of_lt_of_le O_rd.lt gq_out)
        have ne_inn_out : inn ≠ out := Nat.ne_of_lt (Nat.lt_of_lt_of_le O_inn.lt gq_out)
        have ge_out : n0 ≤ out := Nat.le_trans hbg gq_out
        have O_inn := O_n
        have A_da := A_da.keep K_ (ninS ne_da_inn nin0)
        have E_da := E_da.keep K_
        have O_rd := O_rd.keep K_ (ninS ne_rd_inn nin0)
        have hSk := Nat.le_trans hSk K_.1
        show own_Go p e below n0 (own_FinW room_1 s (fun v h => v = some (.int 1))) (T.setTop (mkF m 150 #[.val (.int i0), .val (.int i1), .val (.int i2), .val (.int i3), .val (.ref da), .val (.int (1 : Int32)), .val (.int (1 : Int32)), .val (.int (5 : Int32)), .val (.ref inn), .val (.int (2 : Int32)), .val (.int (3 : Int32)), .unset, .unset] [(.ref out)]))
        refine own_astore C X at_150 rfl (L' := #[.val (.int i0), .val (.int i1), .val (.int i2), .val (.int i3), .val (.ref da), .val (.int (1 : Int32)), .val (.int (1 : Int32)), .val (.int (5 : Int32)), .val (.ref inn), .val (.int (2 : Int32)), .val (.int (3 : Int32)), .val (.ref out), .unset]) rfl (pc' := 152) rfl ?_
        refine own_aload C X at_152 rfl rfl (pc' := 154) rfl ?_
        refine own_aload C X at_154 rfl rfl (pc' := 156) rfl ?_
        refine own_acmp_ne C X at_156 rfl rfl (pcT := 161) (pc' := 159) (by decide) (by decide) rfl (fun hc156 => ?_) (fun hc156 => absurd hc156 (fun q => (Ne.symm ne_da_out) (Value.ref.inj q)))
        refine own_aload C X at_161 rfl rfl (pc' := 163) rfl ?_
        refine own_alenI C X at_163 (n := 2) A_out rfl (pc' := 164) rfl ?_
        refine own_iload C X at_164 rfl (pc' := 166) rfl ?_
        refine own_iload C X at_166 rfl (pc' := 168) rfl ?_
        refine own_isub C X at_168 (z := 2) (by decide) (pc' := 169) rfl ?_
        refine own_icmp_eq C X at_169 (pcT := 174) (pc' := 172) (by decide) (by decide) rfl (fun hc169 => ?_) (fun hc169 => absurd hc169 (by decide))
        refine own_aload C X at_174 rfl rfl (pc' := 176) rfl ?_
        refine own_aload C X at_176 rfl rfl (pc' := 178) rfl ?_
        refine own_iload C X at_178 rfl (pc' := 180) rfl ?_
        refine own_iconst C X at_180 (v := 0) (by decide) (pc' := 181) rfl ?_
        refine own_callS C X at_181 (own_m_sameY l Z a0 hw out da (3 : Int32) (0 : Int32) _ n0 (own_big C X) [t3, t4] [(4 : Int32), t1, t2, t3, t4] 2 rfl A_out A_da (by decide) 0 3 t3 (by decide) (by decide) rfl rfl) (hw _ (List.mem_of_getElem? (i := 59) rfl)) (hw _ (List.mem_of_getElem? (i := 60) rfl)) (hw _ (List.mem_of_getElem? (i := 61) rfl)) (hw _ (List.mem_of_getElem? (i := 62) rfl)) (by decide) own_pd_6987 rfl rfl (Nat.le_of_ble_eq_true rfl) (Nat.le_of_ble_eq_true rfl) (Nat.le_of_ble_eq_true rfl) (Nat.le_of_ble_eq_true rfl) (av := [(.ref out), (.ref da), (.int (3 : Int32)), (.int (0 : Int32))]) (S := []) rfl (pc' := 184) rfl ?_
        intro T h v X hQ
        obtain ⟨rfl, rfl⟩ := hQ
        show own_Go p e below n0 (own_FinW room_1 s (fun v h => v = some (.int 1))) (T.setTop (mkF m 184 #[.val (.int i0), .val (.int i1), .val (.int i2), .val (.int i3), .val (.ref da), .val (.int (1 : Int32)), .val (.int (1 : Int32)), .val (.int (5 : Int32)), .val (.ref inn), .val (.int (2 : Int32)), .val (.int (3 : Int32)), .val (.ref out), .unset] [(.int (1 : Int32))]))
        refine own_if_ne C X at_184 (pcT := 189) (pc' := 187) (by decide) (by decide) rfl (fun hc184 => ?_) (fun hc184 => absurd hc184 (by decide))
        refine own_aload C X at_189 rfl rfl (pc' := 191) rfl ?_
        refine own_aload C X at_191 rfl rfl (pc' := 193) rfl ?_
        refine own_iload C X at_193 rfl (pc' := 195) rfl ?_
        refine own_iconst C X at_195 (v := 1) (by decide) (pc' := 196) rfl ?_
        refine own_callS C X at_196 (own_m_sameY l Z a0 hw out da (3 : Int32) (1 : Int32) _ n0 (own_big C X) [t3, t4] [(4 : Int32), t1, t2, t3, t4] 2 rfl A_out A_da (by decide) 1 4 t4 (by decide) (by decide) rfl rfl) (hw _ (List.mem_of_getElem? (i := 59) rfl)) (hw _ (List.mem_of_getElem? (i := 60) rfl)) (hw _ (List.mem_of_getElem? (i := 61) rfl)) (hw _ (List.mem_of_getElem? (i := 62) rfl)) (by decide) own_pd_6987 rfl rfl (Nat.le_of_ble_eq_true rfl) (Nat.le_of_ble_eq_true rfl) (Nat.le_of_ble_eq_true rfl) (Nat.le_of_ble_eq_true rfl) (av := [(.ref out), (.ref da), (.int (3 : Int32)), (.int (1 : Int32))]) (S := []) rfl (pc' := 199) rfl ?_
        intro T h v X hQ
        obtain ⟨rfl, rfl⟩ := hQ
        show own_Go p e below n0 (own_FinW room_1 s (fun v h => v = some (.int 1))) (T.setTop (mkF m 199 #[.val (.int i0), .val (.int i1), .val (.int i2), .val (.int i3), .val (.ref da), .val (.int (1 : Int32)), .val (.int (1 : Int32)), .val (.int (5 : Int32)), .val (.ref inn), .val (.int (2 : Int32)), .val (.int (3 : Int32)), .val (.ref out), .unset] [(.int (1 : Int32))]))
        refine own_if_ne C X at_199 (pcT := 204) (pc' := 202) (by decide) (by decide) rfl (fun hc199 => ?_) (fun hc199 => absurd hc199 (by decide))
        refine own_aload C X at_204 rfl rfl (pc' := 206) rfl ?_
        refine own_aload C X at_206 rfl rfl (pc' := 208) rfl ?_
        refine own_iload C X at_208 rfl (pc' := 210) rfl ?_
        refine own_iconst C X at_210 (v := 2) (by decide) (pc' := 211) rfl ?_
        refine own_callS C X at_211 (own_m_sameN l Z a0 hw out da (3 : Int32) (2 : Int32) _ n0 (own_big C X) [t3, t4] [(4 : Int32), t1, t2, t3, t4] 2 rfl A_out A_da (by decide)) (hw _ (List.mem_of_getElem? (i := 59) rfl)) (hw _ (List.mem_of_getElem? (i := 60) rfl)) (hw _ (List.mem_of_getElem? (i := 61) rfl)) (hw _ (List.mem_of_getElem? (i := 62) rfl)) (by decide) own_pd_6987 rfl rfl (Nat.le_of_ble_eq_true rfl) (Nat.le_of_ble_eq_true rfl) (Nat.le_of_ble_eq_true rfl) (Nat.le_of_ble_eq_true rfl) (av := [(.ref out), (.ref da), (.int (3 : Int32)), (.int (2 : Int32))]) (S := []) rfl (pc' := 214) rfl ?_
        intro T h v X hQ
        obtain ⟨rfl, rfl⟩ := hQ
        show own_Go p e below n0 (own_FinW room_1 s (fun v h => v = some (.int 1))) (T.setTop (mkF m 214 #[.val (.int i0), .val (.int i1), .val (.int i2), .val (.int i3), .val (.ref da), .val (.int (1 : Int32)), .val (.int (1 : Int32)), .val (.int (5 : Int32)), .val (.ref inn), .val (.int (2 : Int32)), .val (.int (3 : Int32)), .val (.ref out), .unset] [(.int (1 : Int32))]))
        refine own_if_ne C X at_214 (pcT := 219) (pc' := 217) (by decide) (by decide) rfl (fun hc214 => ?_) (fun hc214 => absurd hc214 (by decide))
        refine own_aload C X at_219 rfl rfl (pc' := 221) rfl ?_
        refine own_aload C X at_221 rfl rfl (pc' := 223) rfl ?_
        refine own_iload C X at_223 rfl (pc' := 225) rfl ?_
        refine own_iconst C X at_225 (v := 3) (by decide) (pc' := 226) rfl ?_
        refine own_callS C X at_226 (own_m_sameN l Z a0 hw out da (3 : Int32) (3 : Int32) _ n0 (own_big C X) [t3, t4] [(4 : Int32), t1, t2, t3, t4] 2 rfl A_out A_da (by decide)) (hw _ (List.mem_of_getElem? (i := 59) rfl)) (hw _ (List.mem_of_getElem? (i := 60) rfl)) (hw _ (List.mem_of_getElem? (i := 61) rfl)) (hw _ (List.mem_of_getElem? (i := 62) rfl)) (by decide) own_pd_6987 rfl rfl (Nat.le_of_ble_eq_true rfl) (Nat.le_of_ble_eq_true rfl) (Nat.le_of_ble_eq_true rfl) (Nat.le_of_ble_eq_true rfl) (av := [(.ref out), (.ref da), (.int (3 : Int32)), (.int (3 : Int32))]) (S := []) rfl (pc' := 229) rfl ?_
        intro T h v X hQ
        obtain ⟨rfl, rfl⟩ := hQ
        show own_Go p e below n0 (own_FinW room_1 s (fun v h => v = some (.int 1))) (T.setTop (mkF m 229 #[.val (.int i0), .val (.int i1), .val (.int i2), .val (.int i3), .val (.ref da), .val (.int (1 : Int32)), .val (.int (1 : Int32)), .val (.int (5 : Int32)), .val (.ref inn), .val (.int (2 : Int32)), .val (.int (3 : Int32)), .val (.ref out), .unset] [(.int (1 : Int32))]))
        refine own_if_ne C X at_229 (pcT := 234) (pc' := 232) (by decide) (by decide) rfl (fun hc229 => ?_) (fun hc229 => absurd hc229 (by decide))
        refine own_aload C X at_234 rfl rfl (pc' := 236) rfl ?_
        refine own_aload C X at_236 rfl rfl (pc' := 238) rfl ?_
        refine own_iload C X at_238 rfl (pc' := 240) rfl ?_
        refine own_iconst C X at_240 (v := 4) (by decide) (pc' := 241) rfl ?_
        refine own_callS C X at_241 (own_m_sameN l Z a0 hw out da (3 : Int32) (4 : Int32) _ n0 (own_big C X) [t3, t4] [(4 : Int32), t1, t2, t3, t4] 2 rfl A_out A_da (by decide)) (hw _ (List.mem_of_getElem? (i := 59) rfl)) (hw _ (List.mem_of_getElem? (i := 60) rfl)) (hw _ (List.mem_of_getElem? (i := 61) rfl)) (hw _ (List.mem_of_getElem? (i := 62) rfl)) (by decide) own_pd_6987 rfl rfl (Nat.le_of_ble_eq_true rfl) (Nat.le_of_ble_eq_true rfl) (Nat.le_of_ble_eq_true rfl) (Nat.le_of_ble_eq_true rfl) (av := [(.ref out), (.ref da), (.int (3 : Int32)), (.int (4 : Int32))]) (S := []) rfl (pc' := 244) rfl ?_
        intro T h v X hQ
        obtain ⟨rfl, rfl⟩ := hQ
        show own_Go p e below n0 (own_FinW room_1 s (fun v h => v = some (.int 1))) (T.setTop (mkF m 244 #[.val (.int i0), .val (.int i1), .val (.int i2), .val (.int i3), .val (.ref da), .val (.int (1 : Int32)), .val (.int (1 : Int32)), .val (.int (5 : Int32)), .val (.ref inn), .val (.int (2 : Int32)), .val (.int (3 : Int32)), .val (.ref out), .unset] [(.int (1 : Int32))]))
        refine own_if_ne C X at_244 (pcT := 249) (pc' := 247) (by decide) (by decide) rfl (fun hc244 => ?_) (fun hc244 => absurd hc244 (by decide))
        refine own_aload C X at_249 rfl rfl (pc' := 251) rfl ?_
        refine own_callV C X at_251 (own_m_hr l Z a0 hw inn _ n0 (own_big C X) da (5 : Int32) (5 : Int32) O_inn) O_inn.1 (hw _ (List.mem_of_getElem? (i := 63) rfl)) (hw _ (List.mem_of_getElem? (i := 64) rfl)) (hw _ (List.mem_of_getElem? (i := 66) rfl)) (hw _ (List.mem_of_getElem? (i := 65) rfl)) (hw _ (List.mem_of_getElem? (i := 3) rfl)) (hw _ (List.mem_of_getElem? (i := 67) rfl)) (by decide) own_pd_1418 rfl rfl (Nat.le_of_ble_eq_true rfl) (Nat.le_of_ble_eq_true rfl) (Nat.le_of_ble_eq_true rfl) (Nat.le_of_ble_eq_true rfl) (av := []) (S := []) rfl (pc' := 254) rfl ?_
        intro T h v X hQ
        obtain ⟨rfl, rfl⟩ := hQ
        show own_Go p e below n0 (own_FinW room_1 s (fun v h => v = some (.int 1))) (T.setTop (mkF m 254 #[.val (.int i0), .val (.int i1), .val (.int i2), .val (.int i3), .val (.ref da), .val (.int (1 : Int32)), .val (.int (1 : Int32)), .val (.int (5 : Int32)), .val (.ref inn), .val (.int (2 : Int32)), .val (.int (3 : Int32)), .val (.ref out), .unset] [(.int (own_hr (5 : Int32) (5 : Int32)))]))
        rw [show own_hr (5 : Int32) (5 : Int32) = 0 from by decide]
        show own_Go p e below n0 (own_FinW room_1 s (fun v h => v = some (.int 1))) (T.setTop (mkF m 254 #[.val (.int i0), .val (.int i1), .val (.int i2), .val (.int i3), .val (.ref da), .val (.int (1 : Int32)), .val (.int (1 : Int32)), .val (.int (5 : Int32)), .val (.ref inn), .val (.int (2 : Int32)), .val (.int (3 : Int32)), .val (.ref out), .unset] [(.int (0 : Int32))]))
        refine own_if_eq C X at_254 (pcT := 259) (pc' := 257) (by decide) (by decide) rfl (fun hc254 => ?_) (fun hc254 => absurd hc254 (by decide))
        refine own_aload C X at_259 rfl rfl (pc' := 261) rfl ?_
        have hbg := own_big C X
        refine own_callV C X at_261 (own_m_rest55 l Z a0 hw inn _ n0 hbg da (4 : Int32) t1 t2 t3 t4 A_da E_da O_inn (Ne.symm ne_da_inn) ge_inn) O_inn.1 (hw _ (List.mem_of_getElem? (i := 36) rfl)) (hw _ (List.mem_of_getElem? (i := 37) rfl)) (hw _ (List.mem_of_getElem? (i := 39) rfl)) (hw _ (List.mem_of_getElem? (i := 38) rfl)) (hw _ (List.mem_of_getElem? (i := 3) rfl)) (hw _ (List.mem_of_getElem? (i := 40) rfl)) (by decide) own_pd_2087 rfl rfl (Nat.le_of_ble_eq_true rfl) (Nat.le_of_ble_eq_true rfl) (Nat.le_of_ble_eq_true rfl) (Nat.le_of_ble_eq_true rfl) (av := []) (S := []) rfl (pc' := 264) rfl ?_
        intro T h v X hQ
        obtain ⟨ou2, rfl, gq_ou2, K_, O_n, A_ou2⟩ := hQ
        have ne_da_ou2 : da ≠ ou2 := Nat.ne_of_lt (Nat.lt_of_lt_of_le A_da.lt gq_ou2)
        have ne_rd_ou2 : rd ≠ ou2 := Nat.ne_of_lt (Nat.lt_of_lt_of_le O_rd.lt gq_ou2)
        have ne_inn_ou2 : inn ≠ ou2 := Nat.ne_of_lt (Nat.lt_of_lt_of_le O_inn.lt gq_ou2)
        have ne_out_ou2 : out ≠ ou2 := Nat.ne_of_lt (Nat.lt_of_lt_of_le A_out.lt gq_ou2)
        have ge_ou2 : n0 ≤ ou2 := Nat.le_trans hbg gq_ou2
        have O_inn := O_n
        have A_da := A_da.keep K_ (ninS ne_da_inn nin0)
        have E_da := E_da.keep K_
        have O_rd := O_rd.keep K_ (ninS ne_rd_inn nin0)
        have A_out := A_out.keep K_ (ninS (Ne.symm ne_inn_out) nin0)
        have hSk := Nat.le_trans hSk K_.1
        show own_Go p e below n0 (own_FinW room_1 s (fun v h => v = some (.int 1))) (T.setTop (mkF m 264 #[.val (.int i0), .val (.int i1), .val (.int i2), .val (.int i3), .val (.ref da), .val (.int (1 : Int32)), .val (.int (1 : Int32)), .val (.int (5 : Int32)), .val (.ref inn), .val (.int (2 : Int32)), .val (.int (3 : Int32)), .val (.ref out), .unset] [(.ref ou2)]))
        refine own_alenI C X at_264 (n := 0) A_ou2 rfl (pc' := 265) rfl ?_
        refine own_if_eq C X at_265 (pcT := 270) (pc' := 268) (by decide) (by decide) rfl (fun hc265 => ?_) (fun hc265 => absurd hc265 (by decide))
        refine own_aload C X at_270 rfl rfl (pc' := 272) rfl ?_
        refine own_alenI C X at_272 (n := 2) A_out rfl (pc' := 273) rfl ?_
        refine own_if_le C X at_273 (pcT := 306) (pc' := 276) (by decide) (by decide) rfl (fun hc273 => absurd hc273 (by decide)) (fun hc273 => ?_)
        refine own_aload C X at_276 rfl rfl (pc' := 278) rfl ?_
        refine own_iload C X at_278 rfl (pc' := 280) rfl ?_
        refine own_baload C X at_280 A_da (by decide) (i := 3) rfl (pc' := 281) rfl ?_
        refine own_istore C X at_281 (L' := #[.val (.int i0), .val (.int i1), .val (.int i2), .val (.int i3), .val (.ref da), .val (.int (1 : Int32)), .val (.int (1 : Int32)), .val (.int (5 : Int32)), .val (.ref inn), .val (.int (2 : Int32)), .val (.int (3 : Int32)), .val (.ref out), .val (.int t3)]) rfl (pc' := 283) rfl ?_
        refine own_aload C X at_283 rfl rfl (pc' := 285) rfl ?_
        refine own_iconst C X at_285 (v := 0) (by decide) (pc' := 286) rfl ?_
        refine own_aload C X at_286 rfl rfl (pc' := 288) rfl ?_
        refine own_iconst C X at_288 (v := 0) (by decide) (pc' := 289) rfl ?_
        refine own_baload C X at_289 A_out (by decide) (i := 0) rfl (pc' := 290) rfl ?_
        refine own_iconst C X at_290 (v := 1) (by decide) (pc' := 291) rfl ?_
        refine own_ixor C X at_291 rfl (pc' := 292) rfl ?_
        obtain ⟨tx, e_tx⟩ : ∃ z : Int32, (t3 ^^^ (1 : Int32)).toInt8.toInt32 = z := ⟨_, rfl⟩
        refine own_i2b C X at_292 e_tx (pc' := 293) rfl ?_
        refine own_bastore C X at_293 A_out (by decide) (i := 0) (Nat.le_of_ble_eq_true rfl) (own_i2bn e_tx) ge_out (pc' := 294) rfl ?_
        intro T h X K_ A_out_
        have A_out : own_IA Z h out .byte [tx, t4] := A_out_
        have A_da := A_da.keep K_ (ninS ne_da_out nin0)
        have E_da := E_da.keep K_
        have O_rd := O_rd.keep K_ (ninS ne_rd_out nin0)
        have O_inn := O_inn.keep K_ (ninS ne_inn_out nin0)
        have A_ou2 := A_ou2.keep K_ (ninS (Ne.symm ne_out_ou2) nin0)
        have hSk := Nat.le_trans hSk K_.1
        refine own_aload C X at_294 rfl rfl (pc' := 296) rfl ?_
        refine own_iload C X at_296 rfl (pc' := 298) rfl ?_
        refine own_baload C X at_298 A_da (by decide) (i := 3) rfl (pc' := 299) rfl ?_
        refine own_iload C X at_299 rfl (pc' := 301) rfl ?_
        refine own_icmp_eq C X at_301 (pcT := 306) (pc' := 304) (by decide) (by decide) rfl (fun hc301 => ?_) (fun hc301 => absurd hc301 (not_not_intro rfl))
        refine own_iconst C X at_306 (v := 1) (by decide) (pc' := 307) rfl ?_
        exact own_ireturn_zW C X hS hSk at_307 (Nat.le_of_ble_eq_true rfl) (Nat.le_of_ble_eq_true rfl) (rfl)
      · refine own_istore C X at_127 (L' := #[.val (.int i0), .val (.int i1), .val (.int i2), .val (.int i3), .val (.ref da), .val (.int (1 : Int32)), .val (.int (1 : Int32)), .val (.int (5 : Int32)), .val (.ref inn), .val (.int (3 : Int32)), .unset, .unset, .unset]) rfl (pc' := 129) rfl ?_
        refine own_aload C X at_129 rfl rfl (pc' := 131) rfl ?_
        refine own_iload C X at_131 rfl (pc' := 133) rfl ?_
        refine own_ldcS C X hS hSk at_133 (hw _ (List.mem_of_getElem? (i := 20) rfl)) (own_strW hw) (n := 1024) (by decide) (by decide) (Nat.le_of_ble_eq_true rfl) (Nat.le_of_ble_eq_true rfl) (pc' := 135) rfl ?_
        intro T h ss vm k_ C X K_ hS hSk_
        have A_da := A_da.keep K_ nin0
        have E_da := E_da.keep K_
        have O_rd := O_rd.keep K_ nin0
        have O_inn := O_inn.keep K_ nin0
        have hSk := Nat.le_trans hSk K_.1
        have hSk := hSk_
        refine own_callV C X at_135 (own_m_skip l Z a0 hw inn (3 : Int32) ss _ n0 (own_big C X) da (1 : Int32) (5 : Int32) (4 : Int32) (by decide) (by decide) O_inn ge_inn) O_inn.1 (hw _ (List.mem_of_getElem? (i := 27) rfl)) (hw _ (List.mem_of_getElem? (i := 28) rfl)) (hw _ (List.mem_of_getElem? (i := 30) rfl)) (hw _ (List.mem_of_getElem? (i := 29) rfl)) (hw _ (List.mem_of_getElem? (i := 3) rfl)) (hw _ (List.mem_of_getElem? (i := 31) rfl)) (by decide) own_pd_34082 rfl rfl (Nat.le_of_ble_eq_true rfl) (Nat.le_of_ble_eq_true rfl) (Nat.le_of_ble_eq_true rfl) (Nat.le_of_ble_eq_true rfl) (av := [(.int (3 : Int32)), (.ref ss)]) (S := []) rfl (pc' := 138) rfl ?_
        intro T h v X hQ
        obtain ⟨rfl, K_, O_inn⟩ := hQ
        have A_da := A_da.keep K_ (ninS ne_da_inn nin0)
        have E_da := E_da.keep K_
        have O_rd := O_rd.keep K_ (ninS ne_rd_inn nin0)
        have hSk := Nat.le_trans hSk K_.1
        show own_Go p e below n0 (own_FinW room_1 s (fun v h => v = some (.int 1))) (T.setTop (mkF m 138 #[.val (.int i0), .val (.int i1), .val (.int i2), .val (.int i3), .val (.ref da), .val (.int (1 : Int32)), .val (.int (1 : Int32)), .val (.int (5 : Int32)), .val (.ref inn), .val (.int (3 : Int32)), .unset, .unset, .unset] []))
        refine own_iload C X at_138 rfl (pc' := 140) rfl ?_
        refine own_iload C X at_140 rfl (pc' := 142) rfl ?_
        refine own_iadd C X at_142 (z := 4) (by decide) (pc' := 143) rfl ?_
        refine own_istore C X at_143 (L' := #[.val (.int i0), .val (.int i1), .val (.int i2), .val (.int i3), .val (.ref da), .val (.int (1 : Int32)), .val (.int (1 : Int32)), .val (.int (5 : Int32)), .val (.ref inn), .val (.int (3 : Int32)), .val (.int (4 : Int32)), .unset, .unset]) rfl (pc' := 145) rfl ?_
        refine own_aload C X at_145 rfl rfl (pc' := 147) rfl ?_
        have hbg := own_big C X
        refine own_callV C X at_147 (own_m_rest45 l Z a0 hw inn _ n0 hbg da (4 : Int32) t1 t2 t3 t4 A_da E_da O_inn (Ne.symm ne_da_inn) ge_inn) O_inn.1 (hw _ (List.mem_of_getElem? (i := 36) rfl)) (hw _ (List.mem_of_getElem? (i := 37) rfl)) (hw _ (List.mem_of_getElem? (i := 39) rfl)) (hw _ (List.mem_of_getElem? (i := 38) rfl)) (hw _ (List.mem_of_getElem? (i := 3) rfl)) (hw _ (List.mem_of_getElem? (i := 40) rfl)) (by decide) own_pd_2087 rfl rfl (Nat.le_of_ble_eq_true rfl) (Nat.le_of_ble_eq_true rfl) (Nat.le_of_ble_eq_true rfl) (Nat.le_of_ble_eq_true rfl) (av := []) (S := []) rfl (pc' := 150) rfl ?_
        intro T h v X hQ
        obtain ⟨out, rfl, gq_out, K_, O_n, A_out⟩ := hQ
        have ne_da_out : da ≠ out := Nat.ne_of_lt (Nat.lt_of_lt_of_le A_da.lt gq_out)
        have ne_rd_out : rd ≠ out := Nat.ne_of_lt (Nat.lt_of_lt_of_le O_rd.lt gq_out)
        have ne_inn_out : inn ≠ out := Nat.ne_of_lt (Nat.lt_of_lt_of_le O_inn.lt gq_out)
        have ge_out : n0 ≤ out := Nat.le_trans hbg gq_out
        have O_inn := O_n
        have A_da := A_da.keep K_ (ninS ne_da_inn nin0)
        have E_da := E_da.keep K_
        have O_rd := O_rd.keep K_ (ninS ne_rd_inn nin0)
        have hSk := Nat.le_trans hSk K_.1
        show own_Go p e below n0 (own_FinW room_1 s (fun v h => v = some (.int 1))) (T.setTop (mkF m 150 #[.val (.int i0), .val (.int i1), .val (.int i2), .val (.int i3), .val (.ref da), .val (.int (1 : Int32)), .val (.int (1 : Int32)), .val (.int (5 : Int32)), .val (.ref inn), .val (.int (3 : Int32)), .val (.int (4 : Int32)), .unset, .unset] [(.ref out)]))
        refine own_astore C X at_150 rfl (L' := #[.val (.int i0), .val (.int i1), .val (.int i2), .val (.int i3), .val (.ref da), .val (.int (1 : Int32)), .val (.int (1 : Int32)), .val (.int (5 : Int32)), .val (.ref inn), .val (.int (3 : Int32)), .val (.int (4 : Int32)), .val (.ref out), .unset]) rfl (pc' := 152) rfl ?_
        refine own_aload C X at_152 rfl rfl (pc' := 154) rfl ?_
        refine own_aload C X at_154 rfl rfl (pc' := 156) rfl ?_
        refine own_acmp_ne C X at_156 rfl rfl (pcT := 161) (pc' := 159) (by decide) (by decide) rfl (fun hc156 => ?_) (fun hc156 => absurd hc156 (fun q => (Ne.symm ne_da_out) (Value.ref.inj q)))
        refine own_aload C X at_161 rfl rfl (pc' := 163) rfl ?_
        refine own_alenI C X at_163 (n := 1) A_out rfl (pc' := 164) rfl ?_
        refine own_iload C X at_164 rfl (pc' := 166) rfl ?_
        refine own_iload C X at_166 rfl (pc' := 168) rfl ?_
        refine own_isub C X at_168 (z := 1) (by decide) (pc' := 169) rfl ?_
        refine own_icmp_eq C X at_169 (pcT := 174) (pc' := 172) (by decide) (by decide) rfl (fun hc169 => ?_) (fun hc169 => absurd hc169 (by decide))
        refine own_aload C X at_174 rfl rfl (pc' := 176) rfl ?_
        refine own_aload C X at_176 rfl rfl (pc' := 178) rfl ?_
        refine own_iload C X at_178 rfl (pc' := 180) rfl ?_
        refine own_iconst C X at_180 (v := 0) (by decide) (pc' := 181) rfl ?_
        refine own_callS C X at_181 (own_m_sameY l Z a0 hw out da (4 : Int32) (0 : Int32) _ n0 (own_big C X) [t4] [(4 : Int32), t1, t2, t3, t4] 1 rfl A_out A_da (by decide) 0 4 t4 (by decide) (by decide) rfl rfl) (hw _ (List.mem_of_getElem? (i := 59) rfl)) (hw _ (List.mem_of_getElem? (i := 60) rfl)) (hw _ (List.mem_of_getElem? (i := 61) rfl)) (hw _ (List.mem_of_getElem? (i := 62) rfl)) (by decide) own_pd_6987 rfl rfl (Nat.le_of_ble_eq_true rfl) (Nat.le_of_ble_eq_true rfl) (Nat.le_of_ble_eq_true rfl) (Nat.le_of_ble_eq_true rfl) (av := [(.ref out), (.ref da), (.int (4 : Int32)), (.int (0 : Int32))]) (S := []) rfl (pc' := 184) rfl ?_
        intro T h v X hQ
        obtain ⟨rfl, rfl⟩ := hQ
        show own_Go p e below n0 (own_FinW room_1 s (fun v h => v = some (.int 1))) (T.setTop (mkF m 184 #[.val (.int i0), .val (.int i1), .val (.int i2), .val (.int i3), .val (.ref da), .val (.int (1 : Int32)), .val (.int (1 : Int32)), .val (.int (5 : Int32)), .val (.ref inn), .val (.int (3 : Int32)), .val (.int (4 : Int32)), .val (.ref out), .unset] [(.int (1 : Int32))]))
        refine own_if_ne C X at_184 (pcT := 189) (pc' := 187) (by decide) (by decide) rfl (fun hc184 => ?_) (fun hc184 => absurd hc184 (by decide))
        refine own_aload C X at_189 rfl rfl (pc' := 191) rfl ?_
        refine own_aload C X at_191 rfl rfl (pc' := 193) rfl ?_
        refine own_iload C X at_193 rfl (pc' := 195) rfl ?_
        refine own_iconst C X at_195 (v := 1) (by decide) (pc' := 196) rfl ?_
        refine own_callS C X at_196 (own_m_sameN l Z a0 hw out da (4 : Int32) (1 : Int32) _ n0 (own_big C X) [t4] [(4 : Int32), t1, t2, t3, t4] 1 rfl A_out A_da (by decide)) (hw _ (List.mem_of_getElem? (i := 59) rfl)) (hw _ (List.mem_of_getElem? (i := 60) rfl)) (hw _ (List.mem_of_getElem? (i := 61) rfl)) (hw _ (List.mem_of_getElem? (i := 62) rfl)) (by decide) own_pd_6987 rfl rfl (Nat.le_of_ble_eq_true rfl) (Nat.le_of_ble_eq_true rfl) (Nat.le_of_ble_eq_true rfl) (Nat.le_of_ble_eq_true rfl) (av := [(.ref out), (.ref da), (.int (4 : Int32)), (.int (1 : Int32))]) (S := []) rfl (pc' := 199) rfl ?_
        intro T h v X hQ
        obtain ⟨rfl, rfl⟩ := hQ
        show own_Go p e below n0 (own_FinW room_1 s (fun v h => v = some (.int 1))) (T.setTop (mkF m 199 #[.val (.int i0), .val (.int i1), .val (.int i2), .val (.int i3), .val (.ref da), .val (.int (1 : Int32)), .val (.int (1 : Int32)), .val (.int (5 : Int32)), .val (.ref inn), .val (.int (3 : Int32)), .val (.int (4 : Int32)), .val (.ref out), .unset] [(.int (1 : Int32))]))
        refine own_if_ne C X at_199 (pcT := 204) (pc' := 202) (by decide) (by decide) rfl (fun hc199 => ?_) (fun hc199 => absurd hc199 (by decide))
        refine own_aload C X at_204 rfl rfl (pc' := 206) rfl ?_
        refine own_aload C X at_206 rfl rfl (pc' := 208) rfl ?_
        refine own_iload C X at_208 rfl (pc' := 210) rfl ?_
        refine own_iconst C X at_210 (v := 2) (by decide) (pc' := 211) rfl ?_
        refine own_callS C X at_211 (own_m_sameN l Z a0 hw out da (4 : Int32) (2 : Int32) _ n0 (own_big C X) [t4] [(4 : Int32), t1, t2, t3, t4] 1 rfl A_out A_da (by decide)) (hw _ (List.mem_of_getElem? (i := 59) rfl)) (hw _ (List.mem_of_getElem? (i := 60) rfl)) (hw _ (List.mem_of_getElem? (i := 61) rfl)) (hw _ (List.mem_of_getElem? (i := 62) rfl)) (by decide) own_pd_6987 rfl rfl (Nat.le_of_ble_eq_true rfl) (Nat.le_of_ble_eq_true rfl) (Nat.le_of_ble_eq_true rfl) (Nat.le_of_ble_eq_true rfl) (av := [(.ref out), (.ref da), (.int (4 : Int32)), (.int (2 : Int32))]) (S := []) rfl (pc' := 214) rfl ?_
        intro T h v X hQ
        obtain ⟨rfl, rfl⟩ := hQ
        show own_Go p e below n0 (own_FinW room_1 s (fun v h => v = some (.int 1))) (T.setTop (mkF m 214 #[.val (.int i0), .val (.int i1), .val (.int i2), .val (.int i3), .val (.ref da), .val (.int (1 : Int32)), .val (.int (1 : Int32)), .val (.int (5 : Int32)), .val (.ref inn), .val (.int (3 : Int32)), .val (.int (4 : Int32)), .val (.ref out), .unset] [(.int (1 : Int32))]))
        refine own_if_ne C X at_214 (pcT := 219) (pc' := 217) (by decide) (by decide) rfl (fun hc214 => ?_) (fun hc214 => absurd hc214 (by decide))
        refine own_aload C X at_219 rfl rfl (pc' := 221) rfl ?_
        refine own_aload C X at_221 rfl rfl (pc' := 223) rfl ?_
        refine own_iload C X at_223 rfl (pc' := 225) rfl ?_
        refine own_iconst C X at_225 (v := 3) (by decide) (pc' := 226) rfl ?_
        refine own_callS C X at_226 (own_m_sameN l Z a0 hw out da (4 : Int32) (3 : Int32) _ n0 (own_big C X) [t4] [(4 : Int32), t1, t2, t3, t4] 1 rfl A_out A_da (by decide)) (hw _ (List.mem_of_getElem? (i := 59) rfl)) (hw _ (List.mem_of_getElem? (i := 60) rfl)) (hw _ (List.mem_of_getElem? (i := 61) rfl)) (hw _ (List.mem_of_getElem? (i := 62) rfl)) (by decide) own_pd_6987 rfl rfl (Nat.le_of_ble_eq_true rfl) (Nat.le_of_ble_eq_true rfl) (Nat.le_of_ble_eq_true rfl) (Nat.le_of_ble_eq_true rfl) (av := [(.ref out), (.ref da), (.int (4 : Int32)), (.int (3 : Int32))]) (S := []) rfl (pc' := 229) rfl ?_
        intro T h v X hQ
        obtain ⟨rfl, rfl⟩ := hQ
        show own_Go p e below n0 (own_FinW room_1 s (fun v h => v = some (.int 1))) (T.setTop (mkF m 229 #[.val (.int i0), .val (.int i1), .val (.int i2), .val (.int i3), .val (.ref da), .val (.int (1 : Int32)), .val (.int (1 : Int32)), .val (.int (5 : Int32)), .val (.ref inn), .val (.int (3 : Int32)), .val (.int (4 : Int32)), .val (.ref out), .unset] [(.int (1 : Int32))]))
        refine own_if_ne C X at_229 (pcT := 234) (pc' := 232) (by decide) (by decide) rfl (fun hc229 => ?_) (fun hc229 => absurd hc229 (by decide))
        refine own_aload C X at_234 rfl rfl (pc' := 236) rfl ?_
        refine own_aload C X at_236 rfl rfl (pc' := 238) rfl ?_
        refine own_iload C X at_238 rfl (pc' := 240) rfl ?_
        refine own_iconst C X at_240 (v := 4) (by decide) (pc' := 241) rfl ?_
        refine own_callS C X at_241 (own_m_sameN l Z a0 hw out da (4 : Int32) (4 : Int32) _ n0 (own_big C X) [t4] [(4 : Int32), t1, t2, t3, t4] 1 rfl A_out A_da (by decide)) (hw _ (List.mem_of_getElem? (i := 59) rfl)) (hw _ (List.mem_of_getElem? (i := 60) rfl)) (hw _ (List.mem_of_getElem? (i := 61) rfl)) (hw _ (List.mem_of_getElem? (i := 62) rfl)) (by decide) own_pd_6987 rfl rfl (Nat.le_of_ble_eq_true rfl) (Nat.le_of_ble_eq_true rfl) (Nat.le_of_ble_eq_true rfl) (Nat.le_of_ble_eq_true rfl) (av := [(.ref out), (.ref da), (.int (4 : Int32)), (.int (4 : Int32))]) (S := []) rfl (pc' := 244) rfl ?_
        intro T h v X hQ
        obtain ⟨rfl, rfl⟩ := hQ
        show own_Go p e below n0 (own_FinW room_1 s (fun v h => v = some (.int 1))) (T.setTop (mkF m 244 #[.val (.int i0), .val (.int i1), .val (.int i2), .val (.int i3), .val (.ref da), .val (.int (1 : Int32)), .val (.int (1 : Int32)), .val (.int (5 : Int32)), .val (.ref inn), .val (.int (3 : Int32)), .val (.int (4 : Int32)), .val (.ref out), .unset] [(.int (1 : Int32))]))
        refine own_if_ne C X at_244 (pcT := 249) (pc' := 247) (by decide) (by decide) rfl (fun hc244 => ?_) (fun hc244 => absurd hc244 (by decide))
        refine own_aload C X at_249 rfl rfl (pc' := 251) rfl ?_
        refine own_callV C X at_251 (own_m_hr l Z a0 hw inn _ n0 (own_big C X) da (5 : Int32) (5 : Int32) O_inn) O_inn.1 (hw _ (List.mem_of_getElem? (i := 63) rfl)) (hw _ (List.mem_of_getElem? (i := 64) rfl)) (hw _ (List.mem_of_getElem? (i := 66) rfl)) (hw _ (List.mem_of_getElem? (i := 65) rfl)) (hw _ (List.mem_of_getElem? (i := 3) rfl)) (hw _ (List.mem_of_getElem? (i := 67) rfl)) (by decide) own_pd_1418 rfl rfl (Nat.le_of_ble_eq_true rfl) (Nat.le_of_ble_eq_true rfl) (Nat.le_of_ble_eq_true rfl) (Nat.le_of_ble_eq_true rfl) (av := []) (S := []) rfl (pc' := 254) rfl ?_
        intro T h v X hQ
        obtain ⟨rfl, rfl⟩ := hQ
        show own_Go p e below n0 (own_FinW room_1 s (fun v h => v = some (.int 1))) (T.setTop (mkF m 254 #[.val (.int i0), .val (.int i1), .val (.int i2), .val (.int i3), .val (.ref da), .val (.int (1 : Int32)), .val (.int (1 : Int32)), .val (.int (5 : Int32)), .val (.ref inn), .val (.int (3 : Int32)), .val (.int (4 : Int32)), .val (.ref out), .unset] [(.int (own_hr (5 : Int32) (5 : Int32)))]))
        rw [show own_hr (5 : Int32) (5 : Int32) = 0 from by decide]
        show own_Go p e below n0 (own_FinW room_1 s (fun v h => v = some (.int 1))) (T.setTop (mkF m 254 #[.val (.int i0), .val (.int i1), .val (.int i2), .val (.int i3), .val (.ref da), .val (.int (1 : Int32)), .val (.int (1 : Int32)), .val (.int (5 : Int32)), .val (.ref inn), .val (.int (3 : Int32)), .val (.int (4 : Int32)), .val (.ref out), .unset] [(.int (0 : Int32))]))
        refine own_if_eq C X at_254 (pcT := 259) (pc' := 257) (by decide) (by decide) rfl (fun hc254 => ?_) (fun hc254 => absurd hc254 (by decide))
        refine own_aload C X at_259 rfl rfl (pc' := 261) rfl ?_
        have hbg := own_big C X
        refine own_callV C X at_261 (own_m_rest55 l Z a0 hw inn _ n0 hbg da (4 : Int32) t1 t2 t3 t4 A_da E_da O_inn (Ne.symm ne_da_inn) ge_inn) O_inn.1 (hw _ (List.mem_of_getElem? (i := 36) rfl)) (hw _ (List.mem_of_getElem? (i := 37) rfl)) (hw _ (List.mem_of_getElem? (i := 39) rfl)) (hw _ (List.mem_of_getElem? (i := 38) rfl)) (hw _ (List.mem_of_getElem? (i := 3) rfl)) (hw _ (List.mem_of_getElem? (i := 40) rfl)) (by decide) own_pd_2087 rfl rfl (Nat.le_of_ble_eq_true rfl) (Nat.le_of_ble_eq_true rfl) (Nat.le_of_ble_eq_true rfl) (Nat.le_of_ble_eq_true rfl) (av := []) (S := []) rfl (pc' := 264) rfl ?_
        intro T h v X hQ
        obtain ⟨ou2, rfl, gq_ou2, K_, O_n, A_ou2⟩ := hQ
        have ne_da_ou2 : da ≠ ou2 := Nat.ne_of_lt (Nat.lt_of_lt_of_le A_da.lt gq_ou2)
        have ne_rd_ou2 : rd ≠ ou2 := Nat.ne_of_lt (Nat.lt_of_lt_of_le O_rd.lt gq_ou2)
        have ne_inn_ou2 : inn ≠ ou2 := Nat.ne_of_lt (Nat.lt_of_lt_of_le O_inn.lt gq_ou2)
        have ne_out_ou2 : out ≠ ou2 := Nat.ne_of_lt (Nat.lt_of_lt_of_le A_out.lt gq_ou2)
        have ge_ou2 : n0 ≤ ou2 := Nat.le_trans hbg gq_ou2
        have O_inn := O_n
        have A_da := A_da.keep K_ (ninS ne_da_inn nin0)
        have E_da := E_da.keep K_
        have O_rd := O_rd.keep K_ (ninS ne_rd_inn nin0)
        have A_out := A_out.keep K_ (ninS (Ne.symm ne_inn_out) nin0)
        have hSk := Nat.le_trans hSk K_.1
        show own_Go p e below n0 (own_FinW room_1 s (fun v h => v = some (.int 1))) (T.setTop (mkF m 264 #[.val (.int i0), .val (.int i1), .val (.int i2), .val (.int i3), .val (.ref da), .val (.int (1 : Int32)), .val (.int (1 : Int32)), .val (.int (5 : Int32)), .val (.ref inn), .val (.int (3 : Int32)), .val (.int (4 : Int32)), .val (.ref out), .unset] [(.ref ou2)]))
        refine own_alenI C X at_264 (n := 0) A_ou2 rfl (pc' := 265) rfl ?_
        refine own_if_eq C X at_265 (pcT := 270) (pc' := 268) (by decide) (by decide) rfl (fun hc265 => ?_) (fun hc265 => absurd hc265 (by decide))
        refine own_aload C X at_270 rfl rfl (pc' := 272) rfl ?_
        refine own_alenI C X at_272 (n := 1) A_out rfl (pc' := 273) rfl ?_
        refine own_if_le C X at_273 (pcT := 306) (pc' := 276) (by decide) (by decide) rfl (fun hc273 => absurd hc273 (by decide)) (fun hc273 => ?_)
        refine own_aload C X at_276 rfl rfl (pc' := 278) rfl ?_
        refine own_iload C X at_278 rfl (pc' := 280) rfl ?_
        refine own_baload C X at_280 A_da (by decide) (i := 4) rfl (pc' := 281) rfl ?_
        refine own_istore C X at_281 (L' := #[.val (.int i0), .val (.int i1), .val (.int i2), .val (.int i3), .val (.ref da), .val (.int (1 : Int32)), .val (.int (1 : Int32)), .val (.int (5 : Int32)), .val (.ref inn), .val (.int (3 : Int32)), .val (.int (4 : Int32)), .val (.ref out), .val (.int t4)]) rfl (pc' := 283) rfl ?_
        refine own_aload C X at_283 rfl rfl (pc' := 285) rfl ?_
        refine own_iconst C X at_285 (v := 0) (by decide) (pc' := 286) rfl ?_
        refine own_aload C X at_286 rfl rfl (pc' := 288) rfl ?_
        refine own_iconst C X at_288 (v := 0) (by decide) (pc' := 289) rfl ?_
        refine own_baload C X at_289 A_out (by decide) (i := 0) rfl (pc' := 290) rfl ?_
        refine own_iconst C X at_290 (v := 1) (by decide) (pc' := 291) rfl ?_
        refine own_ixor C X at_291 rfl (pc' := 292) rfl ?_
        obtain ⟨tx, e_tx⟩ : ∃ z : Int32, (t4 ^^^ (1 : Int32)).toInt8.toInt32 = z := ⟨_, rfl⟩
        refine own_i2b C X at_292 e_tx (pc' := 293) rfl ?_
        refine own_bastore C X at_293 A_out (by decide) (i := 0) (Nat.le_of_ble_eq_true rfl) (own_i2bn e_tx) ge_out (pc' := 294) rfl ?_
        intro T h X K_ A_out_
        have A_out : own_IA Z h out .byte [tx] := A_out_
        have A_da := A_da.keep K_ (ninS ne_da_out nin0)
        have E_da := E_da.keep K_
        have O_rd := O_rd.keep K_ (ninS ne_rd_out nin0)
        have O_inn := O_inn.keep K_ (ninS ne_inn_out nin0)
        have A_ou2 := A_ou2.keep K_ (ninS (Ne.symm ne_out_ou2) nin0)
        have hSk := Nat.le_trans hSk K_.1
        refine own_aload C X at_294 rfl rfl (pc' := 296) rfl ?_
        refine own_iload C X at_296 rfl (pc' := 298) rfl ?_
        refine own_baload C X at_298 A_da (by decide) (i := 4) rfl (pc' := 299) rfl ?_
        refine own_iload C X at_299 rfl (pc' := 301) rfl ?_
        refine own_icmp_eq C X at_301 (pcT := 306) (pc' := 304) (by decide) (by decide) rfl (fun hc301 => ?_) (fun hc301 => absurd hc301 (not_not_intro rfl))
        refine own_iconst C X at_306 (v := 1) (by decide) (pc' := 307) rfl ?_
        exact own_ireturn_zW C X hS hSk at_307 (Nat.le_of_ble_eq_true rfl) (Nat.le_of_ble_eq_true rfl) (rfl)
      · refine own_istore C X at_127 (L' := #[.val (.int i0), .val (.int i1), .val (.int i2), .val (.int i3), .val (.ref da), .val (.int (1 : Int32)), .val (.int (1 : Int32)), .val (.int (5 : Int32)), .val (.ref inn), .val (.int (4 : Int32)), .unset, .unset, .unset]) rfl (pc' := 129) rfl ?_
        refine own_aload C X at_129 rfl rfl (pc' := 131) rfl ?_
        refine own_iload C X at_131 rfl (pc' := 133) rfl ?_
        refine own_ldcS C X hS hSk at_133 (hw _ (List.mem_of_getElem? (i := 20) rfl)) (own_strW hw) (n := 1024) (by decide) (by decide) (Nat.le_of_ble_eq_true rfl) (Nat.le_of_ble_eq_true rfl) (pc' := 135) rfl ?_
        intro T h ss vm k_ C X K_ hS hSk_
        have A_da := A_da.keep K_ nin0
        have E_da := E_da.keep K_
        have O_rd := O_rd.keep K_ nin0
        have O_inn := O_inn.keep K_ nin0
        have hSk := Nat.le_trans hSk K_.1
        have hSk := hSk_
        refine own_callV C X at_135 (own_m_skip l Z a0 hw inn (4 : Int32) ss _ n0 (own_big C X) da (1 : Int32) (5 : Int32) (5 : Int32) (by decide) (by decide) O_inn ge_inn) O_inn.1 (hw _ (List.mem_of_getElem? (i := 27) rfl)) (hw _ (List.mem_of_getElem? (i := 28) rfl)) (hw _ (List.mem_of_getElem? (i := 30) rfl)) (hw _ (List.mem_of_getElem? (i := 29) rfl)) (hw _ (List.mem_of_getElem? (i := 3) rfl)) (hw _ (List.mem_of_getElem? (i := 31) rfl)) (by decide) own_pd_34082 rfl rfl (Nat.le_of_ble_eq_true rfl) (Nat.le_of_ble_eq_true rfl) (Nat.le_of_ble_eq_true rfl) (Nat.le_of_ble_eq_true rfl) (av := [(.int (4 : Int32)), (.ref ss)]) (S := []) rfl (pc' := 138) rfl ?_
        intro T h v X hQ
        obtain ⟨rfl, K_, O_inn⟩ := hQ
        have A_da := A_da.keep K_ (ninS ne_da_inn nin0)
        have E_da := E_da.keep K_
        have O_rd := O_rd.keep K_ (ninS ne_rd_inn nin0)
        have hSk := Nat.le_trans hSk K_.1
        show own_Go p e below n0 (own_FinW room_1 s (fun v h => v = some (.int 1))) (T.setTop (mkF m 138 #[.val (.int i0), .val (.int i1), .val (.int i2), .val (.int i3), .val (.ref da), .val (.int (1 : Int32)), .val (.int (1 : Int32)), .val (.int (5 : Int32)), .val (.ref inn), .val (.int (4 : Int32)), .unset, .unset, .unset] []))
        refine own_iload C X at_138 rfl (pc' := 140) rfl ?_
        refine own_iload C X at_140 rfl (pc' := 142) rfl ?_
        refine own_iadd C X at_142 (z := 5) (by decide) (pc' := 143) rfl ?_
        refine own_istore C X at_143 (L' := #[.val (.int i0), .val (.int i1), .val (.int i2), .val (.int i3), .val (.ref da), .val (.int (1 : Int32)), .val (.int (1 : Int32)), .val (.int (5 : Int32)), .val (.ref inn), .val (.int (4 : Int32)), .val (.int (5 : Int32)), .unset, .unset]) rfl (pc' := 145) rfl ?_
        refine own_aload C X at_145 rfl rfl (pc' := 147) rfl ?_
        have hbg := own_big C X
        refine own_callV C X at_147 (own_m_rest55 l Z a0 hw inn _ n0 hbg da (4 : Int32) t1 t2 t3 t4 A_da E_da O_inn (Ne.symm ne_da_inn) ge_inn) O_inn.1 (hw _ (List.mem_of_getElem? (i := 36) rfl)) (hw _ (List.mem_of_getElem? (i := 37) rfl)) (hw _ (List.mem_of_getElem? (i := 39) rfl)) (hw _ (List.mem_of_getElem? (i := 38) rfl)) (hw _ (List.mem_of_getElem? (i := 3) rfl)) (hw _ (List.mem_of_getElem? (i := 40) rfl)) (by decide) own_pd_2087 rfl rfl (Nat.le_of_ble_eq_true rfl) (Nat.le_of_ble_eq_true rfl) (Nat.le_of_ble_eq_true rfl) (Nat.le_of_ble_eq_true rfl) (av := []) (S := []) rfl (pc' := 150) rfl ?_
        intro T h v X hQ
        obtain ⟨out, rfl, gq_out, K_, O_n, A_out⟩ := hQ
        have ne_da_out : da ≠ out := Nat.ne_of_lt (Nat.lt_of_lt_of_le A_da.lt gq_out)
        have ne_rd_out : rd ≠ out := Nat.ne_of_lt (Nat.lt_of_lt_of_le O_rd.lt gq_out)
        have ne_inn_out : inn ≠ out := Nat.ne_of_lt (Nat.lt_of_lt_of_le O_inn.lt gq_out)
        have ge_out : n0 ≤ out := Nat.le_trans hbg gq_out
        have O_inn := O_n
        have A_da := A_da.keep K_ (ninS ne_da_inn nin0)
        have E_da := E_da.keep K_
        have O_rd := O_rd.keep K_ (ninS ne_rd_inn nin0)
        have hSk := Nat.le_trans hSk K_.1
        show own_Go p e below n0 (own_FinW room_1 s (fun v h => v = some (.int 1))) (T.setTop (mkF m 150 #[.val (.int i0), .val (.int i1), .val (.int i2), .val (.int i3), .val (.ref da), .val (.int (1 : Int32)), .val (.int (1 : Int32)), .val (.int (5 : Int32)), .val (.ref inn), .val (.int (4 : Int32)), .val (.int (5 : Int32)), .unset, .unset] [(.ref out)]))
        refine own_astore C X at_150 rfl (L' := #[.val (.int i0), .val (.int i1), .val (.int i2), .val (.int i3), .val (.ref da), .val (.int (1 : Int32)), .val (.int (1 : Int32)), .val (.int (5 : Int32)), .val (.ref inn), .val (.int (4 : Int32)), .val (.int (5 : Int32)), .val (.ref out), .unset]) rfl (pc' := 152) rfl ?_
        refine own_aload C X at_152 rfl rfl (pc' := 154) rfl ?_
        refine own_aload C X at_154 rfl rfl (pc' := 156) rfl ?_
        refine own_acmp_ne C X at_156 rfl rfl (pcT := 161) (pc' := 159) (by decide) (by decide) rfl (fun hc156 => ?_) (fun hc156 => absurd hc156 (fun q => (Ne.symm ne_da_out) (Value.ref.inj q)))
        refine own_aload C X at_161 rfl rfl (pc' := 163) rfl ?_
        refine own_alenI C X at_163 (n := 0) A_out rfl (pc' := 164) rfl ?_
        refine own_iload C X at_164 rfl (pc' := 166) rfl ?_
        refine own_iload C X at_166 rfl (pc' := 168) rfl ?_
        refine own_isub C X at_168 (z := 0) (by decide) (pc' := 169) rfl ?_
        refine own_icmp_eq C X at_169 (pcT := 174) (pc' := 172) (by decide) (by decide) rfl (fun hc169 => ?_) (fun hc169 => absurd hc169 (by decide))
        refine own_aload C X at_174 rfl rfl (pc' := 176) rfl ?_
        refine own_aload C X at_176 rfl rfl (pc' := 178) rfl ?_
        refine own_iload C X at_178 rfl (pc' := 180) rfl ?_
        refine own_iconst C X at_180 (v := 0) (by decide) (pc' := 181) rfl ?_
        refine own_callS C X at_181 (own_m_sameN l Z a0 hw out da (5 : Int32) (0 : Int32) _ n0 (own_big C X) [] [(4 : Int32), t1, t2, t3, t4] 0 rfl A_out A_da (by decide)) (hw _ (List.mem_of_getElem? (i := 59) rfl)) (hw _ (List.mem_of_getElem? (i := 60) rfl)) (hw _ (List.mem_of_getElem? (i := 61) rfl)) (hw _ (List.mem_of_getElem? (i := 62) rfl)) (by decide) own_pd_6987 rfl rfl (Nat.le_of_ble_eq_true rfl) (Nat.le_of_ble_eq_true rfl) (Nat.le_of_ble_eq_true rfl) (Nat.le_of_ble_eq_true rfl) (av := [(.ref out), (.ref da), (.int (5 : Int32)), (.int (0 : Int32))]) (S := []) rfl (pc' := 184) rfl ?_
        intro T h v X hQ
        obtain ⟨rfl, rfl⟩ := hQ
        show own_Go p e below n0 (own_FinW room_1 s (fun v h => v = some (.int 1))) (T.setTop (mkF m 184 #[.val (.int i0), .val (.int i1), .val (.int i2), .val (.int i3), .val (.ref da), .val (.int (1 : Int32)), .val (.int (1 : Int32)), .val (.int (5 : Int32)), .val (.ref inn), .val (.int (4 : Int32)), .val (.int (5 : Int32)), .val (.ref out), .unset] [(.int (1 : Int32))]))
        refine own_if_ne C X at_184 (pcT := 189) (pc' := 187) (by decide) (by decide) rfl (fun hc184 => ?_) (fun hc184 => absurd hc184 (by decide))
        refine own_aload C X at_189 rfl rfl (pc' := 191) rfl ?_
        refine own_aload C X at_191 rfl rfl (pc' := 193) rfl ?_
        refine own_iload C X at_193 rfl (pc' := 195) rfl ?_
        refine own_iconst C X at_195 (v := 1) (by decide) (pc' := 196) rfl ?_
        refine own_callS C X at_196 (own_m_sameN l Z a0 hw out da (5 : Int32) (1 : Int32) _ n0 (own_big C X) [] [(4 : Int32), t1, t2, t3, t4] 0 rfl A_out A_da (by decide)) (hw _ (List.mem_of_getElem? (i := 59) rfl)) (hw _ (List.mem_of_getElem? (i := 60) rfl)) (hw _ (List.mem_of_getElem? (i := 61) rfl)) (hw _ (List.mem_of_getElem? (i := 62) rfl)) (by decide) own_pd_6987 rfl rfl (Nat.le_of_ble_eq_true rfl) (Nat.le_of_ble_eq_true rfl) (Nat.le_of_ble_eq_true rfl) (Nat.le_of_ble_eq_true rfl) (av := [(.ref out), (.ref da), (.int (5 : Int32)), (.int (1 : Int32))]) (S := []) rfl (pc' := 199) rfl ?_
        intro T h v X hQ
        obtain ⟨rfl, rfl⟩ := hQ
        show own_Go p e below n0 (own_FinW room_1 s (fun v h => v = some (.int 1))) (T.setTop (mkF m 199 #[.val (.int i0), .val (.int i1), .val (.int i2), .val (.int i3), .val (.ref da), .val (.int (1 : Int32)), .val (.int (1 : Int32)), .val (.int (5 : Int32)), .val (.ref inn), .val (.int (4 : Int32)), .val (.int (5 : Int32)), .val (.ref out), .unset] [(.int (1 : Int32))]))
        refine own_if_ne C X at_199 (pcT := 204) (pc' := 202) (by decide) (by decide) rfl (fun hc199 => ?_) (fun hc199 => absurd hc199 (by decide))
        refine own_aload C X at_204 rfl rfl (pc' := 206) rfl ?_
        refine own_aload C X at_206 rfl rfl (pc' := 208) rfl ?_
        refine own_iload C X at_208 rfl (pc' := 210) rfl ?_
        refine own_iconst C X at_210 (v := 2) (by decide) (pc' := 211) rfl ?_
        refine own_callS C X at_211 (own_m_sameN l Z a0 hw out da (5 : Int32) (2 : Int32) _ n0 (own_big C X) [] [(4 : Int32), t1, t2, t3, t4] 0 rfl A_out A_da (by decide)) (hw _ (List.mem_of_getElem? (i := 59) rfl)) (hw _ (List.mem_of_getElem? (i := 60) rfl)) (hw _ (List.mem_of_getElem? (i := 61) rfl)) (hw _ (List.mem_of_getElem? (i := 62) rfl)) (by decide) own_pd_6987 rfl rfl (Nat.le_of_ble_eq_true rfl) (Nat.le_of_ble_eq_true rfl) (Nat.le_of_ble_eq_true rfl) (Nat.le_of_ble_eq_true rfl) (av := [(.ref out), (.ref da), (.int (5 : Int32)), (.int (2 : Int32))]) (S := []) rfl (pc' := 214) rfl ?_
        intro T h v X hQ
        obtain ⟨rfl, rfl⟩ := hQ
        show own_Go p e below n0 (own_FinW room_1 s (fun v h => v = some (.int 1))) (T.setTop (mkF m 214 #[.val (.int i0), .val (.int i1), .val (.int i2), .val (.int i3), .val (.ref da), .val (.int (1 : Int32)), .val (.int (1 : Int32)), .val (.int (5 : Int32)), .val (.ref inn), .val (.int (4 : Int32)), .val (.int (5 : Int32)), .val (.ref out), .unset] [(.int (1 : Int32))]))
        refine own_if_ne C X at_214 (pcT := 219) (pc' := 217) (by decide) (by decide) rfl (fun hc214 => ?_) (fun hc214 => absurd hc214 (by decide))
        refine own_aload C X at_219 rfl rfl (pc' := 221) rfl ?_
        refine own_aload C X at_221 rfl rfl (pc' := 223) rfl ?_
        refine own_iload C X at_223 rfl (pc' := 225) rfl ?_
        refine own_iconst C X at_225 (v := 3) (by decide) (pc' := 226) rfl ?_
        refine own_callS C X at_226 (own_m_sameN l Z a0 hw out da (5 : Int32) (3 : Int32) _ n0 (own_big C X) [] [(4 : Int32), t1, t2, t3, t4] 0 rfl A_out A_da (by decide)) (hw _ (List.mem_of_getElem? (i := 59) rfl)) (hw _ (List.mem_of_getElem? (i := 60) rfl)) (hw _ (List.mem_of_getElem? (i := 61) rfl)) (hw _ (List.mem_of_getElem? (i := 62) rfl)) (by decide) own_pd_6987 rfl rfl (Nat.le_of_ble_eq_true rfl) (Nat.le_of_ble_eq_true rfl) (Nat.le_of_ble_eq_true rfl) (Nat.le_of_ble_eq_true rfl) (av := [(.ref out), (.ref da), (.int (5 : Int32)), (.int (3 : Int32))]) (S := []) rfl (pc' := 229) rfl ?_
        intro T h v X hQ
        obtain ⟨rfl, rfl⟩ := hQ
        show own_Go p e below n0 (own_FinW room_1 s (fun v h => v = some (.int 1))) (T.setTop (mkF m 229 #[.val (.int i0), .val (.int i1), .val (.int i2), .val (.int i3), .val (.ref da), .val (.int (1 : Int32)), .val (.int (1 : Int32)), .val (.int (5 : Int32)), .val (.ref inn), .val (.int (4 : Int32)), .val (.int (5 : Int32)), .val (.ref out), .unset] [(.int (1 : Int32))]))
        refine own_if_ne C X at_229 (pcT := 234) (pc' := 232) (by decide) (by decide) rfl (fun hc229 => ?_) (fun hc229 => absurd hc229 (by decide))
        refine own_aload C X at_234 rfl rfl (pc' := 236) rfl ?_
        refine own_aload C X at_236 rfl rfl (pc' := 238) rfl ?_
        refine own_iload C X at_238 rfl (pc' := 240) rfl ?_
        refine own_iconst C X at_240 (v := 4) (by decide) (pc' := 241) rfl ?_
        refine own_callS C X at_241 (own_m_sameN l Z a0 hw out da (5 : Int32) (4 : Int32) _ n0 (own_big C X) [] [(4 : Int32), t1, t2, t3, t4] 0 rfl A_out A_da (by decide)) (hw _ (List.mem_of_getElem? (i := 59) rfl)) (hw _ (List.mem_of_getElem? (i := 60) rfl)) (hw _ (List.mem_of_getElem? (i := 61) rfl)) (hw _ (List.mem_of_getElem? (i := 62) rfl)) (by decide) own_pd_6987 rfl rfl (Nat.le_of_ble_eq_true rfl) (Nat.le_of_ble_eq_true rfl) (Nat.le_of_ble_eq_true rfl) (Nat.le_of_ble_eq_true rfl) (av := [(.ref out), (.ref da), (.int (5 : Int32)), (.int (4 : Int32))]) (S := []) rfl (pc' := 244) rfl ?_
        intro T h v X hQ
        obtain ⟨rfl, rfl⟩ := hQ
        show own_Go p e below n0 (own_FinW room_1 s (fun v h => v = some (.int 1))) (T.setTop (mkF m 244 #[.val (.int i0), .val (.int i1), .val (.int i2), .val (.int i3), .val (.ref da), .val (.int (1 : Int32)), .val (.int (1 : Int32)), .val (.int (5 : Int32)), .val (.ref inn), .val (.int (4 : Int32)), .val (.int (5 : Int32)), .val (.ref out), .unset] [(.int (1 : Int32))]))
        refine own_if_ne C X at_244 (pcT := 249) (pc' := 247) (by decide) (by decide) rfl (fun hc244 => ?_) (fun hc244 => absurd hc244 (by decide))
        refine own_aload C X at_249 rfl rfl (pc' := 251) rfl ?_
        refine own_callV C X at_251 (own_m_hr l Z a0 hw inn _ n0 (own_big C X) da (5 : Int32) (5 : Int32) O_inn) O_inn.1 (hw _ (List.mem_of_getElem? (i := 63) rfl)) (hw _ (List.mem_of_getElem? (i := 64) rfl)) (hw _ (List.mem_of_getElem? (i := 66) rfl)) (hw _ (List.mem_of_getElem? (i := 65) rfl)) (hw _ (List.mem_of_getElem? (i := 3) rfl)) (hw _ (List.mem_of_getElem? (i := 67) rfl)) (by decide) own_pd_1418 rfl rfl (Nat.le_of_ble_eq_true rfl) (Nat.le_of_ble_eq_true rfl) (Nat.le_of_ble_eq_true rfl) (Nat.le_of_ble_eq_true rfl) (av := []) (S := []) rfl (pc' := 254) rfl ?_
        intro T h v X hQ
        obtain ⟨rfl, rfl⟩ := hQ
        show own_Go p e below n0 (own_FinW room_1 s (fun v h => v = some (.int 1))) (T.setTop (mkF m 254 #[.val (.int i0), .val (.int i1), .val (.int i2), .val (.int i3), .val (.ref da), .val (.int (1 : Int32)), .val (.int (1 : Int32)), .val (.int (5 : Int32)), .val (.ref inn), .val (.int (4 : Int32)), .val (.int (5 : Int32)), .val (.ref out), .unset] [(.int (own_hr (5 : Int32) (5 : Int32)))]))
        rw [show own_hr (5 : Int32) (5 : Int32) = 0 from by decide]
        show own_Go p e below n0 (own_FinW room_1 s (fun v h => v = some (.int 1))) (T.setTop (mkF m 254 #[.val (.int i0), .val (.int i1), .val (.int i2), .val (.int i3), .val (.ref da), .val (.int (1 : Int32)), .val (.int (1 : Int32)), .val (.int (5 : Int32)), .val (.ref inn), .val (.int (4 : Int32)), .val (.int (5 : Int32)), .val (.ref out), .unset] [(.int (0 : Int32))]))
        refine own_if_eq C X at_254 (pcT := 259) (pc' := 257) (by decide) (by decide) rfl (fun hc254 => ?_) (fun hc254 => absurd hc254 (by decide))
        refine own_aload C X at_259 rfl rfl (pc' := 261) rfl ?_
        have hbg := own_big C X
        refine own_callV C X at_261 (own_m_rest55 l Z a0 hw inn _ n0 hbg da (4 : Int32) t1 t2 t3 t4 A_da E_da O_inn (Ne.symm ne_da_inn) ge_inn) O_inn.1 (hw _ (List.mem_of_getElem? (i := 36) rfl)) (hw _ (List.mem_of_getElem? (i := 37) rfl)) (hw _ (List.mem_of_getElem? (i := 39) rfl)) (hw _ (List.mem_of_getElem? (i := 38) rfl)) (hw _ (List.mem_of_getElem? (i := 3) rfl)) (hw _ (List.mem_of_getElem? (i := 40) rfl)) (by decide) own_pd_2087 rfl rfl (Nat.le_of_ble_eq_true rfl) (Nat.le_of_ble_eq_true rfl) (Nat.le_of_ble_eq_true rfl) (Nat.le_of_ble_eq_true rfl) (av := []) (S := []) rfl (pc' := 264) rfl ?_
        intro T h v X hQ
        obtain ⟨ou2, rfl, gq_ou2, K_, O_n, A_ou2⟩ := hQ
        have ne_da_ou2 : da ≠ ou2 := Nat.ne_of_lt (Nat.lt_of_lt_of_le A_da.lt gq_ou2)
        have ne_rd_ou2 : rd ≠ ou2 := Nat.ne_of_lt (Nat.lt_of_lt_of_le O_rd.lt gq_ou2)
        have ne_inn_ou2 : inn ≠ ou2 := Nat.ne_of_lt (Nat.lt_of_lt_of_le O_inn.lt gq_ou2)
        have ne_out_ou2 : out ≠ ou2 := Nat.ne_of_lt (Nat.lt_of_lt_of_le A_out.lt gq_ou2)
        have ge_ou2 : n0 ≤ ou2 := Nat.le_trans hbg gq_ou2
        have O_inn := O_n
        have A_da := A_da.keep K_ (ninS ne_da_inn nin0)
        have E_da := E_da.keep K_
        have O_rd := O_rd.keep K_ (ninS ne_rd_inn nin0)
        have A_out := A_out.keep K_ (ninS (Ne.symm ne_inn_out) nin0)
        have hSk := Nat.le_trans hSk K_.1
        show own_Go p e below n0 (own_FinW room_1 s (fun v h => v = some (.int 1))) (T.setTop (mkF m 264 #[.val (.int i0), .val (.int i1), .val (.int i2), .val (.int i3), .val (.ref da), .val (.int (1 : Int32)), .val (.int (1 : Int32)), .val (.int (5 : Int32)), .val (.ref inn), .val (.int (4 : Int32)), .val (.int (5 : Int32)), .val (.ref out), .unset] [(.ref ou2)]))
        refine own_alenI C X at_264 (n := 0) A_ou2 rfl (pc' := 265) rfl ?_
        refine own_if_eq C X at_265 (pcT := 270) (pc' := 268) (by decide) (by decide) rfl (fun hc265 => ?_) (fun hc265 => absurd hc265 (by decide))
        refine own_aload C X at_270 rfl rfl (pc' := 272) rfl ?_
        refine own_alenI C X at_272 (n := 0) A_out rfl (pc' := 273) rfl ?_
        refine own_if_le C X at_273 (pcT := 306) (pc' := 276) (by decide) (by decide) rfl (fun hc273 => ?_) (fun hc273 => absurd hc273 (by decide))
        refine own_iconst C X at_306 (v := 1) (by decide) (pc' := 307) rfl ?_
        exact own_ireturn_zW C X hS hSk at_307 (Nat.le_of_ble_eq_true rfl) (Nat.le_of_ble_eq_true rfl) (rfl)
set_option maxRecDepth 65536 in
set_option maxHeartbeats 40000000 in
theorem own_comes {Post : Tables → Env → Array Value → State → Outcome → State → Prop} (hpost : ∀ tb e args s v u, (limb_1_1.after args s (.returned v) u = true ∧ limb_1_2.after args s (.returned v) u = true ∧ True) → ReturnedEndW s (.returned v) u (Jvm.fieldLocs frame_1_writes args s ++ Jvm.arrayLocs frame_1_arrays args s ++ Jvm.staticLocs frame_1_statics s) 24 2176 → Post tb e args s (.returned v) u) :
    ArmFor flags0 classFile x code maxLocals ret World_1 tables_1 room_1 Calls_1 rest_1 Pre_1 Post := by
  intro l hfl _ _ p e ha hc hk s m args below hf hA hF happ hP
  obtain ⟨hcalls, hrest, hpre⟩ := hP
  obtain ⟨-, -, -, hnamed, -, -, -, hat⟩ := (Spec.applies_iff hf).mp happ
  obtain ⟨hg, hn⟩ := and_e (Cond.before_iff.mp (show (Jvm.Cond.and given_1 narrow_1).before args s = true from hpre))
  obtain ⟨gc, g0⟩ := and_e hg
  obtain ⟨k0, g1⟩ := and_e g0
  obtain ⟨k1, g2⟩ := and_e g1
  obtain ⟨k2, g3⟩ := and_e g2
  obtain ⟨w0, w1, w2, w3, rfl⟩ : ∃ w0 w1 w2 w3 : Value, args = #[w0, w1, w2, w3] := by
    have hs : args.size = 4 := by simpa [Cond.value, given_1] using gc
    obtain ⟨L⟩ := args
    match L, hs with
    | [w0, w1, w2, w3], _ => exact ⟨w0, w1, w2, w3, rfl⟩
  have hw := fun d (hd : d ∈ tables_1) => atoms_spec (ws := Jvm.Cond.code x code maxLocals ret :: tables_1) hat d (List.mem_cons_of_mem _ hd)
  obtain ⟨i0, ei0⟩ := is_v k0
  obtain rfl : w0 = (.int i0) := Option.some.inj ei0
  obtain ⟨i1, ei1⟩ := is_v k1
  obtain rfl : w1 = (.int i1) := Option.some.inj ei1
  obtain ⟨i2, ei2⟩ := is_v k2
  obtain rfl : w2 = (.int i2) := Option.some.inj ei2
  obtain ⟨i3, ei3⟩ := is_v g3
  obtain rfl : w3 = (.int i3) := Option.some.inj ei3
  obtain ⟨n, o, h1, h2, h3, _, L, rfl, ⟨rfl, N⟩, hq⟩ := own_m_law l s _ hw tables_1 i0 i1 i2 i3 s.heap s.heap.size (Nat.le_refl _)  p e ha hc hk s m _ below hf ((Spec.applies_iff_loose hf).mp happ).1 ⟨rfl, State.Warmed39.refl s, rfl⟩ trivial
  refine ⟨n, _, h1, h2, h3, hpost _ _ _ _ _ _ ⟨Cond.after_iff.mpr rfl, Cond.after_iff.mpr (eq_i res_at (Term.int_eval (1)) rfl), trivial⟩ ⟨hq.1, hq.2.1, hq.2.2.1, (hq.2.2.2.sift fun y hy => Or.inr (N y hy)).mono (by decide) (by decide)⟩⟩
theorem main_1_1 : Claimed_1_1 := own_comes fun _ _ _ _ _ _ h hF => ⟨h.1, hF⟩
theorem main_1_2 : Claimed_1_2 := own_comes fun _ _ _ _ _ _ h hF => ⟨h.2.1, hF⟩
end Jvm.Pilot.@@N@@
namespace Jvm.Pilot.@@N@@
open Jvm Jvm.ClassFile Sem Op Lib Jvm.Free Jvm.Stand Jvm.Pilot.@@N@@.Jvm.D
/-! MADE BY PROGRAM (witnessworld.py) out of the Statement's table words and the real class files: 17 classes; the members and pool entries that the words name. The judged class is class 1, her method 1. -/
namespace start1
open Jvm.ClassFile
def u (s : String) : CpInfo := .utf8 (stringToUtf16 s)
/-- a pool by its gaps: so many unusable entries, then the entry; so many at the end -/
def gap : Nat → List CpInfo → List CpInfo
  | 0, r => r
  | n + 1, r => .unusable :: gap n r
def poolList (es : List (Nat × CpInfo)) (last : Nat) : List CpInfo := es.foldr (fun e r => gap e.1 (e.2 :: r)) (gap last [])
def pool (es : List (Nat × CpInfo)) (last : Nat) : Array CpInfo := ⟨poolList es last⟩
def fileOf (pool : Array CpInfo) (this : Nat) (attrs : Array Attribute := #[]) (ms : Array MethodInfo := #[]) (fl : Nat := 33) (sup : Nat := 0) (ifs : Array Nat := #[]) (fds : Array FieldInfo := #[]) : ClassFile where
  minorVersion := 0
  majorVersion := 65
  constantPool := pool
  accessFlags := fl
  thisClass := this
  superClass := sup
  interfaces := ifs
  fields := fds
  methods := ms
  attributes := attrs
def plain (name : String) (sup : Option ClassId) : Class where
  name := name
  kind := .ordinary
  loader := none
  accessFlags := 33
  super := sup
  interfaces := #[]
  cf := none
  fields := #[]
  methods := #[]
  instanceTypes := #[]
  staticTypes := #[]
  resolved := #[]
  callSites := []
  init := .initialized
  statics := none
  mirror := none

def pool0 : Array CpInfo := pool [(5, u "<init>"), (0, u "()V"), (1, .class_ 10), (1, u "java/lang/Object"), (85, u "clone"), (0, u "()Ljava/lang/Object;")] 26

def k0c0 : Code := { maxStack := 0, maxLocals := 1, code := object_method_1_code, exceptionTable := #[], attributes := #[] }
def k0m0 : Method := { name := "<init>", desc := "()V", sig := { parameters := [], returnType := none }, accessFlags := 1, code := some k0c0 }
def k0m1 : Method := { name := "clone", desc := "()Ljava/lang/Object;", sig := { parameters := [], returnType := some (.object "java/lang/Object") }, accessFlags := 260, code := none }
/-- java/lang/Object -/
def k0 : Class := { plain "java/lang/Object" none with
  accessFlags := 33
  interfaces := #[]
  cf := some (fileOf pool0 8 #[] #[{ accessFlags := 1, nameIndex := 5, descriptorIndex := 6, attributes := #[] }, { accessFlags := 260, nameIndex := 96, descriptorIndex := 97, attributes := #[] }] 33 0 #[] #[])
  fields := #[]
  methods := #[k0m0, k0m1]
  instanceTypes := #[]
  staticTypes := #[]
  resolved := Array.replicate 124 none
  statics := none }

def pool1 : Array CpInfo := pool [(2, .class_ 4), (1, u "java/lang/Object"), (0, u "<init>"), (0, u "()V"), (0, .class_ 8), (0, u "com/example/anchorline/anchorline/TlsReader"), (0, .methodref 7 10), (0, .nameAndType 5 11), (0, u "([B)V"), (0, .integer 2147483647), (0, .string 14), (0, u "v"), (0, .methodref 7 16), (0, .nameAndType 17 18), (0, u "vector"), (0, u "(ILjava/lang/String;)Lcom/example/anchorline/anchorline/TlsReader;"), (0, .string 20), (0, u "s"), (0, .methodref 7 22), (0, .nameAndType 23 24), (0, u "skip"), (0, u "(ILjava/lang/String;)V"), (0, .methodref 7 26), (0, .nameAndType 27 28), (0, u "rest"), (0, u "()[B"), (0, .methodref 30 31), (0, .class_ 32), (0, .nameAndType 33 34), (0, u "com/example/anchorline/anchorline/TlsReaderRestPinLaw"), (0, u "same"), (0, u "([B[BII)Z"), (0, .methodref 7 36), (0, .nameAndType 37 38), (0, u "hasRemaining"), (0, u "()Z"), (2, u "law"), (0, u "(IIII)Z")] 5

def k1m0 : Method := { name := "<init>", desc := "()V", sig := { parameters := [], returnType := none }, accessFlags := 1, code := none }
def k1c1 : Code := { maxStack := 4, maxLocals := 13, code := code, exceptionTable := #[], attributes := #[] }
def k1m1 : Method := { name := "law", desc := "(IIII)Z", sig := { parameters := [.int, .int, .int, .int], returnType := some .boolean }, accessFlags := 9, code := some k1c1 }
def k1c2 : Code := { maxStack := 4, maxLocals := 4, code := method_3_code, exceptionTable := #[], attributes := #[] }
def k1m2 : Method := { name := "same", desc := "([B[BII)Z", sig := { parameters := [(.array .byte), (.array .byte), .int, .int], returnType := some .boolean }, accessFlags := 10, code := some k1c2 }
/-- com/example/anchorline/anchorline/TlsReaderRestPinLaw -/
def k1 : Class := { plain "com/example/anchorline/anchorline/TlsReaderRestPinLaw" (some 0) with
  accessFlags := 49
  interfaces := #[]
  cf := some (fileOf pool1 30 #[] #[{ accessFlags := 1, nameIndex := 5, descriptorIndex := 6, attributes := #[] }, { accessFlags := 9, nameIndex := 41, descriptorIndex := 42, attributes := #[] }, { accessFlags := 10, nameIndex := 33, descriptorIndex := 34, attributes := #[] }] 49 2 #[] #[])
  fields := #[]
  methods := #[k1m0, k1m1, k1m2]
  instanceTypes := #[]
  staticTypes := #[]
  resolved := Array.replicate 48 none
  statics := none }

def pool2 : Array CpInfo := pool [(1, .methodref 2 3), (0, .class_ 4), (0, .nameAndType 5 6), (0, u "com/example/anchorline/anchorline/TlsReader"), (0, u "<init>"), (0, u "([BII)V"), (0, .methodref 8 9), (0, .class_ 10), (0, .nameAndType 5 11), (0, u "java/lang/Object"), (0, u "()V"), (0, .fieldref 2 13), (0, .nameAndType 14 15), (0, u "data"), (0, u "[B"), (0, .fieldref 2 17), (0, .nameAndType 18 19), (0, u "pos"), (0, u "I"), (0, .fieldref 2 21), (0, .nameAndType 22 19), (0, u "limit"), (2, u "([B)V"), (2, u "vector"), (0, u "(ILjava/lang/String;)Lcom/example/anchorline/anchorline/TlsReader;"), (4, .methodref 2 35), (0, .nameAndType 36 37), (0, u "take"), (0, u "(ILjava/lang/String;)I"), (0, .methodref 2 39), (0, .nameAndType 40 37), (0, u "uint"), (0, .methodref 42 43), (0, .class_ 44), (0, .nameAndType 45 46), (0, u "java/util/Arrays"), (0, u "copyOfRange"), (0, u "([BII)[B"), (2, u "hasRemaining"), (0, u "()Z"), (16, u "skip"), (0, u "(ILjava/lang/String;)V"), (0, u "rest"), (0, u "()[B")] 19

def k2c0 : Code := { maxStack := 4, maxLocals := 2, code := prog_32_method_1_code, exceptionTable := #[], attributes := #[] }
def k2m0 : Method := { name := "<init>", desc := "([B)V", sig := { parameters := [(.array .byte)], returnType := none }, accessFlags := 0, code := some k2c0 }
def k2c1 : Code := { maxStack := 2, maxLocals := 4, code := prog_32_method_2_code, exceptionTable := #[], attributes := #[] }
def k2m1 : Method := { name := "<init>", desc := "([BII)V", sig := { parameters := [(.array .byte), .int, .int], returnType := none }, accessFlags := 2, code := some k2c1 }
def k2c2 : Code := { maxStack := 2, maxLocals := 1, code := prog_32_method_4_code, exceptionTable := #[], attributes := #[] }
def k2m2 : Method := { name := "hasRemaining", desc := "()Z", sig := { parameters := [], returnType := some .boolean }, accessFlags := 0, code := some k2c2 }
def k2c3 : Code := { maxStack := 3, maxLocals := 6, code := prog_32_method_5_code, exceptionTable := #[], attributes := #[] }
def k2m3 : Method := { name := "uint", desc := "(ILjava/lang/String;)I", sig := { parameters := [.int, (.object "java/lang/String")], returnType := some .int }, accessFlags := 0, code := some k2c3 }
def k2c4 : Code := { maxStack := 3, maxLocals := 3, code := prog_32_method_6_code, exceptionTable := #[], attributes := #[] }
def k2m4 : Method := { name := "skip", desc := "(ILjava/lang/String;)V", sig := { parameters := [.int, (.object "java/lang/String")], returnType := none }, accessFlags := 0, code := some k2c4 }
def k2c5 : Code := { maxStack := 6, maxLocals := 5, code := prog_32_method_7_code, exceptionTable := #[], attributes := #[] }
def k2m5 : Method := { name := "vector", desc := "(ILjava/lang/String;)Lcom/example/anchorline/anchorline/TlsReader;", sig := { parameters := [.int, (.object "java/lang/String")], returnType := some (.object "com/example/anchorline/anchorline/TlsReader") }, accessFlags := 0, code := some k2c5 }
def k2c6 : Code := { maxStack := 3, maxLocals := 2, code := prog_32_method_8_code, exceptionTable := #[], attributes := #[] }
def k2m6 : Method := { name := "rest", desc := "()[B", sig := { parameters := [], returnType := some (.array .byte) }, accessFlags := 0, code := some k2c6 }
def k2c7 : Code := { maxStack := 6, maxLocals := 4, code := prog_32_method_10_code, exceptionTable := #[], attributes := #[] }
def k2m7 : Method := { name := "take", desc := "(ILjava/lang/String;)I", sig := { parameters := [.int, (.object "java/lang/String")], returnType := some .int }, accessFlags := 2, code := some k2c7 }
/-- com/example/anchorline/anchorline/TlsReader -/
def k2 : Class := { plain "com/example/anchorline/anchorline/TlsReader" (some 0) with
  accessFlags := 48
  interfaces := #[]
  cf := some (fileOf pool2 2 #[] #[{ accessFlags := 0, nameIndex := 5, descriptorIndex := 25, attributes := #[] }, { accessFlags := 2, nameIndex := 5, descriptorIndex := 6, attributes := #[] }, { accessFlags := 0, nameIndex := 49, descriptorIndex := 50, attributes := #[] }, { accessFlags := 0, nameIndex := 40, descriptorIndex := 37, attributes := #[] }, { accessFlags := 0, nameIndex := 67, descriptorIndex := 68, attributes := #[] }, { accessFlags := 0, nameIndex := 28, descriptorIndex := 29, attributes := #[] }, { accessFlags := 0, nameIndex := 69, descriptorIndex := 70, attributes := #[] }, { accessFlags := 2, nameIndex := 36, descriptorIndex := 37, attributes := #[] }] 48 8 #[] #[{ accessFlags := 18, nameIndex := 14, descriptorIndex := 15, attributes := #[] }, { accessFlags := 18, nameIndex := 22, descriptorIndex := 19, attributes := #[] }, { accessFlags := 2, nameIndex := 18, descriptorIndex := 19, attributes := #[] }])
  fields := #[{ name := "data", type := (.array .byte), accessFlags := 18, slot := 0, constantValue := 0 }, { name := "limit", type := .int, accessFlags := 18, slot := 1, constantValue := 0 }, { name := "pos", type := .int, accessFlags := 2, slot := 2, constantValue := 0 }]
  methods := #[k2m0, k2m1, k2m2, k2m3, k2m4, k2m5, k2m6, k2m7]
  instanceTypes := #[(.array .byte), .int, .int]
  staticTypes := #[]
  resolved := Array.replicate 90 none
  statics := none }

def pool3 : Array CpInfo := pool [(1, .class_ 2), (0, u "java/io/Serializable"), (0, .class_ 4), (0, u "java/lang/Object")] 2

/-- java/io/Serializable -/
def k3 : Class := { plain "java/io/Serializable" (some 0) with
  accessFlags := 1537
  interfaces := #[]
  cf := some (fileOf pool3 1 #[] #[] 1537 3 #[] #[])
  fields := #[]
  methods := #[]
  instanceTypes := #[]
  staticTypes := #[]
  resolved := Array.replicate 7 none
  statics := none }

def pool4 : Array CpInfo := pool [(1, .class_ 2), (0, u "java/lang/Comparable"), (0, .class_ 4), (0, u "java/lang/Object")] 7

/-- java/lang/Comparable -/
def k4 : Class := { plain "java/lang/Comparable" (some 0) with
  accessFlags := 1537
  interfaces := #[]
  cf := some (fileOf pool4 1 #[] #[] 1537 3 #[] #[])
  fields := #[]
  methods := #[]
  instanceTypes := #[]
  staticTypes := #[]
  resolved := Array.replicate 12 none
  statics := none }

def pool5 : Array CpInfo := pool [(2, .class_ 4), (1, u "java/lang/CharSequence"), (42, .class_ 48), (0, u "java/lang/CharSequence$1CodePointIterator"), (10, .class_ 60), (0, u "java/lang/CharSequence$1CharIterator"), (5, .class_ 67), (0, u "java/lang/Object")] 63

/-- java/lang/CharSequence -/
def k5 : Class := { plain "java/lang/CharSequence" (some 0) with
  accessFlags := 1537
  interfaces := #[]
  cf := some (fileOf pool5 2 #[.nestMembers #[47, 59]] #[] 1537 66 #[] #[])
  fields := #[]
  methods := #[]
  instanceTypes := #[]
  staticTypes := #[]
  resolved := Array.replicate 131 none
  statics := none }

def pool6 : Array CpInfo := pool [(1, .class_ 2), (0, u "java/lang/constant/Constable"), (0, .class_ 4), (0, u "java/lang/Object")] 6

/-- java/lang/constant/Constable -/
def k6 : Class := { plain "java/lang/constant/Constable" (some 0) with
  accessFlags := 1537
  interfaces := #[]
  cf := some (fileOf pool6 1 #[] #[] 1537 3 #[] #[])
  fields := #[]
  methods := #[]
  instanceTypes := #[]
  staticTypes := #[]
  resolved := Array.replicate 11 none
  statics := none }

def pool7 : Array CpInfo := pool [(1, .class_ 2), (0, u "java/lang/constant/ConstantDesc"), (0, .class_ 4), (0, u "java/lang/Object")] 32

/-- java/lang/constant/ConstantDesc -/
def k7 : Class := { plain "java/lang/constant/ConstantDesc" (some 0) with
  accessFlags := 1537
  interfaces := #[]
  cf := some (fileOf pool7 1 #[] #[] 1537 3 #[] #[])
  fields := #[]
  methods := #[]
  instanceTypes := #[]
  staticTypes := #[]
  resolved := Array.replicate 37 none
  statics := none }

def pool8 : Array CpInfo := pool [(2, .class_ 4), (1, u "java/lang/Object"), (0, u "<init>"), (0, u "()V"), (3, .class_ 12), (1, u "java/lang/String"), (0, u "value"), (0, u "[B"), (2, u "coder"), (0, u "B"), (2, u "hash"), (0, u "I"), (2, u "hashIsZero"), (0, u "Z"), (13, u "COMPACT_STRINGS"), (534, .class_ 576), (0, u "java/lang/CharSequence"), (22, u "CASE_INSENSITIVE_ORDER"), (0, u "Ljava/util/Comparator;"), (500, u "serialPersistentFields"), (0, u "[Ljava/io/ObjectStreamField;"), (0, .class_ 1104), (0, u "java/lang/String$CaseInsensitiveComparator"), (1, .class_ 1107), (0, u "java/io/Serializable"), (0, .class_ 1109), (0, u "java/lang/Comparable"), (0, .class_ 1111), (0, u "java/lang/constant/Constable"), (0, .class_ 1113), (0, u "java/lang/constant/ConstantDesc"), (2, u "serialVersionUID"), (0, u "J"), (3, u "REPL"), (0, u "C"), (2, u "LATIN1"), (1, u "UTF16")] 323

def k8m0 : Method := { name := "<init>", desc := "()V", sig := { parameters := [], returnType := none }, accessFlags := 1, code := none }
/-- java/lang/String -/
def k8 : Class := { plain "java/lang/String" (some 0) with
  accessFlags := 49
  interfaces := #[3, 4, 5, 6, 7]
  cf := some (fileOf pool8 10 #[.nestMembers #[1103]] #[{ accessFlags := 1, nameIndex := 5, descriptorIndex := 6, attributes := #[] }] 49 2 #[1106, 1108, 575, 1110, 1112] #[{ accessFlags := 18, nameIndex := 13, descriptorIndex := 14, attributes := #[] }, { accessFlags := 18, nameIndex := 17, descriptorIndex := 18, attributes := #[] }, { accessFlags := 2, nameIndex := 21, descriptorIndex := 22, attributes := #[] }, { accessFlags := 2, nameIndex := 25, descriptorIndex := 26, attributes := #[] }, { accessFlags := 26, nameIndex := 1116, descriptorIndex := 1117, attributes := #[] }, { accessFlags := 24, nameIndex := 40, descriptorIndex := 26, attributes := #[] }, { accessFlags := 26, nameIndex := 1101, descriptorIndex := 1102, attributes := #[] }, { accessFlags := 26, nameIndex := 1121, descriptorIndex := 1122, attributes := #[] }, { accessFlags := 25, nameIndex := 599, descriptorIndex := 600, attributes := #[] }, { accessFlags := 24, nameIndex := 1125, descriptorIndex := 18, attributes := #[] }, { accessFlags := 24, nameIndex := 1127, descriptorIndex := 18, attributes := #[] }])
  fields := #[{ name := "value", type := (.array .byte), accessFlags := 18, slot := 0, constantValue := 0 }, { name := "coder", type := .byte, accessFlags := 18, slot := 1, constantValue := 0 }, { name := "hash", type := .int, accessFlags := 2, slot := 2, constantValue := 0 }, { name := "hashIsZero", type := .boolean, accessFlags := 2, slot := 3, constantValue := 0 }, { name := "serialVersionUID", type := .long, accessFlags := 26, slot := 0, constantValue := 0 }, { name := "COMPACT_STRINGS", type := .boolean, accessFlags := 24, slot := 1, constantValue := 0 }, { name := "serialPersistentFields", type := (.array (.object "java/io/ObjectStreamField")), accessFlags := 26, slot := 2, constantValue := 0 }, { name := "REPL", type := .char, accessFlags := 26, slot := 3, constantValue := 0 }, { name := "CASE_INSENSITIVE_ORDER", type := (.object "java/util/Comparator"), accessFlags := 25, slot := 4, constantValue := 0 }, { name := "LATIN1", type := .byte, accessFlags := 24, slot := 5, constantValue := 0 }, { name := "UTF16", type := .byte, accessFlags := 24, slot := 6, constantValue := 0 }]
  methods := #[k8m0]
  instanceTypes := #[(.array .byte), .byte, .int, .boolean]
  staticTypes := #[.long, .boolean, (.array (.object "java/io/ObjectStreamField")), .char, (.object "java/util/Comparator"), .byte, .byte]
  resolved := Array.replicate 1451 none
  statics := none }

def pool9 : Array CpInfo := pool [(2, .class_ 4), (1, u "java/lang/Object"), (0, u "<init>"), (0, u "()V"), (7, .class_ 16), (1, u "java/util/Arrays"), (57, .class_ 76), (1, u "java/util/Arrays$NaturalOrder"), (32, u "()Ljava/lang/Object;"), (3, .class_ 115), (1, u "java/util/Arrays$LegacyMergeSort"), (1, u "Z"), (10, .nameAndType 129 109), (0, u "clone"), (9, u "copyOfRange"), (10, .methodref 151 152), (0, .class_ 153), (0, .nameAndType 154 155), (0, u "java/lang/System"), (0, u "arraycopy"), (0, u "(Ljava/lang/Object;ILjava/lang/Object;II)V"), (148, .methodref 305 306), (0, .class_ 307), (0, .nameAndType 308 309), (0, u "java/lang/Math"), (0, u "min"), (0, u "(II)I"), (0, .methodref 311 128), (0, .class_ 312), (0, u "[B"), (26, .methodref 14 340), (0, .nameAndType 341 342), (0, u "copyOfRangeByte"), (0, u "([BII)[B"), (0, .methodref 14 344), (0, .nameAndType 345 346), (0, u "checkLength"), (0, u "(II)V"), (28, .class_ 376), (0, u "java/util/Arrays$ArrayList"), (68, u "$assertionsDisabled"), (269, u "MIN_ARRAY_SORT_GRAN"), (0, u "I"), (2, u "INSERTIONSORT_THRESHOLD"), (255, .class_ 976), (0, u "java/util/Arrays$ArrayItr")] 52

def k9m0 : Method := { name := "<init>", desc := "()V", sig := { parameters := [], returnType := none }, accessFlags := 2, code := none }
def k9c1 : Code := { maxStack := 4, maxLocals := 2, code := jdk_65_method_131_code, exceptionTable := #[], attributes := #[] }
def k9m1 : Method := { name := "checkLength", desc := "(II)V", sig := { parameters := [.int, .int], returnType := none }, accessFlags := 10, code := some k9c1 }
def k9c2 : Code := { maxStack := 3, maxLocals := 3, code := jdk_65_method_132_code, exceptionTable := #[], attributes := #[] }
def k9m2 : Method := { name := "copyOfRange", desc := "([BII)[B", sig := { parameters := [(.array .byte), .int, .int], returnType := some (.array .byte) }, accessFlags := 9, code := some k9c2 }
def k9c3 : Code := { maxStack := 6, maxLocals := 5, code := jdk_65_method_133_code, exceptionTable := #[], attributes := #[] }
def k9m3 : Method := { name := "copyOfRangeByte", desc := "([BII)[B", sig := { parameters := [(.array .byte), .int, .int], returnType := some (.array .byte) }, accessFlags := 10, code := some k9c3 }
/-- java/util/Arrays -/
def k9 : Class := { plain "java/util/Arrays" (some 0) with
  accessFlags := 49
  interfaces := #[]
  cf := some (fileOf pool9 14 #[.nestMembers #[975, 375, 113, 74]] #[{ accessFlags := 2, nameIndex := 5, descriptorIndex := 6, attributes := #[] }, { accessFlags := 10, nameIndex := 345, descriptorIndex := 346, attributes := #[] }, { accessFlags := 9, nameIndex := 139, descriptorIndex := 342, attributes := #[] }, { accessFlags := 10, nameIndex := 341, descriptorIndex := 342, attributes := #[] }] 49 2 #[] #[{ accessFlags := 26, nameIndex := 715, descriptorIndex := 716, attributes := #[] }, { accessFlags := 26, nameIndex := 719, descriptorIndex := 716, attributes := #[] }, { accessFlags := 4120, nameIndex := 445, descriptorIndex := 117, attributes := #[] }])
  fields := #[{ name := "MIN_ARRAY_SORT_GRAN", type := .int, accessFlags := 26, slot := 0, constantValue := 0 }, { name := "INSERTIONSORT_THRESHOLD", type := .int, accessFlags := 26, slot := 1, constantValue := 0 }, { name := "$assertionsDisabled", type := .boolean, accessFlags := 4120, slot := 2, constantValue := 0 }]
  methods := #[k9m0, k9m1, k9m2, k9m3]
  instanceTypes := #[]
  staticTypes := #[.int, .int, .boolean]
  resolved := Array.replicate 1029 none
  statics := none }

def pool10 : Array CpInfo := pool [(1, .class_ 2), (0, u "java/lang/Math"), (1, .class_ 6), (1, u "java/lang/Object"), (0, u "<init>"), (0, u "()V"), (89, .class_ 100), (1, u "java/lang/Math$RandomNumberGeneratorHolder"), (71, u "negativeZeroFloatBits"), (0, u "J"), (2, u "negativeZeroDoubleBits"), (24, u "min"), (43, u "$assertionsDisabled"), (0, u "Z"), (88, u "(II)I"), (2, u "twoToTheDoubleScaleDown"), (0, u "D"), (4, u "twoToTheDoubleScaleUp"), (9, u "E"), (3, u "PI"), (2, u "TAU"), (2, u "DEGREES_TO_RADIANS"), (0, u "RADIANS_TO_DEGREES")] 94

def k10m0 : Method := { name := "<init>", desc := "()V", sig := { parameters := [], returnType := none }, accessFlags := 2, code := none }
def k10c1 : Code := { maxStack := 2, maxLocals := 2, code := jdk_29_method_69_code, exceptionTable := #[], attributes := #[] }
def k10m1 : Method := { name := "min", desc := "(II)I", sig := { parameters := [.int, .int], returnType := some .int }, accessFlags := 9, code := some k10c1 }
/-- java/lang/Math -/
def k10 : Class := { plain "java/lang/Math" (some 0) with
  accessFlags := 49
  interfaces := #[]
  cf := some (fileOf pool10 1 #[.nestMembers #[98]] #[{ accessFlags := 2, nameIndex := 7, descriptorIndex := 8, attributes := #[] }, { accessFlags := 9, nameIndex := 201, descriptorIndex := 335, attributes := #[] }] 49 4 #[] #[{ accessFlags := 25, nameIndex := 354, descriptorIndex := 339, attributes := #[] }, { accessFlags := 25, nameIndex := 358, descriptorIndex := 339, attributes := #[] }, { accessFlags := 25, nameIndex := 361, descriptorIndex := 339, attributes := #[] }, { accessFlags := 26, nameIndex := 364, descriptorIndex := 339, attributes := #[] }, { accessFlags := 26, nameIndex := 365, descriptorIndex := 339, attributes := #[] }, { accessFlags := 26, nameIndex := 172, descriptorIndex := 173, attributes := #[] }, { accessFlags := 26, nameIndex := 176, descriptorIndex := 173, attributes := #[] }, { accessFlags := 8, nameIndex := 344, descriptorIndex := 339, attributes := #[] }, { accessFlags := 8, nameIndex := 338, descriptorIndex := 339, attributes := #[] }, { accessFlags := 4120, nameIndex := 245, descriptorIndex := 246, attributes := #[] }])
  fields := #[{ name := "E", type := .double, accessFlags := 25, slot := 0, constantValue := 0 }, { name := "PI", type := .double, accessFlags := 25, slot := 1, constantValue := 0 }, { name := "TAU", type := .double, accessFlags := 25, slot := 2, constantValue := 0 }, { name := "DEGREES_TO_RADIANS", type := .double, accessFlags := 26, slot := 3, constantValue := 0 }, { name := "RADIANS_TO_DEGREES", type := .double, accessFlags := 26, slot := 4, constantValue := 0 }, { name := "negativeZeroFloatBits", type := .long, accessFlags := 26, slot := 5, constantValue := 0 }, { name := "negativeZeroDoubleBits", type := .long, accessFlags := 26, slot := 6, constantValue := 0 }, { name := "twoToTheDoubleScaleUp", type := .double, accessFlags := 8, slot := 7, constantValue := 0 }, { name := "twoToTheDoubleScaleDown", type := .double, accessFlags := 8, slot := 8, constantValue := 0 }, { name := "$assertionsDisabled", type := .boolean, accessFlags := 4120, slot := 9, constantValue := 0 }]
  methods := #[k10m0, k10m1]
  instanceTypes := #[]
  staticTypes := #[.double, .double, .double, .double, .double, .long, .long, .double, .double, .boolean]
  resolved := Array.replicate 460 none
  statics := none }

def pool11 : Array CpInfo := pool [(2, .class_ 4), (1, u "java/lang/Object"), (0, u "<init>"), (0, u "()V"), (1, .class_ 10), (1, u "java/lang/System"), (0, u "allowSecurityManager"), (0, u "I"), (16, u "cons"), (0, u "Ljava/io/Console;"), (77, .class_ 110), (1, u "java/lang/System$CallersHolder"), (43, u "initialErrStream"), (0, u "Ljava/io/PrintStream;"), (19, u "security"), (0, u "Ljava/lang/SecurityManager;"), (31, .class_ 209), (0, u "java/lang/System$1"), (7, u "props"), (0, u "Ljava/util/Properties;"), (2, u "lineSeparator"), (0, u "Ljava/lang/String;"), (96, .class_ 321), (1, u "java/lang/System$LoggerFinder"), (5, .class_ 328), (0, u "java/lang/System$Logger"), (67, u "err"), (2, u "out"), (91, u "notSupportedJnuEncoding"), (15, u "in"), (17, u "initialIn"), (0, u "Ljava/io/InputStream;"), (35, u "bootLayer"), (0, u "Ljava/lang/ModuleLayer;"), (99, .class_ 664), (0, u "java/lang/System$2"), (9, u "NEVER"), (2, u "MAYBE"), (49, u "arraycopy"), (0, u "(Ljava/lang/Object;ILjava/lang/Object;II)V"), (72, .class_ 802), (0, u "java/lang/System$Logger$Level")] 31

def k11m0 : Method := { name := "<init>", desc := "()V", sig := { parameters := [], returnType := none }, accessFlags := 2, code := none }
def k11m1 : Method := { name := "arraycopy", desc := "(Ljava/lang/Object;ILjava/lang/Object;II)V", sig := { parameters := [(.object "java/lang/Object"), .int, (.object "java/lang/Object"), .int, .int], returnType := none }, accessFlags := 265, code := none }
/-- java/lang/System -/
def k11 : Class := { plain "java/lang/System" (some 0) with
  accessFlags := 49
  interfaces := #[]
  cf := some (fileOf pool11 8 #[.nestMembers #[319, 327, 801, 108, 663, 208]] #[{ accessFlags := 2, nameIndex := 5, descriptorIndex := 6, attributes := #[] }, { accessFlags := 265, nameIndex := 727, descriptorIndex := 728, attributes := #[] }] 49 2 #[] #[{ accessFlags := 25, nameIndex := 507, descriptorIndex := 526, attributes := #[] }, { accessFlags := 25, nameIndex := 399, descriptorIndex := 155, attributes := #[] }, { accessFlags := 25, nameIndex := 396, descriptorIndex := 155, attributes := #[] }, { accessFlags := 10, nameIndex := 525, descriptorIndex := 526, attributes := #[] }, { accessFlags := 26, nameIndex := 674, descriptorIndex := 12, attributes := #[] }, { accessFlags := 26, nameIndex := 677, descriptorIndex := 12, attributes := #[] }, { accessFlags := 10, nameIndex := 11, descriptorIndex := 12, attributes := #[] }, { accessFlags := 74, nameIndex := 175, descriptorIndex := 176, attributes := #[] }, { accessFlags := 10, nameIndex := 491, descriptorIndex := 222, attributes := #[] }, { accessFlags := 74, nameIndex := 29, descriptorIndex := 30, attributes := #[] }, { accessFlags := 74, nameIndex := 154, descriptorIndex := 155, attributes := #[] }, { accessFlags := 10, nameIndex := 217, descriptorIndex := 218, attributes := #[] }, { accessFlags := 10, nameIndex := 221, descriptorIndex := 222, attributes := #[] }, { accessFlags := 8, nameIndex := 562, descriptorIndex := 563, attributes := #[] }])
  fields := #[{ name := "in", type := (.object "java/io/InputStream"), accessFlags := 25, slot := 0, constantValue := 0 }, { name := "out", type := (.object "java/io/PrintStream"), accessFlags := 25, slot := 1, constantValue := 0 }, { name := "err", type := (.object "java/io/PrintStream"), accessFlags := 25, slot := 2, constantValue := 0 }, { name := "initialIn", type := (.object "java/io/InputStream"), accessFlags := 10, slot := 3, constantValue := 0 }, { name := "NEVER", type := .int, accessFlags := 26, slot := 4, constantValue := 0 }, { name := "MAYBE", type := .int, accessFlags := 26, slot := 5, constantValue := 0 }, { name := "allowSecurityManager", type := .int, accessFlags := 10, slot := 6, constantValue := 0 }, { name := "security", type := (.object "java/lang/SecurityManager"), accessFlags := 74, slot := 7, constantValue := 0 }, { name := "notSupportedJnuEncoding", type := (.object "java/lang/String"), accessFlags := 10, slot := 8, constantValue := 0 }, { name := "cons", type := (.object "java/io/Console"), accessFlags := 74, slot := 9, constantValue := 0 }, { name := "initialErrStream", type := (.object "java/io/PrintStream"), accessFlags := 74, slot := 10, constantValue := 0 }, { name := "props", type := (.object "java/util/Properties"), accessFlags := 10, slot := 11, constantValue := 0 }, { name := "lineSeparator", type := (.object "java/lang/String"), accessFlags := 10, slot := 12, constantValue := 0 }, { name := "bootLayer", type := (.object "java/lang/ModuleLayer"), accessFlags := 8, slot := 13, constantValue := 0 }]
  methods := #[k11m0, k11m1]
  instanceTypes := #[]
  staticTypes := #[(.object "java/io/InputStream"), (.object "java/io/PrintStream"), (.object "java/io/PrintStream"), (.object "java/io/InputStream"), .int, .int, .int, (.object "java/lang/SecurityManager"), (.object "java/lang/String"), (.object "java/io/Console"), (.object "java/io/PrintStream"), (.object "java/util/Properties"), (.object "java/lang/String"), (.object "java/lang/ModuleLayer")]
  resolved := Array.replicate 834 none
  statics := none }

def pool12 : Array CpInfo := pool [(1, .class_ 2), (0, u "java/lang/Cloneable"), (0, .class_ 4), (0, u "java/lang/Object")] 2

/-- java/lang/Cloneable -/
def k12 : Class := { plain "java/lang/Cloneable" (some 0) with
  accessFlags := 1537
  interfaces := #[]
  cf := some (fileOf pool12 1 #[] #[] 1537 3 #[] #[])
  fields := #[]
  methods := #[]
  instanceTypes := #[]
  staticTypes := #[]
  resolved := Array.replicate 7 none
  statics := none }

/-- the primitive byte -/
def k13 : Class := { plain "byte" none with kind := .primitive 'B', accessFlags := 0x411 }
/-- [B -/
def k14 : Class := { plain "[B" (some 0) with kind := .array 13 .byte, interfaces := #[12, 3], accessFlags := 1041 }

/-- the primitive int -/
def k15 : Class := { plain "int" none with kind := .primitive 'I', accessFlags := 0x411 }
/-- [I -/
def k16 : Class := { plain "[I" (some 0) with kind := .array 15 .int, interfaces := #[12, 3], accessFlags := 1041 }

def heap : Heap := #[]
def classes : Array Class := #[k0, k1, k2, k3, k4, k5, k6, k7, k8, k9, k10, k11, k12, k13, k14, k15, k16]
def interned : List (Array UInt16 × Addr) := []
def slotsUsed : Nat := 0
def theMethod : MethodId := ⟨1, 1⟩
def args0 : Array Value := #[.int 5, .int 6, .int 7, .int 8]
def aboutOver (below : List Frame) : State where
  vm := { classes := classes, interned := interned.toArray }
  heap := heap
  slotsUsed := slotsUsed
  threads := #[{ frames := .invoking theMethod args0 :: below }]
def below0 : List Frame := [.native { method := ⟨0, 0⟩, args := #[] }]
def about1 : State := aboutOver below0
def p0 : Program := .bare "" "" ""
def e0 : Env := launch0.env 0 0 0
theorem w_frames : about1.frames = Frame.invoking theMethod args0 :: below0 := rfl
set_option maxRecDepth 65536 in
theorem w_args : argsFit about1.vm theMethod args0 = true := by decide +kernel
set_option maxRecDepth 65536 in
theorem w_heap : heapFits about1 = true := by decide +kernel
set_option maxRecDepth 65536 in
theorem w_runnable : about1.curStatus? = some .runnable := by decide +kernel
set_option maxRecDepth 65536 in
theorem w_alone : about1.alone = true := by decide +kernel
set_option maxRecDepth 65536 in
theorem w_named : about1.methodNamed? x = some theMethod := by decide +kernel
set_option maxRecDepth 65536 in
theorem w_hears : about1.hears theMethod below0 = true := by decide +kernel
set_option maxRecDepth 65536 in
theorem w_ripe : about1.ripe theMethod args0 below0 = true := by decide +kernel
theorem w_running : about1.status = .running := rfl
set_option maxRecDepth 65536 in
theorem w_room : about1.hasRoom e0.platform room_1 = true :=
  launch0.hasRoom_least _ room_1 (by decide +kernel) (by decide +kernel) (by decide +kernel) (by decide +kernel) (by decide +kernel) (by decide +kernel)
theorem allAtoms_all (ts : List Jvm.Cond) (a : Array Jvm.Value) (st : Jvm.State) : (allAtoms ts).before a st = ts.all (fun c => c.before a st) := by
  induction ts with
  | nil => rfl
  | cons c t ih =>
    show (Jvm.Cond.and c (allAtoms t)).before a st = _
    rw [Jvm.Cond.before_and, ih, List.all_cons]
def words1 : List Jvm.Cond := Jvm.Cond.code x code maxLocals ret :: tables_1
/-- a 'code' word, met by the world's own term for the bytes: nothing is compared byte by byte -/
theorem code_word {y : MethodName} {bytes : ByteArray} {mx : Nat} {rt : Option FieldType} {a : Array Value} {s : State} {m : MethodId} {meth : Method} {c : Code} (h1 : s.methodNamed? y = some m) (h2 : s.vm.method? m = some meth) (h3 : meth.code = some c) (h4 : c.code = bytes)
    (h5 : (c.maxLocals == mx && c.exceptionTable.isEmpty && decide (c.maxStack ≤ mostOperands) && decide (meth.sig.returnType = rt) && !meth.locks && decide (parseMethodDescriptor y.desc = some meth.sig)) = true) : (Jvm.Cond.code y bytes mx rt).before a s = true := by
  simp only [Bool.and_eq_true, beq_iff_eq, Bool.not_eq_true', decide_eq_true_eq] at h5
  obtain ⟨⟨⟨⟨⟨g1, g2⟩, g3⟩, g4⟩, g5⟩, g6⟩ := h5
  simp [Cond.before, Cond.holds, Cond.value, h1, h2, h3, h4, g1, g2, g3, g4, g5, g6]
def isCode : Jvm.Cond → Bool
  | .code _ _ _ _ => true
  | _ => false
theorem all_split {L : List Jvm.Cond} {P : Jvm.Cond → Bool} (h1 : L.all (fun c => isCode c || P c) = true) (h2 : ∀ c ∈ L.filter isCode, P c = true) : L.all P = true := by
  refine List.all_eq_true.mpr fun c hc => ?_
  have h := List.all_eq_true.mp h1 c hc
  rcases Bool.eq_false_or_eq_true (isCode c) with hi | hi
  · exact h2 c (List.mem_filter.mpr ⟨hc, hi⟩)
  · simpa [hi] using h
set_option maxRecDepth 65536 in
theorem w_c0 : (Jvm.Cond.code x code maxLocals ret).before args0 about1 = true := code_word (m := ⟨1, 1⟩) (meth := k1m1) (c := k1c1) (by decide +kernel) rfl rfl rfl (by decide +kernel)
set_option maxRecDepth 65536 in
theorem w_c1 : (Jvm.Cond.code ({ cls := "com/example/anchorline/anchorline/TlsReader", name := "<init>", desc := "([B)V" } : Jvm.MethodName) prog_32_method_1_code (2 : Nat) (Option.none : Option Jvm.ClassFile.FieldType)).before args0 about1 = true := code_word (m := ⟨2, 0⟩) (meth := k2m0) (c := k2c0) (by decide +kernel) rfl rfl rfl (by decide +kernel)
set_option maxRecDepth 65536 in
theorem w_c2 : (Jvm.Cond.code ({ cls := "com/example/anchorline/anchorline/TlsReader", name := "<init>", desc := "([BII)V" } : Jvm.MethodName) prog_32_method_2_code (4 : Nat) (Option.none : Option Jvm.ClassFile.FieldType)).before args0 about1 = true := code_word (m := ⟨2, 1⟩) (meth := k2m1) (c := k2c1) (by decide +kernel) rfl rfl rfl (by decide +kernel)
set_option maxRecDepth 65536 in
theorem w_c3 : (Jvm.Cond.code ({ cls := "java/lang/Object", name := "<init>", desc := "()V" } : Jvm.MethodName) object_method_1_code (1 : Nat) (Option.none : Option Jvm.ClassFile.FieldType)).before args0 about1 = true := code_word (m := ⟨0, 0⟩) (meth := k0m0) (c := k0c0) (by decide +kernel) rfl rfl rfl (by decide +kernel)
set_option maxRecDepth 65536 in
theorem w_c4 : (Jvm.Cond.code ({ cls := "com/example/anchorline/anchorline/TlsReader", name := "skip", desc := "(ILjava/lang/String;)V" } : Jvm.MethodName) prog_32_method_6_code (3 : Nat) (Option.none : Option Jvm.ClassFile.FieldType)).before args0 about1 = true := code_word (m := ⟨2, 4⟩) (meth := k2m4) (c := k2c4) (by decide +kernel) rfl rfl rfl (by decide +kernel)
set_option maxRecDepth 65536 in
theorem w_c5 : (Jvm.Cond.code ({ cls := "com/example/anchorline/anchorline/TlsReader", name := "take", desc := "(ILjava/lang/String;)I" } : Jvm.MethodName) prog_32_method_10_code (4 : Nat) (Option.some Jvm.ClassFile.FieldType.int)).before args0 about1 = true := code_word (m := ⟨2, 7⟩) (meth := k2m7) (c := k2c7) (by decide +kernel) rfl rfl rfl (by decide +kernel)
set_option maxRecDepth 65536 in
theorem w_c6 : (Jvm.Cond.code ({ cls := "com/example/anchorline/anchorline/TlsReader", name := "rest", desc := "()[B" } : Jvm.MethodName) prog_32_method_8_code (2 : Nat) (Option.some (Jvm.ClassFile.FieldType.array Jvm.ClassFile.FieldType.byte))).before args0 about1 = true := code_word (m := ⟨2, 6⟩) (meth := k2m6) (c := k2c6) (by decide +kernel) rfl rfl rfl (by decide +kernel)
set_option maxRecDepth 65536 in
theorem w_c7 : (Jvm.Cond.code ({ cls := "java/util/Arrays", name := "copyOfRange", desc := "([BII)[B" } : Jvm.MethodName) jdk_65_method_132_code (3 : Nat) (Option.some (Jvm.ClassFile.FieldType.array Jvm.ClassFile.FieldType.byte))).before args0 about1 = true := code_word (m := ⟨9, 2⟩) (meth := k9m2) (c := k9c2) (by decide +kernel) rfl rfl rfl (by decide +kernel)
set_option maxRecDepth 65536 in
theorem w_c8 : (Jvm.Cond.code ({ cls := "java/util/Arrays", name := "copyOfRangeByte", desc := "([BII)[B" } : Jvm.MethodName) jdk_65_method_133_code (5 : Nat) (Option.some (Jvm.ClassFile.FieldType.array Jvm.ClassFile.FieldType.byte))).before args0 about1 = true := code_word (m := ⟨9, 3⟩) (meth := k9m3) (c := k9c3) (by decide +kernel) rfl rfl rfl (by decide +kernel)
set_option maxRecDepth 65536 in
theorem w_c9 : (Jvm.Cond.code ({ cls := "java/util/Arrays", name := "checkLength", desc := "(II)V" } : Jvm.MethodName) jdk_65_method_131_code (2 : Nat) (Option.none : Option Jvm.ClassFile.FieldType)).before args0 about1 = true := code_word (m := ⟨9, 1⟩) (meth := k9m1) (c := k9c1) (by decide +kernel) rfl rfl rfl (by decide +kernel)
set_option maxRecDepth 65536 in
theorem w_c10 : (Jvm.Cond.code ({ cls := "java/lang/Math", name := "min", desc := "(II)I" } : Jvm.MethodName) jdk_29_method_69_code (2 : Nat) (Option.some Jvm.ClassFile.FieldType.int)).before args0 about1 = true := code_word (m := ⟨10, 1⟩) (meth := k10m1) (c := k10c1) (by decide +kernel) rfl rfl rfl (by decide +kernel)
set_option maxRecDepth 65536 in
theorem w_c11 : (Jvm.Cond.code ({ cls := "com/example/anchorline/anchorline/TlsReaderRestPinLaw", name := "same", desc := "([B[BII)Z" } : Jvm.MethodName) method_3_code (4 : Nat) (Option.some Jvm.ClassFile.FieldType.boolean)).before args0 about1 = true := code_word (m := ⟨1, 2⟩) (meth := k1m2) (c := k1c2) (by decide +kernel) rfl rfl rfl (by decide +kernel)
set_option maxRecDepth 65536 in
theorem w_c12 : (Jvm.Cond.code ({ cls := "com/example/anchorline/anchorline/TlsReader", name := "hasRemaining", desc := "()Z" } : Jvm.MethodName) prog_32_method_4_code (1 : Nat) (Option.some Jvm.ClassFile.FieldType.boolean)).before args0 about1 = true := code_word (m := ⟨2, 2⟩) (meth := k2m2) (c := k2c2) (by decide +kernel) rfl rfl rfl (by decide +kernel)
set_option maxRecDepth 65536 in
theorem w_c13 : (Jvm.Cond.code ({ cls := "com/example/anchorline/anchorline/TlsReader", name := "vector", desc := "(ILjava/lang/String;)Lcom/example/anchorline/anchorline/TlsReader;" } : Jvm.MethodName) prog_32_method_7_code (5 : Nat) (Option.some (Jvm.ClassFile.FieldType.object "com/example/anchorline/anchorline/TlsReader"))).before args0 about1 = true := code_word (m := ⟨2, 5⟩) (meth := k2m5) (c := k2c5) (by decide +kernel) rfl rfl rfl (by decide +kernel)
set_option maxRecDepth 65536 in
theorem w_c14 : (Jvm.Cond.code ({ cls := "com/example/anchorline/anchorline/TlsReader", name := "uint", desc := "(ILjava/lang/String;)I" } : Jvm.MethodName) prog_32_method_5_code (6 : Nat) (Option.some Jvm.ClassFile.FieldType.int)).before args0 about1 = true := code_word (m := ⟨2, 3⟩) (meth := k2m3) (c := k2c3) (by decide +kernel) rfl rfl rfl (by decide +kernel)
def codes1 : List Jvm.Cond := [Jvm.Cond.code x code maxLocals ret, Jvm.Cond.code ({ cls := "com/example/anchorline/anchorline/TlsReader", name := "<init>", desc := "([B)V" } : Jvm.MethodName) prog_32_method_1_code (2 : Nat) (Option.none : Option Jvm.ClassFile.FieldType), Jvm.Cond.code ({ cls := "com/example/anchorline/anchorline/TlsReader", name := "<init>", desc := "([BII)V" } : Jvm.MethodName) prog_32_method_2_code (4 : Nat) (Option.none : Option Jvm.ClassFile.FieldType), Jvm.Cond.code ({ cls := "java/lang/Object", name := "<init>", desc := "()V" } : Jvm.MethodName) object_method_1_code (1 : Nat) (Option.none : Option Jvm.ClassFile.FieldType), Jvm.Cond.code ({ cls := "com/example/anchorline/anchorline/TlsReader", name := "skip", desc := "(ILjava/lang/String;)V" } : Jvm.MethodName) prog_32_method_6_code (3 : Nat) (Option.none : Option Jvm.ClassFile.FieldType), Jvm.Cond.code ({ cls := "com/example/anchorline/anchorline/TlsReader", name := "take", desc := "(ILjava/lang/String;)I" } : Jvm.MethodName) prog_32_method_10_code (4 : Nat) (Option.some Jvm.ClassFile.FieldType.int), Jvm.Cond.code ({ cls := "com/example/anchorline/anchorline/TlsReader", name := "rest", desc := "()[B" } : Jvm.MethodName) prog_32_method_8_code (2 : Nat) (Option.some (Jvm.ClassFile.FieldType.array Jvm.ClassFile.FieldType.byte)), Jvm.Cond.code ({ cls := "java/util/Arrays", name := "copyOfRange", desc := "([BII)[B" } : Jvm.MethodName) jdk_65_method_132_code (3 : Nat) (Option.some (Jvm.ClassFile.FieldType.array Jvm.ClassFile.FieldType.byte)), Jvm.Cond.code ({ cls := "java/util/Arrays", name := "copyOfRangeByte", desc := "([BII)[B" } : Jvm.MethodName) jdk_65_method_133_code (5 : Nat) (Option.some (Jvm.ClassFile.FieldType.array Jvm.ClassFile.FieldType.byte)), Jvm.Cond.code ({ cls := "java/util/Arrays", name := "checkLength", desc := "(II)V" } : Jvm.MethodName) jdk_65_method_131_code (2 : Nat) (Option.none : Option Jvm.ClassFile.FieldType), Jvm.Cond.code ({ cls := "java/lang/Math", name := "min", desc := "(II)I" } : Jvm.MethodName) jdk_29_method_69_code (2 : Nat) (Option.some Jvm.ClassFile.FieldType.int), Jvm.Cond.code ({ cls := "com/example/anchorline/anchorline/TlsReaderRestPinLaw", name := "same", desc := "([B[BII)Z" } : Jvm.MethodName) method_3_code (4 : Nat) (Option.some Jvm.ClassFile.FieldType.boolean), Jvm.Cond.code ({ cls := "com/example/anchorline/anchorline/TlsReader", name := "hasRemaining", desc := "()Z" } : Jvm.MethodName) prog_32_method_4_code (1 : Nat) (Option.some Jvm.ClassFile.FieldType.boolean), Jvm.Cond.code ({ cls := "com/example/anchorline/anchorline/TlsReader", name := "vector", desc := "(ILjava/lang/String;)Lcom/example/anchorline/anchorline/TlsReader;" } : Jvm.MethodName) prog_32_method_7_code (5 : Nat) (Option.some (Jvm.ClassFile.FieldType.object "com/example/anchorline/anchorline/TlsReader")), Jvm.Cond.code ({ cls := "com/example/anchorline/anchorline/TlsReader", name := "uint", desc := "(ILjava/lang/String;)I" } : Jvm.MethodName) prog_32_method_5_code (6 : Nat) (Option.some Jvm.ClassFile.FieldType.int)]
set_option maxRecDepth 65536 in
theorem codes_eq : words1.filter isCode = codes1 := rfl
theorem w_codes : ∀ c ∈ words1.filter isCode, c.before args0 about1 = true := by
  rw [codes_eq]
  intro c hc
  simp only [codes1, List.mem_cons, List.not_mem_nil, or_false] at hc
  rcases hc with rfl | rfl | rfl | rfl | rfl | rfl | rfl | rfl | rfl | rfl | rfl | rfl | rfl | rfl | rfl
  · exact w_c0
  · exact w_c1
  · exact w_c2
  · exact w_c3
  · exact w_c4
  · exact w_c5
  · exact w_c6
  · exact w_c7
  · exact w_c8
  · exact w_c9
  · exact w_c10
  · exact w_c11
  · exact w_c12
  · exact w_c13
  · exact w_c14
set_option maxRecDepth 65536 in
theorem w_t1 : (words1.take 24).all (fun c => isCode c || c.before args0 about1) = true := by decide +kernel
set_option maxRecDepth 65536 in
theorem w_t2 : ((words1.drop 24).take 24).all (fun c => isCode c || c.before args0 about1) = true := by decide +kernel
set_option maxRecDepth 65536 in
theorem w_t3 : (((words1.drop 24).drop 24).take 24).all (fun c => isCode c || c.before args0 about1) = true := by decide +kernel
set_option maxRecDepth 65536 in
theorem w_t4 : (((words1.drop 24).drop 24).drop 24).all (fun c => isCode c || c.before args0 about1) = true := by decide +kernel
theorem w_tables : (allAtoms (Jvm.Cond.code x code maxLocals ret :: tables_1)).before args0 about1 = true := by
  rw [allAtoms_all]
  show words1.all (fun c => c.before args0 about1) = true
  refine all_split ?_ w_codes
  rw [← List.take_append_drop 24 words1, List.all_append, w_t1, ← List.take_append_drop 24 (words1.drop 24), List.all_append, w_t2, ← List.take_append_drop 24 ((words1.drop 24).drop 24), List.all_append, w_t3, w_t4]
  rfl
set_option maxRecDepth 65536 in
theorem w_case : (Jvm.Cond.and given_1 narrow_1).before args0 about1 = true := by decide +kernel
theorem w_applies : (headSpec (Jvm.Cond.code x code maxLocals ret :: tables_1) room_1).applies x e0.platform about1 = true :=
  (Spec.applies_iff w_frames).mpr ⟨w_running, w_runnable, w_alone, w_named, w_hears, w_ripe, w_room, w_tables⟩
theorem atStart : AtStart classFile x code maxLocals ret World_1 tables_1 room_1 Calls_1 rest_1 Pre_1 launch0 p0 e0 about1 theMethod args0 below0 :=
  ⟨lists_1, trivial, launch0.admits_env _ _ _, launch0.least_env, fairChoices_fair.cas, fairChoices_fair.clock, w_frames, w_args, w_heap, w_applies, trivial, trivial, w_case⟩
end start1
theorem witness_1 : WitnessClaimed_1 := ⟨start1.p0, start1.e0, start1.about1, start1.theMethod, start1.args0, start1.below0, start1.atStart⟩
end Jvm.Pilot.@@N@@

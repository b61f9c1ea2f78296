import JvmDerived
import JvmDerived.Pilot.@@N@@Statement
import JvmDerived.Pilot.@@N@@Code
set_option linter.unusedVariables false
set_option linter.unusedSimpArgs false
namespace Jvm.Pilot.@@N@@
open Jvm Jvm.ClassFile Sem Op Lib Jvm.Free Jvm.Stand Jvm.LawKit Jvm.RoadKit Bundle Jvm.Pilot.@@N@@.Jvm.D
section OwnKit
def own_Cx (p : Program) (s : State) (m : MethodId) (meth : Method) (c : Code) (Z : State) (n0 : Nat) (own nm : String) (bytes : ByteArray) (ml : Nat) (ret : Option FieldType) : Prop :=
  p.tables.exec = Jvm.exec ∧ c.code = bytes ∧ c.maxLocals = ml ∧ s.vm.findClass own = some m.cls ∧ meth.name = nm ∧ meth.sig.returnType = ret ∧ meth.locks = false ∧ Z.Warmed39 s.vm ∧ n0 ≤ s.heap.size
def own_St (p : Program) (l : Launch) (e : Env) (R : Room) (s : State) (m : MethodId) (args : Array Value) (below : List Frame) (meth : Method) (c : Code) (n0 : Nat) (T : State) (h : Heap) (cells slots : Nat) : Prop :=
  ∃ locs, Stand p l e R s m args below meth c T locs cells slots ∧ Fr n0 locs ∧ T.heap = h
def own_Go (p : Program) (e : Env) (below : List Frame) (n0 : Nat) (F : Option Value → State → List Loc → Prop) (S : State) : Prop :=
  ∃ t v L, Steps p.tables e below S t ∧ t.status = .running ∧ Ended t below (.returned v) ∧ Fr n0 L ∧ F v t L
def own_Fin (R : Room) (s : State) (Q : Option Value → Heap → Prop) : Option Value → State → List Loc → Prop := fun v t L => Q v t.heap ∧ FrameEnd s (.returned v) t L R.cells R.slots
abbrev own_Met (l : Launch) (Z : State) (n0 : Nat) (y : MethodName) (bytes : ByteArray) (ml : Nat) (ret : Option FieldType) (ws : List Jvm.Cond) (rm : Room) (as' : Array Value) (h0 : Heap) (Q : Option Value → Heap → Prop) : Prop :=
  MetFree l y (head1 (Jvm.Cond.code y bytes ml ret :: ws) rm) (fun a U => a = as' ∧ Z.Warmed39 U.vm ∧ U.heap = h0) (fun _ _ _ _ _ => True) (fun _ U o U' => ∃ v L, o = .returned v ∧ (Q v U'.heap ∧ Fr n0 L) ∧ FrameEnd U o U' L rm.cells rm.slots)
variable {p : Program} {l : Launch} {e : Env} {R : Room} {s : State} {m : MethodId} {args : Array Value} {below : List Frame} {meth : Method} {c : Code} {T : State} {cells slots : Nat} {Z : State} {a0 : Array Value} {h h' : Heap} {n0 : Nat} {own nm : String} {bytes : ByteArray} {ml : Nat} {ret : Option FieldType} {Q : Option Value → Heap → Prop} {F : Option Value → State → List Loc → Prop} {pc pc' pcT : Nat} {L L' : Array Slot} {S : List Value}
theorem own_st {A B : State} (k : ∀ t, Steps p.tables e below B t → Steps p.tables e below A t) (g : own_Go p e below n0 F B) : own_Go p e below n0 F A := by
  obtain ⟨t, v, L, h1, r⟩ := g; exact ⟨t, v, L, k t h1, r⟩
theorem own_big (C : own_Cx p s m meth c Z n0 own nm bytes ml ret) (X : own_St p l e R s m args below meth c n0 T h cells slots) : n0 ≤ h.size := by
  obtain ⟨locs, X, -, rfl⟩ := X; exact Nat.le_trans C.2.2.2.2.2.2.2.2 X.same.2.1
/-- a body's contract out of its run -/
theorem own_body {y : MethodName} {ws : List Jvm.Cond} {rm : Room} {as' : Array Value} {h0 : Heap} {Ls : Array Slot} (hpl : plainFor y = true) (hn : n0 ≤ h0.size) (hef : ∀ m, entryFrame m as' ml = mkF m 0 Ls [])
    (run : ∀ p e s m below meth c T, own_Cx p s m meth c Z n0 y.cls y.name bytes ml ret → own_St p l e rm s m as' below meth c n0 T h0 0 0 → own_Go p e below n0 (own_Fin rm s Q) (T.setTop (mkF m 0 Ls []))) :
    own_Met l Z n0 y bytes ml ret ws rm as' h0 Q := by
  refine MetFree.of_bodySF hpl hisR ?_
  intro p e s m args below meth c s₁ Bd hml0 hP hK
  obtain ⟨rfl, hZ, hh⟩ := hP
  have X0 : Stand p l e rm s m args below meth c s₁ [] 0 0 := Stand.of_body Bd
  have e0 : s₁.heap = h0 := by rw [← hh, Bd.state]; rfl
  obtain ⟨t, v, L, g1, g2, g3, g5, g4, g6⟩ := run p e s m below meth c s₁ ⟨Bd.exec, Bd.bytes, hml0, findClass_of_methodNamed Bd.named, (name_of_methodNamed Bd.named Bd.method).1, Bd.returns, Bd.notSynchronized, hZ, by rw [hh]; exact hn⟩ ⟨[], X0, Fr.nil n0, e0⟩
  exact ⟨t, .returned v, castTop (hef m) g1, g2, g3, v, L, rfl, ⟨g4, g5⟩, g6⟩

theorem own_iload (C : own_Cx p s m meth c Z n0 own nm bytes ml ret) (X : own_St p l e R s m args below meth c n0 T h cells slots) {k : Nat} {v : Int32} (hd : decode bytes pc = .ok (.iload k, 2)) (hl : L[k]? = some (.val (.int v))) (hp : pc + 2 = pc') (g : own_Go p e below n0 F (T.setTop (mkF m pc' L (.int v :: S)))) : own_Go p e below n0 F (T.setTop (mkF m pc L (S))) := by
  obtain ⟨locs, X, -, -⟩ := X; subst hp
  exact own_st (fun t k => XS.iload X.here C.1 rfl (hb C.2.1 hd) hl k) g
theorem own_iloadN (C : own_Cx p s m meth c Z n0 own nm bytes ml ret) (X : own_St p l e R s m args below meth c n0 T h cells slots) {k : Fin 4} {v : Int32} (hd : decode bytes pc = .ok (.iload_n k, 1)) (hl : L[k.val]? = some (.val (.int v))) (hp : pc + 1 = pc') (g : own_Go p e below n0 F (T.setTop (mkF m pc' L (.int v :: S)))) : own_Go p e below n0 F (T.setTop (mkF m pc L (S))) := by
  obtain ⟨locs, X, -, -⟩ := X; subst hp
  exact own_st (fun t k => XS.iloadN X.here C.1 rfl (hb C.2.1 hd) hl k) g
theorem own_istore (C : own_Cx p s m meth c Z n0 own nm bytes ml ret) (X : own_St p l e R s m args below meth c n0 T h cells slots) {k : Nat} {v : Int32} (hd : decode bytes pc = .ok (.istore k, 2)) (hl : storeLocals L k (.int v) = some L') (hp : pc + 2 = pc') (g : own_Go p e below n0 F (T.setTop (mkF m pc' L' (S)))) : own_Go p e below n0 F (T.setTop (mkF m pc L (.int v :: S))) := by
  obtain ⟨locs, X, -, -⟩ := X; subst hp
  exact own_st (fun t k => XS.istore X.here C.1 rfl (hb C.2.1 hd) rfl hl k) g
theorem own_istoreN (C : own_Cx p s m meth c Z n0 own nm bytes ml ret) (X : own_St p l e R s m args below meth c n0 T h cells slots) {k : Fin 4} {v : Int32} (hd : decode bytes pc = .ok (.istore_n k, 1)) (hl : storeLocals L k.val (.int v) = some L') (hp : pc + 1 = pc') (g : own_Go p e below n0 F (T.setTop (mkF m pc' L' (S)))) : own_Go p e below n0 F (T.setTop (mkF m pc L (.int v :: S))) := by
  obtain ⟨locs, X, -, -⟩ := X; subst hp
  exact own_st (fun t k => XS.istoreN X.here C.1 rfl (hb C.2.1 hd) rfl hl k) g
theorem own_lload (C : own_Cx p s m meth c Z n0 own nm bytes ml ret) (X : own_St p l e R s m args below meth c n0 T h cells slots) {k : Nat} {v : Int64} (hd : decode bytes pc = .ok (.lload k, 2)) (hl : L[k]? = some (.val (.long v))) (hp : pc + 2 = pc') (g : own_Go p e below n0 F (T.setTop (mkF m pc' L (.long v :: S)))) : own_Go p e below n0 F (T.setTop (mkF m pc L (S))) := by
  obtain ⟨locs, X, -, -⟩ := X; subst hp
  exact own_st (fun t k => XS.lload X.here C.1 rfl (hb C.2.1 hd) hl k) g
theorem own_lloadN (C : own_Cx p s m meth c Z n0 own nm bytes ml ret) (X : own_St p l e R s m args below meth c n0 T h cells slots) {k : Fin 4} {v : Int64} (hd : decode bytes pc = .ok (.lload_n k, 1)) (hl : L[k.val]? = some (.val (.long v))) (hp : pc + 1 = pc') (g : own_Go p e below n0 F (T.setTop (mkF m pc' L (.long v :: S)))) : own_Go p e below n0 F (T.setTop (mkF m pc L (S))) := by
  obtain ⟨locs, X, -, -⟩ := X; subst hp
  exact own_st (fun t k => XS.lloadN X.here C.1 rfl (hb C.2.1 hd) hl k) g
theorem own_lstore (C : own_Cx p s m meth c Z n0 own nm bytes ml ret) (X : own_St p l e R s m args below meth c n0 T h cells slots) {k : Nat} {v : Int64} (hd : decode bytes pc = .ok (.lstore k, 2)) (hl : storeLocals L k (.long v) = some L') (hp : pc + 2 = pc') (g : own_Go p e below n0 F (T.setTop (mkF m pc' L' (S)))) : own_Go p e below n0 F (T.setTop (mkF m pc L (.long v :: S))) := by
  obtain ⟨locs, X, -, -⟩ := X; subst hp
  exact own_st (fun t k => XS.lstore X.here C.1 rfl (hb C.2.1 hd) rfl hl k) g
theorem own_lstoreN (C : own_Cx p s m meth c Z n0 own nm bytes ml ret) (X : own_St p l e R s m args below meth c n0 T h cells slots) {k : Fin 4} {v : Int64} (hd : decode bytes pc = .ok (.lstore_n k, 1)) (hl : storeLocals L k.val (.long v) = some L') (hp : pc + 1 = pc') (g : own_Go p e below n0 F (T.setTop (mkF m pc' L' (S)))) : own_Go p e below n0 F (T.setTop (mkF m pc L (.long v :: S))) := by
  obtain ⟨locs, X, -, -⟩ := X; subst hp
  exact own_st (fun t k => XS.lstoreN X.here C.1 rfl (hb C.2.1 hd) rfl hl k) g
theorem own_aload (C : own_Cx p s m meth c Z n0 own nm bytes ml ret) (X : own_St p l e R s m args below meth c n0 T h cells slots) {k : Nat} {v : Value} (hd : decode bytes pc = .ok (.aload k, 2)) (hl : L[k]? = some (.val v)) (hv : v.isRef = true) (hp : pc + 2 = pc') (g : own_Go p e below n0 F (T.setTop (mkF m pc' L (v :: S)))) : own_Go p e below n0 F (T.setTop (mkF m pc L (S))) := by
  obtain ⟨locs, X, -, -⟩ := X; subst hp
  exact own_st (fun t k => XS.aload X.here C.1 rfl (hb C.2.1 hd) hl hv k) g
theorem own_aloadN (C : own_Cx p s m meth c Z n0 own nm bytes ml ret) (X : own_St p l e R s m args below meth c n0 T h cells slots) {k : Fin 4} {v : Value} (hd : decode bytes pc = .ok (.aload_n k, 1)) (hl : L[k.val]? = some (.val v)) (hv : v.isRef = true) (hp : pc + 1 = pc') (g : own_Go p e below n0 F (T.setTop (mkF m pc' L (v :: S)))) : own_Go p e below n0 F (T.setTop (mkF m pc L (S))) := by
  obtain ⟨locs, X, -, -⟩ := X; subst hp
  exact own_st (fun t k => XS.aloadN X.here C.1 rfl (hb C.2.1 hd) hl hv k) g
theorem own_astore (C : own_Cx p s m meth c Z n0 own nm bytes ml ret) (X : own_St p l e R s m args below meth c n0 T h cells slots) {k : Nat} {v : Value} (hd : decode bytes pc = .ok (.astore k, 2)) (hv : v.isRef = true) (hl : storeLocals L k v = some L') (hp : pc + 2 = pc') (g : own_Go p e below n0 F (T.setTop (mkF m pc' L' (S)))) : own_Go p e below n0 F (T.setTop (mkF m pc L (v :: S))) := by
  obtain ⟨locs, X, -, -⟩ := X; subst hp
  exact own_st (fun t k => XS.astore X.here C.1 rfl (hb C.2.1 hd) rfl hv hl k) g
theorem own_astoreN (C : own_Cx p s m meth c Z n0 own nm bytes ml ret) (X : own_St p l e R s m args below meth c n0 T h cells slots) {k : Fin 4} {v : Value} (hd : decode bytes pc = .ok (.astore_n k, 1)) (hv : v.isRef = true) (hl : storeLocals L k.val v = some L') (hp : pc + 1 = pc') (g : own_Go p e below n0 F (T.setTop (mkF m pc' L' (S)))) : own_Go p e below n0 F (T.setTop (mkF m pc L (v :: S))) := by
  obtain ⟨locs, X, -, -⟩ := X; subst hp
  exact own_st (fun t k => XS.astoreN X.here C.1 rfl (hb C.2.1 hd) rfl hv hl k) g
theorem own_iconst (C : own_Cx p s m meth c Z n0 own nm bytes ml ret) (X : own_St p l e R s m args below meth c n0 T h cells slots) {i : Int} {v : Int32} (hd : decode bytes pc = .ok (.iconst i, 1)) (hv : Int32.ofInt i = v) (hp : pc + 1 = pc') (g : own_Go p e below n0 F (T.setTop (mkF m pc' L (.int v :: S)))) : own_Go p e below n0 F (T.setTop (mkF m pc L (S))) := by
  obtain ⟨locs, X, -, -⟩ := X; subst hp hv
  exact own_st (fun t k => XS.iconst X.here C.1 rfl (hb C.2.1 hd) k) g
theorem own_bipush (C : own_Cx p s m meth c Z n0 own nm bytes ml ret) (X : own_St p l e R s m args below meth c n0 T h cells slots) {i : Int} {v : Int32} (hd : decode bytes pc = .ok (.bipush i, 2)) (hv : (Int8.ofInt i).toInt32 = v) (hp : pc + 2 = pc') (g : own_Go p e below n0 F (T.setTop (mkF m pc' L (.int v :: S)))) : own_Go p e below n0 F (T.setTop (mkF m pc L (S))) := by
  obtain ⟨locs, X, -, -⟩ := X; subst hp hv
  exact own_st (fun t k => XS.bipush X.here C.1 rfl (hb C.2.1 hd) k) g
theorem own_sipush (C : own_Cx p s m meth c Z n0 own nm bytes ml ret) (X : own_St p l e R s m args below meth c n0 T h cells slots) {i : Int} {v : Int32} (hd : decode bytes pc = .ok (.sipush i, 3)) (hv : (Int16.ofInt i).toInt32 = v) (hp : pc + 3 = pc') (g : own_Go p e below n0 F (T.setTop (mkF m pc' L (.int v :: S)))) : own_Go p e below n0 F (T.setTop (mkF m pc L (S))) := by
  obtain ⟨locs, X, -, -⟩ := X; subst hp hv
  exact own_st (fun t k => XS.sipush X.here C.1 rfl (hb C.2.1 hd) k) g
theorem own_lconst (C : own_Cx p s m meth c Z n0 own nm bytes ml ret) (X : own_St p l e R s m args below meth c n0 T h cells slots) {i : Fin 2} {v : Int64} (hd : decode bytes pc = .ok (.lconst i, 1)) (hv : Int64.ofNat i = v) (hp : pc + 1 = pc') (g : own_Go p e below n0 F (T.setTop (mkF m pc' L (.long v :: S)))) : own_Go p e below n0 F (T.setTop (mkF m pc L (S))) := by
  obtain ⟨locs, X, -, -⟩ := X; subst hp hv
  exact own_st (fun t k => XS.lconst X.here C.1 rfl (hb C.2.1 hd) k) g
theorem own_aconst_null (C : own_Cx p s m meth c Z n0 own nm bytes ml ret) (X : own_St p l e R s m args below meth c n0 T h cells slots)  (hd : decode bytes pc = .ok (.aconst_null, 1))  (hp : pc + 1 = pc') (g : own_Go p e below n0 F (T.setTop (mkF m pc' L (.null :: S)))) : own_Go p e below n0 F (T.setTop (mkF m pc L (S))) := by
  obtain ⟨locs, X, -, -⟩ := X; subst hp
  exact own_st (fun t k => XS.aconstNull X.here C.1 rfl (hb C.2.1 hd) k) g
theorem own_iadd (C : own_Cx p s m meth c Z n0 own nm bytes ml ret) (X : own_St p l e R s m args below meth c n0 T h cells slots) {x y z : Int32} (hd : decode bytes pc = .ok (.iadd, 1)) (hz : x + y = z) (hp : pc + 1 = pc') (g : own_Go p e below n0 F (T.setTop (mkF m pc' L (.int z :: S)))) : own_Go p e below n0 F (T.setTop (mkF m pc L (.int y :: .int x :: S))) := by
  obtain ⟨locs, X, -, -⟩ := X; subst hp hz
  exact own_st (fun t k => XS.iadd X.here C.1 rfl (hb C.2.1 hd) rfl k) g
theorem own_ladd (C : own_Cx p s m meth c Z n0 own nm bytes ml ret) (X : own_St p l e R s m args below meth c n0 T h cells slots) {x y z : Int64} (hd : decode bytes pc = .ok (.ladd, 1)) (hz : x + y = z) (hp : pc + 1 = pc') (g : own_Go p e below n0 F (T.setTop (mkF m pc' L (.long z :: S)))) : own_Go p e below n0 F (T.setTop (mkF m pc L (.long y :: .long x :: S))) := by
  obtain ⟨locs, X, -, -⟩ := X; subst hp hz
  exact own_st (fun t k => XS.ladd X.here C.1 rfl (hb C.2.1 hd) rfl k) g
theorem own_isub (C : own_Cx p s m meth c Z n0 own nm bytes ml ret) (X : own_St p l e R s m args below meth c n0 T h cells slots) {x y z : Int32} (hd : decode bytes pc = .ok (.isub, 1)) (hz : x - y = z) (hp : pc + 1 = pc') (g : own_Go p e below n0 F (T.setTop (mkF m pc' L (.int z :: S)))) : own_Go p e below n0 F (T.setTop (mkF m pc L (.int y :: .int x :: S))) := by
  obtain ⟨locs, X, -, -⟩ := X; subst hp hz
  exact own_st (fun t k => XS.isub X.here C.1 rfl (hb C.2.1 hd) rfl k) g
theorem own_lsub (C : own_Cx p s m meth c Z n0 own nm bytes ml ret) (X : own_St p l e R s m args below meth c n0 T h cells slots) {x y z : Int64} (hd : decode bytes pc = .ok (.lsub, 1)) (hz : x - y = z) (hp : pc + 1 = pc') (g : own_Go p e below n0 F (T.setTop (mkF m pc' L (.long z :: S)))) : own_Go p e below n0 F (T.setTop (mkF m pc L (.long y :: .long x :: S))) := by
  obtain ⟨locs, X, -, -⟩ := X; subst hp hz
  exact own_st (fun t k => XS.lsub X.here C.1 rfl (hb C.2.1 hd) rfl k) g
theorem own_imul (C : own_Cx p s m meth c Z n0 own nm bytes ml ret) (X : own_St p l e R s m args below meth c n0 T h cells slots) {x y z : Int32} (hd : decode bytes pc = .ok (.imul, 1)) (hz : x * y = z) (hp : pc + 1 = pc') (g : own_Go p e below n0 F (T.setTop (mkF m pc' L (.int z :: S)))) : own_Go p e below n0 F (T.setTop (mkF m pc L (.int y :: .int x :: S))) := by
  obtain ⟨locs, X, -, -⟩ := X; subst hp hz
  exact own_st (fun t k => XS.imul X.here C.1 rfl (hb C.2.1 hd) rfl k) g
theorem own_lmul (C : own_Cx p s m meth c Z n0 own nm bytes ml ret) (X : own_St p l e R s m args below meth c n0 T h cells slots) {x y z : Int64} (hd : decode bytes pc = .ok (.lmul, 1)) (hz : x * y = z) (hp : pc + 1 = pc') (g : own_Go p e below n0 F (T.setTop (mkF m pc' L (.long z :: S)))) : own_Go p e below n0 F (T.setTop (mkF m pc L (.long y :: .long x :: S))) := by
  obtain ⟨locs, X, -, -⟩ := X; subst hp hz
  exact own_st (fun t k => XS.lmul X.here C.1 rfl (hb C.2.1 hd) rfl k) g
theorem own_iand (C : own_Cx p s m meth c Z n0 own nm bytes ml ret) (X : own_St p l e R s m args below meth c n0 T h cells slots) {x y z : Int32} (hd : decode bytes pc = .ok (.iand, 1)) (hz : x &&& y = z) (hp : pc + 1 = pc') (g : own_Go p e below n0 F (T.setTop (mkF m pc' L (.int z :: S)))) : own_Go p e below n0 F (T.setTop (mkF m pc L (.int y :: .int x :: S))) := by
  obtain ⟨locs, X, -, -⟩ := X; subst hp hz
  exact own_st (fun t k => XS.iand X.here C.1 rfl (hb C.2.1 hd) rfl k) g
theorem own_land (C : own_Cx p s m meth c Z n0 own nm bytes ml ret) (X : own_St p l e R s m args below meth c n0 T h cells slots) {x y z : Int64} (hd : decode bytes pc = .ok (.land, 1)) (hz : x &&& y = z) (hp : pc + 1 = pc') (g : own_Go p e below n0 F (T.setTop (mkF m pc' L (.long z :: S)))) : own_Go p e below n0 F (T.setTop (mkF m pc L (.long y :: .long x :: S))) := by
  obtain ⟨locs, X, -, -⟩ := X; subst hp hz
  exact own_st (fun t k => XS.land X.here C.1 rfl (hb C.2.1 hd) rfl k) g
theorem own_ior (C : own_Cx p s m meth c Z n0 own nm bytes ml ret) (X : own_St p l e R s m args below meth c n0 T h cells slots) {x y z : Int32} (hd : decode bytes pc = .ok (.ior, 1)) (hz : x ||| y = z) (hp : pc + 1 = pc') (g : own_Go p e below n0 F (T.setTop (mkF m pc' L (.int z :: S)))) : own_Go p e below n0 F (T.setTop (mkF m pc L (.int y :: .int x :: S))) := by
  obtain ⟨locs, X, -, -⟩ := X; subst hp hz
  exact own_st (fun t k => XS.ior X.here C.1 rfl (hb C.2.1 hd) rfl k) g
theorem own_lor (C : own_Cx p s m meth c Z n0 own nm bytes ml ret) (X : own_St p l e R s m args below meth c n0 T h cells slots) {x y z : Int64} (hd : decode bytes pc = .ok (.lor, 1)) (hz : x ||| y = z) (hp : pc + 1 = pc') (g : own_Go p e below n0 F (T.setTop (mkF m pc' L (.long z :: S)))) : own_Go p e below n0 F (T.setTop (mkF m pc L (.long y :: .long x :: S))) := by
  obtain ⟨locs, X, -, -⟩ := X; subst hp hz
  exact own_st (fun t k => XS.lor X.here C.1 rfl (hb C.2.1 hd) rfl k) g
theorem own_ixor (C : own_Cx p s m meth c Z n0 own nm bytes ml ret) (X : own_St p l e R s m args below meth c n0 T h cells slots) {x y z : Int32} (hd : decode bytes pc = .ok (.ixor, 1)) (hz : x ^^^ y = z) (hp : pc + 1 = pc') (g : own_Go p e below n0 F (T.setTop (mkF m pc' L (.int z :: S)))) : own_Go p e below n0 F (T.setTop (mkF m pc L (.int y :: .int x :: S))) := by
  obtain ⟨locs, X, -, -⟩ := X; subst hp hz
  exact own_st (fun t k => XS.ixor X.here C.1 rfl (hb C.2.1 hd) rfl k) g
theorem own_lxor (C : own_Cx p s m meth c Z n0 own nm bytes ml ret) (X : own_St p l e R s m args below meth c n0 T h cells slots) {x y z : Int64} (hd : decode bytes pc = .ok (.lxor, 1)) (hz : x ^^^ y = z) (hp : pc + 1 = pc') (g : own_Go p e below n0 F (T.setTop (mkF m pc' L (.long z :: S)))) : own_Go p e below n0 F (T.setTop (mkF m pc L (.long y :: .long x :: S))) := by
  obtain ⟨locs, X, -, -⟩ := X; subst hp hz
  exact own_st (fun t k => XS.lxor X.here C.1 rfl (hb C.2.1 hd) rfl k) g
theorem own_ishl (C : own_Cx p s m meth c Z n0 own nm bytes ml ret) (X : own_St p l e R s m args below meth c n0 T h cells slots) {x y z : Int32} (hd : decode bytes pc = .ok (.ishl, 1)) (hz : x <<< (y &&& 31) = z) (hp : pc + 1 = pc') (g : own_Go p e below n0 F (T.setTop (mkF m pc' L (.int z :: S)))) : own_Go p e below n0 F (T.setTop (mkF m pc L (.int y :: .int x :: S))) := by
  obtain ⟨locs, X, -, -⟩ := X; subst hp hz
  exact own_st (fun t k => XS.ishl X.here C.1 rfl (hb C.2.1 hd) rfl k) g
theorem own_ishr (C : own_Cx p s m meth c Z n0 own nm bytes ml ret) (X : own_St p l e R s m args below meth c n0 T h cells slots) {x y z : Int32} (hd : decode bytes pc = .ok (.ishr, 1)) (hz : x >>> (y &&& 31) = z) (hp : pc + 1 = pc') (g : own_Go p e below n0 F (T.setTop (mkF m pc' L (.int z :: S)))) : own_Go p e below n0 F (T.setTop (mkF m pc L (.int y :: .int x :: S))) := by
  obtain ⟨locs, X, -, -⟩ := X; subst hp hz
  exact own_st (fun t k => XS.ishr X.here C.1 rfl (hb C.2.1 hd) rfl k) g
theorem own_iushr (C : own_Cx p s m meth c Z n0 own nm bytes ml ret) (X : own_St p l e R s m args below meth c n0 T h cells slots) {x y z : Int32} (hd : decode bytes pc = .ok (.iushr, 1)) (hz : (x.toUInt32 >>> (y &&& 31).toUInt32).toInt32 = z) (hp : pc + 1 = pc') (g : own_Go p e below n0 F (T.setTop (mkF m pc' L (.int z :: S)))) : own_Go p e below n0 F (T.setTop (mkF m pc L (.int y :: .int x :: S))) := by
  obtain ⟨locs, X, -, -⟩ := X; subst hp hz
  exact own_st (fun t k => XS.iushr X.here C.1 rfl (hb C.2.1 hd) rfl k) g
theorem own_lshl (C : own_Cx p s m meth c Z n0 own nm bytes ml ret) (X : own_St p l e R s m args below meth c n0 T h cells slots) {x z : Int64} {y : Int32} (hd : decode bytes pc = .ok (.lshl, 1)) (hz : x <<< (y &&& 0x3f).toInt64 = z) (hp : pc + 1 = pc') (g : own_Go p e below n0 F (T.setTop (mkF m pc' L (.long z :: S)))) : own_Go p e below n0 F (T.setTop (mkF m pc L (.int y :: .long x :: S))) := by
  obtain ⟨locs, X, -, -⟩ := X; subst hp hz
  exact own_st (fun t k => XS.lshl X.here C.1 rfl (hb C.2.1 hd) rfl k) g
theorem own_lshr (C : own_Cx p s m meth c Z n0 own nm bytes ml ret) (X : own_St p l e R s m args below meth c n0 T h cells slots) {x z : Int64} {y : Int32} (hd : decode bytes pc = .ok (.lshr, 1)) (hz : x >>> (y &&& 0x3f).toInt64 = z) (hp : pc + 1 = pc') (g : own_Go p e below n0 F (T.setTop (mkF m pc' L (.long z :: S)))) : own_Go p e below n0 F (T.setTop (mkF m pc L (.int y :: .long x :: S))) := by
  obtain ⟨locs, X, -, -⟩ := X; subst hp hz
  exact own_st (fun t k => XS.lshr X.here C.1 rfl (hb C.2.1 hd) rfl k) g
theorem own_lushr (C : own_Cx p s m meth c Z n0 own nm bytes ml ret) (X : own_St p l e R s m args below meth c n0 T h cells slots) {x z : Int64} {y : Int32} (hd : decode bytes pc = .ok (.lushr, 1)) (hz : (x.toUInt64 >>> (y &&& 0x3f).toInt64.toUInt64).toInt64 = z) (hp : pc + 1 = pc') (g : own_Go p e below n0 F (T.setTop (mkF m pc' L (.long z :: S)))) : own_Go p e below n0 F (T.setTop (mkF m pc L (.int y :: .long x :: S))) := by
  obtain ⟨locs, X, -, -⟩ := X; subst hp hz
  exact own_st (fun t k => XS.lushr X.here C.1 rfl (hb C.2.1 hd) rfl k) g
theorem own_idiv (C : own_Cx p s m meth c Z n0 own nm bytes ml ret) (X : own_St p l e R s m args below meth c n0 T h cells slots) {x y z : Int32} (hd : decode bytes pc = .ok (.idiv, 1)) (hy : y ≠ 0) (hz : x / y = z) (hp : pc + 1 = pc') (g : own_Go p e below n0 F (T.setTop (mkF m pc' L (.int z :: S)))) : own_Go p e below n0 F (T.setTop (mkF m pc L (.int y :: .int x :: S))) := by
  obtain ⟨locs, X, -, -⟩ := X; subst hp hz
  exact own_st (fun t k => XS.idiv X.here C.1 rfl (hb C.2.1 hd) rfl hy k) g
theorem own_irem (C : own_Cx p s m meth c Z n0 own nm bytes ml ret) (X : own_St p l e R s m args below meth c n0 T h cells slots) {x y z : Int32} (hd : decode bytes pc = .ok (.irem, 1)) (hy : y ≠ 0) (hz : x % y = z) (hp : pc + 1 = pc') (g : own_Go p e below n0 F (T.setTop (mkF m pc' L (.int z :: S)))) : own_Go p e below n0 F (T.setTop (mkF m pc L (.int y :: .int x :: S))) := by
  obtain ⟨locs, X, -, -⟩ := X; subst hp hz
  exact own_st (fun t k => iremM X C.1 rfl (hb C.2.1 hd) rfl hy k) g
theorem own_ldiv (C : own_Cx p s m meth c Z n0 own nm bytes ml ret) (X : own_St p l e R s m args below meth c n0 T h cells slots) {x y z : Int64} (hd : decode bytes pc = .ok (.ldiv, 1)) (hy : y ≠ 0) (hz : x / y = z) (hp : pc + 1 = pc') (g : own_Go p e below n0 F (T.setTop (mkF m pc' L (.long z :: S)))) : own_Go p e below n0 F (T.setTop (mkF m pc L (.long y :: .long x :: S))) := by
  obtain ⟨locs, X, -, -⟩ := X; subst hp hz
  exact own_st (fun t k => XS.ldiv X.here C.1 rfl (hb C.2.1 hd) rfl hy k) g
theorem own_lrem (C : own_Cx p s m meth c Z n0 own nm bytes ml ret) (X : own_St p l e R s m args below meth c n0 T h cells slots) {x y z : Int64} (hd : decode bytes pc = .ok (.lrem, 1)) (hy : y ≠ 0) (hz : x % y = z) (hp : pc + 1 = pc') (g : own_Go p e below n0 F (T.setTop (mkF m pc' L (.long z :: S)))) : own_Go p e below n0 F (T.setTop (mkF m pc L (.long y :: .long x :: S))) := by
  obtain ⟨locs, X, -, -⟩ := X; subst hp hz
  exact own_st (fun t k => XS.lrem X.here C.1 rfl (hb C.2.1 hd) rfl hy (by rw [lrem_mod]; exact k)) g
theorem own_ineg (C : own_Cx p s m meth c Z n0 own nm bytes ml ret) (X : own_St p l e R s m args below meth c n0 T h cells slots) {x : Int32} {z : Int32} (hd : decode bytes pc = .ok (.ineg, 1)) (hz : -x = z) (hp : pc + 1 = pc') (g : own_Go p e below n0 F (T.setTop (mkF m pc' L (.int z :: S)))) : own_Go p e below n0 F (T.setTop (mkF m pc L (.int x :: S))) := by
  obtain ⟨locs, X, -, -⟩ := X; subst hp hz
  exact own_st (fun t k => XS.ineg X.here C.1 rfl (hb C.2.1 hd) rfl k) g
theorem own_lneg (C : own_Cx p s m meth c Z n0 own nm bytes ml ret) (X : own_St p l e R s m args below meth c n0 T h cells slots) {x : Int64} {z : Int64} (hd : decode bytes pc = .ok (.lneg, 1)) (hz : -x = z) (hp : pc + 1 = pc') (g : own_Go p e below n0 F (T.setTop (mkF m pc' L (.long z :: S)))) : own_Go p e below n0 F (T.setTop (mkF m pc L (.long x :: S))) := by
  obtain ⟨locs, X, -, -⟩ := X; subst hp hz
  exact own_st (fun t k => XS.lneg X.here C.1 rfl (hb C.2.1 hd) rfl k) g
theorem own_i2l (C : own_Cx p s m meth c Z n0 own nm bytes ml ret) (X : own_St p l e R s m args below meth c n0 T h cells slots) {x : Int32} {z : Int64} (hd : decode bytes pc = .ok (.i2l, 1)) (hz : x.toInt64 = z) (hp : pc + 1 = pc') (g : own_Go p e below n0 F (T.setTop (mkF m pc' L (.long z :: S)))) : own_Go p e below n0 F (T.setTop (mkF m pc L (.int x :: S))) := by
  obtain ⟨locs, X, -, -⟩ := X; subst hp hz
  exact own_st (fun t k => XS.i2l X.here C.1 rfl (hb C.2.1 hd) rfl k) g
theorem own_l2i (C : own_Cx p s m meth c Z n0 own nm bytes ml ret) (X : own_St p l e R s m args below meth c n0 T h cells slots) {x : Int64} {z : Int32} (hd : decode bytes pc = .ok (.l2i, 1)) (hz : x.toInt32 = z) (hp : pc + 1 = pc') (g : own_Go p e below n0 F (T.setTop (mkF m pc' L (.int z :: S)))) : own_Go p e below n0 F (T.setTop (mkF m pc L (.long x :: S))) := by
  obtain ⟨locs, X, -, -⟩ := X; subst hp hz
  exact own_st (fun t k => XS.l2i X.here C.1 rfl (hb C.2.1 hd) rfl k) g
theorem own_i2b (C : own_Cx p s m meth c Z n0 own nm bytes ml ret) (X : own_St p l e R s m args below meth c n0 T h cells slots) {x : Int32} {z : Int32} (hd : decode bytes pc = .ok (.i2b, 1)) (hz : x.toInt8.toInt32 = z) (hp : pc + 1 = pc') (g : own_Go p e below n0 F (T.setTop (mkF m pc' L (.int z :: S)))) : own_Go p e below n0 F (T.setTop (mkF m pc L (.int x :: S))) := by
  obtain ⟨locs, X, -, -⟩ := X; subst hp hz
  exact own_st (fun t k => XS.i2b X.here C.1 rfl (hb C.2.1 hd) rfl k) g
theorem own_i2c (C : own_Cx p s m meth c Z n0 own nm bytes ml ret) (X : own_St p l e R s m args below meth c n0 T h cells slots) {x : Int32} {z : Int32} (hd : decode bytes pc = .ok (.i2c, 1)) (hz : x.toUInt32.toUInt16.toUInt32.toInt32 = z) (hp : pc + 1 = pc') (g : own_Go p e below n0 F (T.setTop (mkF m pc' L (.int z :: S)))) : own_Go p e below n0 F (T.setTop (mkF m pc L (.int x :: S))) := by
  obtain ⟨locs, X, -, -⟩ := X; subst hp hz
  exact own_st (fun t k => XS.i2c X.here C.1 rfl (hb C.2.1 hd) rfl k) g
theorem own_i2s (C : own_Cx p s m meth c Z n0 own nm bytes ml ret) (X : own_St p l e R s m args below meth c n0 T h cells slots) {x : Int32} {z : Int32} (hd : decode bytes pc = .ok (.i2s, 1)) (hz : x.toInt16.toInt32 = z) (hp : pc + 1 = pc') (g : own_Go p e below n0 F (T.setTop (mkF m pc' L (.int z :: S)))) : own_Go p e below n0 F (T.setTop (mkF m pc L (.int x :: S))) := by
  obtain ⟨locs, X, -, -⟩ := X; subst hp hz
  exact own_st (fun t k => XS.i2s X.here C.1 rfl (hb C.2.1 hd) rfl k) g
theorem own_iinc (C : own_Cx p s m meth c Z n0 own nm bytes ml ret) (X : own_St p l e R s m args below meth c n0 T h cells slots) {k : Nat} {i : Int} {x d z : Int32} (hd : decode bytes pc = .ok (.iinc k i, 3)) (hl : L[k]? = some (.val (.int x))) (hv : Int32.ofInt i = d) (hz : x + d = z) (hl' : storeLocals L k (.int z) = some L') (hp : pc + 3 = pc') (g : own_Go p e below n0 F (T.setTop (mkF m pc' L' (S)))) : own_Go p e below n0 F (T.setTop (mkF m pc L (S))) := by
  obtain ⟨locs, X, -, -⟩ := X; subst hp hv hz
  exact own_st (fun t k => XS.iinc X.here C.1 rfl (hb C.2.1 hd) hl hl' k) g
theorem own_dup (C : own_Cx p s m meth c Z n0 own nm bytes ml ret) (X : own_St p l e R s m args below meth c n0 T h cells slots) {v : Value} (hd : decode bytes pc = .ok (.dup, 1)) (hc : v.category = 1) (hp : pc + 1 = pc') (g : own_Go p e below n0 F (T.setTop (mkF m pc' L (v :: v :: S)))) : own_Go p e below n0 F (T.setTop (mkF m pc L (v :: S))) := by
  obtain ⟨locs, X, -, -⟩ := X; subst hp
  exact own_st (fun t k => XS.dup X.here C.1 rfl (hb C.2.1 hd) rfl hc k) g
theorem own_pop (C : own_Cx p s m meth c Z n0 own nm bytes ml ret) (X : own_St p l e R s m args below meth c n0 T h cells slots) {v : Value} (hd : decode bytes pc = .ok (.pop, 1)) (hc : v.category = 1) (hp : pc + 1 = pc') (g : own_Go p e below n0 F (T.setTop (mkF m pc' L (S)))) : own_Go p e below n0 F (T.setTop (mkF m pc L (v :: S))) := by
  obtain ⟨locs, X, -, -⟩ := X; subst hp
  exact own_st (fun t k => XS.pop X.here C.1 rfl (hb C.2.1 hd) rfl hc k) g
theorem own_dup_x1 (C : own_Cx p s m meth c Z n0 own nm bytes ml ret) (X : own_St p l e R s m args below meth c n0 T h cells slots) {v w : Value} (hd : decode bytes pc = .ok (.dup_x1, 1)) (hc : v.category = 1) (hc' : w.category = 1) (hp : pc + 1 = pc') (g : own_Go p e below n0 F (T.setTop (mkF m pc' L (v :: w :: v :: S)))) : own_Go p e below n0 F (T.setTop (mkF m pc L (v :: w :: S))) := by
  obtain ⟨locs, X, -, -⟩ := X; subst hp
  exact own_st (fun t k => XS.dupX1 X.here C.1 rfl (hb C.2.1 hd) rfl hc hc' k) g
theorem own_dup2 (C : own_Cx p s m meth c Z n0 own nm bytes ml ret) (X : own_St p l e R s m args below meth c n0 T h cells slots) {v w : Value} (hd : decode bytes pc = .ok (.dup2, 1)) (hc : v.category = 1) (hc' : w.category = 1) (hp : pc + 1 = pc') (g : own_Go p e below n0 F (T.setTop (mkF m pc' L (v :: w :: v :: w :: S)))) : own_Go p e below n0 F (T.setTop (mkF m pc L (v :: w :: S))) := by
  obtain ⟨locs, X, -, -⟩ := X; subst hp
  exact own_st (fun t k => XT.dup2 X.here C.1 rfl (hb C.2.1 hd) rfl hc hc' k) g
theorem own_dup2L (C : own_Cx p s m meth c Z n0 own nm bytes ml ret) (X : own_St p l e R s m args below meth c n0 T h cells slots) {v : Int64} (hd : decode bytes pc = .ok (.dup2, 1))  (hp : pc + 1 = pc') (g : own_Go p e below n0 F (T.setTop (mkF m pc' L (.long v :: .long v :: S)))) : own_Go p e below n0 F (T.setTop (mkF m pc L (.long v :: S))) := by
  obtain ⟨locs, X, -, -⟩ := X; subst hp
  exact own_st (fun t k => XT.dup2L X.here C.1 rfl (hb C.2.1 hd) rfl k) g
theorem own_pop2L (C : own_Cx p s m meth c Z n0 own nm bytes ml ret) (X : own_St p l e R s m args below meth c n0 T h cells slots) {v : Int64} (hd : decode bytes pc = .ok (.pop2, 1))  (hp : pc + 1 = pc') (g : own_Go p e below n0 F (T.setTop (mkF m pc' L (S)))) : own_Go p e below n0 F (T.setTop (mkF m pc L (.long v :: S))) := by
  obtain ⟨locs, X, -, -⟩ := X; subst hp
  exact own_st (fun t k => (by jvm_step X.here [X.here.top, C.1, hb C.2.1 hd, Value.category]; exact k)) g
theorem own_lcmp (C : own_Cx p s m meth c Z n0 own nm bytes ml ret) (X : own_St p l e R s m args below meth c n0 T h cells slots) {x y : Int64} {z : Int32} (hd : decode bytes pc = .ok (.lcmp, 1)) (hz : lcmpW x y = z) (hp : pc + 1 = pc') (g : own_Go p e below n0 F (T.setTop (mkF m pc' L (.int z :: S)))) : own_Go p e below n0 F (T.setTop (mkF m pc L (.long y :: .long x :: S))) := by
  obtain ⟨locs, X, -, -⟩ := X; subst hp hz
  exact own_st (fun t k => XS.lcmp X.here C.1 rfl (hb C.2.1 hd) rfl k) g
theorem own_ldcI (C : own_Cx p s m meth c Z n0 own nm bytes ml ret) (X : own_St p l e R s m args below meth c n0 T h cells slots) {i : Nat} {v : Int32} (hd : decode bytes pc = .ok (.ldc i, 2)) (w : (Jvm.Cond.constant own i v).before a0 Z = true) (hp : pc + 2 = pc') (g : own_Go p e below n0 F (T.setTop (mkF m pc' L (.int v :: S)))) : own_Go p e below n0 F (T.setTop (mkF m pc L (S))) := by
  obtain ⟨locs, X, -, -⟩ := X; subst hp
  exact own_st (fun t k => X.ldcInt C.1 C.2.2.2.1 (mvT C.2.2.2.2.2.2.2.1 w) (g := mkF m pc L S) rfl (hb C.2.1 hd) t k) g
theorem own_ldc2L (C : own_Cx p s m meth c Z n0 own nm bytes ml ret) (X : own_St p l e R s m args below meth c n0 T h cells slots) {i : Nat} {v : Int64} (hd : decode bytes pc = .ok (.ldc2_w i, 3)) (w : (Jvm.Cond.constantLong own i v).before a0 Z = true) (hp : pc + 3 = pc') (g : own_Go p e below n0 F (T.setTop (mkF m pc' L (.long v :: S)))) : own_Go p e below n0 F (T.setTop (mkF m pc L (S))) := by
  obtain ⟨locs, X, -, -⟩ := X; subst hp
  exact own_st (fun t k => X.ldc2Long C.1 C.2.2.2.1 (mvT C.2.2.2.2.2.2.2.1 w) (g := mkF m pc L S) rfl (hb C.2.1 hd) t k) g
theorem own_goto (C : own_Cx p s m meth c Z n0 own nm bytes ml ret) (X : own_St p l e R s m args below meth c n0 T h cells slots) {o : Int} (hd : decode bytes pc = .ok (.goto o, 3)) (ho : 0 ≤ (pc : Int) + o) (hp : ((pc : Int) + o).toNat = pc') (g : own_Go p e below n0 F (T.setTop (mkF m pc' L (S)))) : own_Go p e below n0 F (T.setTop (mkF m pc L (S))) := by
  obtain ⟨locs, X, -, -⟩ := X
  exact own_st (fun t k => XS.goto X.here C.1 rfl rfl (hb C.2.1 hd) ho hp k) g
theorem own_icmp_lt (C : own_Cx p s m meth c Z n0 own nm bytes ml ret) (X : own_St p l e R s m args below meth c n0 T h cells slots) {x y : Int32} {o : Int} (hd : decode bytes pc = .ok (.if_icmp .lt o, 3)) (ho : 0 ≤ (pc : Int) + o) (hq : ((pc : Int) + o).toNat = pcT) (hp : pc + 3 = pc') (gT : x < y → own_Go p e below n0 F (T.setTop (mkF m pcT L (S)))) (gF : ¬ x < y → own_Go p e below n0 F (T.setTop (mkF m pc' L (S)))) : own_Go p e below n0 F (T.setTop (mkF m pc L (.int y :: .int x :: S))) := by
  obtain ⟨locs, X, -, -⟩ := X; subst hp
  by_cases q : x < y
  · exact own_st (fun t k => XS.icmpYes X.here C.1 rfl rfl (hb C.2.1 hd) rfl (tlt q).1 ho hq k) (gT q)
  · exact own_st (fun t k => XS.icmpNo X.here C.1 rfl (hb C.2.1 hd) rfl (flt q).1 k) (gF q)
theorem own_if_lt (C : own_Cx p s m meth c Z n0 own nm bytes ml ret) (X : own_St p l e R s m args below meth c n0 T h cells slots) {x : Int32} {o : Int} (hd : decode bytes pc = .ok (.ifCond .lt o, 3)) (ho : 0 ≤ (pc : Int) + o) (hq : ((pc : Int) + o).toNat = pcT) (hp : pc + 3 = pc') (gT : x < 0 → own_Go p e below n0 F (T.setTop (mkF m pcT L (S)))) (gF : ¬ x < 0 → own_Go p e below n0 F (T.setTop (mkF m pc' L (S)))) : own_Go p e below n0 F (T.setTop (mkF m pc L (.int x :: S))) := by
  obtain ⟨locs, X, -, -⟩ := X; subst hp
  by_cases q : x < 0
  · exact own_st (fun t k => XS.ifYes X.here C.1 rfl rfl (hb C.2.1 hd) rfl ((if0 _ _).trans (tlt q).1) ho hq k) (gT q)
  · exact own_st (fun t k => XS.ifNo X.here C.1 rfl (hb C.2.1 hd) rfl ((if0 _ _).trans (flt q).1) k) (gF q)
theorem own_lcmp_lt (C : own_Cx p s m meth c Z n0 own nm bytes ml ret) (X : own_St p l e R s m args below meth c n0 T h cells slots) {x y : Int64} {o : Int} (hd1 : decode bytes pc = .ok (.lcmp, 1)) (hd : decode bytes (pc + 1) = .ok (.ifCond .lt o, 3)) (ho : 0 ≤ ((pc + 1 : Nat) : Int) + o) (hq : (((pc + 1 : Nat) : Int) + o).toNat = pcT) (hp : pc + 4 = pc') (gT : x < y → own_Go p e below n0 F (T.setTop (mkF m pcT L (S)))) (gF : ¬ x < y → own_Go p e below n0 F (T.setTop (mkF m pc' L (S)))) : own_Go p e below n0 F (T.setTop (mkF m pc L (.long y :: .long x :: S))) := by
  subst hp
  exact own_lcmp C X hd1 rfl rfl (own_if_lt C X hd ho hq rfl (fun q => gT ((lw_lt x y).mp q)) (fun q => gF (fun r => q ((lw_lt x y).mpr r))))
theorem own_icmp_ge (C : own_Cx p s m meth c Z n0 own nm bytes ml ret) (X : own_St p l e R s m args below meth c n0 T h cells slots) {x y : Int32} {o : Int} (hd : decode bytes pc = .ok (.if_icmp .ge o, 3)) (ho : 0 ≤ (pc : Int) + o) (hq : ((pc : Int) + o).toNat = pcT) (hp : pc + 3 = pc') (gT : ¬ x < y → own_Go p e below n0 F (T.setTop (mkF m pcT L (S)))) (gF : x < y → own_Go p e below n0 F (T.setTop (mkF m pc' L (S)))) : own_Go p e below n0 F (T.setTop (mkF m pc L (.int y :: .int x :: S))) := by
  obtain ⟨locs, X, -, -⟩ := X; subst hp
  by_cases q : x < y
  · exact own_st (fun t k => XS.icmpNo X.here C.1 rfl (hb C.2.1 hd) rfl (tlt q).2.1 k) (gF q)
  · exact own_st (fun t k => XS.icmpYes X.here C.1 rfl rfl (hb C.2.1 hd) rfl (flt q).2.1 ho hq k) (gT q)
theorem own_if_ge (C : own_Cx p s m meth c Z n0 own nm bytes ml ret) (X : own_St p l e R s m args below meth c n0 T h cells slots) {x : Int32} {o : Int} (hd : decode bytes pc = .ok (.ifCond .ge o, 3)) (ho : 0 ≤ (pc : Int) + o) (hq : ((pc : Int) + o).toNat = pcT) (hp : pc + 3 = pc') (gT : ¬ x < 0 → own_Go p e below n0 F (T.setTop (mkF m pcT L (S)))) (gF : x < 0 → own_Go p e below n0 F (T.setTop (mkF m pc' L (S)))) : own_Go p e below n0 F (T.setTop (mkF m pc L (.int x :: S))) := by
  obtain ⟨locs, X, -, -⟩ := X; subst hp
  by_cases q : x < 0
  · exact own_st (fun t k => XS.ifNo X.here C.1 rfl (hb C.2.1 hd) rfl ((if0 _ _).trans (tlt q).2.1) k) (gF q)
  · exact own_st (fun t k => XS.ifYes X.here C.1 rfl rfl (hb C.2.1 hd) rfl ((if0 _ _).trans (flt q).2.1) ho hq k) (gT q)
theorem own_lcmp_ge (C : own_Cx p s m meth c Z n0 own nm bytes ml ret) (X : own_St p l e R s m args below meth c n0 T h cells slots) {x y : Int64} {o : Int} (hd1 : decode bytes pc = .ok (.lcmp, 1)) (hd : decode bytes (pc + 1) = .ok (.ifCond .ge o, 3)) (ho : 0 ≤ ((pc + 1 : Nat) : Int) + o) (hq : (((pc + 1 : Nat) : Int) + o).toNat = pcT) (hp : pc + 4 = pc') (gT : ¬ x < y → own_Go p e below n0 F (T.setTop (mkF m pcT L (S)))) (gF : x < y → own_Go p e below n0 F (T.setTop (mkF m pc' L (S)))) : own_Go p e below n0 F (T.setTop (mkF m pc L (.long y :: .long x :: S))) := by
  subst hp
  exact own_lcmp C X hd1 rfl rfl (own_if_ge C X hd ho hq rfl (fun q => gT (fun r => q ((lw_lt x y).mpr r))) (fun q => gF ((lw_lt x y).mp q)))
theorem own_icmp_gt (C : own_Cx p s m meth c Z n0 own nm bytes ml ret) (X : own_St p l e R s m args below meth c n0 T h cells slots) {x y : Int32} {o : Int} (hd : decode bytes pc = .ok (.if_icmp .gt o, 3)) (ho : 0 ≤ (pc : Int) + o) (hq : ((pc : Int) + o).toNat = pcT) (hp : pc + 3 = pc') (gT : y < x → own_Go p e below n0 F (T.setTop (mkF m pcT L (S)))) (gF : ¬ y < x → own_Go p e below n0 F (T.setTop (mkF m pc' L (S)))) : own_Go p e below n0 F (T.setTop (mkF m pc L (.int y :: .int x :: S))) := by
  obtain ⟨locs, X, -, -⟩ := X; subst hp
  by_cases q : y < x
  · exact own_st (fun t k => XS.icmpYes X.here C.1 rfl rfl (hb C.2.1 hd) rfl (tlt q).2.2.1 ho hq k) (gT q)
  · exact own_st (fun t k => XS.icmpNo X.here C.1 rfl (hb C.2.1 hd) rfl (flt q).2.2.1 k) (gF q)
theorem own_if_gt (C : own_Cx p s m meth c Z n0 own nm bytes ml ret) (X : own_St p l e R s m args below meth c n0 T h cells slots) {x : Int32} {o : Int} (hd : decode bytes pc = .ok (.ifCond .gt o, 3)) (ho : 0 ≤ (pc : Int) + o) (hq : ((pc : Int) + o).toNat = pcT) (hp : pc + 3 = pc') (gT : 0 < x → own_Go p e below n0 F (T.setTop (mkF m pcT L (S)))) (gF : ¬ 0 < x → own_Go p e below n0 F (T.setTop (mkF m pc' L (S)))) : own_Go p e below n0 F (T.setTop (mkF m pc L (.int x :: S))) := by
  obtain ⟨locs, X, -, -⟩ := X; subst hp
  by_cases q : 0 < x
  · exact own_st (fun t k => XS.ifYes X.here C.1 rfl rfl (hb C.2.1 hd) rfl ((if0 _ _).trans (tlt q).2.2.1) ho hq k) (gT q)
  · exact own_st (fun t k => XS.ifNo X.here C.1 rfl (hb C.2.1 hd) rfl ((if0 _ _).trans (flt q).2.2.1) k) (gF q)
theorem own_lcmp_gt (C : own_Cx p s m meth c Z n0 own nm bytes ml ret) (X : own_St p l e R s m args below meth c n0 T h cells slots) {x y : Int64} {o : Int} (hd1 : decode bytes pc = .ok (.lcmp, 1)) (hd : decode bytes (pc + 1) = .ok (.ifCond .gt o, 3)) (ho : 0 ≤ ((pc + 1 : Nat) : Int) + o) (hq : (((pc + 1 : Nat) : Int) + o).toNat = pcT) (hp : pc + 4 = pc') (gT : y < x → own_Go p e below n0 F (T.setTop (mkF m pcT L (S)))) (gF : ¬ y < x → own_Go p e below n0 F (T.setTop (mkF m pc' L (S)))) : own_Go p e below n0 F (T.setTop (mkF m pc L (.long y :: .long x :: S))) := by
  subst hp
  exact own_lcmp C X hd1 rfl rfl (own_if_gt C X hd ho hq rfl (fun q => gT ((lw_gt x y).mp q)) (fun q => gF (fun r => q ((lw_gt x y).mpr r))))
theorem own_icmp_le (C : own_Cx p s m meth c Z n0 own nm bytes ml ret) (X : own_St p l e R s m args below meth c n0 T h cells slots) {x y : Int32} {o : Int} (hd : decode bytes pc = .ok (.if_icmp .le o, 3)) (ho : 0 ≤ (pc : Int) + o) (hq : ((pc : Int) + o).toNat = pcT) (hp : pc + 3 = pc') (gT : ¬ y < x → own_Go p e below n0 F (T.setTop (mkF m pcT L (S)))) (gF : y < x → own_Go p e below n0 F (T.setTop (mkF m pc' L (S)))) : own_Go p e below n0 F (T.setTop (mkF m pc L (.int y :: .int x :: S))) := by
  obtain ⟨locs, X, -, -⟩ := X; subst hp
  by_cases q : y < x
  · exact own_st (fun t k => XS.icmpNo X.here C.1 rfl (hb C.2.1 hd) rfl (tlt q).2.2.2 k) (gF q)
  · exact own_st (fun t k => XS.icmpYes X.here C.1 rfl rfl (hb C.2.1 hd) rfl (flt q).2.2.2 ho hq k) (gT q)
theorem own_if_le (C : own_Cx p s m meth c Z n0 own nm bytes ml ret) (X : own_St p l e R s m args below meth c n0 T h cells slots) {x : Int32} {o : Int} (hd : decode bytes pc = .ok (.ifCond .le o, 3)) (ho : 0 ≤ (pc : Int) + o) (hq : ((pc : Int) + o).toNat = pcT) (hp : pc + 3 = pc') (gT : ¬ 0 < x → own_Go p e below n0 F (T.setTop (mkF m pcT L (S)))) (gF : 0 < x → own_Go p e below n0 F (T.setTop (mkF m pc' L (S)))) : own_Go p e below n0 F (T.setTop (mkF m pc L (.int x :: S))) := by
  obtain ⟨locs, X, -, -⟩ := X; subst hp
  by_cases q : 0 < x
  · exact own_st (fun t k => XS.ifNo X.here C.1 rfl (hb C.2.1 hd) rfl ((if0 _ _).trans (tlt q).2.2.2) k) (gF q)
  · exact own_st (fun t k => XS.ifYes X.here C.1 rfl rfl (hb C.2.1 hd) rfl ((if0 _ _).trans (flt q).2.2.2) ho hq k) (gT q)
theorem own_lcmp_le (C : own_Cx p s m meth c Z n0 own nm bytes ml ret) (X : own_St p l e R s m args below meth c n0 T h cells slots) {x y : Int64} {o : Int} (hd1 : decode bytes pc = .ok (.lcmp, 1)) (hd : decode bytes (pc + 1) = .ok (.ifCond .le o, 3)) (ho : 0 ≤ ((pc + 1 : Nat) : Int) + o) (hq : (((pc + 1 : Nat) : Int) + o).toNat = pcT) (hp : pc + 4 = pc') (gT : ¬ y < x → own_Go p e below n0 F (T.setTop (mkF m pcT L (S)))) (gF : y < x → own_Go p e below n0 F (T.setTop (mkF m pc' L (S)))) : own_Go p e below n0 F (T.setTop (mkF m pc L (.long y :: .long x :: S))) := by
  subst hp
  exact own_lcmp C X hd1 rfl rfl (own_if_le C X hd ho hq rfl (fun q => gT (fun r => q ((lw_gt x y).mpr r))) (fun q => gF ((lw_gt x y).mp q)))
theorem own_icmp_eq (C : own_Cx p s m meth c Z n0 own nm bytes ml ret) (X : own_St p l e R s m args below meth c n0 T h cells slots) {x y : Int32} {o : Int} (hd : decode bytes pc = .ok (.if_icmp .eq o, 3)) (ho : 0 ≤ (pc : Int) + o) (hq : ((pc : Int) + o).toNat = pcT) (hp : pc + 3 = pc') (gT : x = y → own_Go p e below n0 F (T.setTop (mkF m pcT L (S)))) (gF : ¬ x = y → own_Go p e below n0 F (T.setTop (mkF m pc' L (S)))) : own_Go p e below n0 F (T.setTop (mkF m pc L (.int y :: .int x :: S))) := by
  obtain ⟨locs, X, -, -⟩ := X; subst hp
  by_cases q : x = y
  · exact own_st (fun t k => XS.icmpYes X.here C.1 rfl rfl (hb C.2.1 hd) rfl (teq q).1 ho hq k) (gT q)
  · exact own_st (fun t k => XS.icmpNo X.here C.1 rfl (hb C.2.1 hd) rfl (feq q).1 k) (gF q)
theorem own_if_eq (C : own_Cx p s m meth c Z n0 own nm bytes ml ret) (X : own_St p l e R s m args below meth c n0 T h cells slots) {x : Int32} {o : Int} (hd : decode bytes pc = .ok (.ifCond .eq o, 3)) (ho : 0 ≤ (pc : Int) + o) (hq : ((pc : Int) + o).toNat = pcT) (hp : pc + 3 = pc') (gT : x = 0 → own_Go p e below n0 F (T.setTop (mkF m pcT L (S)))) (gF : ¬ x = 0 → own_Go p e below n0 F (T.setTop (mkF m pc' L (S)))) : own_Go p e below n0 F (T.setTop (mkF m pc L (.int x :: S))) := by
  obtain ⟨locs, X, -, -⟩ := X; subst hp
  by_cases q : x = 0
  · exact own_st (fun t k => XS.ifYes X.here C.1 rfl rfl (hb C.2.1 hd) rfl ((if0 _ _).trans (teq q).1) ho hq k) (gT q)
  · exact own_st (fun t k => XS.ifNo X.here C.1 rfl (hb C.2.1 hd) rfl ((if0 _ _).trans (feq q).1) k) (gF q)
theorem own_lcmp_eq (C : own_Cx p s m meth c Z n0 own nm bytes ml ret) (X : own_St p l e R s m args below meth c n0 T h cells slots) {x y : Int64} {o : Int} (hd1 : decode bytes pc = .ok (.lcmp, 1)) (hd : decode bytes (pc + 1) = .ok (.ifCond .eq o, 3)) (ho : 0 ≤ ((pc + 1 : Nat) : Int) + o) (hq : (((pc + 1 : Nat) : Int) + o).toNat = pcT) (hp : pc + 4 = pc') (gT : x = y → own_Go p e below n0 F (T.setTop (mkF m pcT L (S)))) (gF : ¬ x = y → own_Go p e below n0 F (T.setTop (mkF m pc' L (S)))) : own_Go p e below n0 F (T.setTop (mkF m pc L (.long y :: .long x :: S))) := by
  subst hp
  exact own_lcmp C X hd1 rfl rfl (own_if_eq C X hd ho hq rfl (fun q => gT ((lw_eq x y).mp q)) (fun q => gF (fun r => q ((lw_eq x y).mpr r))))
theorem own_icmp_ne (C : own_Cx p s m meth c Z n0 own nm bytes ml ret) (X : own_St p l e R s m args below meth c n0 T h cells slots) {x y : Int32} {o : Int} (hd : decode bytes pc = .ok (.if_icmp .ne o, 3)) (ho : 0 ≤ (pc : Int) + o) (hq : ((pc : Int) + o).toNat = pcT) (hp : pc + 3 = pc') (gT : ¬ x = y → own_Go p e below n0 F (T.setTop (mkF m pcT L (S)))) (gF : x = y → own_Go p e below n0 F (T.setTop (mkF m pc' L (S)))) : own_Go p e below n0 F (T.setTop (mkF m pc L (.int y :: .int x :: S))) := by
  obtain ⟨locs, X, -, -⟩ := X; subst hp
  by_cases q : x = y
  · exact own_st (fun t k => XS.icmpNo X.here C.1 rfl (hb C.2.1 hd) rfl (teq q).2 k) (gF q)
  · exact own_st (fun t k => XS.icmpYes X.here C.1 rfl rfl (hb C.2.1 hd) rfl (feq q).2 ho hq k) (gT q)
theorem own_if_ne (C : own_Cx p s m meth c Z n0 own nm bytes ml ret) (X : own_St p l e R s m args below meth c n0 T h cells slots) {x : Int32} {o : Int} (hd : decode bytes pc = .ok (.ifCond .ne o, 3)) (ho : 0 ≤ (pc : Int) + o) (hq : ((pc : Int) + o).toNat = pcT) (hp : pc + 3 = pc') (gT : ¬ x = 0 → own_Go p e below n0 F (T.setTop (mkF m pcT L (S)))) (gF : x = 0 → own_Go p e below n0 F (T.setTop (mkF m pc' L (S)))) : own_Go p e below n0 F (T.setTop (mkF m pc L (.int x :: S))) := by
  obtain ⟨locs, X, -, -⟩ := X; subst hp
  by_cases q : x = 0
  · exact own_st (fun t k => XS.ifNo X.here C.1 rfl (hb C.2.1 hd) rfl ((if0 _ _).trans (teq q).2) k) (gF q)
  · exact own_st (fun t k => XS.ifYes X.here C.1 rfl rfl (hb C.2.1 hd) rfl ((if0 _ _).trans (feq q).2) ho hq k) (gT q)
theorem own_lcmp_ne (C : own_Cx p s m meth c Z n0 own nm bytes ml ret) (X : own_St p l e R s m args below meth c n0 T h cells slots) {x y : Int64} {o : Int} (hd1 : decode bytes pc = .ok (.lcmp, 1)) (hd : decode bytes (pc + 1) = .ok (.ifCond .ne o, 3)) (ho : 0 ≤ ((pc + 1 : Nat) : Int) + o) (hq : (((pc + 1 : Nat) : Int) + o).toNat = pcT) (hp : pc + 4 = pc') (gT : ¬ x = y → own_Go p e below n0 F (T.setTop (mkF m pcT L (S)))) (gF : x = y → own_Go p e below n0 F (T.setTop (mkF m pc' L (S)))) : own_Go p e below n0 F (T.setTop (mkF m pc L (.long y :: .long x :: S))) := by
  subst hp
  exact own_lcmp C X hd1 rfl rfl (own_if_ne C X hd ho hq rfl (fun q => gT (fun r => q ((lw_eq x y).mpr r))) (fun q => gF ((lw_eq x y).mp q)))
theorem own_acmp_eq (C : own_Cx p s m meth c Z n0 own nm bytes ml ret) (X : own_St p l e R s m args below meth c n0 T h cells slots) {v w : Value} {o : Int} (hd : decode bytes pc = .ok (.if_acmp .eq o, 3)) (hv : v.isRef = true) (hw : w.isRef = true) (ho : 0 ≤ (pc : Int) + o) (hq : ((pc : Int) + o).toNat = pcT) (hp : pc + 3 = pc') (gT : v = w → own_Go p e below n0 F (T.setTop (mkF m pcT L (S)))) (gF : ¬ v = w → own_Go p e below n0 F (T.setTop (mkF m pc' L (S)))) : own_Go p e below n0 F (T.setTop (mkF m pc L (w :: v :: S))) := by
  obtain ⟨locs, X, -, -⟩ := X; subst hp
  by_cases q : v = w
  · exact own_st (fun t k => XT.acmpYes X.here C.1 rfl rfl (hb C.2.1 hd) rfl hv hw (XT.aa_eq_t q) ho hq k) (gT q)
  · exact own_st (fun t k => XT.acmpNo X.here C.1 rfl (hb C.2.1 hd) rfl hv hw (XT.aa_eq_f q) k) (gF q)
theorem own_acmp_ne (C : own_Cx p s m meth c Z n0 own nm bytes ml ret) (X : own_St p l e R s m args below meth c n0 T h cells slots) {v w : Value} {o : Int} (hd : decode bytes pc = .ok (.if_acmp .ne o, 3)) (hv : v.isRef = true) (hw : w.isRef = true) (ho : 0 ≤ (pc : Int) + o) (hq : ((pc : Int) + o).toNat = pcT) (hp : pc + 3 = pc') (gT : ¬ v = w → own_Go p e below n0 F (T.setTop (mkF m pcT L (S)))) (gF : v = w → own_Go p e below n0 F (T.setTop (mkF m pc' L (S)))) : own_Go p e below n0 F (T.setTop (mkF m pc L (w :: v :: S))) := by
  obtain ⟨locs, X, -, -⟩ := X; subst hp
  by_cases q : v = w
  · exact own_st (fun t k => XT.acmpNo X.here C.1 rfl (hb C.2.1 hd) rfl hv hw (XT.aa_ne_f q) k) (gF q)
  · exact own_st (fun t k => XT.acmpYes X.here C.1 rfl rfl (hb C.2.1 hd) rfl hv hw (XT.aa_ne_t q) ho hq k) (gT q)
theorem own_ireturn {z : Int32} (C : own_Cx p s m meth c Z n0 own nm bytes ml (some .int)) (X : own_St p l e R s m args below meth c n0 T h cells slots) (hd : decode bytes pc = .ok (.ireturn, 1))  (hc : cells ≤ R.cells) (hs : slots ≤ R.slots) (hq : Q (some (.int z)) h) : own_Go p e below n0 (own_Fin R s Q) (T.setTop (mkF m pc L (.int z :: S))) := by
  obtain ⟨locs, X, N, rfl⟩ := X
  have hlk : meth.locks = false := C.2.2.2.2.2.2.1
  obtain ⟨fs, hr, hrun, hended, hW, hsame⟩ := X.leave (v := some (.int z)) (fun h => by rw [C.2.2.2.2.2.1] at h; cases h) hlk
  exact ⟨_, _, locs, retOut X C.1 C.2.2.2.2.2.1 rfl (Or.inl ⟨rfl, by simp, _, rfl⟩) (hb C.2.1 hd) hr, hrun, hended, N, hq, ⟨_, rfl⟩, hW, hsame.mono hc hs⟩
theorem own_ireturn_z {z : Int32} (C : own_Cx p s m meth c Z n0 own nm bytes ml (some .boolean)) (X : own_St p l e R s m args below meth c n0 T h cells slots) (hd : decode bytes pc = .ok (.ireturn, 1))  (hc : cells ≤ R.cells) (hs : slots ≤ R.slots) (hq : Q (some (.int (nar .boolean z))) h) : own_Go p e below n0 (own_Fin R s Q) (T.setTop (mkF m pc L (.int z :: S))) := by
  obtain ⟨locs, X, N, rfl⟩ := X
  have hlk : meth.locks = false := C.2.2.2.2.2.2.1
  obtain ⟨fs, hr, hrun, hended, hW, hsame⟩ := X.leave (v := some (.int (nar .boolean z))) (fun h => by rw [C.2.2.2.2.2.1] at h; cases h) hlk
  exact ⟨_, _, locs, retN X C.1 (t := .boolean) C.2.2.2.2.2.1 (by simp) (hb C.2.1 hd) hr, hrun, hended, N, hq, ⟨_, rfl⟩, hW, hsame.mono hc hs⟩
theorem own_ireturn_b {z : Int32} (C : own_Cx p s m meth c Z n0 own nm bytes ml (some .byte)) (X : own_St p l e R s m args below meth c n0 T h cells slots) (hd : decode bytes pc = .ok (.ireturn, 1))  (hc : cells ≤ R.cells) (hs : slots ≤ R.slots) (hq : Q (some (.int (nar .byte z))) h) : own_Go p e below n0 (own_Fin R s Q) (T.setTop (mkF m pc L (.int z :: S))) := by
  obtain ⟨locs, X, N, rfl⟩ := X
  have hlk : meth.locks = false := C.2.2.2.2.2.2.1
  obtain ⟨fs, hr, hrun, hended, hW, hsame⟩ := X.leave (v := some (.int (nar .byte z))) (fun h => by rw [C.2.2.2.2.2.1] at h; cases h) hlk
  exact ⟨_, _, locs, retN X C.1 (t := .byte) C.2.2.2.2.2.1 (by simp) (hb C.2.1 hd) hr, hrun, hended, N, hq, ⟨_, rfl⟩, hW, hsame.mono hc hs⟩
theorem own_ireturn_c {z : Int32} (C : own_Cx p s m meth c Z n0 own nm bytes ml (some .char)) (X : own_St p l e R s m args below meth c n0 T h cells slots) (hd : decode bytes pc = .ok (.ireturn, 1))  (hc : cells ≤ R.cells) (hs : slots ≤ R.slots) (hq : Q (some (.int (nar .char z))) h) : own_Go p e below n0 (own_Fin R s Q) (T.setTop (mkF m pc L (.int z :: S))) := by
  obtain ⟨locs, X, N, rfl⟩ := X
  have hlk : meth.locks = false := C.2.2.2.2.2.2.1
  obtain ⟨fs, hr, hrun, hended, hW, hsame⟩ := X.leave (v := some (.int (nar .char z))) (fun h => by rw [C.2.2.2.2.2.1] at h; cases h) hlk
  exact ⟨_, _, locs, retN X C.1 (t := .char) C.2.2.2.2.2.1 (by simp) (hb C.2.1 hd) hr, hrun, hended, N, hq, ⟨_, rfl⟩, hW, hsame.mono hc hs⟩
theorem own_lreturn {z : Int64} (C : own_Cx p s m meth c Z n0 own nm bytes ml (some .long)) (X : own_St p l e R s m args below meth c n0 T h cells slots) (hd : decode bytes pc = .ok (.lreturn, 1))  (hc : cells ≤ R.cells) (hs : slots ≤ R.slots) (hq : Q (some (.long z)) h) : own_Go p e below n0 (own_Fin R s Q) (T.setTop (mkF m pc L (.long z :: S))) := by
  obtain ⟨locs, X, N, rfl⟩ := X
  have hlk : meth.locks = false := C.2.2.2.2.2.2.1
  obtain ⟨fs, hr, hrun, hended, hW, hsame⟩ := X.leave (v := some (.long z)) (fun h => by rw [C.2.2.2.2.2.1] at h; cases h) hlk
  exact ⟨_, _, locs, retOut X C.1 C.2.2.2.2.2.1 rfl (Or.inr (Or.inl ⟨rfl, rfl, _, rfl⟩)) (hb C.2.1 hd) hr, hrun, hended, N, hq, ⟨_, rfl⟩, hW, hsame.mono hc hs⟩
theorem own_areturn {v : Value} {ty : FieldType} (C : own_Cx p s m meth c Z n0 own nm bytes ml (some ty)) (X : own_St p l e R s m args below meth c n0 T h cells slots) (hd : decode bytes pc = .ok (.areturn, 1)) (ht : ty.isReference = true) (hv : v.isRef = true) (hn : narrow ty v = v) (hc : cells ≤ R.cells) (hs : slots ≤ R.slots) (hq : Q (some v) h) : own_Go p e below n0 (own_Fin R s Q) (T.setTop (mkF m pc L (v :: S))) := by
  obtain ⟨locs, X, N, rfl⟩ := X
  have hlk : meth.locks = false := C.2.2.2.2.2.2.1
  obtain ⟨fs, hr, hrun, hended, hW, hsame⟩ := X.leave (v := some v) (fun h => by rw [C.2.2.2.2.2.1] at h; cases h) hlk
  exact ⟨_, _, locs, retOut X C.1 C.2.2.2.2.2.1 hn (Or.inr (Or.inr (Or.inr (Or.inr ⟨rfl, ht, hv⟩)))) (hb C.2.1 hd) hr, hrun, hended, N, hq, ⟨_, rfl⟩, hW, hsame.mono hc hs⟩
theorem own_return  (C : own_Cx p s m meth c Z n0 own nm bytes ml (none)) (X : own_St p l e R s m args below meth c n0 T h cells slots) (hd : decode bytes pc = .ok (.return_, 1))  (hc : cells ≤ R.cells) (hs : slots ≤ R.slots) (hq : Q (none) h) : own_Go p e below n0 (own_Fin R s Q) (T.setTop (mkF m pc L ([]))) := by
  obtain ⟨locs, X, N, rfl⟩ := X
  have hlk : meth.locks = false := C.2.2.2.2.2.2.1
  obtain ⟨fs, hr, hrun, hended, hW, hsame⟩ := X.leave (v := none) (fun _ => rfl) hlk
  exact ⟨_, _, locs, X.returnOut C.1 C.2.2.2.2.2.1 (hb C.2.1 hd) hr, hrun, hended, N, hq, ⟨_, rfl⟩, hW, hsame.mono hc hs⟩
end OwnKit
end Jvm.Pilot.@@N@@
namespace Jvm.Pilot.@@N@@
open Jvm Jvm.ClassFile Sem Op Lib Jvm.Free Jvm.Stand Jvm.LawKit Jvm.RoadKit Bundle Jvm.Pilot.@@N@@.Jvm.D
section OwnKitTwo
variable {p : Program} {l : Launch} {e : Env} {R : Room} {s : State} {m : MethodId} {args : Array Value} {below : List Frame} {meth : Method} {c : Code} {T : State} {cells slots : Nat} {Z : State} {a0 : Array Value} {h h' : Heap} {n0 : Nat} {own nm : String} {bytes : ByteArray} {ml : Nat} {ret : Option FieldType} {F : Option Value → State → List Loc → Prop} {pc pc' pcT : Nat} {L L' : Array Slot} {S : List Value} {a b : Addr} {ty : FieldType} {ws : List Addr}
/-! arrays by their lists -/
def own_IA (Z : State) (h : Heap) (a : Addr) (ty : FieldType) (xs : List Int32) : Prop := ∃ c : Cell, Arr Z h a c ty ∧ c.slots.toList = xs.map Value.int ∧ xs.length < 2 ^ 31 ∧ ∀ x ∈ xs, fits ty (.int x) = true
def own_JA (Z : State) (h : Heap) (a : Addr) (xs : List Int64) : Prop := ∃ c : Cell, Arr Z h a c .long ∧ c.slots.toList = xs.map Value.long ∧ xs.length < 2 ^ 31
theorem own_IA.keep {xs : List Int32} (A : own_IA Z h a ty xs) (K : Keep h h' ws) (q : a ∉ ws) : own_IA Z h' a ty xs := by
  obtain ⟨c, A, r⟩ := A; exact ⟨c, ⟨K.2.1 a c A.1 q, A.2⟩, r⟩
theorem own_JA.keep {xs : List Int64} (A : own_JA Z h a xs) (K : Keep h h' ws) (q : a ∉ ws) : own_JA Z h' a xs := by
  obtain ⟨c, A, r⟩ := A; exact ⟨c, ⟨K.2.1 a c A.1 q, A.2⟩, r⟩
theorem own_IA.lt {xs : List Int32} (A : own_IA Z h a ty xs) : a < h.size := by obtain ⟨c, A, r⟩ := A; exact A.lt
theorem own_JA.lt {xs : List Int64} (A : own_JA Z h a xs) : a < h.size := by obtain ⟨c, A, r⟩ := A; exact A.lt
theorem own_ix {j : Int32} {i : Nat} (hj : j.toInt = (i : Int)) : ¬ j < 0 ∧ j.toNatClampNeg = i := by
  refine ⟨?_, ?_⟩
  · rw [Int32.lt_iff_toInt_lt, hj]; show ¬ (i : Int) < 0; omega
  · simp only [Int32.toNatClampNeg, hj, Int.toNat_natCast]
theorem own_sz {α : Type} {f : α → Value} {c : Cell} {xs : List α} (e : c.slots.toList = xs.map f) : c.slots.size = xs.length := by
  have := congrArg List.length e; simpa using this
theorem own_in {α : Type} {f : α → Value} {c : Cell} {xs : List α} (e : c.slots.toList = xs.map f) {j : Int32} {i : Nat} (hj : j.toInt = (i : Int)) (hi : i < xs.length) : ¬ (j < 0 ∨ c.slots.size ≤ j.toNatClampNeg) := by
  obtain ⟨q1, q2⟩ := own_ix hj
  rw [own_sz e, q2]
  exact fun q => q.elim q1 (fun q => Nat.lt_irrefl _ (Nat.lt_of_lt_of_le hi q))
theorem own_at {α : Type} {f : α → Value} {c : Cell} {xs : List α} (e : c.slots.toList = xs.map f) {j : Int32} {i : Nat} (hj : j.toInt = (i : Int)) {v : α} (hv : xs[i]? = some v) : c.slots[j.toNatClampNeg]? = some (f v) := by
  rw [(own_ix hj).2, ← Array.getElem?_toList, e, List.getElem?_map, hv]; rfl
theorem own_lt_of {α : Type} {xs : List α} {i : Nat} {v : α} (hv : xs[i]? = some v) : i < xs.length := (List.getElem?_eq_some_iff.mp hv).1
theorem own_set {α : Type} {f : α → Value} {c : Cell} {xs : List α} (e : c.slots.toList = xs.map f) {j : Int32} {i : Nat} (hj : j.toInt = (i : Int)) {v : α} : (c.setSlot j.toNatClampNeg (f v)).slots.toList = (xs.set i v).map f := by
  rw [(own_ix hj).2]; simp only [Cell.setSlot, Array.toList_setIfInBounds, e, List.map_set]
theorem own_iaload (C : own_Cx p s m meth c Z n0 own nm bytes ml ret) (X : own_St p l e R s m args below meth c n0 T h cells slots) {j v : Int32} {i : Nat} {xs : List Int32} (hd : decode bytes pc = .ok (.iaload, 1)) (A : own_IA Z h a .int xs) (hj : j.toInt = (i : Int)) (hv : xs[i]? = some v) (hp : pc + 1 = pc')
    (g : own_Go p e below n0 F (T.setTop (mkF m pc' L (.int v :: S)))) : own_Go p e below n0 F (T.setTop (mkF m pc L (.int j :: .ref a :: S))) := by
  obtain ⟨locs, X, -, rfl⟩ := X; subst hp; obtain ⟨cl, A, ec, -⟩ := A
  exact own_st (fun t k => X.iaload C.1 A.1 (State.isArrayOf_alike C.2.2.2.2.2.2.2.1.alike A.2.1) A.2.2 (own_in ec hj (own_lt_of hv)) (own_at ec hj hv) (g := mkF m pc L (.int j :: .ref a :: S)) rfl rfl (hb C.2.1 hd) t k) g
theorem own_baload (C : own_Cx p s m meth c Z n0 own nm bytes ml ret) (X : own_St p l e R s m args below meth c n0 T h cells slots) {j v : Int32} {i : Nat} {xs : List Int32} (hd : decode bytes pc = .ok (.baload, 1)) (A : own_IA Z h a .byte xs) (hj : j.toInt = (i : Int)) (hv : xs[i]? = some v) (hp : pc + 1 = pc')
    (g : own_Go p e below n0 F (T.setTop (mkF m pc' L (.int v :: S)))) : own_Go p e below n0 F (T.setTop (mkF m pc L (.int j :: .ref a :: S))) := by
  obtain ⟨locs, X, -, rfl⟩ := X; subst hp; obtain ⟨cl, A, ec, -⟩ := A
  exact own_st (fun t k => X.baloadBytes C.1 A.1 (State.isArrayOf_alike C.2.2.2.2.2.2.2.1.alike A.2.1) A.2.2 (own_in ec hj (own_lt_of hv)) (own_at ec hj hv) (g := mkF m pc L (.int j :: .ref a :: S)) rfl rfl (hb C.2.1 hd) t k) g
theorem own_laload (C : own_Cx p s m meth c Z n0 own nm bytes ml ret) (X : own_St p l e R s m args below meth c n0 T h cells slots) {j : Int32} {v : Int64} {i : Nat} {xs : List Int64} (hd : decode bytes pc = .ok (.laload, 1)) (A : own_JA Z h a xs) (hj : j.toInt = (i : Int)) (hv : xs[i]? = some v) (hp : pc + 1 = pc')
    (g : own_Go p e below n0 F (T.setTop (mkF m pc' L (.long v :: S)))) : own_Go p e below n0 F (T.setTop (mkF m pc L (.int j :: .ref a :: S))) := by
  obtain ⟨locs, X, -, rfl⟩ := X; subst hp; obtain ⟨cl, A, ec, -⟩ := A
  exact own_st (fun t k => X.laload C.1 A.1 (State.isArrayOf_alike C.2.2.2.2.2.2.2.1.alike A.2.1) A.2.2 (own_in ec hj (own_lt_of hv)) (own_at ec hj hv) (g := mkF m pc L (.int j :: .ref a :: S)) rfl rfl (hb C.2.1 hd) t k) g
theorem own_len {α : Type} {f : α → Value} {c : Cell} {xs : List α} (e : c.slots.toList = xs.map f) (hb : xs.length < 2 ^ 31) {n : Int32} (hn : n.toInt = (xs.length : Int)) : c.slots.size.toInt32 = n := by
  rw [own_sz e]; exact Int32.toInt_inj.mp (by rw [len_toInt hb, hn])
theorem own_alenI (C : own_Cx p s m meth c Z n0 own nm bytes ml ret) (X : own_St p l e R s m args below meth c n0 T h cells slots) {n : Int32} {xs : List Int32} (hd : decode bytes pc = .ok (.arraylength, 1)) (A : own_IA Z h a ty xs) (hn : n.toInt = (xs.length : Int)) (hp : pc + 1 = pc')
    (g : own_Go p e below n0 F (T.setTop (mkF m pc' L (.int n :: S)))) : own_Go p e below n0 F (T.setTop (mkF m pc L (.ref a :: S))) := by
  obtain ⟨locs, X, -, rfl⟩ := X; subst hp; obtain ⟨cl, A, ec, hb1, -⟩ := A
  have := own_len ec hb1 hn; subst this
  exact own_st (fun t k => X.arraylength C.1 A.1 (State.isArrayOf_alike C.2.2.2.2.2.2.2.1.alike A.2.1) (g := mkF m pc L (.ref a :: S)) rfl rfl (hb C.2.1 hd) t k) g
theorem own_alenJ (C : own_Cx p s m meth c Z n0 own nm bytes ml ret) (X : own_St p l e R s m args below meth c n0 T h cells slots) {n : Int32} {xs : List Int64} (hd : decode bytes pc = .ok (.arraylength, 1)) (A : own_JA Z h a xs) (hn : n.toInt = (xs.length : Int)) (hp : pc + 1 = pc')
    (g : own_Go p e below n0 F (T.setTop (mkF m pc' L (.int n :: S)))) : own_Go p e below n0 F (T.setTop (mkF m pc L (.ref a :: S))) := by
  obtain ⟨locs, X, -, rfl⟩ := X; subst hp; obtain ⟨cl, A, ec, hb1⟩ := A
  have := own_len ec hb1 hn; subst this
  exact own_st (fun t k => X.arraylength C.1 A.1 (State.isArrayOf_alike C.2.2.2.2.2.2.2.1.alike A.2.1) (g := mkF m pc L (.ref a :: S)) rfl rfl (hb C.2.1 hd) t k) g
theorem own_fitset {xs : List Int32} {i : Nat} {v : Int32} (hf : ∀ x ∈ xs, fits ty (.int x) = true) (hv : fits ty (.int v) = true) : ∀ x ∈ xs.set i v, fits ty (.int x) = true := fun x hx =>
  (List.mem_or_eq_of_mem_set hx).elim (hf x) (fun q => q ▸ hv)
theorem own_bastore (C : own_Cx p s m meth c Z n0 own nm bytes ml ret) (X : own_St p l e R s m args below meth c n0 T h cells slots) {j x v : Int32} {i : Nat} {xs : List Int32} (hd : decode bytes pc = .ok (.bastore, 1)) (A : own_IA Z h a .byte xs) (hj : j.toInt = (i : Int)) (hi : i < xs.length) (hx : x.toInt8.toInt32 = v) (ha : n0 ≤ a) (hp : pc + 1 = pc')
    (g : ∀ T' h', own_St p l e R s m args below meth c n0 T' h' cells slots → Keep h h' [a] → own_IA Z h' a .byte (xs.set i v) → own_Go p e below n0 F (T'.setTop (mkF m pc' L S))) : own_Go p e below n0 F (T.setTop (mkF m pc L (.int x :: .int j :: .ref a :: S))) := by
  obtain ⟨locs, X, N, e0⟩ := X; subst hp; subst hx; obtain ⟨cl, A, ec, hl, hf⟩ := A
  obtain ⟨T', h2, X', e', W, st⟩ := stB X C.1 C.2.2.2.2.2.2.2.1 e0 A (own_in ec hj hi) (g := mkF m pc L (.int x :: .int j :: .ref a :: S)) rfl rfl (hb C.2.1 hd)
  exact own_st st (g T' h2 ⟨_, X', Fr.snoc X' N ha, e'⟩ (Keep.of_wr W) ⟨_, A.same W, own_set ec hj, by simpa using hl, own_fitset hf (fits_nar_byte x)⟩)
theorem own_iastore (C : own_Cx p s m meth c Z n0 own nm bytes ml ret) (X : own_St p l e R s m args below meth c n0 T h cells slots) {j x : Int32} {i : Nat} {xs : List Int32} (hd : decode bytes pc = .ok (.iastore, 1)) (A : own_IA Z h a .int xs) (hj : j.toInt = (i : Int)) (hi : i < xs.length) (ha : n0 ≤ a) (hp : pc + 1 = pc')
    (g : ∀ T' h', own_St p l e R s m args below meth c n0 T' h' cells slots → Keep h h' [a] → own_IA Z h' a .int (xs.set i x) → own_Go p e below n0 F (T'.setTop (mkF m pc' L S))) : own_Go p e below n0 F (T.setTop (mkF m pc L (.int x :: .int j :: .ref a :: S))) := by
  obtain ⟨locs, X, N, e0⟩ := X; subst hp; obtain ⟨cl, A, ec, hl, hf⟩ := A
  obtain ⟨T', h2, X', e', W, st⟩ := stI X C.1 C.2.2.2.2.2.2.2.1 e0 A (own_in ec hj hi) (g := mkF m pc L (.int x :: .int j :: .ref a :: S)) rfl rfl (hb C.2.1 hd)
  exact own_st st (g T' h2 ⟨_, X', Fr.snoc X' N ha, e'⟩ (Keep.of_wr W) ⟨_, A.same W, own_set ec hj, by simpa using hl, own_fitset hf rfl⟩)
theorem own_lastore (C : own_Cx p s m meth c Z n0 own nm bytes ml ret) (X : own_St p l e R s m args below meth c n0 T h cells slots) {j : Int32} {x : Int64} {i : Nat} {xs : List Int64} (hd : decode bytes pc = .ok (.lastore, 1)) (A : own_JA Z h a xs) (hj : j.toInt = (i : Int)) (hi : i < xs.length) (ha : n0 ≤ a) (hp : pc + 1 = pc')
    (g : ∀ T' h', own_St p l e R s m args below meth c n0 T' h' cells slots → Keep h h' [a] → own_JA Z h' a (xs.set i x) → own_Go p e below n0 F (T'.setTop (mkF m pc' L S))) : own_Go p e below n0 F (T.setTop (mkF m pc L (.long x :: .int j :: .ref a :: S))) := by
  obtain ⟨locs, X, N, e0⟩ := X; subst hp; obtain ⟨cl, A, ec, hl⟩ := A
  obtain ⟨T', h2, X', e', W, st⟩ := stJ X C.1 C.2.2.2.2.2.2.2.1 e0 A (own_in ec hj hi) (g := mkF m pc L (.long x :: .int j :: .ref a :: S)) rfl rfl (hb C.2.1 hd)
  exact own_st st (g T' h2 ⟨_, X', Fr.snoc X' N ha, e'⟩ (Keep.of_wr W) ⟨_, A.same W, own_set ec hj, by simpa using hl⟩)
theorem own_keep_ext (E : Ext h h') : Keep h h' [] := (Keep.refl h []).ext E
theorem own_newI (C : own_Cx p s m meth c Z n0 own nm bytes ml ret) (X : own_St p l e R s m args below meth c n0 T h cells slots) {aty : ArrayType} {n : Int32} {k cap : Nat} (hd : decode bytes pc = .ok (.newarray aty, 2)) (hty : newarray.typeOf aty = ty) (w : (Jvm.Cond.arrayClass ty).before a0 Z = true) (hn : n.toInt = (k : Int)) (hcap : k ≤ cap) (hb8 : cap * 8 ≤ 536870912)
    (hc : cells + 1 ≤ R.cells) (hs : slots + cap ≤ R.slots) (hdef : defaultValue ty = .int 0) (hfit : fits ty (.int 0) = true) (hp : pc + 2 = pc')
    (g : ∀ T' h' a, a = h.size → own_St p l e R s m args below meth c n0 T' h' (cells + 1) (slots + cap) → Keep h h' [] → n0 ≤ a → own_IA Z h' a ty (List.replicate k 0) → own_Go p e below n0 F (T'.setTop (mkF m pc' L (.ref a :: S)))) : own_Go p e below n0 F (T.setTop (mkF m pc L (.int n :: S))) := by
  have hbig := own_big C X
  obtain ⟨locs, X, N, e0⟩ := X; subst hp; subst hty
  obtain ⟨q1, q2⟩ := own_ix hn
  obtain ⟨T', h2, cA, X', e', E, A, st⟩ := newP X C.1 C.2.2.2.2.2.2.2.1 w e0 (g := mkF m pc L (.int n :: S)) rfl (hb C.2.1 hd) rfl q1 (cap := cap) (by rw [q2]; exact hcap) hb8 hc hs
  refine own_st st (g T' h2 _ rfl ⟨_, X', N, e'⟩ (own_keep_ext E) hbig ⟨_, A, ?_, ?_, ?_⟩)
  · simp [newA, q2, hdef]
  · have := n.toInt_lt; simp only [List.length_replicate]; omega
  · intro x hx; obtain ⟨-, rfl⟩ := List.mem_replicate.mp hx; exact hfit
theorem own_newJ (C : own_Cx p s m meth c Z n0 own nm bytes ml ret) (X : own_St p l e R s m args below meth c n0 T h cells slots) {n : Int32} {k cap : Nat} (hd : decode bytes pc = .ok (.newarray .long, 2)) (w : (Jvm.Cond.arrayClass .long).before a0 Z = true) (hn : n.toInt = (k : Int)) (hcap : k ≤ cap) (hb8 : cap * 8 ≤ 536870912)
    (hc : cells + 1 ≤ R.cells) (hs : slots + cap ≤ R.slots) (hp : pc + 2 = pc')
    (g : ∀ T' h' a, a = h.size → own_St p l e R s m args below meth c n0 T' h' (cells + 1) (slots + cap) → Keep h h' [] → n0 ≤ a → own_JA Z h' a (List.replicate k 0) → own_Go p e below n0 F (T'.setTop (mkF m pc' L (.ref a :: S)))) : own_Go p e below n0 F (T.setTop (mkF m pc L (.int n :: S))) := by
  have hbig := own_big C X
  obtain ⟨locs, X, N, e0⟩ := X; subst hp
  obtain ⟨q1, q2⟩ := own_ix hn
  obtain ⟨T', h2, cA, X', e', E, A, st⟩ := newP (aty := .long) X C.1 C.2.2.2.2.2.2.2.1 w e0 (g := mkF m pc L (.int n :: S)) rfl (hb C.2.1 hd) rfl q1 (cap := cap) (by rw [q2]; exact hcap) hb8 hc hs
  refine own_st st (g T' h2 _ rfl ⟨_, X', N, e'⟩ (own_keep_ext E) hbig ⟨_, A, ?_, ?_⟩)
  · simp [newA, q2, defaultValue, newarray.typeOf]
  · have := n.toInt_lt; simp only [List.length_replicate]; omega
/-! objects by the list of their fields: name, descriptor, value -/
def own_Ob (Z : State) (a0 : Array Value) (h : Heap) (a : Addr) (K : String) (fs : List (String × String × Value)) : Prop :=
  Exa Z h a K ∧ (fs.map (·.1)).Nodup ∧ ∀ f ∈ fs, Fld Z h a K f.1 f.2.1 f.2.2 ∧ Laid Z a0 K K f.1 f.2.1 ∧ ∃ t, parseFieldDescriptor f.2.1 = some t
theorem own_Ob.keep {K : String} {fs : List (String × String × Value)} (O : own_Ob Z a0 h a K fs) (W : Keep h h' ws) (q : a ∉ ws) : own_Ob Z a0 h' a K fs :=
  ⟨O.1.keep W, O.2.1, fun f hf => ⟨(O.2.2 f hf).1.keep W q, (O.2.2 f hf).2⟩⟩
theorem own_Ob.lt {K : String} {fs : List (String × String × Value)} (O : own_Ob Z a0 h a K fs) : a < h.size := O.1.lt
theorem own_Ob.put {K n d : String} {fs : List (String × String × Value)} {v w : Value} {i : Nat} (O : own_Ob Z a0 h a K fs) (hi : fs[i]? = some (n, d, w)) (W : Wr h h' a (Jvm.RoadKit.slotOf Z K n d) v) : own_Ob Z a0 h' a K (fs.set i (n, d, v)) := by
  obtain ⟨hlt, hget⟩ := List.getElem?_eq_some_iff.mp hi
  have hmem : (n, d, w) ∈ fs := hget ▸ List.getElem_mem hlt
  have hnames : (fs.set i (n, d, v)).map (·.1) = fs.map (·.1) := by
    rw [List.map_set]
    apply List.ext_getElem? ; intro k
    by_cases hk : i = k
    · subst hk; rw [List.getElem?_set_self (by simpa using hlt), List.getElem?_map, hi]; rfl
    · rw [List.getElem?_set_ne hk]
  refine ⟨O.1.wr W, by rw [hnames]; exact O.2.1, fun f hf => ?_⟩
  obtain ⟨k, hk, hfk⟩ := List.getElem_of_mem hf
  have hk' : (fs.set i (n, d, v))[k]? = some f := List.getElem?_eq_some_iff.mpr ⟨hk, hfk⟩
  by_cases hik : i = k
  · subst hik
    rw [List.getElem?_set_self hlt] at hk'; cases hk'
    exact ⟨(O.2.2 _ hmem).1.same W, (O.2.2 _ hmem).2⟩
  · rw [List.getElem?_set_ne hik] at hk'
    obtain ⟨hlk, hgk⟩ := List.getElem?_eq_some_iff.mp hk'
    have hfm : f ∈ fs := hgk ▸ List.getElem_mem hlk
    obtain ⟨F, La, t, ht⟩ := O.2.2 f hfm
    obtain ⟨-, La', t', ht'⟩ := O.2.2 _ hmem
    refine ⟨F.other W (Or.inr (slot_ne La La' (fun hne => ?_) ht ht')), La, t, ht⟩
    have hnd := List.pairwise_iff_getElem.mp O.2.1
    rcases Nat.lt_or_gt_of_ne hik with q | q
    · exact hnd i k (by simpa using hlt) (by simpa using hlk) q (by simp [hget, hgk, hne])
    · exact hnd k i (by simpa using hlk) (by simpa using hlt) q (by simp [hget, hgk, hne])
theorem own_Ob.get {K n d : String} {fs : List (String × String × Value)} {v : Value} {i : Nat} (O : own_Ob Z a0 h a K fs) (hi : fs[i]? = some (n, d, v)) : Fld Z h a K n d v := by
  obtain ⟨hlt, hget⟩ := List.getElem?_eq_some_iff.mp hi
  exact (O.2.2 (n, d, v) (hget ▸ List.getElem_mem hlt)).1
theorem own_getfield (C : own_Cx p s m meth c Z n0 own nm bytes ml ret) (X : own_St p l e R s m args below meth c n0 T h cells slots) {K n d : String} {idx i : Nat} {fs : List (String × String × Value)} {v : Value} (hd : decode bytes pc = .ok (.getfield idx, 3)) (w : (Jvm.Cond.fieldLink own idx K n d).before a0 Z = true) (O : own_Ob Z a0 h a K fs) (hi : fs[i]? = some (n, d, v)) (hp : pc + 3 = pc')
    (g : ∀ T', own_St p l e R s m args below meth c n0 T' h cells slots → own_Go p e below n0 F (T'.setTop (mkF m pc' L (v :: S)))) : own_Go p e below n0 F (T.setTop (mkF m pc L (.ref a :: S))) := by
  obtain ⟨locs, X, N, e0⟩ := X; subst hp
  obtain ⟨T', X', e', st⟩ := getF X C.1 C.2.2.2.2.2.2.2.1 C.2.2.2.1 (host := "") (Or.inl w) Via.refl e0 (O.get hi) (g := mkF m pc L (.ref a :: S)) rfl rfl (hb C.2.1 hd)
  exact own_st st (g T' ⟨_, X', N, e'⟩)
theorem own_putfield (C : own_Cx p s m meth c Z n0 own nm bytes ml ret) (X : own_St p l e R s m args below meth c n0 T h cells slots) {K n d : String} {idx i kk : Nat} {fs : List (String × String × Value)} {v old : Value} (hd : decode bytes pc = .ok (.putfield idx, 3)) (w : (Jvm.Cond.fieldLink own idx K n d).before a0 Z = true)
    (lay : (Jvm.Cond.lays K K n d).before a0 Z = true ∨ ((Jvm.Cond.laysFinal K K n d).before a0 Z = true ∧ own = K ∧ nm = "<init>")) (wi : (Jvm.Cond.instantiable K kk).before a0 Z = true) (O : own_Ob Z a0 h a K fs) (hi : fs[i]? = some (n, d, old)) (hty : parseFieldDescriptor d = some ty) (hn : narrow ty v = v) (hf : fits ty v = true) (ha : n0 ≤ a) (hp : pc + 3 = pc')
    (g : ∀ T' h', own_St p l e R s m args below meth c n0 T' h' cells slots → Keep h h' [a] → own_Ob Z a0 h' a K (fs.set i (n, d, v)) → own_Go p e below n0 F (T'.setTop (mkF m pc' L S))) : own_Go p e below n0 F (T.setTop (mkF m pc L (v :: .ref a :: S))) := by
  obtain ⟨locs, X, N, e0⟩ := X; subst hp
  obtain ⟨T', h2, X', e', W, st⟩ := putF X C.1 C.2.2.2.2.2.2.2.1 C.2.2.2.1 (host := "") (Or.inl w) Via.refl e0 (O.get hi) O.1 (lay.imp id (fun q => ⟨q.1, q.2.1, C.2.2.2.2.1.trans q.2.2⟩)) wi hty hn hf (g := mkF m pc L (v :: .ref a :: S)) rfl rfl (hb C.2.1 hd)
  exact own_st st (g T' h2 ⟨_, X', Fr.snoc X' N ha, e'⟩ (Keep.of_wr W) (O.put hi W))
theorem own_new (C : own_Cx p s m meth c Z n0 own nm bytes ml ret) (X : own_St p l e R s m args below meth c n0 T h cells slots) {K : String} {idx k : Nat} (hd : decode bytes pc = .ok (.new idx, 3)) (w : (Jvm.Cond.classLink own idx K).before a0 Z = true) (wi : (Jvm.Cond.instantiable K k).before a0 Z = true) (wz : (Jvm.Cond.initialized K).before a0 Z = true)
    (hc : cells + 1 ≤ R.cells) (hs : slots + k ≤ R.slots) (fs : List (String × String × Value)) (hnd : (fs.map (·.1)).Nodup) (hfs : ∀ f ∈ fs, Laid Z a0 K K f.1 f.2.1 ∧ ∃ t, parseFieldDescriptor f.2.1 = some t ∧ defaultValue t = f.2.2) (hp : pc + 3 = pc')
    (g : ∀ T' h' a, a = h.size → own_St p l e R s m args below meth c n0 T' h' (cells + 1) (slots + k) → Keep h h' [] → n0 ≤ a → own_Ob Z a0 h' a K fs → own_Go p e below n0 F (T'.setTop (mkF m pc' L (.ref a :: S)))) : own_Go p e below n0 F (T.setTop (mkF m pc L S)) := by
  have hbig := own_big C X
  obtain ⟨locs, X, N, e0⟩ := X; subst hp
  obtain ⟨T', h2, X', e', E, A, D, -, st⟩ := newO X C.1 C.2.2.2.2.2.2.2.1 C.2.2.2.1 w wi wz e0 (g := mkF m pc L S) rfl (hb C.2.1 hd) hc hs
  refine own_st st (g T' h2 _ rfl ⟨_, X', N, e'⟩ (own_keep_ext E) hbig ⟨A, hnd, fun f hf => ?_⟩)
  obtain ⟨La, t, ht, hdv⟩ := hfs f hf
  exact ⟨hdv ▸ D La ht, La, t, ht⟩
theorem own_objinit (C : own_Cx p s m meth c Z n0 own nm bytes ml ret) (X : own_St p l e R s m args below meth c n0 T h cells slots) {idx : Nat} (hd : decode bytes pc = .ok (.invokespecial idx, 3)) (w1 : (Jvm.Cond.methodLink own idx Lib.objectInit).before a0 Z = true) (w2 : (Jvm.Cond.instanceMethod Lib.objectInit).before a0 Z = true) (w3 : (Jvm.Cond.code Lib.objectInit ⟨#[0xb1]⟩ 1 none).before a0 Z = true)
    (hL : L.size = ml) (hf : 1 ≤ R.frames) (hlo : (S.map fun v => v.category).sum + 12 ≤ R.locals) (hp : pc + 3 = pc')
    (g : ∀ T', own_St p l e R s m args below meth c n0 T' h cells slots → own_Go p e below n0 F (T'.setTop (mkF m pc' L S))) : own_Go p e below n0 F (T.setTop (mkF m pc L (.ref a :: S))) := by
  obtain ⟨locs, X, N, e0⟩ := X; subst hp
  obtain ⟨T', X', e', st⟩ := initO X C.1 C.2.2.2.2.2.2.2.1 C.2.2.2.1 w1 w2 w3 e0 (g := mkF m pc L (.ref a :: S)) rfl (by rw [C.2.2.1]; exact hL) rfl (hb C.2.1 hd) hf (W := (S.map fun v => v.category).sum) (by show 2 * 0 + _ ≤ _; omega) hlo
  exact own_st st (g T' ⟨_, X', N, e'⟩)
/-! calls -/
theorem own_callS (C : own_Cx p s m meth c Z n0 own nm bytes ml ret) (X : own_St p l e R s m args below meth c n0 T h cells slots) {y : MethodName} {by' : ByteArray} {ml' idx : Nat} {rt ret' : Option FieldType} {ps : List FieldType} {rm : Room} {av : List Value} {Qc : Option Value → Heap → Prop} (hd : decode bytes pc = .ok (.invokestatic idx, 3)) (M : own_Met l Z n0 y by' ml' ret' [] rm av.toArray h Qc)
    (w1 : (Jvm.Cond.methodLink own idx y).before a0 Z = true) (w2 : (Jvm.Cond.static y).before a0 Z = true) (w3 : (Jvm.Cond.initialized y.cls).before a0 Z = true) (w4 : (Jvm.Cond.code y by' ml' ret').before a0 Z = true) (hy : y.cls ≠ "java/lang/invoke/MethodHandle" ∧ y.cls ≠ "java/lang/invoke/VarHandle")
    (hde : parseMethodDescriptor y.desc = some ⟨ps, rt⟩) (hps : av.length = ps.length) (hL : L.size = ml) (hf : rm.frames + 1 ≤ R.frames) (hlo : (S.map fun v => v.category).sum + (ml' + 11) + rm.locals ≤ R.locals) (hc : cells + rm.cells ≤ R.cells) (hs : slots + rm.slots ≤ R.slots) {S0 : List Value} (hS : S0 = av.reverse ++ S) (hp : pc + 3 = pc')
    (g : ∀ T' h' v, own_St p l e R s m args below meth c n0 T' h' (cells + rm.cells) (slots + rm.slots) → Qc v h' → own_Go p e below n0 F (T'.setTop (mkF m pc' L (v.toList ++ S)))) : own_Go p e below n0 F (T.setTop (mkF m pc L S0)) := by
  obtain ⟨locs, X, N, e0⟩ := X; subst hp; subst hS
  have hZ := C.2.2.2.2.2.2.2.1
  obtain ⟨v, _, ⟨T2, L2, k2, n2⟩, -, X2, ⟨Lc, hQ, l2, y2, z2⟩, st⟩ := Jvm.LawKit.callS X C.1 (y := y) C.2.2.2.1 (mvT hZ w1) (mvT hZ w2) (mvT hZ w3) (mvT hZ w4) hy (backOf (W := (S.map fun v => v.category).sum) (Q := fun v h L => Qc v h ∧ Fr n0 L) M hZ w4 w3 hf hlo) (g := mkF m pc L (av.reverse ++ S)) rfl (by rw [C.2.2.1]; exact hL) (argsL := av) (rest := S) (lenOf hde hps) rfl (by show 2 * 0 + _ ≤ _; omega) (hb C.2.1 hd) (fun _ _ => ⟨rfl, e0, hc, hs⟩)
  dsimp only [Pt.U, Pt.locs, Pt.cells, Pt.slots] at X2 l2 y2 z2 st hQ
  subst l2 y2 z2
  exact own_st st (g T2 _ v ⟨_, X2, Fr.app N hQ.2, rfl⟩ hQ.1)
theorem own_callInit (C : own_Cx p s m meth c Z n0 own nm bytes ml ret) (X : own_St p l e R s m args below meth c n0 T h cells slots) {y : MethodName} {by' : ByteArray} {ml' idx : Nat} {rt : Option FieldType} {ps : List FieldType} {rm : Room} {av : List Value} {Qc : Option Value → Heap → Prop} (hd : decode bytes pc = .ok (.invokespecial idx, 3)) (M : own_Met l Z n0 y by' ml' none [] rm (.ref a :: av).toArray h Qc) (hy1 : y.name = "<init>")
    (w1 : (Jvm.Cond.methodLink own idx y).before a0 Z = true) (w2 : (Jvm.Cond.instanceMethod y).before a0 Z = true) (w3 : (Jvm.Cond.initialized y.cls).before a0 Z = true) (w4 : (Jvm.Cond.code y by' ml' none).before a0 Z = true) (hy : y.cls ≠ "java/lang/invoke/MethodHandle" ∧ y.cls ≠ "java/lang/invoke/VarHandle")
    (hde : parseMethodDescriptor y.desc = some ⟨ps, rt⟩) (hps : av.length = ps.length) (hL : L.size = ml) (hf : rm.frames + 1 ≤ R.frames) (hlo : (S.map fun v => v.category).sum + (ml' + 11) + rm.locals ≤ R.locals) (hc : cells + rm.cells ≤ R.cells) (hs : slots + rm.slots ≤ R.slots) {S0 : List Value} (hS : S0 = av.reverse ++ .ref a :: S) (hp : pc + 3 = pc')
    (g : ∀ T' h' v, own_St p l e R s m args below meth c n0 T' h' (cells + rm.cells) (slots + rm.slots) → Qc v h' → own_Go p e below n0 F (T'.setTop (mkF m pc' L (v.toList ++ S)))) : own_Go p e below n0 F (T.setTop (mkF m pc L S0)) := by
  obtain ⟨locs, X, N, e0⟩ := X; subst hp; subst hS
  have hZ := C.2.2.2.2.2.2.2.1
  obtain ⟨v, _, ⟨T2, L2, k2, n2⟩, -, X2, ⟨Lc, hQ, l2, y2, z2⟩, st⟩ := X.specialBack C.1 (y := y) hy1 C.2.2.2.1 (mvT hZ w1) (mvT hZ w2) (mvT hZ w4) hy (backOf (W := (S.map fun v => v.category).sum) (Q := fun v h L => Qc v h ∧ Fr n0 L) M hZ w4 w3 hf hlo) (g := mkF m pc L (av.reverse ++ .ref a :: S)) rfl (by rw [C.2.2.1]; exact hL) (Steps.refl _) (a := a) (argsL := av) (rest := S) (lenOf hde hps) rfl (by show 2 * 0 + _ ≤ _; omega) (hb C.2.1 hd) (fun _ _ => ⟨rfl, e0, hc, hs⟩)
  dsimp only [Pt.U, Pt.locs, Pt.cells, Pt.slots] at X2 l2 y2 z2 st hQ
  subst l2 y2 z2
  exact own_st (fun t k => st.trans k) (g T2 _ v ⟨_, X2, Fr.app N hQ.2, rfl⟩ hQ.1)
theorem own_callV (C : own_Cx p s m meth c Z n0 own nm bytes ml ret) (X : own_St p l e R s m args below meth c n0 T h cells slots) {y : MethodName} {by' : ByteArray} {ml' idx : Nat} {rt ret' : Option FieldType} {ps : List FieldType} {rm : Room} {av : List Value} {Qc : Option Value → Heap → Prop} (hd : decode bytes pc = .ok (.invokevirtual idx, 3)) (M : own_Met l Z n0 y by' ml' ret' [] rm (.ref a :: av).toArray h Qc)
    (E : Exa Z h a y.cls) (w1 : (Jvm.Cond.methodLink own idx y).before a0 Z = true) (wd : (Jvm.Cond.declares y).before a0 Z = true) (ws : (Jvm.Cond.selects y.cls y y).before a0 Z = true) (w2 : (Jvm.Cond.instanceMethod y).before a0 Z = true) (w3 : (Jvm.Cond.initialized y.cls).before a0 Z = true) (w4 : (Jvm.Cond.code y by' ml' ret').before a0 Z = true) (hy : y.cls ≠ "java/lang/invoke/MethodHandle" ∧ y.cls ≠ "java/lang/invoke/VarHandle")
    (hde : parseMethodDescriptor y.desc = some ⟨ps, rt⟩) (hps : av.length = ps.length) (hL : L.size = ml) (hf : rm.frames + 1 ≤ R.frames) (hlo : (S.map fun v => v.category).sum + (ml' + 11) + rm.locals ≤ R.locals) (hc : cells + rm.cells ≤ R.cells) (hs : slots + rm.slots ≤ R.slots) {S0 : List Value} (hS : S0 = av.reverse ++ .ref a :: S) (hp : pc + 3 = pc')
    (g : ∀ T' h' v, own_St p l e R s m args below meth c n0 T' h' (cells + rm.cells) (slots + rm.slots) → Qc v h' → own_Go p e below n0 F (T'.setTop (mkF m pc' L (v.toList ++ S)))) : own_Go p e below n0 F (T.setTop (mkF m pc L S0)) := by
  obtain ⟨locs, X, N, e0⟩ := X; subst hp; subst hS
  have hZ := C.2.2.2.2.2.2.2.1
  obtain ⟨cq, kq, qa, qb, qc⟩ := isOf hZ e0 E
  obtain ⟨v, _, ⟨T2, L2, k2, n2⟩, -, X2, ⟨Lc, hQ, l2, y2, z2⟩, st⟩ := X.virtualBack C.1 (y := y) (z := y) C.2.2.2.1 (mvT hZ w1) (mvT hZ wd) (notFace_of_selects (args := #[]) (mvT hZ ws)) (mvT hZ ws) (mvT hZ w2) hy (backOf (W := (S.map fun v => v.category).sum) (Q := fun v h L => Qc v h ∧ Fr n0 L) M hZ w4 w3 hf hlo) qa qc (g := mkF m pc L (av.reverse ++ .ref a :: S)) rfl (by rw [C.2.2.1]; exact hL) (Steps.refl _) (argsL := av) (rest := S) (lenOf hde hps) rfl (by show 2 * 0 + _ ≤ _; omega) (hb C.2.1 hd) (fun _ _ => ⟨rfl, e0, hc, hs⟩)
  dsimp only [Pt.U, Pt.locs, Pt.cells, Pt.slots] at X2 l2 y2 z2 st hQ
  subst l2 y2 z2
  exact own_st (fun t k => st.trans k) (g T2 _ v ⟨_, X2, Fr.app N hQ.2, rfl⟩ hQ.1)
/-- a private method selects itself (turned from the worked claim gauge-weight) -/
theorem own_selP {s : State} {args : Array Value} {n : Nat} {y : MethodName} (hy : y.cls ≠ "java/lang/invoke/MethodHandle" ∧ y.cls ≠ "java/lang/invoke/VarHandle") (hins : (Jvm.Cond.instantiable y.cls n).before args s = true) (hpriv : (Jvm.Cond.privateMethod y).before args s = true) (hinst : (Jvm.Cond.instanceMethod y).before args s = true) :
    (Jvm.Cond.selects y.cls y y).before args s = true := by
  obtain ⟨c, k, hc, hk, -, hniab, -, -⟩ := Cond.instantiable_spec hins
  have hni : k.isInterface = false := (Bool.or_eq_false_iff.mp hniab).1
  obtain ⟨mk, methM, hnamed, hmethM, -, -⟩ := Cond.instanceMethod_spec hinst
  have hfound : s.methodFound? y.cls y.name y.desc = some mk := State.methodFound?_of_named hnamed hy
  have hcls : mk.cls = c := Option.some.inj ((findClass_of_methodNamed hnamed).symm.trans hc)
  have hsel : selectMethod {} s.vm c mk = .method mk := selectMethod_private hmethM (Cond.privateMethod_at hpriv mk methM hnamed hmethM)
  simp only [Cond.before, Cond.holds, Cond.value, hc, hfound, hnamed, hsel, hcls, hk]
  simp; exact hni
theorem own_callP (C : own_Cx p s m meth c Z n0 own nm bytes ml ret) (X : own_St p l e R s m args below meth c n0 T h cells slots) {y : MethodName} {by' : ByteArray} {ml' idx : Nat} {rt ret' : Option FieldType} {ps : List FieldType} {rm : Room} {av : List Value} {Qc : Option Value → Heap → Prop} (hd : decode bytes pc = .ok (.invokevirtual idx, 3)) (M : own_Met l Z n0 y by' ml' ret' [] rm (.ref a :: av).toArray h Qc)
    (E : Exa Z h a y.cls) (w1 : (Jvm.Cond.methodLink own idx y).before a0 Z = true) {kk : Nat} (wi : (Jvm.Cond.instantiable y.cls kk).before a0 Z = true) (wp : (Jvm.Cond.privateMethod y).before a0 Z = true) (w2 : (Jvm.Cond.instanceMethod y).before a0 Z = true) (w3 : (Jvm.Cond.initialized y.cls).before a0 Z = true) (w4 : (Jvm.Cond.code y by' ml' ret').before a0 Z = true) (hy : y.cls ≠ "java/lang/invoke/MethodHandle" ∧ y.cls ≠ "java/lang/invoke/VarHandle")
    (hde : parseMethodDescriptor y.desc = some ⟨ps, rt⟩) (hps : av.length = ps.length) (hL : L.size = ml) (hf : rm.frames + 1 ≤ R.frames) (hlo : (S.map fun v => v.category).sum + (ml' + 11) + rm.locals ≤ R.locals) (hc : cells + rm.cells ≤ R.cells) (hs : slots + rm.slots ≤ R.slots) {S0 : List Value} (hS : S0 = av.reverse ++ .ref a :: S) (hp : pc + 3 = pc')
    (g : ∀ T' h' v, own_St p l e R s m args below meth c n0 T' h' (cells + rm.cells) (slots + rm.slots) → Qc v h' → own_Go p e below n0 F (T'.setTop (mkF m pc' L (v.toList ++ S)))) : own_Go p e below n0 F (T.setTop (mkF m pc L S0)) := by
  obtain ⟨locs, X, N, e0⟩ := X; subst hp; subst hS
  have hZ := C.2.2.2.2.2.2.2.1
  obtain ⟨cq, q1, q2⟩ := E.cell
  obtain ⟨v, _, ⟨T2, L2, k2, n2⟩, -, X2, ⟨Lc, hQ, l2, y2, z2⟩, st⟩ := X.privateBack C.1 (y := y) C.2.2.2.1 (mvT hZ w1) (mvT hZ w2) (mvT hZ (own_selP hy wi wp w2)) (Cond.privateMethod_at (mvP hZ wp (args := #[]))) (mvT hZ w4) hy (backOf (W := (S.map fun v => v.category).sum) (Q := fun v h L => Qc v h ∧ Fr n0 L) M hZ w4 w3 hf hlo) (g := mkF m pc L (av.reverse ++ .ref a :: S)) rfl (by rw [C.2.2.1]; exact hL) (Steps.refl _) (a := a) (by rw [e0]; exact q1) q2 (argsL := av) (rest := S) (lenOf hde hps) rfl (by show 2 * 0 + _ ≤ _; omega) (hb C.2.1 hd) (fun _ _ => ⟨rfl, e0, hc, hs⟩)
  dsimp only [Pt.U, Pt.locs, Pt.cells, Pt.slots] at X2 l2 y2 z2 st hQ
  subst l2 y2 z2
  exact own_st (fun t k => st.trans k) (g T2 _ v ⟨_, X2, Fr.app N hQ.2, rfl⟩ hQ.1)
end OwnKitTwo
end Jvm.Pilot.@@N@@
namespace Jvm.Pilot.@@N@@
open Jvm Jvm.ClassFile Sem Op Lib Jvm.Free Jvm.Stand Jvm.LawKit Jvm.RoadKit Bundle Jvm.Pilot.@@N@@.Jvm.D
section OwnKitThree
theorem own_i2b2 (x : Int32) : x.toInt8.toInt32.toInt8.toInt32 = x.toInt8.toInt32 := by simp
theorem own_i2bn {y t : Int32} (e : y.toInt8.toInt32 = t) : t.toInt8.toInt32 = t := by rw [← e]; simp
theorem own_ibd {Z : State} {h : Heap} {a : Addr} {ty : FieldType} {xs : List Int32} {i : Nat} {v : Int32} (A : own_IA Z h a ty xs) (e : xs[i]? = some v) : i < 2 ^ 31 := by
  obtain ⟨c, -, -, hl, -⟩ := A; exact Nat.lt_trans (own_lt_of e) hl
theorem own_ixadd {o d : Int32} {k n : Nat} (hk : o.toInt = (k : Int)) (hd : d.toInt = (n : Int)) (hb : k + n < 2 ^ 31) : (o + d).toInt = ((k + n : Nat) : Int) := by
  have := c_iadd o d; have := rng32 (o + d); omega
theorem own_orI (a b : Int32) (k : Nat) (hk : k ≤ 31) (P : Int) (hP : P = (2 ^ k : Nat)) (h1 : a.toInt % P = 0) (h2 : 0 ≤ b.toInt) (h3 : b.toInt < P) (h4 : 0 ≤ a.toInt) (h5 : a.toInt + b.toInt < 2147483648) : (a ||| b).toInt = a.toInt + b.toInt := by
  have := c_or a b k hk P hP h1 h2 h3; have := rng32 (a ||| b); omega
theorem own_addI (a b : Int32) (h1 : -2147483648 ≤ a.toInt + b.toInt) (h2 : a.toInt + b.toInt < 2147483648) : (a + b).toInt = a.toInt + b.toInt := by
  have := c_iadd a b; have := rng32 (a + b); omega
theorem own_subI (a b : Int32) (h1 : -2147483648 ≤ a.toInt - b.toInt) (h2 : a.toInt - b.toInt < 2147483648) : (a - b).toInt = a.toInt - b.toInt := by
  have := c_isub a b; have := rng32 (a - b); omega
theorem own_ba3 (y : Int32) : (y.toInt8.toInt32 &&& 7).toInt = y.toInt % 8 := by
  have e1 : (y.toInt8.toInt32 &&& 7).toInt = y.toInt8.toInt32.toInt % (2 ^ 3 : Nat) := c_mask _ 7 3 (by decide) (by decide)
  have e2 := c_i2b y
  omega
theorem own_ba4 (y : Int32) : (y.toInt8.toInt32 &&& 15).toInt = y.toInt % 16 := by
  have e1 : (y.toInt8.toInt32 &&& 15).toInt = y.toInt8.toInt32.toInt % (2 ^ 4 : Nat) := c_mask _ 15 4 (by decide) (by decide)
  have e2 := c_i2b y
  omega
theorem own_ba5 (y : Int32) : (y.toInt8.toInt32 &&& 31).toInt = y.toInt % 32 := by
  have e1 : (y.toInt8.toInt32 &&& 31).toInt = y.toInt8.toInt32.toInt % (2 ^ 5 : Nat) := c_mask _ 31 5 (by decide) (by decide)
  have e2 := c_i2b y
  omega
theorem own_ba6 (y : Int32) : (y.toInt8.toInt32 &&& 63).toInt = y.toInt % 64 := by
  have e1 : (y.toInt8.toInt32 &&& 63).toInt = y.toInt8.toInt32.toInt % (2 ^ 6 : Nat) := c_mask _ 63 6 (by decide) (by decide)
  have e2 := c_i2b y
  omega
theorem own_ba7 (y : Int32) : (y.toInt8.toInt32 &&& 127).toInt = y.toInt % 128 := by
  have e1 : (y.toInt8.toInt32 &&& 127).toInt = y.toInt8.toInt32.toInt % (2 ^ 7 : Nat) := c_mask _ 127 7 (by decide) (by decide)
  have e2 := c_i2b y
  omega
theorem own_ba8 (y : Int32) : (y.toInt8.toInt32 &&& 255).toInt = y.toInt % 256 := by
  have e1 : (y.toInt8.toInt32 &&& 255).toInt = y.toInt8.toInt32.toInt % (2 ^ 8 : Nat) := c_mask _ 255 8 (by decide) (by decide)
  have e2 := c_i2b y
  omega
theorem own_cont (q : Int32) : (((128 : Int32) ||| (q &&& 63)).toInt8.toInt32 &&& 63).toInt = q.toInt % 64 := by
  have e1 : (q &&& 63).toInt = q.toInt % (2 ^ 6 : Nat) := c_mask q 63 6 (by decide) (by decide)
  have z : (128 : Int32).toInt = 128 := rfl
  have e2 := own_orI 128 (q &&& 63) 7 (by decide) 128 (by decide) (by decide) (by omega) (by omega) (by decide) (by omega)
  rw [own_ba6, e2]; omega
theorem own_acc (x y : Int32) (h1 : 0 ≤ x.toInt) (h2 : x.toInt * 64 + 63 < 2147483648) (h3 : 0 ≤ y.toInt) (h4 : y.toInt < 64) : ((x <<< (6 &&& 31)) ||| y).toInt = x.toInt * 64 + y.toInt := by
  have e1 := c_ishl x 6 6 (by decide)
  have e2 := rng32 (x <<< (6 &&& 31))
  have e3 : (x <<< (6 &&& 31)).toInt = x.toInt * 64 := by omega
  rw [own_orI (x <<< (6 &&& 31)) y 6 (by decide) 64 (by decide) (by omega) h3 h4 (by omega) (by omega), e3]
end OwnKitThree
end Jvm.Pilot.@@N@@
namespace Jvm.Pilot.@@N@@
open Jvm Jvm.ClassFile Sem Op Lib Jvm.Free Jvm.Stand Jvm.LawKit Jvm.RoadKit Bundle Jvm.Pilot.@@N@@.Jvm.D
def own_mi (x y : Int32) : Int32 := if y < x then y else x
def own_lv (l : Int32) (m a b : Int64) : Int64 := if 0 < l then (if l = 1 then a &&& m else if l = 2 then (a ||| b) &&& m else m) else 0
def own_ng (x y : Int64) : Int32 := if x &&& (y ^^^ -1) = 0 then 1 else 0
def own_cmp (x y : Int64) : Int32 := if x < y then -1 else if x = y then 0 else 1
def own_sub (x y : Int64) : Prop := x &&& y = x
theorem own_bits {x y : Int64} (h : ∀ i, i < 64 → x.toBitVec.getLsbD i = y.toBitVec.getLsbD i) : x = y := Int64.toBitVec_inj.mp (BitVec.eq_of_getLsbD_eq h)
theorem own_bitsE {x y : Int64} (h : x = y) (i : Nat) : x.toBitVec.getLsbD i = y.toBitVec.getLsbD i := by rw [h]
theorem own_b0 (i : Nat) : (0 : Int64).toBitVec.getLsbD i = false := by show BitVec.getLsbD (0#64) i = false; simp
theorem own_b1 (i : Nat) (h : i < 64) : (-1 : Int64).toBitVec.getLsbD i = true := by
  have e : (-1 : Int64).toBitVec = BitVec.allOnes 64 := by decide
  rw [e, BitVec.getLsbD_allOnes]; simp [h]
theorem own_ngs (x y : Int64) : x &&& (y ^^^ -1) = 0 ↔ own_sub x y := by
  constructor
  · intro h
    refine own_bits fun i hi => ?_
    have := own_bitsE h i
    rw [own_b0] at this
    simp only [Int64.toBitVec_and, Int64.toBitVec_xor, BitVec.getLsbD_and, BitVec.getLsbD_xor, own_b1 i hi] at this ⊢
    revert this; cases x.toBitVec.getLsbD i <;> cases y.toBitVec.getLsbD i <;> simp
  · intro h
    refine own_bits fun i hi => ?_
    have := own_bitsE h i
    rw [own_b0]
    simp only [Int64.toBitVec_and, Int64.toBitVec_xor, BitVec.getLsbD_and, BitVec.getLsbD_xor, own_b1 i hi] at this ⊢
    revert this; cases x.toBitVec.getLsbD i <;> cases y.toBitVec.getLsbD i <;> simp
theorem own_fm (k z m : Int64) (h : own_sub k m) : (k ||| (z &&& (m ^^^ -1))) &&& m = k := by
  refine own_bits fun i hi => ?_
  have := own_bitsE h i
  simp only [Int64.toBitVec_and, Int64.toBitVec_or, Int64.toBitVec_xor, BitVec.getLsbD_and, BitVec.getLsbD_or, BitVec.getLsbD_xor, own_b1 i hi] at this ⊢
  revert this; cases k.toBitVec.getLsbD i <;> cases m.toBitVec.getLsbD i <;> cases z.toBitVec.getLsbD i <;> simp
theorem own_subr (x : Int64) : own_sub x x := by rw [own_sub]; exact own_bits fun i hi => by simp
theorem own_subt {x y z : Int64} (h1 : own_sub x y) (h2 : own_sub y z) : own_sub x z := by
  refine own_bits fun i hi => ?_
  have e1 := own_bitsE h1 i
  have e2 := own_bitsE h2 i
  simp only [Int64.toBitVec_and, BitVec.getLsbD_and] at e1 e2 ⊢
  revert e1 e2; cases x.toBitVec.getLsbD i <;> cases y.toBitVec.getLsbD i <;> cases z.toBitVec.getLsbD i <;> simp
theorem own_suba {x y : Int64} (h1 : own_sub x y) (h2 : own_sub y x) : x = y := by
  refine own_bits fun i hi => ?_
  have e1 := own_bitsE h1 i
  have e2 := own_bitsE h2 i
  simp only [Int64.toBitVec_and, BitVec.getLsbD_and] at e1 e2 ⊢
  revert e1 e2; cases x.toBitVec.getLsbD i <;> cases y.toBitVec.getLsbD i <;> simp
theorem own_sub0 (x : Int64) : own_sub 0 x := own_bits fun i hi => by rw [Int64.toBitVec_and, BitVec.getLsbD_and, own_b0]; rfl
theorem own_subm (a m : Int64) : own_sub (a &&& m) m := own_bits fun i hi => by
  simp only [Int64.toBitVec_and, BitVec.getLsbD_and]; cases a.toBitVec.getLsbD i <;> cases m.toBitVec.getLsbD i <;> rfl
theorem own_subo (a b m : Int64) : own_sub (a &&& m) ((a ||| b) &&& m) := own_bits fun i hi => by
  simp only [Int64.toBitVec_and, Int64.toBitVec_or, BitVec.getLsbD_and, BitVec.getLsbD_or]; cases a.toBitVec.getLsbD i <;> cases m.toBitVec.getLsbD i <;> cases b.toBitVec.getLsbD i <;> rfl
/-- the levels as naturals 0 to 3 -/
theorem own_lvI (l : Int32) (n : Nat) (h : l.toInt = (n : Int)) (m a b : Int64) : own_lv l m a b = if n = 0 then 0 else if n = 1 then a &&& m else if n = 2 then (a ||| b) &&& m else m := by
  have q0 : (0 < l) ↔ 0 < n := by rw [Int32.lt_iff_toInt_lt, h]; show (0 : Int) < n ↔ _; omega
  have q1 : (l = 1) ↔ n = 1 := by rw [← Int32.toInt_inj, h]; show (n : Int) = 1 ↔ _; omega
  have q2 : (l = 2) ↔ n = 2 := by rw [← Int32.toInt_inj, h]; show (n : Int) = 2 ↔ _; omega
  rw [own_lv]
  by_cases p0 : n = 0
  · rw [if_neg (fun r => by have := q0.mp r; omega), if_pos p0]
  · rw [if_pos (q0.mpr (by omega)), if_neg p0]
    by_cases p1 : n = 1
    · rw [if_pos (q1.mpr p1), if_pos p1]
    · rw [if_neg (fun r => p1 (q1.mp r)), if_neg p1]
      by_cases p2 : n = 2
      · rw [if_pos (q2.mpr p2), if_pos p2]
      · rw [if_neg (fun r => p2 (q2.mp r)), if_neg p2]
theorem own_lvm (l l' : Int32) (n n' : Nat) (h : l.toInt = (n : Int)) (h' : l'.toInt = (n' : Int)) (hn : n ≤ n') (m a b : Int64) : own_sub (own_lv l m a b) (own_lv l' m a b) ∧ own_sub (own_lv l m a b) m := by
  rw [own_lvI l n h, own_lvI l' n' h']
  have s1 := own_subm a m
  have s2 := own_subm (a ||| b) m
  have s3 := own_subo a b m
  have s0 := own_sub0
  by_cases p0 : n = 0
  · rw [if_pos p0]; exact ⟨s0 _, s0 _⟩
  · rw [if_neg p0, if_neg (show ¬ n' = 0 by omega)]
    by_cases p1 : n = 1
    · rw [if_pos p1]; refine ⟨?_, s1⟩
      split
      · exact own_subr _
      · split
        · exact s3
        · exact s1
    · rw [if_neg p1, if_neg (show ¬ n' = 1 by omega)]
      by_cases p2 : n = 2
      · rw [if_pos p2]; refine ⟨?_, s2⟩
        split
        · exact own_subr _
        · exact s2
      · rw [if_neg p2, if_neg (show ¬ n' = 2 by omega)]; exact ⟨own_subr _, own_subr _⟩
theorem own_miI (x y : Int32) : (own_mi x y).toInt = if y.toInt < x.toInt then y.toInt else x.toInt := by
  rw [own_mi]; by_cases q : y < x
  · rw [if_pos q, if_pos (Int32.lt_iff_toInt_lt.mp q)]
  · rw [if_neg q, if_neg (fun r => q (Int32.lt_iff_toInt_lt.mpr r))]
theorem own_mi3 (l : Int32) (n : Nat) (h : l.toInt = (n : Int)) : ∃ k : Nat, (own_mi l 3).toInt = (k : Int) ∧ k = if 3 < n then 3 else n := by
  have e := own_miI l 3
  have z : (3 : Int32).toInt = 3 := rfl
  rw [z, h] at e
  refine ⟨if 3 < n then 3 else n, ?_, rfl⟩
  rw [e]; split <;> split <;> omega
theorem own_bit (x : Int32) : ∃ n : Nat, (x &&& 1).toInt = (n : Int) ∧ n ≤ 1 := by
  have e : (x &&& 1).toInt = x.toInt % (2 ^ 1 : Nat) := c_mask x 1 1 (by decide) (by decide)
  exact ⟨(x &&& 1).toInt.toNat, by omega, by omega⟩
theorem own_chain (m a b : Int64) (l0 l1 l2 l3 t1 t2 t3 x0 x1 x2 x3 : Int32) (e0 : x0 &&& 1 = l0) (e1 : l0 + (x1 &&& 1) = l1) (e2 : l1 + (x2 &&& 1) = l2) (e3 : l2 + (x3 &&& 1) = l3) :
    own_sub (own_lv (own_mi l0 3) m a b) (own_lv (own_mi l1 3) m a b) ∧ own_sub (own_lv (own_mi l1 3) m a b) (own_lv (own_mi l2 3) m a b) ∧ own_sub (own_lv (own_mi l2 3) m a b) (own_lv (own_mi l3 3) m a b) ∧ own_sub (own_lv (own_mi l3 3) m a b) m := by
  obtain ⟨b0, f0, g0⟩ := own_bit x0
  obtain ⟨b1, f1, g1⟩ := own_bit x1
  obtain ⟨b2, f2, g2⟩ := own_bit x2
  obtain ⟨b3, f3, g3⟩ := own_bit x3
  rw [e0] at f0
  have h1 : l1.toInt = ((b0 + b1 : Nat) : Int) := by rw [← e1, own_addI _ _ (by omega) (by omega)]; omega
  have h2 : l2.toInt = ((b0 + b1 + b2 : Nat) : Int) := by rw [← e2, own_addI _ _ (by omega) (by omega)]; omega
  have h3 : l3.toInt = ((b0 + b1 + b2 + b3 : Nat) : Int) := by rw [← e3, own_addI _ _ (by omega) (by omega)]; omega
  obtain ⟨k0, p0, r0⟩ := own_mi3 l0 _ f0
  obtain ⟨k1, p1, r1⟩ := own_mi3 l1 _ h1
  obtain ⟨k2, p2, r2⟩ := own_mi3 l2 _ h2
  obtain ⟨k3, p3, r3⟩ := own_mi3 l3 _ h3
  have m1 : k0 ≤ k1 := by subst r0 r1; split <;> split <;> omega
  have m2 : k1 ≤ k2 := by subst r2 r1; split <;> split <;> omega
  have m3 : k2 ≤ k3 := by subst r2 r3; split <;> split <;> omega
  exact ⟨(own_lvm _ _ k0 k1 p0 p1 m1 m a b).1, (own_lvm _ _ k1 k2 p1 p2 m2 m a b).1, (own_lvm _ _ k2 k3 p2 p3 m3 m a b).1, (own_lvm _ _ k3 k3 p3 p3 (Nat.le_refl _) m a b).2⟩
/-- a subset isn't greater, unsigned -/
theorem own_uns (x : Int64) : (x + -9223372036854775808).toInt = (x.toBitVec.toNat : Int) - 9223372036854775808 := by
  have e := c_ladd x (-9223372036854775808)
  have r := rng64 (x + -9223372036854775808)
  have z : (-9223372036854775808 : Int64).toInt = -9223372036854775808 := by decide
  have t : x.toInt = x.toBitVec.toInt := rfl
  have l := x.toBitVec.isLt
  rw [BitVec.toInt_eq_toNat_cond] at t
  split at t <;> omega
theorem own_cu (x y : Int64) (h : own_sub x y) : own_cmp (x + -9223372036854775808) (y + -9223372036854775808) < 0 ∨ own_cmp (x + -9223372036854775808) (y + -9223372036854775808) = 0 := by
  have hle : x.toBitVec.toNat ≤ y.toBitVec.toNat := by
    have e : (x &&& y).toBitVec.toNat = x.toBitVec.toNat := by rw [show x &&& y = x from h]
    rw [Int64.toBitVec_and, BitVec.toNat_and] at e
    rw [← e]; exact Nat.and_le_right
  have e1 := own_uns x
  have e2 := own_uns y
  rw [own_cmp]
  by_cases q : x + -9223372036854775808 < y + -9223372036854775808
  · rw [if_pos q]; exact Or.inl (by decide)
  · rw [if_neg q, if_pos]
    · exact Or.inr rfl
    · apply Int64.toInt_inj.mp; rw [Int64.lt_iff_toInt_lt] at q; omega
theorem own_ng1 {x y : Int64} (h : own_sub x y) : own_ng x y = 1 := by rw [own_ng, if_pos ((own_ngs x y).mpr h)]
theorem own_ngE {x y : Int64} (h : own_sub y x) : own_ng x y = if x = y then 1 else 0 := by
  rw [own_ng]; by_cases q : x = y
  · rw [if_pos q, if_pos]; rw [own_ngs, q]; exact own_subr _
  · rw [if_neg q, if_neg]; rw [own_ngs]; exact fun r => q (own_suba r h)
theorem own_fin0 (k0 k1 k2 k3 : Int64) (s01 : own_sub k0 k1) (s12 : own_sub k1 k2) (s23 : own_sub k2 k3) : (if k1 = k0 then (if k2 = k0 then (if k3 = k0 then (4 : Int32) else (3 : Int32)) else (2 : Int32)) else (1 : Int32)) = own_ng k0 k0 + own_ng k1 k0 + own_ng k2 k0 + own_ng k3 k0 := by
  have s02 := own_subt s01 s12
  have s13 := own_subt s12 s23
  have s03 := own_subt s02 s23
  have r0 := own_subr k0
  have r1 := own_subr k1
  have r2 := own_subr k2
  have r3 := own_subr k3
  rw [own_ng1 r0, own_ngE s01, own_ngE s02, own_ngE s03]
  by_cases q1 : k1 = k0
  · by_cases q2 : k2 = k0
    · by_cases q3 : k3 = k0
      · simp only [q1, q2, q3, if_true, if_false]; decide
      · simp only [q1, q2, q3, if_true, if_false]; decide
    · have q3 : ¬ k3 = k0 := fun r => q2 (own_suba (by rw [← r]; exact s23) s02)
      simp only [q1, q2, q3, if_true, if_false]; decide
  · have q2 : ¬ k2 = k0 := fun r => q1 (own_suba (by rw [← r]; exact s12) s01)
    have q3 : ¬ k3 = k0 := fun r => q1 (own_suba (by rw [← r]; exact s13) s01)
    simp only [q1, q2, q3, if_true, if_false]; decide
theorem own_fin1 (k0 k1 k2 k3 : Int64) (s01 : own_sub k0 k1) (s12 : own_sub k1 k2) (s23 : own_sub k2 k3) : (if k2 = k1 then (if k3 = k1 then (4 : Int32) else (3 : Int32)) else (2 : Int32)) = own_ng k0 k1 + own_ng k1 k1 + own_ng k2 k1 + own_ng k3 k1 := by
  have s02 := own_subt s01 s12
  have s13 := own_subt s12 s23
  have s03 := own_subt s02 s23
  have r0 := own_subr k0
  have r1 := own_subr k1
  have r2 := own_subr k2
  have r3 := own_subr k3
  rw [own_ng1 s01, own_ng1 r1, own_ngE s12, own_ngE s13]
  by_cases q2 : k2 = k1
  · by_cases q3 : k3 = k1
    · simp only [q2, q3, if_true, if_false]; decide
    · simp only [q2, q3, if_true, if_false]; decide
  · have q3 : ¬ k3 = k1 := fun r => q2 (own_suba (by rw [← r]; exact s23) s12)
    simp only [q2, q3, if_true, if_false]; decide
theorem own_fin2 (k0 k1 k2 k3 : Int64) (s01 : own_sub k0 k1) (s12 : own_sub k1 k2) (s23 : own_sub k2 k3) : (if k3 = k2 then (4 : Int32) else (3 : Int32)) = own_ng k0 k2 + own_ng k1 k2 + own_ng k2 k2 + own_ng k3 k2 := by
  have s02 := own_subt s01 s12
  have s13 := own_subt s12 s23
  have s03 := own_subt s02 s23
  have r0 := own_subr k0
  have r1 := own_subr k1
  have r2 := own_subr k2
  have r3 := own_subr k3
  rw [own_ng1 s02, own_ng1 s12, own_ng1 r2, own_ngE s23]
  by_cases q3 : k3 = k2
  · simp only [q3, if_true, if_false]; decide
  · simp only [q3, if_true, if_false]; decide
theorem own_fin3 (k0 k1 k2 k3 : Int64) (s01 : own_sub k0 k1) (s12 : own_sub k1 k2) (s23 : own_sub k2 k3) : (4 : Int32) = own_ng k0 k3 + own_ng k1 k3 + own_ng k2 k3 + own_ng k3 k3 := by
  have s02 := own_subt s01 s12
  have s13 := own_subt s12 s23
  have s03 := own_subt s02 s23
  have r0 := own_subr k0
  have r1 := own_subr k1
  have r2 := own_subr k2
  have r3 := own_subr k3
  rw [own_ng1 s03, own_ng1 s13, own_ng1 s23, own_ng1 r3]
  decide
theorem own_ef_min (x : Int32) (y : Int32) (m : MethodId) : entryFrame m #[(.int x), (.int y)] 2 = mkF m 0 #[.val (.int x), .val (.int y)] [] := by first | (simp [entryFrame, mkF, argsToLocals, Value.category]; done) | rfl
theorem own_d1_0 : decode jdk_29_method_69_code 0 = .ok (.iload_n 0, 1) := by decide +kernel
theorem own_d1_1 : decode jdk_29_method_69_code 1 = .ok (.iload_n 1, 1) := by decide +kernel
theorem own_d1_2 : decode jdk_29_method_69_code 2 = .ok (.if_icmp .gt 7, 3) := by decide +kernel
theorem own_d1_9 : decode jdk_29_method_69_code 9 = .ok (.iload_n 1, 1) := by decide +kernel
theorem own_d1_10 : decode jdk_29_method_69_code 10 = .ok (.ireturn, 1) := by decide +kernel
theorem own_d1_5 : decode jdk_29_method_69_code 5 = .ok (.iload_n 0, 1) := by decide +kernel
theorem own_d1_6 : decode jdk_29_method_69_code 6 = .ok (.goto 4, 3) := by decide +kernel
set_option maxRecDepth 65536 in
set_option maxHeartbeats 40000000 in
theorem own_m_min (l : Launch) (Z : State) (a0 : Array Value) (hw : ∀ d ∈ tables_1, d.before a0 Z = true) (x : Int32) (y : Int32) (h0 : Heap) (n0 : Nat) (hn0 : n0 ≤ h0.size)  : own_Met l Z n0 (⟨"java/lang/Math", "min", "(II)I"⟩ : MethodName) jdk_29_method_69_code 2 (some .int) [] ({ frames := 0, cells := 0, slots := 0, locals := 0 } : Room) #[(.int x), (.int y)] h0 (fun v h => v = some (.int (own_mi x y)) ∧ h0 = h) := by
  refine own_body (Jvm.Free.JP.mathPlain rfl (by decide +kernel)) hn0 (own_ef_min x y) ?_
  intro p e s m below meth c T C X
  refine own_iloadN C X own_d1_0 rfl (pc' := 1) rfl ?_
  refine own_iloadN C X own_d1_1 rfl (pc' := 2) rfl ?_
  refine own_icmp_gt C X own_d1_2 (pcT := 9) (pc' := 5) (by decide) (by decide) rfl (fun hc2 => ?_) (fun hc2 => ?_)
  · refine own_iloadN C X own_d1_9 rfl (pc' := 10) rfl ?_
    exact own_ireturn C X own_d1_10 (Nat.le_of_ble_eq_true rfl) (Nat.le_of_ble_eq_true rfl) (⟨by rw [own_mi]; simp only [hc2, if_true, if_false], rfl⟩)
  · refine own_iloadN C X own_d1_5 rfl (pc' := 6) rfl ?_
    refine own_goto C X own_d1_6 (pc' := 10) (by decide) (by decide) ?_
    exact own_ireturn C X own_d1_10 (Nat.le_of_ble_eq_true rfl) (Nat.le_of_ble_eq_true rfl) (⟨by rw [own_mi]; simp only [hc2, if_true, if_false], rfl⟩)
theorem own_pn_com_example_twin64_twin64_search_BlockTableEndOfRunPinLaw : plainName "com/example/twin64/twin64/search/BlockTableEndOfRunPinLaw" = true := by first | (simp [plainName, overriddenIn]; done) | decide +kernel
theorem own_ef_lv (n : Int32) (m_ : Int64) (a : Int64) (b : Int64) (m : MethodId) : entryFrame m #[(.int n), (.long m_), (.long a), (.long b)] 7 = mkF m 0 #[.val (.int n), .val (.long m_), .second, .val (.long a), .second, .val (.long b), .second] [] := by first | (simp [entryFrame, mkF, argsToLocals, Value.category]; done) | rfl
theorem own_d2_0 : decode method_2_code 0 = .ok (.iload_n 0, 1) := by decide +kernel
theorem own_d2_1 : decode method_2_code 1 = .ok (.ifCond .gt 5, 3) := by decide +kernel
theorem own_d2_6 : decode method_2_code 6 = .ok (.iload_n 0, 1) := by decide +kernel
theorem own_d2_7 : decode method_2_code 7 = .ok (.iconst 1, 1) := by decide +kernel
theorem own_d2_8 : decode method_2_code 8 = .ok (.if_icmp .ne 7, 3) := by decide +kernel
theorem own_d2_15 : decode method_2_code 15 = .ok (.iload_n 0, 1) := by decide +kernel
theorem own_d2_16 : decode method_2_code 16 = .ok (.iconst 2, 1) := by decide +kernel
theorem own_d2_17 : decode method_2_code 17 = .ok (.if_icmp .ne 10, 3) := by decide +kernel
theorem own_d2_27 : decode method_2_code 27 = .ok (.lload_n 1, 1) := by decide +kernel
theorem own_d2_28 : decode method_2_code 28 = .ok (.lreturn, 1) := by decide +kernel
theorem own_d2_20 : decode method_2_code 20 = .ok (.lload_n 3, 1) := by decide +kernel
theorem own_d2_21 : decode method_2_code 21 = .ok (.lload 5, 2) := by decide +kernel
theorem own_d2_23 : decode method_2_code 23 = .ok (.lor, 1) := by decide +kernel
theorem own_d2_24 : decode method_2_code 24 = .ok (.lload_n 1, 1) := by decide +kernel
theorem own_d2_25 : decode method_2_code 25 = .ok (.land, 1) := by decide +kernel
theorem own_d2_26 : decode method_2_code 26 = .ok (.lreturn, 1) := by decide +kernel
theorem own_d2_11 : decode method_2_code 11 = .ok (.lload_n 3, 1) := by decide +kernel
theorem own_d2_12 : decode method_2_code 12 = .ok (.lload_n 1, 1) := by decide +kernel
theorem own_d2_13 : decode method_2_code 13 = .ok (.land, 1) := by decide +kernel
theorem own_d2_14 : decode method_2_code 14 = .ok (.lreturn, 1) := by decide +kernel
theorem own_d2_4 : decode method_2_code 4 = .ok (.lconst 0, 1) := by decide +kernel
theorem own_d2_5 : decode method_2_code 5 = .ok (.lreturn, 1) := by decide +kernel
set_option maxRecDepth 65536 in
set_option maxHeartbeats 40000000 in
theorem own_m_lv (l : Launch) (Z : State) (a0 : Array Value) (hw : ∀ d ∈ tables_1, d.before a0 Z = true) (n : Int32) (m_ : Int64) (a : Int64) (b : Int64) (h0 : Heap) (n0 : Nat) (hn0 : n0 ≤ h0.size)  : own_Met l Z n0 (⟨"com/example/twin64/twin64/search/BlockTableEndOfRunPinLaw", "level", "(IJJJ)J"⟩ : MethodName) method_2_code 7 (some .long) [] ({ frames := 0, cells := 0, slots := 0, locals := 0 } : Room) #[(.int n), (.long m_), (.long a), (.long b)] h0 (fun v h => v = some (.long (own_lv n m_ a b)) ∧ h0 = h) := by
  refine own_body (plainFor_of_name own_pn_com_example_twin64_twin64_search_BlockTableEndOfRunPinLaw) hn0 (own_ef_lv n m_ a b) ?_
  intro p e s m below meth c T C X
  refine own_iloadN C X own_d2_0 rfl (pc' := 1) rfl ?_
  refine own_if_gt C X own_d2_1 (pcT := 6) (pc' := 4) (by decide) (by decide) rfl (fun hc1 => ?_) (fun hc1 => ?_)
  · refine own_iloadN C X own_d2_6 rfl (pc' := 7) rfl ?_
    refine own_iconst C X own_d2_7 (v := 1) (by decide) (pc' := 8) rfl ?_
    refine own_icmp_ne C X own_d2_8 (pcT := 15) (pc' := 11) (by decide) (by decide) rfl (fun hc8 => ?_) (fun hc8 => ?_)
    · refine own_iloadN C X own_d2_15 rfl (pc' := 16) rfl ?_
      refine own_iconst C X own_d2_16 (v := 2) (by decide) (pc' := 17) rfl ?_
      refine own_icmp_ne C X own_d2_17 (pcT := 27) (pc' := 20) (by decide) (by decide) rfl (fun hc17 => ?_) (fun hc17 => ?_)
      · refine own_lloadN C X own_d2_27 rfl (pc' := 28) rfl ?_
        exact own_lreturn C X own_d2_28 (Nat.le_of_ble_eq_true rfl) (Nat.le_of_ble_eq_true rfl) (⟨by rw [own_lv, if_pos hc1, if_neg hc8, if_neg hc17], rfl⟩)
      · refine own_lloadN C X own_d2_20 rfl (pc' := 21) rfl ?_
        refine own_lload C X own_d2_21 rfl (pc' := 23) rfl ?_
        refine own_lor C X own_d2_23 rfl (pc' := 24) rfl ?_
        refine own_lloadN C X own_d2_24 rfl (pc' := 25) rfl ?_
        refine own_land C X own_d2_25 rfl (pc' := 26) rfl ?_
        exact own_lreturn C X own_d2_26 (Nat.le_of_ble_eq_true rfl) (Nat.le_of_ble_eq_true rfl) (⟨by rw [own_lv, if_pos hc1, if_neg hc8, if_pos hc17], rfl⟩)
    · refine own_lloadN C X own_d2_11 rfl (pc' := 12) rfl ?_
      refine own_lloadN C X own_d2_12 rfl (pc' := 13) rfl ?_
      refine own_land C X own_d2_13 rfl (pc' := 14) rfl ?_
      exact own_lreturn C X own_d2_14 (Nat.le_of_ble_eq_true rfl) (Nat.le_of_ble_eq_true rfl) (⟨by rw [own_lv, if_pos hc1, if_pos hc8], rfl⟩)
  · refine own_lconst C X own_d2_4 (v := 0) (by decide) (pc' := 5) rfl ?_
    exact own_lreturn C X own_d2_5 (Nat.le_of_ble_eq_true rfl) (Nat.le_of_ble_eq_true rfl) (⟨by rw [own_lv, if_neg hc1], rfl⟩)
theorem own_ef_ng (a : Int64) (b : Int64) (m : MethodId) : entryFrame m #[(.long a), (.long b)] 4 = mkF m 0 #[.val (.long a), .second, .val (.long b), .second] [] := by first | (simp [entryFrame, mkF, argsToLocals, Value.category]; done) | rfl
theorem own_d8_0 : decode method_3_code 0 = .ok (.lload_n 0, 1) := by decide +kernel
theorem own_d8_1 : decode method_3_code 1 = .ok (.lload_n 2, 1) := by decide +kernel
theorem own_d8_2 : decode method_3_code 2 = .ok (.ldc2_w 7, 3) := by decide +kernel
theorem own_d8_5 : decode method_3_code 5 = .ok (.lxor, 1) := by decide +kernel
theorem own_d8_6 : decode method_3_code 6 = .ok (.land, 1) := by decide +kernel
theorem own_d8_7 : decode method_3_code 7 = .ok (.lconst 0, 1) := by decide +kernel
theorem own_d8_8 : decode method_3_code 8 = .ok (.lcmp, 1) := by decide +kernel
theorem own_d8_9 : decode method_3_code 9 = .ok (.ifCond .ne 7, 3) := by decide +kernel
theorem own_d8_16 : decode method_3_code 16 = .ok (.iconst 0, 1) := by decide +kernel
theorem own_d8_17 : decode method_3_code 17 = .ok (.ireturn, 1) := by decide +kernel
theorem own_d8_12 : decode method_3_code 12 = .ok (.iconst 1, 1) := by decide +kernel
theorem own_d8_13 : decode method_3_code 13 = .ok (.goto 4, 3) := by decide +kernel
set_option maxRecDepth 65536 in
set_option maxHeartbeats 40000000 in
theorem own_m_ng (l : Launch) (Z : State) (a0 : Array Value) (hw : ∀ d ∈ tables_1, d.before a0 Z = true) (a : Int64) (b : Int64) (h0 : Heap) (n0 : Nat) (hn0 : n0 ≤ h0.size)  : own_Met l Z n0 (⟨"com/example/twin64/twin64/search/BlockTableEndOfRunPinLaw", "notGreater", "(JJ)I"⟩ : MethodName) method_3_code 4 (some .int) [] ({ frames := 0, cells := 0, slots := 0, locals := 0 } : Room) #[(.long a), (.long b)] h0 (fun v h => v = some (.int (own_ng a b)) ∧ h0 = h) := by
  refine own_body (plainFor_of_name own_pn_com_example_twin64_twin64_search_BlockTableEndOfRunPinLaw) hn0 (own_ef_ng a b) ?_
  intro p e s m below meth c T C X
  refine own_lloadN C X own_d8_0 rfl (pc' := 1) rfl ?_
  refine own_lloadN C X own_d8_1 rfl (pc' := 2) rfl ?_
  refine own_ldc2L C X own_d8_2 (hw _ (List.mem_of_getElem? (i := 9) rfl)) (pc' := 5) rfl ?_
  refine own_lxor C X own_d8_5 rfl (pc' := 6) rfl ?_
  refine own_land C X own_d8_6 rfl (pc' := 7) rfl ?_
  refine own_lconst C X own_d8_7 (v := 0) (by decide) (pc' := 8) rfl ?_
  refine own_lcmp_ne C X own_d8_8 own_d8_9 (pcT := 16) (pc' := 12) (by decide) (by decide) rfl (fun hc8 => ?_) (fun hc8 => ?_)
  · refine own_iconst C X own_d8_16 (v := 0) (by decide) (pc' := 17) rfl ?_
    exact own_ireturn C X own_d8_17 (Nat.le_of_ble_eq_true rfl) (Nat.le_of_ble_eq_true rfl) (⟨by rw [own_ng, if_neg hc8], rfl⟩)
  · refine own_iconst C X own_d8_12 (v := 1) (by decide) (pc' := 13) rfl ?_
    refine own_goto C X own_d8_13 (pc' := 17) (by decide) (by decide) ?_
    exact own_ireturn C X own_d8_17 (Nat.le_of_ble_eq_true rfl) (Nat.le_of_ble_eq_true rfl) (⟨by rw [own_ng, if_pos hc8], rfl⟩)
theorem own_pn_java_lang_Long : plainName "java/lang/Long" = true := by first | (simp [plainName, overriddenIn]; done) | decide +kernel
theorem own_ef_cmp (a : Int64) (b : Int64) (m : MethodId) : entryFrame m #[(.long a), (.long b)] 4 = mkF m 0 #[.val (.long a), .second, .val (.long b), .second] [] := by first | (simp [entryFrame, mkF, argsToLocals, Value.category]; done) | rfl
theorem own_d7_0 : decode jdk_35_method_42_code 0 = .ok (.lload_n 0, 1) := by decide +kernel
theorem own_d7_1 : decode jdk_35_method_42_code 1 = .ok (.lload_n 2, 1) := by decide +kernel
theorem own_d7_2 : decode jdk_35_method_42_code 2 = .ok (.lcmp, 1) := by decide +kernel
theorem own_d7_3 : decode jdk_35_method_42_code 3 = .ok (.ifCond .ge 7, 3) := by decide +kernel
theorem own_d7_10 : decode jdk_35_method_42_code 10 = .ok (.lload_n 0, 1) := by decide +kernel
theorem own_d7_11 : decode jdk_35_method_42_code 11 = .ok (.lload_n 2, 1) := by decide +kernel
theorem own_d7_12 : decode jdk_35_method_42_code 12 = .ok (.lcmp, 1) := by decide +kernel
theorem own_d7_13 : decode jdk_35_method_42_code 13 = .ok (.ifCond .ne 7, 3) := by decide +kernel
theorem own_d7_20 : decode jdk_35_method_42_code 20 = .ok (.iconst 1, 1) := by decide +kernel
theorem own_d7_21 : decode jdk_35_method_42_code 21 = .ok (.ireturn, 1) := by decide +kernel
theorem own_d7_16 : decode jdk_35_method_42_code 16 = .ok (.iconst 0, 1) := by decide +kernel
theorem own_d7_17 : decode jdk_35_method_42_code 17 = .ok (.goto 4, 3) := by decide +kernel
theorem own_d7_6 : decode jdk_35_method_42_code 6 = .ok (.iconst (-1), 1) := by decide +kernel
theorem own_d7_7 : decode jdk_35_method_42_code 7 = .ok (.goto 14, 3) := by decide +kernel
set_option maxRecDepth 65536 in
set_option maxHeartbeats 40000000 in
theorem own_m_cmp (l : Launch) (Z : State) (a0 : Array Value) (hw : ∀ d ∈ tables_1, d.before a0 Z = true) (a : Int64) (b : Int64) (h0 : Heap) (n0 : Nat) (hn0 : n0 ≤ h0.size)  : own_Met l Z n0 (⟨"java/lang/Long", "compare", "(JJ)I"⟩ : MethodName) jdk_35_method_42_code 4 (some .int) [] ({ frames := 0, cells := 0, slots := 0, locals := 0 } : Room) #[(.long a), (.long b)] h0 (fun v h => v = some (.int (own_cmp a b)) ∧ h0 = h) := by
  refine own_body (plainFor_of_name own_pn_java_lang_Long) hn0 (own_ef_cmp a b) ?_
  intro p e s m below meth c T C X
  refine own_lloadN C X own_d7_0 rfl (pc' := 1) rfl ?_
  refine own_lloadN C X own_d7_1 rfl (pc' := 2) rfl ?_
  refine own_lcmp_ge C X own_d7_2 own_d7_3 (pcT := 10) (pc' := 6) (by decide) (by decide) rfl (fun hc2 => ?_) (fun hc2 => ?_)
  · refine own_lloadN C X own_d7_10 rfl (pc' := 11) rfl ?_
    refine own_lloadN C X own_d7_11 rfl (pc' := 12) rfl ?_
    refine own_lcmp_ne C X own_d7_12 own_d7_13 (pcT := 20) (pc' := 16) (by decide) (by decide) rfl (fun hc12 => ?_) (fun hc12 => ?_)
    · refine own_iconst C X own_d7_20 (v := 1) (by decide) (pc' := 21) rfl ?_
      exact own_ireturn C X own_d7_21 (Nat.le_of_ble_eq_true rfl) (Nat.le_of_ble_eq_true rfl) (⟨by rw [own_cmp, if_neg hc2, if_neg hc12], rfl⟩)
    · refine own_iconst C X own_d7_16 (v := 0) (by decide) (pc' := 17) rfl ?_
      refine own_goto C X own_d7_17 (pc' := 21) (by decide) (by decide) ?_
      exact own_ireturn C X own_d7_21 (Nat.le_of_ble_eq_true rfl) (Nat.le_of_ble_eq_true rfl) (⟨by rw [own_cmp, if_neg hc2, if_pos hc12], rfl⟩)
  · refine own_iconst C X own_d7_6 (v := -1) (by decide) (pc' := 7) rfl ?_
    refine own_goto C X own_d7_7 (pc' := 21) (by decide) (by decide) ?_
    exact own_ireturn C X own_d7_21 (Nat.le_of_ble_eq_true rfl) (Nat.le_of_ble_eq_true rfl) (⟨by rw [own_cmp, if_pos hc2], rfl⟩)
theorem own_ef_cu (a : Int64) (b : Int64) (m : MethodId) : entryFrame m #[(.long a), (.long b)] 4 = mkF m 0 #[.val (.long a), .second, .val (.long b), .second] [] := by first | (simp [entryFrame, mkF, argsToLocals, Value.category]; done) | rfl
theorem own_d6_0 : decode jdk_35_method_43_code 0 = .ok (.lload_n 0, 1) := by decide +kernel
theorem own_d6_1 : decode jdk_35_method_43_code 1 = .ok (.ldc2_w 168, 3) := by decide +kernel
theorem own_d6_4 : decode jdk_35_method_43_code 4 = .ok (.ladd, 1) := by decide +kernel
theorem own_d6_5 : decode jdk_35_method_43_code 5 = .ok (.lload_n 2, 1) := by decide +kernel
theorem own_d6_6 : decode jdk_35_method_43_code 6 = .ok (.ldc2_w 168, 3) := by decide +kernel
theorem own_d6_9 : decode jdk_35_method_43_code 9 = .ok (.ladd, 1) := by decide +kernel
theorem own_pd_2751 : parseMethodDescriptor "(JJ)I" = some ⟨[.long, .long], some .int⟩ := by decide +kernel
theorem own_d6_10 : decode jdk_35_method_43_code 10 = .ok (.invokestatic 302, 3) := by decide +kernel
theorem own_d6_13 : decode jdk_35_method_43_code 13 = .ok (.ireturn, 1) := by decide +kernel
set_option maxRecDepth 65536 in
set_option maxHeartbeats 40000000 in
theorem own_m_cu (l : Launch) (Z : State) (a0 : Array Value) (hw : ∀ d ∈ tables_1, d.before a0 Z = true) (a : Int64) (b : Int64) (h0 : Heap) (n0 : Nat) (hn0 : n0 ≤ h0.size)  : own_Met l Z n0 (⟨"java/lang/Long", "compareUnsigned", "(JJ)I"⟩ : MethodName) jdk_35_method_43_code 4 (some .int) [] ({ frames := 1, cells := 0, slots := 0, locals := 20 } : Room) #[(.long a), (.long b)] h0 (fun v h => v = some (.int (own_cmp (a + (-9223372036854775808 : Int64)) (b + (-9223372036854775808 : Int64)))) ∧ h0 = h) := by
  refine own_body (plainFor_of_name own_pn_java_lang_Long) hn0 (own_ef_cu a b) ?_
  intro p e s m below meth c T C X
  refine own_lloadN C X own_d6_0 rfl (pc' := 1) rfl ?_
  refine own_ldc2L C X own_d6_1 (hw _ (List.mem_of_getElem? (i := 34) rfl)) (pc' := 4) rfl ?_
  refine own_ladd C X own_d6_4 rfl (pc' := 5) rfl ?_
  refine own_lloadN C X own_d6_5 rfl (pc' := 6) rfl ?_
  refine own_ldc2L C X own_d6_6 (hw _ (List.mem_of_getElem? (i := 34) rfl)) (pc' := 9) rfl ?_
  refine own_ladd C X own_d6_9 rfl (pc' := 10) rfl ?_
  refine own_callS C X own_d6_10 (own_m_cmp l Z a0 hw (a + (-9223372036854775808 : Int64)) (b + (-9223372036854775808 : Int64)) _ n0 (own_big C X)) (hw _ (List.mem_of_getElem? (i := 35) rfl)) (hw _ (List.mem_of_getElem? (i := 36) rfl)) (hw _ (List.mem_of_getElem? (i := 32) rfl)) (hw _ (List.mem_of_getElem? (i := 37) rfl)) (by decide) own_pd_2751 rfl rfl (Nat.le_of_ble_eq_true rfl) (Nat.le_of_ble_eq_true rfl) (Nat.le_of_ble_eq_true rfl) (Nat.le_of_ble_eq_true rfl) (av := [(.long (a + (-9223372036854775808 : Int64))), (.long (b + (-9223372036854775808 : Int64)))]) (S := []) rfl (pc' := 13) rfl ?_
  intro T h v X hQ
  obtain ⟨rfl, rfl⟩ := hQ
  show own_Go p e below n0 (own_Fin ({ frames := 1, cells := 0, slots := 0, locals := 20 } : Room) s (fun v h => v = some (.int (own_cmp (a + (-9223372036854775808 : Int64)) (b + (-9223372036854775808 : Int64)))) ∧ h0 = h)) (T.setTop (mkF m 13 #[.val (.long a), .second, .val (.long b), .second] [(.int (own_cmp (a + (-9223372036854775808 : Int64)) (b + (-9223372036854775808 : Int64))))]))
  exact own_ireturn C X own_d6_13 (Nat.le_of_ble_eq_true rfl) (Nat.le_of_ble_eq_true rfl) (⟨rfl, rfl⟩)
theorem own_pn_com_example_twin64_twin64_search_BlockTable : plainName "com/example/twin64/twin64/search/BlockTable" = true := by first | (simp [plainName, overriddenIn]; done) | decide +kernel
theorem own_ef_fip1 (o : Addr) (m : MethodId) : entryFrame m #[(.ref o), (.int (1 : Int32))] 3 = mkF m 0 #[.val (.ref o), .val (.int (1 : Int32)), .unset] [] := by first | (simp [entryFrame, mkF, argsToLocals, Value.category]; done) | rfl
theorem own_d5_0 : decode prog_33_method_10_code 0 = .ok (.aload_n 0, 1) := by decide +kernel
theorem own_d5_1 : decode prog_33_method_10_code 1 = .ok (.getfield 60, 3) := by decide +kernel
theorem own_d5_4 : decode prog_33_method_10_code 4 = .ok (.iload_n 1, 1) := by decide +kernel
theorem own_d5_5 : decode prog_33_method_10_code 5 = .ok (.iconst 1, 1) := by decide +kernel
theorem own_d5_6 : decode prog_33_method_10_code 6 = .ok (.isub, 1) := by decide +kernel
theorem own_d5_7 : decode prog_33_method_10_code 7 = .ok (.laload, 1) := by decide +kernel
theorem own_d5_8 : decode prog_33_method_10_code 8 = .ok (.aload_n 0, 1) := by decide +kernel
theorem own_d5_9 : decode prog_33_method_10_code 9 = .ok (.getfield 17, 3) := by decide +kernel
theorem own_d5_12 : decode prog_33_method_10_code 12 = .ok (.land, 1) := by decide +kernel
theorem own_d5_13 : decode prog_33_method_10_code 13 = .ok (.aload_n 0, 1) := by decide +kernel
theorem own_d5_14 : decode prog_33_method_10_code 14 = .ok (.getfield 60, 3) := by decide +kernel
theorem own_d5_17 : decode prog_33_method_10_code 17 = .ok (.iload_n 1, 1) := by decide +kernel
theorem own_d5_18 : decode prog_33_method_10_code 18 = .ok (.laload, 1) := by decide +kernel
theorem own_d5_19 : decode prog_33_method_10_code 19 = .ok (.aload_n 0, 1) := by decide +kernel
theorem own_d5_20 : decode prog_33_method_10_code 20 = .ok (.getfield 17, 3) := by decide +kernel
theorem own_d5_23 : decode prog_33_method_10_code 23 = .ok (.land, 1) := by decide +kernel
theorem own_d5_24 : decode prog_33_method_10_code 24 = .ok (.invokestatic 81, 3) := by decide +kernel
theorem own_d5_27 : decode prog_33_method_10_code 27 = .ok (.istore_n 2, 1) := by decide +kernel
theorem own_d5_28 : decode prog_33_method_10_code 28 = .ok (.iload_n 2, 1) := by decide +kernel
theorem own_d5_29 : decode prog_33_method_10_code 29 = .ok (.ifCond .lt 24, 3) := by decide +kernel
theorem own_d5_53 : decode prog_33_method_10_code 53 = .ok (.iconst 1, 1) := by decide +kernel
theorem own_d5_54 : decode prog_33_method_10_code 54 = .ok (.goto 4, 3) := by decide +kernel
theorem own_d5_58 : decode prog_33_method_10_code 58 = .ok (.ireturn, 1) := by decide +kernel
theorem own_d5_32 : decode prog_33_method_10_code 32 = .ok (.iload_n 2, 1) := by decide +kernel
theorem own_d5_33 : decode prog_33_method_10_code 33 = .ok (.ifCond .ne 24, 3) := by decide +kernel
theorem own_d5_36 : decode prog_33_method_10_code 36 = .ok (.aload_n 0, 1) := by decide +kernel
theorem own_d5_37 : decode prog_33_method_10_code 37 = .ok (.getfield 63, 3) := by decide +kernel
theorem own_d5_40 : decode prog_33_method_10_code 40 = .ok (.iload_n 1, 1) := by decide +kernel
theorem own_d5_41 : decode prog_33_method_10_code 41 = .ok (.iconst 1, 1) := by decide +kernel
theorem own_d5_42 : decode prog_33_method_10_code 42 = .ok (.isub, 1) := by decide +kernel
theorem own_d5_43 : decode prog_33_method_10_code 43 = .ok (.iaload, 1) := by decide +kernel
theorem own_d5_44 : decode prog_33_method_10_code 44 = .ok (.aload_n 0, 1) := by decide +kernel
theorem own_d5_45 : decode prog_33_method_10_code 45 = .ok (.getfield 63, 3) := by decide +kernel
theorem own_d5_48 : decode prog_33_method_10_code 48 = .ok (.iload_n 1, 1) := by decide +kernel
theorem own_d5_49 : decode prog_33_method_10_code 49 = .ok (.iaload, 1) := by decide +kernel
theorem own_d5_50 : decode prog_33_method_10_code 50 = .ok (.if_icmp .ge 7, 3) := by decide +kernel
set_option maxRecDepth 65536 in
set_option maxHeartbeats 40000000 in
theorem own_m_fip1 (l : Launch) (Z : State) (a0 : Array Value) (hw : ∀ d ∈ tables_1, d.before a0 Z = true) (o : Addr) (h0 : Heap) (n0 : Nat) (hn0 : n0 ≤ h0.size) (mk : Int64) (sb od : Addr) (f0 f1 f2 f3 : Int64) (O : own_Ob Z a0 h0 o "com/example/twin64/twin64/search/BlockTable" [("keyMask", "J", (.long mk)), ("sorted", "[J", (.ref sb)), ("indices", "[I", (.ref od))]) (A : own_JA Z h0 sb [f0, f1, f2, f3]) (B : own_IA Z h0 od .int [(0 : Int32), (1 : Int32), (2 : Int32), (3 : Int32)]) (hsub : own_sub (f0 &&& mk) (f1 &&& mk)) : own_Met l Z n0 (⟨"com/example/twin64/twin64/search/BlockTable", "followsItsPredecessor", "(I)Z"⟩ : MethodName) prog_33_method_10_code 3 (some .boolean) [] ({ frames := 2, cells := 0, slots := 0, locals := 40 } : Room) #[(.ref o), (.int (1 : Int32))] h0 (fun v h => v = some (.int 1) ∧ h0 = h) := by
  refine own_body (plainFor_of_name own_pn_com_example_twin64_twin64_search_BlockTable) hn0 (own_ef_fip1 o) ?_
  intro p e s m below meth c T C X
  refine own_aloadN C X own_d5_0 rfl rfl (pc' := 1) rfl ?_
  refine own_getfield C X own_d5_1 (hw _ (List.mem_of_getElem? (i := 22) rfl)) O (i := 1) rfl (pc' := 4) rfl ?_
  intro T X
  refine own_iloadN C X own_d5_4 rfl (pc' := 5) rfl ?_
  refine own_iconst C X own_d5_5 (v := 1) (by decide) (pc' := 6) rfl ?_
  refine own_isub C X own_d5_6 (z := 0) (by decide) (pc' := 7) rfl ?_
  refine own_laload C X own_d5_7 A (by decide) (i := 0) rfl (pc' := 8) rfl ?_
  refine own_aloadN C X own_d5_8 rfl rfl (pc' := 9) rfl ?_
  refine own_getfield C X own_d5_9 (hw _ (List.mem_of_getElem? (i := 20) rfl)) O (i := 0) rfl (pc' := 12) rfl ?_
  intro T X
  refine own_land C X own_d5_12 rfl (pc' := 13) rfl ?_
  refine own_aloadN C X own_d5_13 rfl rfl (pc' := 14) rfl ?_
  refine own_getfield C X own_d5_14 (hw _ (List.mem_of_getElem? (i := 22) rfl)) O (i := 1) rfl (pc' := 17) rfl ?_
  intro T X
  refine own_iloadN C X own_d5_17 rfl (pc' := 18) rfl ?_
  refine own_laload C X own_d5_18 A (by decide) (i := 1) rfl (pc' := 19) rfl ?_
  refine own_aloadN C X own_d5_19 rfl rfl (pc' := 20) rfl ?_
  refine own_getfield C X own_d5_20 (hw _ (List.mem_of_getElem? (i := 20) rfl)) O (i := 0) rfl (pc' := 23) rfl ?_
  intro T X
  refine own_land C X own_d5_23 rfl (pc' := 24) rfl ?_
  refine own_callS C X own_d5_24 (own_m_cu l Z a0 hw (f0 &&& mk) (f1 &&& mk) _ n0 (own_big C X)) (hw _ (List.mem_of_getElem? (i := 30) rfl)) (hw _ (List.mem_of_getElem? (i := 31) rfl)) (hw _ (List.mem_of_getElem? (i := 32) rfl)) (hw _ (List.mem_of_getElem? (i := 33) rfl)) (by decide) own_pd_2751 rfl rfl (Nat.le_of_ble_eq_true rfl) (Nat.le_of_ble_eq_true rfl) (Nat.le_of_ble_eq_true rfl) (Nat.le_of_ble_eq_true rfl) (av := [(.long (f0 &&& mk)), (.long (f1 &&& mk))]) (S := []) rfl (pc' := 27) rfl ?_
  intro T h v X hQ
  obtain ⟨rfl, rfl⟩ := hQ
  show own_Go p e below n0 (own_Fin ({ frames := 2, cells := 0, slots := 0, locals := 40 } : Room) s (fun v h => v = some (.int 1) ∧ h0 = h)) (T.setTop (mkF m 27 #[.val (.ref o), .val (.int (1 : Int32)), .unset] [(.int (own_cmp ((f0 &&& mk) + (-9223372036854775808 : Int64)) ((f1 &&& mk) + (-9223372036854775808 : Int64))))]))
  obtain ⟨cv, e_cv⟩ : ∃ z : Int32, (own_cmp ((f0 &&& mk) + (-9223372036854775808 : Int64)) ((f1 &&& mk) + (-9223372036854775808 : Int64))) = z := ⟨_, rfl⟩
  rw [e_cv]
  show own_Go p e below n0 (own_Fin ({ frames := 2, cells := 0, slots := 0, locals := 40 } : Room) s (fun v h => v = some (.int 1) ∧ h0 = h)) (T.setTop (mkF m 27 #[.val (.ref o), .val (.int (1 : Int32)), .unset] [(.int cv)]))
  have hcv := own_cu _ _ hsub
  rw [e_cv] at hcv
  refine own_istoreN C X own_d5_27 (L' := #[.val (.ref o), .val (.int (1 : Int32)), .val (.int cv)]) rfl (pc' := 28) rfl ?_
  refine own_iloadN C X own_d5_28 rfl (pc' := 29) rfl ?_
  refine own_if_lt C X own_d5_29 (pcT := 53) (pc' := 32) (by decide) (by decide) rfl (fun hc29 => ?_) (fun hc29 => ?_)
  · refine own_iconst C X own_d5_53 (v := 1) (by decide) (pc' := 54) rfl ?_
    refine own_goto C X own_d5_54 (pc' := 58) (by decide) (by decide) ?_
    exact own_ireturn_z C X own_d5_58 (Nat.le_of_ble_eq_true rfl) (Nat.le_of_ble_eq_true rfl) (⟨rfl, rfl⟩)
  · refine own_iloadN C X own_d5_32 rfl (pc' := 33) rfl ?_
    refine own_if_ne C X own_d5_33 (pcT := 57) (pc' := 36) (by decide) (by decide) rfl (fun hc33 => absurd hc33 (not_not_intro (hcv.resolve_left hc29))) (fun hc33 => ?_)
    refine own_aloadN C X own_d5_36 rfl rfl (pc' := 37) rfl ?_
    refine own_getfield C X own_d5_37 (hw _ (List.mem_of_getElem? (i := 24) rfl)) O (i := 2) rfl (pc' := 40) rfl ?_
    intro T X
    refine own_iloadN C X own_d5_40 rfl (pc' := 41) rfl ?_
    refine own_iconst C X own_d5_41 (v := 1) (by decide) (pc' := 42) rfl ?_
    refine own_isub C X own_d5_42 (z := 0) (by decide) (pc' := 43) rfl ?_
    refine own_iaload C X own_d5_43 B (by decide) (i := 0) rfl (pc' := 44) rfl ?_
    refine own_aloadN C X own_d5_44 rfl rfl (pc' := 45) rfl ?_
    refine own_getfield C X own_d5_45 (hw _ (List.mem_of_getElem? (i := 24) rfl)) O (i := 2) rfl (pc' := 48) rfl ?_
    intro T X
    refine own_iloadN C X own_d5_48 rfl (pc' := 49) rfl ?_
    refine own_iaload C X own_d5_49 B (by decide) (i := 1) rfl (pc' := 50) rfl ?_
    refine own_icmp_ge C X own_d5_50 (pcT := 57) (pc' := 53) (by decide) (by decide) rfl (fun hc50 => absurd hc50 (by decide)) (fun hc50 => ?_)
    refine own_iconst C X own_d5_53 (v := 1) (by decide) (pc' := 54) rfl ?_
    refine own_goto C X own_d5_54 (pc' := 58) (by decide) (by decide) ?_
    exact own_ireturn_z C X own_d5_58 (Nat.le_of_ble_eq_true rfl) (Nat.le_of_ble_eq_true rfl) (⟨rfl, rfl⟩)
theorem own_ef_fip2 (o : Addr) (m : MethodId) : entryFrame m #[(.ref o), (.int (2 : Int32))] 3 = mkF m 0 #[.val (.ref o), .val (.int (2 : Int32)), .unset] [] := by first | (simp [entryFrame, mkF, argsToLocals, Value.category]; done) | rfl
set_option maxRecDepth 65536 in
set_option maxHeartbeats 40000000 in
theorem own_m_fip2 (l : Launch) (Z : State) (a0 : Array Value) (hw : ∀ d ∈ tables_1, d.before a0 Z = true) (o : Addr) (h0 : Heap) (n0 : Nat) (hn0 : n0 ≤ h0.size) (mk : Int64) (sb od : Addr) (f0 f1 f2 f3 : Int64) (O : own_Ob Z a0 h0 o "com/example/twin64/twin64/search/BlockTable" [("keyMask", "J", (.long mk)), ("sorted", "[J", (.ref sb)), ("indices", "[I", (.ref od))]) (A : own_JA Z h0 sb [f0, f1, f2, f3]) (B : own_IA Z h0 od .int [(0 : Int32), (1 : Int32), (2 : Int32), (3 : Int32)]) (hsub : own_sub (f1 &&& mk) (f2 &&& mk)) : own_Met l Z n0 (⟨"com/example/twin64/twin64/search/BlockTable", "followsItsPredecessor", "(I)Z"⟩ : MethodName) prog_33_method_10_code 3 (some .boolean) [] ({ frames := 2, cells := 0, slots := 0, locals := 40 } : Room) #[(.ref o), (.int (2 : Int32))] h0 (fun v h => v = some (.int 1) ∧ h0 = h) := by
  refine own_body (plainFor_of_name own_pn_com_example_twin64_twin64_search_BlockTable) hn0 (own_ef_fip2 o) ?_
  intro p e s m below meth c T C X
  refine own_aloadN C X own_d5_0 rfl rfl (pc' := 1) rfl ?_
  refine own_getfield C X own_d5_1 (hw _ (List.mem_of_getElem? (i := 22) rfl)) O (i := 1) rfl (pc' := 4) rfl ?_
  intro T X
  refine own_iloadN C X own_d5_4 rfl (pc' := 5) rfl ?_
  refine own_iconst C X own_d5_5 (v := 1) (by decide) (pc' := 6) rfl ?_
  refine own_isub C X own_d5_6 (z := 1) (by decide) (pc' := 7) rfl ?_
  refine own_laload C X own_d5_7 A (by decide) (i := 1) rfl (pc' := 8) rfl ?_
  refine own_aloadN C X own_d5_8 rfl rfl (pc' := 9) rfl ?_
  refine own_getfield C X own_d5_9 (hw _ (List.mem_of_getElem? (i := 20) rfl)) O (i := 0) rfl (pc' := 12) rfl ?_
  intro T X
  refine own_land C X own_d5_12 rfl (pc' := 13) rfl ?_
  refine own_aloadN C X own_d5_13 rfl rfl (pc' := 14) rfl ?_
  refine own_getfield C X own_d5_14 (hw _ (List.mem_of_getElem? (i := 22) rfl)) O (i := 1) rfl (pc' := 17) rfl ?_
  intro T X
  refine own_iloadN C X own_d5_17 rfl (pc' := 18) rfl ?_
  refine own_laload C X own_d5_18 A (by decide) (i := 2) rfl (pc' := 19) rfl ?_
  refine own_aloadN C X own_d5_19 rfl rfl (pc' := 20) rfl ?_
  refine own_getfield C X own_d5_20 (hw _ (List.mem_of_getElem? (i := 20) rfl)) O (i := 0) rfl (pc' := 23) rfl ?_
  intro T X
  refine own_land C X own_d5_23 rfl (pc' := 24) rfl ?_
  refine own_callS C X own_d5_24 (own_m_cu l Z a0 hw (f1 &&& mk) (f2 &&& mk) _ n0 (own_big C X)) (hw _ (List.mem_of_getElem? (i := 30) rfl)) (hw _ (List.mem_of_getElem? (i := 31) rfl)) (hw _ (List.mem_of_getElem? (i := 32) rfl)) (hw _ (List.mem_of_getElem? (i := 33) rfl)) (by decide) own_pd_2751 rfl rfl (Nat.le_of_ble_eq_true rfl) (Nat.le_of_ble_eq_true rfl) (Nat.le_of_ble_eq_true rfl) (Nat.le_of_ble_eq_true rfl) (av := [(.long (f1 &&& mk)), (.long (f2 &&& mk))]) (S := []) rfl (pc' := 27) rfl ?_
  intro T h v X hQ
  obtain ⟨rfl, rfl⟩ := hQ
  show own_Go p e below n0 (own_Fin ({ frames := 2, cells := 0, slots := 0, locals := 40 } : Room) s (fun v h => v = some (.int 1) ∧ h0 = h)) (T.setTop (mkF m 27 #[.val (.ref o), .val (.int (2 : Int32)), .unset] [(.int (own_cmp ((f1 &&& mk) + (-9223372036854775808 : Int64)) ((f2 &&& mk) + (-9223372036854775808 : Int64))))]))
  obtain ⟨cv, e_cv⟩ : ∃ z : Int32, (own_cmp ((f1 &&& mk) + (-9223372036854775808 : Int64)) ((f2 &&& mk) + (-9223372036854775808 : Int64))) = z := ⟨_, rfl⟩
  rw [e_cv]
  show own_Go p e below n0 (own_Fin ({ frames := 2, cells := 0, slots := 0, locals := 40 } : Room) s (fun v h => v = some (.int 1) ∧ h0 = h)) (T.setTop (mkF m 27 #[.val (.ref o), .val (.int (2 : Int32)), .unset] [(.int cv)]))
  have hcv := own_cu _ _ hsub
  rw [e_cv] at hcv
  refine own_istoreN C X own_d5_27 (L' := #[.val (.ref o), .val (.int (2 : Int32)), .val (.int cv)]) rfl (pc' := 28) rfl ?_
  refine own_iloadN C X own_d5_28 rfl (pc' := 29) rfl ?_
  refine own_if_lt C X own_d5_29 (pcT := 53) (pc' := 32) (by decide) (by decide) rfl (fun hc29 => ?_) (fun hc29 => ?_)
  · refine own_iconst C X own_d5_53 (v := 1) (by decide) (pc' := 54) rfl ?_
    refine own_goto C X own_d5_54 (pc' := 58) (by decide) (by decide) ?_
    exact own_ireturn_z C X own_d5_58 (Nat.le_of_ble_eq_true rfl) (Nat.le_of_ble_eq_true rfl) (⟨rfl, rfl⟩)
  · refine own_iloadN C X own_d5_32 rfl (pc' := 33) rfl ?_
    refine own_if_ne C X own_d5_33 (pcT := 57) (pc' := 36) (by decide) (by decide) rfl (fun hc33 => absurd hc33 (not_not_intro (hcv.resolve_left hc29))) (fun hc33 => ?_)
    refine own_aloadN C X own_d5_36 rfl rfl (pc' := 37) rfl ?_
    refine own_getfield C X own_d5_37 (hw _ (List.mem_of_getElem? (i := 24) rfl)) O (i := 2) rfl (pc' := 40) rfl ?_
    intro T X
    refine own_iloadN C X own_d5_40 rfl (pc' := 41) rfl ?_
    refine own_iconst C X own_d5_41 (v := 1) (by decide) (pc' := 42) rfl ?_
    refine own_isub C X own_d5_42 (z := 1) (by decide) (pc' := 43) rfl ?_
    refine own_iaload C X own_d5_43 B (by decide) (i := 1) rfl (pc' := 44) rfl ?_
    refine own_aloadN C X own_d5_44 rfl rfl (pc' := 45) rfl ?_
    refine own_getfield C X own_d5_45 (hw _ (List.mem_of_getElem? (i := 24) rfl)) O (i := 2) rfl (pc' := 48) rfl ?_
    intro T X
    refine own_iloadN C X own_d5_48 rfl (pc' := 49) rfl ?_
    refine own_iaload C X own_d5_49 B (by decide) (i := 2) rfl (pc' := 50) rfl ?_
    refine own_icmp_ge C X own_d5_50 (pcT := 57) (pc' := 53) (by decide) (by decide) rfl (fun hc50 => absurd hc50 (by decide)) (fun hc50 => ?_)
    refine own_iconst C X own_d5_53 (v := 1) (by decide) (pc' := 54) rfl ?_
    refine own_goto C X own_d5_54 (pc' := 58) (by decide) (by decide) ?_
    exact own_ireturn_z C X own_d5_58 (Nat.le_of_ble_eq_true rfl) (Nat.le_of_ble_eq_true rfl) (⟨rfl, rfl⟩)
theorem own_ef_fip3 (o : Addr) (m : MethodId) : entryFrame m #[(.ref o), (.int (3 : Int32))] 3 = mkF m 0 #[.val (.ref o), .val (.int (3 : Int32)), .unset] [] := by first | (simp [entryFrame, mkF, argsToLocals, Value.category]; done) | rfl
set_option maxRecDepth 65536 in
set_option maxHeartbeats 40000000 in
theorem own_m_fip3 (l : Launch) (Z : State) (a0 : Array Value) (hw : ∀ d ∈ tables_1, d.before a0 Z = true) (o : Addr) (h0 : Heap) (n0 : Nat) (hn0 : n0 ≤ h0.size) (mk : Int64) (sb od : Addr) (f0 f1 f2 f3 : Int64) (O : own_Ob Z a0 h0 o "com/example/twin64/twin64/search/BlockTable" [("keyMask", "J", (.long mk)), ("sorted", "[J", (.ref sb)), ("indices", "[I", (.ref od))]) (A : own_JA Z h0 sb [f0, f1, f2, f3]) (B : own_IA Z h0 od .int [(0 : Int32), (1 : Int32), (2 : Int32), (3 : Int32)]) (hsub : own_sub (f2 &&& mk) (f3 &&& mk)) : own_Met l Z n0 (⟨"com/example/twin64/twin64/search/BlockTable", "followsItsPredecessor", "(I)Z"⟩ : MethodName) prog_33_method_10_code 3 (some .boolean) [] ({ frames := 2, cells := 0, slots := 0, locals := 40 } : Room) #[(.ref o), (.int (3 : Int32))] h0 (fun v h => v = some (.int 1) ∧ h0 = h) := by
  refine own_body (plainFor_of_name own_pn_com_example_twin64_twin64_search_BlockTable) hn0 (own_ef_fip3 o) ?_
  intro p e s m below meth c T C X
  refine own_aloadN C X own_d5_0 rfl rfl (pc' := 1) rfl ?_
  refine own_getfield C X own_d5_1 (hw _ (List.mem_of_getElem? (i := 22) rfl)) O (i := 1) rfl (pc' := 4) rfl ?_
  intro T X
  refine own_iloadN C X own_d5_4 rfl (pc' := 5) rfl ?_
  refine own_iconst C X own_d5_5 (v := 1) (by decide) (pc' := 6) rfl ?_
  refine own_isub C X own_d5_6 (z := 2) (by decide) (pc' := 7) rfl ?_
  refine own_laload C X own_d5_7 A (by decide) (i := 2) rfl (pc' := 8) rfl ?_
  refine own_aloadN C X own_d5_8 rfl rfl (pc' := 9) rfl ?_
  refine own_getfield C X own_d5_9 (hw _ (List.mem_of_getElem? (i := 20) rfl)) O (i := 0) rfl (pc' := 12) rfl ?_
  intro T X
  refine own_land C X own_d5_12 rfl (pc' := 13) rfl ?_
  refine own_aloadN C X own_d5_13 rfl rfl (pc' := 14) rfl ?_
  refine own_getfield C X own_d5_14 (hw _ (List.mem_of_getElem? (i := 22) rfl)) O (i := 1) rfl (pc' := 17) rfl ?_
  intro T X
  refine own_iloadN C X own_d5_17 rfl (pc' := 18) rfl ?_
  refine own_laload C X own_d5_18 A (by decide) (i := 3) rfl (pc' := 19) rfl ?_
  refine own_aloadN C X own_d5_19 rfl rfl (pc' := 20) rfl ?_
  refine own_getfield C X own_d5_20 (hw _ (List.mem_of_getElem? (i := 20) rfl)) O (i := 0) rfl (pc' := 23) rfl ?_
  intro T X
  refine own_land C X own_d5_23 rfl (pc' := 24) rfl ?_
  refine own_callS C X own_d5_24 (own_m_cu l Z a0 hw (f2 &&& mk) (f3 &&& mk) _ n0 (own_big C X)) (hw _ (List.mem_of_getElem? (i := 30) rfl)) (hw _ (List.mem_of_getElem? (i := 31) rfl)) (hw _ (List.mem_of_getElem? (i := 32) rfl)) (hw _ (List.mem_of_getElem? (i := 33) rfl)) (by decide) own_pd_2751 rfl rfl (Nat.le_of_ble_eq_true rfl) (Nat.le_of_ble_eq_true rfl) (Nat.le_of_ble_eq_true rfl) (Nat.le_of_ble_eq_true rfl) (av := [(.long (f2 &&& mk)), (.long (f3 &&& mk))]) (S := []) rfl (pc' := 27) rfl ?_
  intro T h v X hQ
  obtain ⟨rfl, rfl⟩ := hQ
  show own_Go p e below n0 (own_Fin ({ frames := 2, cells := 0, slots := 0, locals := 40 } : Room) s (fun v h => v = some (.int 1) ∧ h0 = h)) (T.setTop (mkF m 27 #[.val (.ref o), .val (.int (3 : Int32)), .unset] [(.int (own_cmp ((f2 &&& mk) + (-9223372036854775808 : Int64)) ((f3 &&& mk) + (-9223372036854775808 : Int64))))]))
  obtain ⟨cv, e_cv⟩ : ∃ z : Int32, (own_cmp ((f2 &&& mk) + (-9223372036854775808 : Int64)) ((f3 &&& mk) + (-9223372036854775808 : Int64))) = z := ⟨_, rfl⟩
  rw [e_cv]
  show own_Go p e below n0 (own_Fin ({ frames := 2, cells := 0, slots := 0, locals := 40 } : Room) s (fun v h => v = some (.int 1) ∧ h0 = h)) (T.setTop (mkF m 27 #[.val (.ref o), .val (.int (3 : Int32)), .unset] [(.int cv)]))
  have hcv := own_cu _ _ hsub
  rw [e_cv] at hcv
  refine own_istoreN C X own_d5_27 (L' := #[.val (.ref o), .val (.int (3 : Int32)), .val (.int cv)]) rfl (pc' := 28) rfl ?_
  refine own_iloadN C X own_d5_28 rfl (pc' := 29) rfl ?_
  refine own_if_lt C X own_d5_29 (pcT := 53) (pc' := 32) (by decide) (by decide) rfl (fun hc29 => ?_) (fun hc29 => ?_)
  · refine own_iconst C X own_d5_53 (v := 1) (by decide) (pc' := 54) rfl ?_
    refine own_goto C X own_d5_54 (pc' := 58) (by decide) (by decide) ?_
    exact own_ireturn_z C X own_d5_58 (Nat.le_of_ble_eq_true rfl) (Nat.le_of_ble_eq_true rfl) (⟨rfl, rfl⟩)
  · refine own_iloadN C X own_d5_32 rfl (pc' := 33) rfl ?_
    refine own_if_ne C X own_d5_33 (pcT := 57) (pc' := 36) (by decide) (by decide) rfl (fun hc33 => absurd hc33 (not_not_intro (hcv.resolve_left hc29))) (fun hc33 => ?_)
    refine own_aloadN C X own_d5_36 rfl rfl (pc' := 37) rfl ?_
    refine own_getfield C X own_d5_37 (hw _ (List.mem_of_getElem? (i := 24) rfl)) O (i := 2) rfl (pc' := 40) rfl ?_
    intro T X
    refine own_iloadN C X own_d5_40 rfl (pc' := 41) rfl ?_
    refine own_iconst C X own_d5_41 (v := 1) (by decide) (pc' := 42) rfl ?_
    refine own_isub C X own_d5_42 (z := 2) (by decide) (pc' := 43) rfl ?_
    refine own_iaload C X own_d5_43 B (by decide) (i := 2) rfl (pc' := 44) rfl ?_
    refine own_aloadN C X own_d5_44 rfl rfl (pc' := 45) rfl ?_
    refine own_getfield C X own_d5_45 (hw _ (List.mem_of_getElem? (i := 24) rfl)) O (i := 2) rfl (pc' := 48) rfl ?_
    intro T X
    refine own_iloadN C X own_d5_48 rfl (pc' := 49) rfl ?_
    refine own_iaload C X own_d5_49 B (by decide) (i := 3) rfl (pc' := 50) rfl ?_
    refine own_icmp_ge C X own_d5_50 (pcT := 57) (pc' := 53) (by decide) (by decide) rfl (fun hc50 => absurd hc50 (by decide)) (fun hc50 => ?_)
    refine own_iconst C X own_d5_53 (v := 1) (by decide) (pc' := 54) rfl ?_
    refine own_goto C X own_d5_54 (pc' := 58) (by decide) (by decide) ?_
    exact own_ireturn_z C X own_d5_58 (Nat.le_of_ble_eq_true rfl) (Nat.le_of_ble_eq_true rfl) (⟨rfl, rfl⟩)
theorem own_ef_init (o : Addr) (f : Addr) (mk : Int64) (od : Addr) (m : MethodId) : entryFrame m #[(.ref o), (.ref f), (.long mk), (.ref od)] 8 = mkF m 0 #[.val (.ref o), .val (.ref f), .val (.long mk), .second, .val (.ref od), .unset, .unset, .unset] [] := by first | (simp [entryFrame, mkF, argsToLocals, Value.category]; done) | rfl
theorem own_d3_0 : decode prog_33_method_3_code 0 = .ok (.aload_n 0, 1) := by decide +kernel
theorem own_d3_1 : decode prog_33_method_3_code 1 = .ok (.invokespecial 12, 3) := by decide +kernel
theorem own_d3_4 : decode prog_33_method_3_code 4 = .ok (.aload_n 0, 1) := by decide +kernel
theorem own_d3_5 : decode prog_33_method_3_code 5 = .ok (.lload_n 2, 1) := by decide +kernel
theorem own_d3_6 : decode prog_33_method_3_code 6 = .ok (.putfield 17, 3) := by decide +kernel
theorem own_d3_9 : decode prog_33_method_3_code 9 = .ok (.aload_n 1, 1) := by decide +kernel
theorem own_d3_10 : decode prog_33_method_3_code 10 = .ok (.arraylength, 1) := by decide +kernel
theorem own_d3_11 : decode prog_33_method_3_code 11 = .ok (.istore 5, 2) := by decide +kernel
theorem own_d3_13 : decode prog_33_method_3_code 13 = .ok (.aload_n 0, 1) := by decide +kernel
theorem own_d3_14 : decode prog_33_method_3_code 14 = .ok (.iload 5, 2) := by decide +kernel
theorem own_d3_16 : decode prog_33_method_3_code 16 = .ok (.newarray .long, 2) := by decide +kernel
theorem own_d3_18 : decode prog_33_method_3_code 18 = .ok (.putfield 60, 3) := by decide +kernel
theorem own_d3_21 : decode prog_33_method_3_code 21 = .ok (.aload_n 0, 1) := by decide +kernel
theorem own_d3_22 : decode prog_33_method_3_code 22 = .ok (.aload 4, 2) := by decide +kernel
theorem own_d3_24 : decode prog_33_method_3_code 24 = .ok (.putfield 63, 3) := by decide +kernel
theorem own_d3_27 : decode prog_33_method_3_code 27 = .ok (.iconst 0, 1) := by decide +kernel
theorem own_d3_28 : decode prog_33_method_3_code 28 = .ok (.istore 6, 2) := by decide +kernel
theorem own_d3_30 : decode prog_33_method_3_code 30 = .ok (.iload 6, 2) := by decide +kernel
theorem own_d3_32 : decode prog_33_method_3_code 32 = .ok (.iload 5, 2) := by decide +kernel
theorem own_d3_34 : decode prog_33_method_3_code 34 = .ok (.if_icmp .ge 78, 3) := by decide +kernel
theorem own_d3_37 : decode prog_33_method_3_code 37 = .ok (.aload 4, 2) := by decide +kernel
theorem own_d3_39 : decode prog_33_method_3_code 39 = .ok (.iload 6, 2) := by decide +kernel
theorem own_d3_41 : decode prog_33_method_3_code 41 = .ok (.iaload, 1) := by decide +kernel
theorem own_d3_42 : decode prog_33_method_3_code 42 = .ok (.istore 7, 2) := by decide +kernel
theorem own_d3_44 : decode prog_33_method_3_code 44 = .ok (.iload 7, 2) := by decide +kernel
theorem own_d3_46 : decode prog_33_method_3_code 46 = .ok (.ifCond .lt 10, 3) := by decide +kernel
theorem own_d3_49 : decode prog_33_method_3_code 49 = .ok (.iload 7, 2) := by decide +kernel
theorem own_d3_51 : decode prog_33_method_3_code 51 = .ok (.iload 5, 2) := by decide +kernel
theorem own_d3_53 : decode prog_33_method_3_code 53 = .ok (.if_icmp .lt 13, 3) := by decide +kernel
theorem own_d3_66 : decode prog_33_method_3_code 66 = .ok (.aload_n 0, 1) := by decide +kernel
theorem own_d3_67 : decode prog_33_method_3_code 67 = .ok (.getfield 60, 3) := by decide +kernel
theorem own_d3_70 : decode prog_33_method_3_code 70 = .ok (.iload 6, 2) := by decide +kernel
theorem own_d3_72 : decode prog_33_method_3_code 72 = .ok (.aload_n 1, 1) := by decide +kernel
theorem own_d3_73 : decode prog_33_method_3_code 73 = .ok (.iload 7, 2) := by decide +kernel
theorem own_d3_75 : decode prog_33_method_3_code 75 = .ok (.laload, 1) := by decide +kernel
theorem own_d3_76 : decode prog_33_method_3_code 76 = .ok (.lastore, 1) := by decide +kernel
theorem own_d3_77 : decode prog_33_method_3_code 77 = .ok (.iload 6, 2) := by decide +kernel
theorem own_d3_79 : decode prog_33_method_3_code 79 = .ok (.ifCond .le 27, 3) := by decide +kernel
theorem own_d3_106 : decode prog_33_method_3_code 106 = .ok (.iinc 6 1, 3) := by decide +kernel
theorem own_d3_109 : decode prog_33_method_3_code 109 = .ok (.goto (-79), 3) := by decide +kernel
theorem own_d3_82 : decode prog_33_method_3_code 82 = .ok (.aload_n 0, 1) := by decide +kernel
theorem own_d3_83 : decode prog_33_method_3_code 83 = .ok (.iload 6, 2) := by decide +kernel
theorem own_pd_2133 : parseMethodDescriptor "(I)Z" = some ⟨[.int], some .boolean⟩ := by decide +kernel
theorem own_d3_85 : decode prog_33_method_3_code 85 = .ok (.invokevirtual 73, 3) := by decide +kernel
theorem own_d3_88 : decode prog_33_method_3_code 88 = .ok (.ifCond .ne 18, 3) := by decide +kernel
theorem own_d3_112 : decode prog_33_method_3_code 112 = .ok (.return_, 1) := by decide +kernel
set_option maxRecDepth 65536 in
set_option maxHeartbeats 40000000 in
theorem own_m_init (l : Launch) (Z : State) (a0 : Array Value) (hw : ∀ d ∈ tables_1, d.before a0 Z = true) (o : Addr) (f : Addr) (mk : Int64) (od : Addr) (h0 : Heap) (n0 : Nat) (hn0 : n0 ≤ h0.size) (f0 f1 f2 f3 : Int64) (O : own_Ob Z a0 h0 o "com/example/twin64/twin64/search/BlockTable" [("keyMask", "J", (.long (0 : Int64))), ("sorted", "[J", .null), ("indices", "[I", .null)]) (F : own_JA Z h0 f [f0, f1, f2, f3]) (B : own_IA Z h0 od .int [(0 : Int32), (1 : Int32), (2 : Int32), (3 : Int32)]) (no_f : o ≠ f) (no_od : o ≠ od) (nf_od : f ≠ od) (ge_o : n0 ≤ o) (s01 : own_sub (f0 &&& mk) (f1 &&& mk)) (s12 : own_sub (f1 &&& mk) (f2 &&& mk)) (s23 : own_sub (f2 &&& mk) (f3 &&& mk)) : own_Met l Z n0 (⟨"com/example/twin64/twin64/search/BlockTable", "<init>", "([JJ[I)V"⟩ : MethodName) prog_33_method_3_code 8 none [] ({ frames := 3, cells := 1, slots := 4, locals := 60 } : Room) #[(.ref o), (.ref f), (.long mk), (.ref od)] h0 (fun v h => v = none ∧ ∃ sb, Keep h0 h [o] ∧ own_Ob Z a0 h o "com/example/twin64/twin64/search/BlockTable" [("keyMask", "J", (.long mk)), ("sorted", "[J", (.ref sb)), ("indices", "[I", (.ref od))] ∧ own_JA Z h sb [f0, f1, f2, f3]) := by
  refine own_body (plainFor_of_name own_pn_com_example_twin64_twin64_search_BlockTable) hn0 (own_ef_init o f mk od) ?_
  intro p e s m below meth c T C X
  have KK := Keep.refl h0 [o]
  refine own_aloadN C X own_d3_0 rfl rfl (pc' := 1) rfl ?_
  refine own_objinit C X own_d3_1 (hw _ (List.mem_of_getElem? (i := 17) rfl)) (hw _ (List.mem_of_getElem? (i := 18) rfl)) (hw _ (List.mem_of_getElem? (i := 19) rfl)) rfl (by decide) (Nat.le_of_ble_eq_true rfl) (pc' := 4) rfl ?_
  intro T X
  refine own_aloadN C X own_d3_4 rfl rfl (pc' := 5) rfl ?_
  refine own_lloadN C X own_d3_5 rfl (pc' := 6) rfl ?_
  refine own_putfield C X own_d3_6 (hw _ (List.mem_of_getElem? (i := 20) rfl)) (Or.inr ⟨(hw _ (List.mem_of_getElem? (i := 21) rfl)), rfl, rfl⟩) (hw _ (List.mem_of_getElem? (i := 12) rfl)) O (i := 0) rfl (ty := .long) (by decide) rfl rfl ge_o (pc' := 9) rfl ?_
  intro T h X K_ O_
  have O : own_Ob Z a0 h o "com/example/twin64/twin64/search/BlockTable" [("keyMask", "J", (.long mk)), ("sorted", "[J", .null), ("indices", "[I", .null)] := O_
  have F := F.keep K_ (ninS (Ne.symm no_f) nin0)
  have B := B.keep K_ (ninS (Ne.symm no_od) nin0)
  have KK := KK.trans K_ (allS (Or.inl (by simp)) all0)
  refine own_aloadN C X own_d3_9 rfl rfl (pc' := 10) rfl ?_
  refine own_alenJ C X own_d3_10 (n := 4) F rfl (pc' := 11) rfl ?_
  refine own_istore C X own_d3_11 (L' := #[.val (.ref o), .val (.ref f), .val (.long mk), .second, .val (.ref od), .val (.int (4 : Int32)), .unset, .unset]) rfl (pc' := 13) rfl ?_
  refine own_aloadN C X own_d3_13 rfl rfl (pc' := 14) rfl ?_
  refine own_iload C X own_d3_14 rfl (pc' := 16) rfl ?_
  refine own_newJ C X own_d3_16 (hw _ (List.mem_of_getElem? (i := 8) rfl)) (by decide) (k := 4) (cap := 4) (Nat.le_of_ble_eq_true rfl) (by decide) (Nat.le_of_ble_eq_true rfl) (Nat.le_of_ble_eq_true rfl) (pc' := 18) rfl ?_
  intro T h sb e_sb X K_ ge_sb A_sb_
  have gz_sb : h0.size ≤ sb := by rw [e_sb]; exact KK.1
  have ne_o_sb : o ≠ sb := by rw [e_sb]; exact Nat.ne_of_lt O.lt
  have ne_f_sb : f ≠ sb := by rw [e_sb]; exact Nat.ne_of_lt F.lt
  have ne_od_sb : od ≠ sb := by rw [e_sb]; exact Nat.ne_of_lt B.lt
  have A_sb : own_JA Z h sb [(0 : Int64), (0 : Int64), (0 : Int64), (0 : Int64)] := A_sb_
  have O := O.keep K_ nin0
  have F := F.keep K_ nin0
  have B := B.keep K_ nin0
  have KK := KK.trans K_ all0
  refine own_putfield C X own_d3_18 (hw _ (List.mem_of_getElem? (i := 22) rfl)) (Or.inr ⟨(hw _ (List.mem_of_getElem? (i := 23) rfl)), rfl, rfl⟩) (hw _ (List.mem_of_getElem? (i := 12) rfl)) O (i := 1) rfl (ty := (.array .long)) (by decide) rfl rfl ge_o (pc' := 21) rfl ?_
  intro T h X K_ O_
  have O : own_Ob Z a0 h o "com/example/twin64/twin64/search/BlockTable" [("keyMask", "J", (.long mk)), ("sorted", "[J", (.ref sb)), ("indices", "[I", .null)] := O_
  have F := F.keep K_ (ninS (Ne.symm no_f) nin0)
  have B := B.keep K_ (ninS (Ne.symm no_od) nin0)
  have A_sb := A_sb.keep K_ (ninS (Ne.symm ne_o_sb) nin0)
  have KK := KK.trans K_ (allS (Or.inl (by simp)) all0)
  refine own_aloadN C X own_d3_21 rfl rfl (pc' := 22) rfl ?_
  refine own_aload C X own_d3_22 rfl rfl (pc' := 24) rfl ?_
  refine own_putfield C X own_d3_24 (hw _ (List.mem_of_getElem? (i := 24) rfl)) (Or.inr ⟨(hw _ (List.mem_of_getElem? (i := 25) rfl)), rfl, rfl⟩) (hw _ (List.mem_of_getElem? (i := 12) rfl)) O (i := 2) rfl (ty := (.array .int)) (by decide) rfl rfl ge_o (pc' := 27) rfl ?_
  intro T h X K_ O_
  have O : own_Ob Z a0 h o "com/example/twin64/twin64/search/BlockTable" [("keyMask", "J", (.long mk)), ("sorted", "[J", (.ref sb)), ("indices", "[I", (.ref od))] := O_
  have F := F.keep K_ (ninS (Ne.symm no_f) nin0)
  have B := B.keep K_ (ninS (Ne.symm no_od) nin0)
  have A_sb := A_sb.keep K_ (ninS (Ne.symm ne_o_sb) nin0)
  have KK := KK.trans K_ (allS (Or.inl (by simp)) all0)
  refine own_iconst C X own_d3_27 (v := 0) (by decide) (pc' := 28) rfl ?_
  refine own_istore C X own_d3_28 (L' := #[.val (.ref o), .val (.ref f), .val (.long mk), .second, .val (.ref od), .val (.int (4 : Int32)), .val (.int (0 : Int32)), .unset]) rfl (pc' := 30) rfl ?_
  refine own_iload C X own_d3_30 rfl (pc' := 32) rfl ?_
  refine own_iload C X own_d3_32 rfl (pc' := 34) rfl ?_
  refine own_icmp_ge C X own_d3_34 (pcT := 112) (pc' := 37) (by decide) (by decide) rfl (fun hc34 => absurd hc34 (by decide)) (fun hc34 => ?_)
  refine own_aload C X own_d3_37 rfl rfl (pc' := 39) rfl ?_
  refine own_iload C X own_d3_39 rfl (pc' := 41) rfl ?_
  refine own_iaload C X own_d3_41 B (by decide) (i := 0) rfl (pc' := 42) rfl ?_
  refine own_istore C X own_d3_42 (L' := #[.val (.ref o), .val (.ref f), .val (.long mk), .second, .val (.ref od), .val (.int (4 : Int32)), .val (.int (0 : Int32)), .val (.int (0 : Int32))]) rfl (pc' := 44) rfl ?_
  refine own_iload C X own_d3_44 rfl (pc' := 46) rfl ?_
  refine own_if_lt C X own_d3_46 (pcT := 56) (pc' := 49) (by decide) (by decide) rfl (fun hc46 => absurd hc46 (by decide)) (fun hc46 => ?_)
  refine own_iload C X own_d3_49 rfl (pc' := 51) rfl ?_
  refine own_iload C X own_d3_51 rfl (pc' := 53) rfl ?_
  refine own_icmp_lt C X own_d3_53 (pcT := 66) (pc' := 56) (by decide) (by decide) rfl (fun hc53 => ?_) (fun hc53 => absurd hc53 (by decide))
  refine own_aloadN C X own_d3_66 rfl rfl (pc' := 67) rfl ?_
  refine own_getfield C X own_d3_67 (hw _ (List.mem_of_getElem? (i := 22) rfl)) O (i := 1) rfl (pc' := 70) rfl ?_
  intro T X
  refine own_iload C X own_d3_70 rfl (pc' := 72) rfl ?_
  refine own_aloadN C X own_d3_72 rfl rfl (pc' := 73) rfl ?_
  refine own_iload C X own_d3_73 rfl (pc' := 75) rfl ?_
  refine own_laload C X own_d3_75 F (by decide) (i := 0) rfl (pc' := 76) rfl ?_
  refine own_lastore C X own_d3_76 A_sb (by decide) (i := 0) (Nat.le_of_ble_eq_true rfl) ge_sb (pc' := 77) rfl ?_
  intro T h X K_ A_sb_
  have A_sb : own_JA Z h sb [f0, (0 : Int64), (0 : Int64), (0 : Int64)] := A_sb_
  have O := O.keep K_ (ninS ne_o_sb nin0)
  have F := F.keep K_ (ninS ne_f_sb nin0)
  have B := B.keep K_ (ninS ne_od_sb nin0)
  have KK := KK.trans K_ (allS (Or.inr gz_sb) all0)
  refine own_iload C X own_d3_77 rfl (pc' := 79) rfl ?_
  refine own_if_le C X own_d3_79 (pcT := 106) (pc' := 82) (by decide) (by decide) rfl (fun hc79 => ?_) (fun hc79 => absurd hc79 (by decide))
  refine own_iinc C X own_d3_106 rfl (d := 1) (by decide) (z := 1) (by decide) (L' := #[.val (.ref o), .val (.ref f), .val (.long mk), .second, .val (.ref od), .val (.int (4 : Int32)), .val (.int (1 : Int32)), .val (.int (0 : Int32))]) rfl (pc' := 109) rfl ?_
  refine own_goto C X own_d3_109 (pc' := 30) (by decide) (by decide) ?_
  refine own_iload C X own_d3_30 rfl (pc' := 32) rfl ?_
  refine own_iload C X own_d3_32 rfl (pc' := 34) rfl ?_
  refine own_icmp_ge C X own_d3_34 (pcT := 112) (pc' := 37) (by decide) (by decide) rfl (fun hc34_2 => absurd hc34_2 (by decide)) (fun hc34_2 => ?_)
  refine own_aload C X own_d3_37 rfl rfl (pc' := 39) rfl ?_
  refine own_iload C X own_d3_39 rfl (pc' := 41) rfl ?_
  refine own_iaload C X own_d3_41 B (by decide) (i := 1) rfl (pc' := 42) rfl ?_
  refine own_istore C X own_d3_42 (L' := #[.val (.ref o), .val (.ref f), .val (.long mk), .second, .val (.ref od), .val (.int (4 : Int32)), .val (.int (1 : Int32)), .val (.int (1 : Int32))]) rfl (pc' := 44) rfl ?_
  refine own_iload C X own_d3_44 rfl (pc' := 46) rfl ?_
  refine own_if_lt C X own_d3_46 (pcT := 56) (pc' := 49) (by decide) (by decide) rfl (fun hc46_2 => absurd hc46_2 (by decide)) (fun hc46_2 => ?_)
  refine own_iload C X own_d3_49 rfl (pc' := 51) rfl ?_
  refine own_iload C X own_d3_51 rfl (pc' := 53) rfl ?_
  refine own_icmp_lt C X own_d3_53 (pcT := 66) (pc' := 56) (by decide) (by decide) rfl (fun hc53_2 => ?_) (fun hc53_2 => absurd hc53_2 (by decide))
  refine own_aloadN C X own_d3_66 rfl rfl (pc' := 67) rfl ?_
  refine own_getfield C X own_d3_67 (hw _ (List.mem_of_getElem? (i := 22) rfl)) O (i := 1) rfl (pc' := 70) rfl ?_
  intro T X
  refine own_iload C X own_d3_70 rfl (pc' := 72) rfl ?_
  refine own_aloadN C X own_d3_72 rfl rfl (pc' := 73) rfl ?_
  refine own_iload C X own_d3_73 rfl (pc' := 75) rfl ?_
  refine own_laload C X own_d3_75 F (by decide) (i := 1) rfl (pc' := 76) rfl ?_
  refine own_lastore C X own_d3_76 A_sb (by decide) (i := 1) (Nat.le_of_ble_eq_true rfl) ge_sb (pc' := 77) rfl ?_
  intro T h X K_ A_sb_
  have A_sb : own_JA Z h sb [f0, f1, (0 : Int64), (0 : Int64)] := A_sb_
  have O := O.keep K_ (ninS ne_o_sb nin0)
  have F := F.keep K_ (ninS ne_f_sb nin0)
  have B := B.keep K_ (ninS ne_od_sb nin0)
  have KK := KK.trans K_ (allS (Or.inr gz_sb) all0)
  refine own_iload C X own_d3_77 rfl (pc' := 79) rfl ?_
  refine own_if_le C X own_d3_79 (pcT := 106) (pc' := 82) (by decide) (by decide) rfl (fun hc79_2 => absurd hc79_2 (by decide)) (fun hc79_2 => ?_)
  refine own_aloadN C X own_d3_82 rfl rfl (pc' := 83) rfl ?_
  refine own_iload C X own_d3_83 rfl (pc' := 85) rfl ?_
  refine own_callP C X own_d3_85 (own_m_fip1 l Z a0 hw o _ n0 (own_big C X) mk sb od f0 f1 (0 : Int64) (0 : Int64) O A_sb B s01) O.1 (hw _ (List.mem_of_getElem? (i := 26) rfl)) (hw _ (List.mem_of_getElem? (i := 12) rfl)) (hw _ (List.mem_of_getElem? (i := 28) rfl)) (hw _ (List.mem_of_getElem? (i := 27) rfl)) (hw _ (List.mem_of_getElem? (i := 13) rfl)) (hw _ (List.mem_of_getElem? (i := 29) rfl)) (by decide) own_pd_2133 rfl rfl (Nat.le_of_ble_eq_true rfl) (Nat.le_of_ble_eq_true rfl) (Nat.le_of_ble_eq_true rfl) (Nat.le_of_ble_eq_true rfl) (av := [(.int (1 : Int32))]) (S := []) rfl (pc' := 88) rfl ?_
  intro T h v X hQ
  obtain ⟨rfl, rfl⟩ := hQ
  show own_Go p e below n0 (own_Fin ({ frames := 3, cells := 1, slots := 4, locals := 60 } : Room) s (fun v h => v = none ∧ ∃ sb, Keep h0 h [o] ∧ own_Ob Z a0 h o "com/example/twin64/twin64/search/BlockTable" [("keyMask", "J", (.long mk)), ("sorted", "[J", (.ref sb)), ("indices", "[I", (.ref od))] ∧ own_JA Z h sb [f0, f1, f2, f3])) (T.setTop (mkF m 88 #[.val (.ref o), .val (.ref f), .val (.long mk), .second, .val (.ref od), .val (.int (4 : Int32)), .val (.int (1 : Int32)), .val (.int (1 : Int32))] [(.int (1 : Int32))]))
  refine own_if_ne C X own_d3_88 (pcT := 106) (pc' := 91) (by decide) (by decide) rfl (fun hc88 => ?_) (fun hc88 => absurd hc88 (by decide))
  refine own_iinc C X own_d3_106 rfl (d := 1) (by decide) (z := 2) (by decide) (L' := #[.val (.ref o), .val (.ref f), .val (.long mk), .second, .val (.ref od), .val (.int (4 : Int32)), .val (.int (2 : Int32)), .val (.int (1 : Int32))]) rfl (pc' := 109) rfl ?_
  refine own_goto C X own_d3_109 (pc' := 30) (by decide) (by decide) ?_
  refine own_iload C X own_d3_30 rfl (pc' := 32) rfl ?_
  refine own_iload C X own_d3_32 rfl (pc' := 34) rfl ?_
  refine own_icmp_ge C X own_d3_34 (pcT := 112) (pc' := 37) (by decide) (by decide) rfl (fun hc34_3 => absurd hc34_3 (by decide)) (fun hc34_3 => ?_)
  refine own_aload C X own_d3_37 rfl rfl (pc' := 39) rfl ?_
  refine own_iload C X own_d3_39 rfl (pc' := 41) rfl ?_
  refine own_iaload C X own_d3_41 B (by decide) (i := 2) rfl (pc' := 42) rfl ?_
  refine own_istore C X own_d3_42 (L' := #[.val (.ref o), .val (.ref f), .val (.long mk), .second, .val (.ref od), .val (.int (4 : Int32)), .val (.int (2 : Int32)), .val (.int (2 : Int32))]) rfl (pc' := 44) rfl ?_
  refine own_iload C X own_d3_44 rfl (pc' := 46) rfl ?_
  refine own_if_lt C X own_d3_46 (pcT := 56) (pc' := 49) (by decide) (by decide) rfl (fun hc46_3 => absurd hc46_3 (by decide)) (fun hc46_3 => ?_)
  refine own_iload C X own_d3_49 rfl (pc' := 51) rfl ?_
  refine own_iload C X own_d3_51 rfl (pc' := 53) rfl ?_
  refine own_icmp_lt C X own_d3_53 (pcT := 66) (pc' := 56) (by decide) (by decide) rfl (fun hc53_3 => ?_) (fun hc53_3 => absurd hc53_3 (by decide))
  refine own_aloadN C X own_d3_66 rfl rfl (pc' := 67) rfl ?_
  refine own_getfield C X own_d3_67 (hw _ (List.mem_of_getElem? (i := 22) rfl)) O (i := 1) rfl (pc' := 70) rfl ?_
  intro T X
  refine own_iload C X own_d3_70 rfl (pc' := 72) rfl ?_
  refine own_aloadN C X own_d3_72 rfl rfl (pc' := 73) rfl ?_
  refine own_iload C X own_d3_73 rfl (pc' := 75) rfl ?_
  refine own_laload C X own_d3_75 F (by decide) (i := 2) rfl (pc' := 76) rfl ?_
  refine own_lastore C X own_d3_76 A_sb (by decide) (i := 2) (Nat.le_of_ble_eq_true rfl) ge_sb (pc' := 77) rfl ?_
  intro T h X K_ A_sb_
  have A_sb : own_JA Z h sb [f0, f1, f2, (0 : Int64)] := A_sb_
  have O := O.keep K_ (ninS ne_o_sb nin0)
  have F := F.keep K_ (ninS ne_f_sb nin0)
  have B := B.keep K_ (ninS ne_od_sb nin0)
  have KK := KK.trans K_ (allS (Or.inr gz_sb) all0)
  refine own_iload C X own_d3_77 rfl (pc' := 79) rfl ?_
  refine own_if_le C X own_d3_79 (pcT := 106) (pc' := 82) (by decide) (by decide) rfl (fun hc79_3 => absurd hc79_3 (by decide)) (fun hc79_3 => ?_)
  refine own_aloadN C X own_d3_82 rfl rfl (pc' := 83) rfl ?_
  refine own_iload C X own_d3_83 rfl (pc' := 85) rfl ?_
  refine own_callP C X own_d3_85 (own_m_fip2 l Z a0 hw o _ n0 (own_big C X) mk sb od f0 f1 f2 (0 : Int64) O A_sb B s12) O.1 (hw _ (List.mem_of_getElem? (i := 26) rfl)) (hw _ (List.mem_of_getElem? (i := 12) rfl)) (hw _ (List.mem_of_getElem? (i := 28) rfl)) (hw _ (List.mem_of_getElem? (i := 27) rfl)) (hw _ (List.mem_of_getElem? (i := 13) rfl)) (hw _ (List.mem_of_getElem? (i := 29) rfl)) (by decide) own_pd_2133 rfl rfl (Nat.le_of_ble_eq_true rfl) (Nat.le_of_ble_eq_true rfl) (Nat.le_of_ble_eq_true rfl) (Nat.le_of_ble_eq_true rfl) (av := [(.int (2 : Int32))]) (S := []) rfl (pc' := 88) rfl ?_
  intro T h v X hQ
  obtain ⟨rfl, rfl⟩ := hQ
  show own_Go p e below n0 (own_Fin ({ frames := 3, cells := 1, slots := 4, locals := 60 } : Room) s (fun v h => v = none ∧ ∃ sb, Keep h0 h [o] ∧ own_Ob Z a0 h o "com/example/twin64/twin64/search/BlockTable" [("keyMask", "J", (.long mk)), ("sorted", "[J", (.ref sb)), ("indices", "[I", (.ref od))] ∧ own_JA Z h sb [f0, f1, f2, f3])) (T.setTop (mkF m 88 #[.val (.ref o), .val (.ref f), .val (.long mk), .second, .val (.ref od), .val (.int (4 : Int32)), .val (.int (2 : Int32)), .val (.int (2 : Int32))] [(.int (1 : Int32))]))
  refine own_if_ne C X own_d3_88 (pcT := 106) (pc' := 91) (by decide) (by decide) rfl (fun hc88_2 => ?_) (fun hc88_2 => absurd hc88_2 (by decide))
  refine own_iinc C X own_d3_106 rfl (d := 1) (by decide) (z := 3) (by decide) (L' := #[.val (.ref o), .val (.ref f), .val (.long mk), .second, .val (.ref od), .val (.int (4 : Int32)), .val (.int (3 : Int32)), .val (.int (2 : Int32))]) rfl (pc' := 109) rfl ?_
  refine own_goto C X own_d3_109 (pc' := 30) (by decide) (by decide) ?_
  refine own_iload C X own_d3_30 rfl (pc' := 32) rfl ?_
  refine own_iload C X own_d3_32 rfl (pc' := 34) rfl ?_
  refine own_icmp_ge C X own_d3_34 (pcT := 112) (pc' := 37) (by decide) (by decide) rfl (fun hc34_4 => absurd hc34_4 (by decide)) (fun hc34_4 => ?_)
  refine own_aload C X own_d3_37 rfl rfl (pc' := 39) rfl ?_
  refine own_iload C X own_d3_39 rfl (pc' := 41) rfl ?_
  refine own_iaload C X own_d3_41 B (by decide) (i := 3) rfl (pc' := 42) rfl ?_
  refine own_istore C X own_d3_42 (L' := #[.val (.ref o), .val (.ref f), .val (.long mk), .second, .val (.ref od), .val (.int (4 : Int32)), .val (.int (3 : Int32)), .val (.int (3 : Int32))]) rfl (pc' := 44) rfl ?_
  refine own_iload C X own_d3_44 rfl (pc' := 46) rfl ?_
  refine own_if_lt C X own_d3_46 (pcT := 56) (pc' := 49) (by decide) (by decide) rfl (fun hc46_4 => absurd hc46_4 (by decide)) (fun hc46_4 => ?_)
  refine own_iload C X own_d3_49 rfl (pc' := 51) rfl ?_
  refine own_iload C X own_d3_51 rfl (pc' := 53) rfl ?_
  refine own_icmp_lt C X own_d3_53 (pcT := 66) (pc' := 56) (by decide) (by decide) rfl (fun hc53_4 => ?_) (fun hc53_4 => absurd hc53_4 (by decide))
  refine own_aloadN C X own_d3_66 rfl rfl (pc' := 67) rfl ?_
  refine own_getfield C X own_d3_67 (hw _ (List.mem_of_getElem? (i := 22) rfl)) O (i := 1) rfl (pc' := 70) rfl ?_
  intro T X
  refine own_iload C X own_d3_70 rfl (pc' := 72) rfl ?_
  refine own_aloadN C X own_d3_72 rfl rfl (pc' := 73) rfl ?_
  refine own_iload C X own_d3_73 rfl (pc' := 75) rfl ?_
  refine own_laload C X own_d3_75 F (by decide) (i := 3) rfl (pc' := 76) rfl ?_
  refine own_lastore C X own_d3_76 A_sb (by decide) (i := 3) (Nat.le_of_ble_eq_true rfl) ge_sb (pc' := 77) rfl ?_
  intro T h X K_ A_sb_
  have A_sb : own_JA Z h sb [f0, f1, f2, f3] := A_sb_
  have O := O.keep K_ (ninS ne_o_sb nin0)
  have F := F.keep K_ (ninS ne_f_sb nin0)
  have B := B.keep K_ (ninS ne_od_sb nin0)
  have KK := KK.trans K_ (allS (Or.inr gz_sb) all0)
  refine own_iload C X own_d3_77 rfl (pc' := 79) rfl ?_
  refine own_if_le C X own_d3_79 (pcT := 106) (pc' := 82) (by decide) (by decide) rfl (fun hc79_4 => absurd hc79_4 (by decide)) (fun hc79_4 => ?_)
  refine own_aloadN C X own_d3_82 rfl rfl (pc' := 83) rfl ?_
  refine own_iload C X own_d3_83 rfl (pc' := 85) rfl ?_
  refine own_callP C X own_d3_85 (own_m_fip3 l Z a0 hw o _ n0 (own_big C X) mk sb od f0 f1 f2 f3 O A_sb B s23) O.1 (hw _ (List.mem_of_getElem? (i := 26) rfl)) (hw _ (List.mem_of_getElem? (i := 12) rfl)) (hw _ (List.mem_of_getElem? (i := 28) rfl)) (hw _ (List.mem_of_getElem? (i := 27) rfl)) (hw _ (List.mem_of_getElem? (i := 13) rfl)) (hw _ (List.mem_of_getElem? (i := 29) rfl)) (by decide) own_pd_2133 rfl rfl (Nat.le_of_ble_eq_true rfl) (Nat.le_of_ble_eq_true rfl) (Nat.le_of_ble_eq_true rfl) (Nat.le_of_ble_eq_true rfl) (av := [(.int (3 : Int32))]) (S := []) rfl (pc' := 88) rfl ?_
  intro T h v X hQ
  obtain ⟨rfl, rfl⟩ := hQ
  show own_Go p e below n0 (own_Fin ({ frames := 3, cells := 1, slots := 4, locals := 60 } : Room) s (fun v h => v = none ∧ ∃ sb, Keep h0 h [o] ∧ own_Ob Z a0 h o "com/example/twin64/twin64/search/BlockTable" [("keyMask", "J", (.long mk)), ("sorted", "[J", (.ref sb)), ("indices", "[I", (.ref od))] ∧ own_JA Z h sb [f0, f1, f2, f3])) (T.setTop (mkF m 88 #[.val (.ref o), .val (.ref f), .val (.long mk), .second, .val (.ref od), .val (.int (4 : Int32)), .val (.int (3 : Int32)), .val (.int (3 : Int32))] [(.int (1 : Int32))]))
  refine own_if_ne C X own_d3_88 (pcT := 106) (pc' := 91) (by decide) (by decide) rfl (fun hc88_3 => ?_) (fun hc88_3 => absurd hc88_3 (by decide))
  refine own_iinc C X own_d3_106 rfl (d := 1) (by decide) (z := 4) (by decide) (L' := #[.val (.ref o), .val (.ref f), .val (.long mk), .second, .val (.ref od), .val (.int (4 : Int32)), .val (.int (4 : Int32)), .val (.int (3 : Int32))]) rfl (pc' := 109) rfl ?_
  refine own_goto C X own_d3_109 (pc' := 30) (by decide) (by decide) ?_
  refine own_iload C X own_d3_30 rfl (pc' := 32) rfl ?_
  refine own_iload C X own_d3_32 rfl (pc' := 34) rfl ?_
  refine own_icmp_ge C X own_d3_34 (pcT := 112) (pc' := 37) (by decide) (by decide) rfl (fun hc34_5 => ?_) (fun hc34_5 => absurd hc34_5 (by decide))
  exact own_return C X own_d3_112 (Nat.le_of_ble_eq_true rfl) (Nat.le_of_ble_eq_true rfl) (⟨rfl, _, KK, O, A_sb⟩)
theorem own_ef_eor0 (o : Addr) (m : MethodId) : entryFrame m #[(.ref o), (.int (0 : Int32))] 5 = mkF m 0 #[.val (.ref o), .val (.int (0 : Int32)), .unset, .unset, .unset] [] := by first | (simp [entryFrame, mkF, argsToLocals, Value.category]; done) | rfl
theorem own_d9_0 : decode prog_33_method_7_code 0 = .ok (.aload_n 0, 1) := by decide +kernel
theorem own_d9_1 : decode prog_33_method_7_code 1 = .ok (.getfield 60, 3) := by decide +kernel
theorem own_d9_4 : decode prog_33_method_7_code 4 = .ok (.iload_n 1, 1) := by decide +kernel
theorem own_d9_5 : decode prog_33_method_7_code 5 = .ok (.laload, 1) := by decide +kernel
theorem own_d9_6 : decode prog_33_method_7_code 6 = .ok (.aload_n 0, 1) := by decide +kernel
theorem own_d9_7 : decode prog_33_method_7_code 7 = .ok (.getfield 17, 3) := by decide +kernel
theorem own_d9_10 : decode prog_33_method_7_code 10 = .ok (.land, 1) := by decide +kernel
theorem own_d9_11 : decode prog_33_method_7_code 11 = .ok (.lstore_n 2, 1) := by decide +kernel
theorem own_d9_12 : decode prog_33_method_7_code 12 = .ok (.iload_n 1, 1) := by decide +kernel
theorem own_d9_13 : decode prog_33_method_7_code 13 = .ok (.iconst 1, 1) := by decide +kernel
theorem own_d9_14 : decode prog_33_method_7_code 14 = .ok (.iadd, 1) := by decide +kernel
theorem own_d9_15 : decode prog_33_method_7_code 15 = .ok (.istore 4, 2) := by decide +kernel
theorem own_d9_17 : decode prog_33_method_7_code 17 = .ok (.iload 4, 2) := by decide +kernel
theorem own_d9_19 : decode prog_33_method_7_code 19 = .ok (.aload_n 0, 1) := by decide +kernel
theorem own_d9_20 : decode prog_33_method_7_code 20 = .ok (.getfield 60, 3) := by decide +kernel
theorem own_d9_23 : decode prog_33_method_7_code 23 = .ok (.arraylength, 1) := by decide +kernel
theorem own_d9_24 : decode prog_33_method_7_code 24 = .ok (.if_icmp .ge 26, 3) := by decide +kernel
theorem own_d9_27 : decode prog_33_method_7_code 27 = .ok (.aload_n 0, 1) := by decide +kernel
theorem own_d9_28 : decode prog_33_method_7_code 28 = .ok (.getfield 60, 3) := by decide +kernel
theorem own_d9_31 : decode prog_33_method_7_code 31 = .ok (.iload 4, 2) := by decide +kernel
theorem own_d9_33 : decode prog_33_method_7_code 33 = .ok (.laload, 1) := by decide +kernel
theorem own_d9_34 : decode prog_33_method_7_code 34 = .ok (.aload_n 0, 1) := by decide +kernel
theorem own_d9_35 : decode prog_33_method_7_code 35 = .ok (.getfield 17, 3) := by decide +kernel
theorem own_d9_38 : decode prog_33_method_7_code 38 = .ok (.land, 1) := by decide +kernel
theorem own_d9_39 : decode prog_33_method_7_code 39 = .ok (.lload_n 2, 1) := by decide +kernel
theorem own_d9_40 : decode prog_33_method_7_code 40 = .ok (.lcmp, 1) := by decide +kernel
theorem own_d9_41 : decode prog_33_method_7_code 41 = .ok (.ifCond .ne 9, 3) := by decide +kernel
theorem own_d9_50 : decode prog_33_method_7_code 50 = .ok (.iload 4, 2) := by decide +kernel
theorem own_d9_52 : decode prog_33_method_7_code 52 = .ok (.ireturn, 1) := by decide +kernel
theorem own_d9_44 : decode prog_33_method_7_code 44 = .ok (.iinc 4 1, 3) := by decide +kernel
theorem own_d9_47 : decode prog_33_method_7_code 47 = .ok (.goto (-30), 3) := by decide +kernel
set_option maxRecDepth 65536 in
set_option maxHeartbeats 40000000 in
theorem own_m_eor0 (l : Launch) (Z : State) (a0 : Array Value) (hw : ∀ d ∈ tables_1, d.before a0 Z = true) (o : Addr) (h0 : Heap) (n0 : Nat) (hn0 : n0 ≤ h0.size) (mk : Int64) (sb od : Addr) (f0 f1 f2 f3 : Int64) (O : own_Ob Z a0 h0 o "com/example/twin64/twin64/search/BlockTable" [("keyMask", "J", (.long mk)), ("sorted", "[J", (.ref sb)), ("indices", "[I", (.ref od))]) (A : own_JA Z h0 sb [f0, f1, f2, f3]) : own_Met l Z n0 (⟨"com/example/twin64/twin64/search/BlockTable", "endOfRun", "(I)I"⟩ : MethodName) prog_33_method_7_code 5 (some .int) [] ({ frames := 0, cells := 0, slots := 0, locals := 0 } : Room) #[(.ref o), (.int (0 : Int32))] h0 (fun v h => v = some (.int (if f1 &&& mk = f0 &&& mk then (if f2 &&& mk = f0 &&& mk then (if f3 &&& mk = f0 &&& mk then (4 : Int32) else (3 : Int32)) else (2 : Int32)) else (1 : Int32))) ∧ h0 = h) := by
  refine own_body (plainFor_of_name own_pn_com_example_twin64_twin64_search_BlockTable) hn0 (own_ef_eor0 o) ?_
  intro p e s m below meth c T C X
  refine own_aloadN C X own_d9_0 rfl rfl (pc' := 1) rfl ?_
  refine own_getfield C X own_d9_1 (hw _ (List.mem_of_getElem? (i := 22) rfl)) O (i := 1) rfl (pc' := 4) rfl ?_
  intro T X
  refine own_iloadN C X own_d9_4 rfl (pc' := 5) rfl ?_
  refine own_laload C X own_d9_5 A (by decide) (i := 0) rfl (pc' := 6) rfl ?_
  refine own_aloadN C X own_d9_6 rfl rfl (pc' := 7) rfl ?_
  refine own_getfield C X own_d9_7 (hw _ (List.mem_of_getElem? (i := 20) rfl)) O (i := 0) rfl (pc' := 10) rfl ?_
  intro T X
  refine own_land C X own_d9_10 rfl (pc' := 11) rfl ?_
  refine own_lstoreN C X own_d9_11 (L' := #[.val (.ref o), .val (.int (0 : Int32)), .val (.long (f0 &&& mk)), .second, .unset]) rfl (pc' := 12) rfl ?_
  refine own_iloadN C X own_d9_12 rfl (pc' := 13) rfl ?_
  refine own_iconst C X own_d9_13 (v := 1) (by decide) (pc' := 14) rfl ?_
  refine own_iadd C X own_d9_14 (z := 1) (by decide) (pc' := 15) rfl ?_
  refine own_istore C X own_d9_15 (L' := #[.val (.ref o), .val (.int (0 : Int32)), .val (.long (f0 &&& mk)), .second, .val (.int (1 : Int32))]) rfl (pc' := 17) rfl ?_
  refine own_iload C X own_d9_17 rfl (pc' := 19) rfl ?_
  refine own_aloadN C X own_d9_19 rfl rfl (pc' := 20) rfl ?_
  refine own_getfield C X own_d9_20 (hw _ (List.mem_of_getElem? (i := 22) rfl)) O (i := 1) rfl (pc' := 23) rfl ?_
  intro T X
  refine own_alenJ C X own_d9_23 (n := 4) A rfl (pc' := 24) rfl ?_
  refine own_icmp_ge C X own_d9_24 (pcT := 50) (pc' := 27) (by decide) (by decide) rfl (fun hc24 => absurd hc24 (by decide)) (fun hc24 => ?_)
  refine own_aloadN C X own_d9_27 rfl rfl (pc' := 28) rfl ?_
  refine own_getfield C X own_d9_28 (hw _ (List.mem_of_getElem? (i := 22) rfl)) O (i := 1) rfl (pc' := 31) rfl ?_
  intro T X
  refine own_iload C X own_d9_31 rfl (pc' := 33) rfl ?_
  refine own_laload C X own_d9_33 A (by decide) (i := 1) rfl (pc' := 34) rfl ?_
  refine own_aloadN C X own_d9_34 rfl rfl (pc' := 35) rfl ?_
  refine own_getfield C X own_d9_35 (hw _ (List.mem_of_getElem? (i := 20) rfl)) O (i := 0) rfl (pc' := 38) rfl ?_
  intro T X
  refine own_land C X own_d9_38 rfl (pc' := 39) rfl ?_
  refine own_lloadN C X own_d9_39 rfl (pc' := 40) rfl ?_
  refine own_lcmp_ne C X own_d9_40 own_d9_41 (pcT := 50) (pc' := 44) (by decide) (by decide) rfl (fun hc40 => ?_) (fun hc40 => ?_)
  · refine own_iload C X own_d9_50 rfl (pc' := 52) rfl ?_
    exact own_ireturn C X own_d9_52 (Nat.le_of_ble_eq_true rfl) (Nat.le_of_ble_eq_true rfl) (⟨by simp only [hc40, if_true, if_false], rfl⟩)
  · refine own_iinc C X own_d9_44 rfl (d := 1) (by decide) (z := 2) (by decide) (L' := #[.val (.ref o), .val (.int (0 : Int32)), .val (.long (f0 &&& mk)), .second, .val (.int (2 : Int32))]) rfl (pc' := 47) rfl ?_
    refine own_goto C X own_d9_47 (pc' := 17) (by decide) (by decide) ?_
    refine own_iload C X own_d9_17 rfl (pc' := 19) rfl ?_
    refine own_aloadN C X own_d9_19 rfl rfl (pc' := 20) rfl ?_
    refine own_getfield C X own_d9_20 (hw _ (List.mem_of_getElem? (i := 22) rfl)) O (i := 1) rfl (pc' := 23) rfl ?_
    intro T X
    refine own_alenJ C X own_d9_23 (n := 4) A rfl (pc' := 24) rfl ?_
    refine own_icmp_ge C X own_d9_24 (pcT := 50) (pc' := 27) (by decide) (by decide) rfl (fun hc24_2 => absurd hc24_2 (by decide)) (fun hc24_2 => ?_)
    refine own_aloadN C X own_d9_27 rfl rfl (pc' := 28) rfl ?_
    refine own_getfield C X own_d9_28 (hw _ (List.mem_of_getElem? (i := 22) rfl)) O (i := 1) rfl (pc' := 31) rfl ?_
    intro T X
    refine own_iload C X own_d9_31 rfl (pc' := 33) rfl ?_
    refine own_laload C X own_d9_33 A (by decide) (i := 2) rfl (pc' := 34) rfl ?_
    refine own_aloadN C X own_d9_34 rfl rfl (pc' := 35) rfl ?_
    refine own_getfield C X own_d9_35 (hw _ (List.mem_of_getElem? (i := 20) rfl)) O (i := 0) rfl (pc' := 38) rfl ?_
    intro T X
    refine own_land C X own_d9_38 rfl (pc' := 39) rfl ?_
    refine own_lloadN C X own_d9_39 rfl (pc' := 40) rfl ?_
    refine own_lcmp_ne C X own_d9_40 own_d9_41 (pcT := 50) (pc' := 44) (by decide) (by decide) rfl (fun hc40_2 => ?_) (fun hc40_2 => ?_)
    · refine own_iload C X own_d9_50 rfl (pc' := 52) rfl ?_
      exact own_ireturn C X own_d9_52 (Nat.le_of_ble_eq_true rfl) (Nat.le_of_ble_eq_true rfl) (⟨by simp only [hc40, hc40_2, if_true, if_false], rfl⟩)
    · refine own_iinc C X own_d9_44 rfl (d := 1) (by decide) (z := 3) (by decide) (L' := #[.val (.ref o), .val (.int (0 : Int32)), .val (.long (f0 &&& mk)), .second, .val (.int (3 : Int32))]) rfl (pc' := 47) rfl ?_
      refine own_goto C X own_d9_47 (pc' := 17) (by decide) (by decide) ?_
      refine own_iload C X own_d9_17 rfl (pc' := 19) rfl ?_
      refine own_aloadN C X own_d9_19 rfl rfl (pc' := 20) rfl ?_
      refine own_getfield C X own_d9_20 (hw _ (List.mem_of_getElem? (i := 22) rfl)) O (i := 1) rfl (pc' := 23) rfl ?_
      intro T X
      refine own_alenJ C X own_d9_23 (n := 4) A rfl (pc' := 24) rfl ?_
      refine own_icmp_ge C X own_d9_24 (pcT := 50) (pc' := 27) (by decide) (by decide) rfl (fun hc24_3 => absurd hc24_3 (by decide)) (fun hc24_3 => ?_)
      refine own_aloadN C X own_d9_27 rfl rfl (pc' := 28) rfl ?_
      refine own_getfield C X own_d9_28 (hw _ (List.mem_of_getElem? (i := 22) rfl)) O (i := 1) rfl (pc' := 31) rfl ?_
      intro T X
      refine own_iload C X own_d9_31 rfl (pc' := 33) rfl ?_
      refine own_laload C X own_d9_33 A (by decide) (i := 3) rfl (pc' := 34) rfl ?_
      refine own_aloadN C X own_d9_34 rfl rfl (pc' := 35) rfl ?_
      refine own_getfield C X own_d9_35 (hw _ (List.mem_of_getElem? (i := 20) rfl)) O (i := 0) rfl (pc' := 38) rfl ?_
      intro T X
      refine own_land C X own_d9_38 rfl (pc' := 39) rfl ?_
      refine own_lloadN C X own_d9_39 rfl (pc' := 40) rfl ?_
      refine own_lcmp_ne C X own_d9_40 own_d9_41 (pcT := 50) (pc' := 44) (by decide) (by decide) rfl (fun hc40_3 => ?_) (fun hc40_3 => ?_)
      · refine own_iload C X own_d9_50 rfl (pc' := 52) rfl ?_
        exact own_ireturn C X own_d9_52 (Nat.le_of_ble_eq_true rfl) (Nat.le_of_ble_eq_true rfl) (⟨by simp only [hc40, hc40_2, hc40_3, if_true, if_false], rfl⟩)
      · refine own_iinc C X own_d9_44 rfl (d := 1) (by decide) (z := 4) (by decide) (L' := #[.val (.ref o), .val (.int (0 : Int32)), .val (.long (f0 &&& mk)), .second, .val (.int (4 : Int32))]) rfl (pc' := 47) rfl ?_
        refine own_goto C X own_d9_47 (pc' := 17) (by decide) (by decide) ?_
        refine own_iload C X own_d9_17 rfl (pc' := 19) rfl ?_
        refine own_aloadN C X own_d9_19 rfl rfl (pc' := 20) rfl ?_
        refine own_getfield C X own_d9_20 (hw _ (List.mem_of_getElem? (i := 22) rfl)) O (i := 1) rfl (pc' := 23) rfl ?_
        intro T X
        refine own_alenJ C X own_d9_23 (n := 4) A rfl (pc' := 24) rfl ?_
        refine own_icmp_ge C X own_d9_24 (pcT := 50) (pc' := 27) (by decide) (by decide) rfl (fun hc24_4 => ?_) (fun hc24_4 => absurd hc24_4 (by decide))
        refine own_iload C X own_d9_50 rfl (pc' := 52) rfl ?_
        exact own_ireturn C X own_d9_52 (Nat.le_of_ble_eq_true rfl) (Nat.le_of_ble_eq_true rfl) (⟨by simp only [hc40, hc40_2, hc40_3, if_true, if_false], rfl⟩)
theorem own_ef_eor1 (o : Addr) (m : MethodId) : entryFrame m #[(.ref o), (.int (1 : Int32))] 5 = mkF m 0 #[.val (.ref o), .val (.int (1 : Int32)), .unset, .unset, .unset] [] := by first | (simp [entryFrame, mkF, argsToLocals, Value.category]; done) | rfl
set_option maxRecDepth 65536 in
set_option maxHeartbeats 40000000 in
theorem own_m_eor1 (l : Launch) (Z : State) (a0 : Array Value) (hw : ∀ d ∈ tables_1, d.before a0 Z = true) (o : Addr) (h0 : Heap) (n0 : Nat) (hn0 : n0 ≤ h0.size) (mk : Int64) (sb od : Addr) (f0 f1 f2 f3 : Int64) (O : own_Ob Z a0 h0 o "com/example/twin64/twin64/search/BlockTable" [("keyMask", "J", (.long mk)), ("sorted", "[J", (.ref sb)), ("indices", "[I", (.ref od))]) (A : own_JA Z h0 sb [f0, f1, f2, f3]) : own_Met l Z n0 (⟨"com/example/twin64/twin64/search/BlockTable", "endOfRun", "(I)I"⟩ : MethodName) prog_33_method_7_code 5 (some .int) [] ({ frames := 0, cells := 0, slots := 0, locals := 0 } : Room) #[(.ref o), (.int (1 : Int32))] h0 (fun v h => v = some (.int (if f2 &&& mk = f1 &&& mk then (if f3 &&& mk = f1 &&& mk then (4 : Int32) else (3 : Int32)) else (2 : Int32))) ∧ h0 = h) := by
  refine own_body (plainFor_of_name own_pn_com_example_twin64_twin64_search_BlockTable) hn0 (own_ef_eor1 o) ?_
  intro p e s m below meth c T C X
  refine own_aloadN C X own_d9_0 rfl rfl (pc' := 1) rfl ?_
  refine own_getfield C X own_d9_1 (hw _ (List.mem_of_getElem? (i := 22) rfl)) O (i := 1) rfl (pc' := 4) rfl ?_
  intro T X
  refine own_iloadN C X own_d9_4 rfl (pc' := 5) rfl ?_
  refine own_laload C X own_d9_5 A (by decide) (i := 1) rfl (pc' := 6) rfl ?_
  refine own_aloadN C X own_d9_6 rfl rfl (pc' := 7) rfl ?_
  refine own_getfield C X own_d9_7 (hw _ (List.mem_of_getElem? (i := 20) rfl)) O (i := 0) rfl (pc' := 10) rfl ?_
  intro T X
  refine own_land C X own_d9_10 rfl (pc' := 11) rfl ?_
  refine own_lstoreN C X own_d9_11 (L' := #[.val (.ref o), .val (.int (1 : Int32)), .val (.long (f1 &&& mk)), .second, .unset]) rfl (pc' := 12) rfl ?_
  refine own_iloadN C X own_d9_12 rfl (pc' := 13) rfl ?_
  refine own_iconst C X own_d9_13 (v := 1) (by decide) (pc' := 14) rfl ?_
  refine own_iadd C X own_d9_14 (z := 2) (by decide) (pc' := 15) rfl ?_
  refine own_istore C X own_d9_15 (L' := #[.val (.ref o), .val (.int (1 : Int32)), .val (.long (f1 &&& mk)), .second, .val (.int (2 : Int32))]) rfl (pc' := 17) rfl ?_
  refine own_iload C X own_d9_17 rfl (pc' := 19) rfl ?_
  refine own_aloadN C X own_d9_19 rfl rfl (pc' := 20) rfl ?_
  refine own_getfield C X own_d9_20 (hw _ (List.mem_of_getElem? (i := 22) rfl)) O (i := 1) rfl (pc' := 23) rfl ?_
  intro T X
  refine own_alenJ C X own_d9_23 (n := 4) A rfl (pc' := 24) rfl ?_
  refine own_icmp_ge C X own_d9_24 (pcT := 50) (pc' := 27) (by decide) (by decide) rfl (fun hc24 => absurd hc24 (by decide)) (fun hc24 => ?_)
  refine own_aloadN C X own_d9_27 rfl rfl (pc' := 28) rfl ?_
  refine own_getfield C X own_d9_28 (hw _ (List.mem_of_getElem? (i := 22) rfl)) O (i := 1) rfl (pc' := 31) rfl ?_
  intro T X
  refine own_iload C X own_d9_31 rfl (pc' := 33) rfl ?_
  refine own_laload C X own_d9_33 A (by decide) (i := 2) rfl (pc' := 34) rfl ?_
  refine own_aloadN C X own_d9_34 rfl rfl (pc' := 35) rfl ?_
  refine own_getfield C X own_d9_35 (hw _ (List.mem_of_getElem? (i := 20) rfl)) O (i := 0) rfl (pc' := 38) rfl ?_
  intro T X
  refine own_land C X own_d9_38 rfl (pc' := 39) rfl ?_
  refine own_lloadN C X own_d9_39 rfl (pc' := 40) rfl ?_
  refine own_lcmp_ne C X own_d9_40 own_d9_41 (pcT := 50) (pc' := 44) (by decide) (by decide) rfl (fun hc40 => ?_) (fun hc40 => ?_)
  · refine own_iload C X own_d9_50 rfl (pc' := 52) rfl ?_
    exact own_ireturn C X own_d9_52 (Nat.le_of_ble_eq_true rfl) (Nat.le_of_ble_eq_true rfl) (⟨by simp only [hc40, if_true, if_false], rfl⟩)
  · refine own_iinc C X own_d9_44 rfl (d := 1) (by decide) (z := 3) (by decide) (L' := #[.val (.ref o), .val (.int (1 : Int32)), .val (.long (f1 &&& mk)), .second, .val (.int (3 : Int32))]) rfl (pc' := 47) rfl ?_
    refine own_goto C X own_d9_47 (pc' := 17) (by decide) (by decide) ?_
    refine own_iload C X own_d9_17 rfl (pc' := 19) rfl ?_
    refine own_aloadN C X own_d9_19 rfl rfl (pc' := 20) rfl ?_
    refine own_getfield C X own_d9_20 (hw _ (List.mem_of_getElem? (i := 22) rfl)) O (i := 1) rfl (pc' := 23) rfl ?_
    intro T X
    refine own_alenJ C X own_d9_23 (n := 4) A rfl (pc' := 24) rfl ?_
    refine own_icmp_ge C X own_d9_24 (pcT := 50) (pc' := 27) (by decide) (by decide) rfl (fun hc24_2 => absurd hc24_2 (by decide)) (fun hc24_2 => ?_)
    refine own_aloadN C X own_d9_27 rfl rfl (pc' := 28) rfl ?_
    refine own_getfield C X own_d9_28 (hw _ (List.mem_of_getElem? (i := 22) rfl)) O (i := 1) rfl (pc' := 31) rfl ?_
    intro T X
    refine own_iload C X own_d9_31 rfl (pc' := 33) rfl ?_
    refine own_laload C X own_d9_33 A (by decide) (i := 3) rfl (pc' := 34) rfl ?_
    refine own_aloadN C X own_d9_34 rfl rfl (pc' := 35) rfl ?_
    refine own_getfield C X own_d9_35 (hw _ (List.mem_of_getElem? (i := 20) rfl)) O (i := 0) rfl (pc' := 38) rfl ?_
    intro T X
    refine own_land C X own_d9_38 rfl (pc' := 39) rfl ?_
    refine own_lloadN C X own_d9_39 rfl (pc' := 40) rfl ?_
    refine own_lcmp_ne C X own_d9_40 own_d9_41 (pcT := 50) (pc' := 44) (by decide) (by decide) rfl (fun hc40_2 => ?_) (fun hc40_2 => ?_)
    · refine own_iload C X own_d9_50 rfl (pc' := 52) rfl ?_
      exact own_ireturn C X own_d9_52 (Nat.le_of_ble_eq_true rfl) (Nat.le_of_ble_eq_true rfl) (⟨by simp only [hc40, hc40_2, if_true, if_false], rfl⟩)
    · refine own_iinc C X own_d9_44 rfl (d := 1) (by decide) (z := 4) (by decide) (L' := #[.val (.ref o), .val (.int (1 : Int32)), .val (.long (f1 &&& mk)), .second, .val (.int (4 : Int32))]) rfl (pc' := 47) rfl ?_
      refine own_goto C X own_d9_47 (pc' := 17) (by decide) (by decide) ?_
      refine own_iload C X own_d9_17 rfl (pc' := 19) rfl ?_
      refine own_aloadN C X own_d9_19 rfl rfl (pc' := 20) rfl ?_
      refine own_getfield C X own_d9_20 (hw _ (List.mem_of_getElem? (i := 22) rfl)) O (i := 1) rfl (pc' := 23) rfl ?_
      intro T X
      refine own_alenJ C X own_d9_23 (n := 4) A rfl (pc' := 24) rfl ?_
      refine own_icmp_ge C X own_d9_24 (pcT := 50) (pc' := 27) (by decide) (by decide) rfl (fun hc24_3 => ?_) (fun hc24_3 => absurd hc24_3 (by decide))
      refine own_iload C X own_d9_50 rfl (pc' := 52) rfl ?_
      exact own_ireturn C X own_d9_52 (Nat.le_of_ble_eq_true rfl) (Nat.le_of_ble_eq_true rfl) (⟨by simp only [hc40, hc40_2, if_true, if_false], rfl⟩)
theorem own_ef_eor2 (o : Addr) (m : MethodId) : entryFrame m #[(.ref o), (.int (2 : Int32))] 5 = mkF m 0 #[.val (.ref o), .val (.int (2 : Int32)), .unset, .unset, .unset] [] := by first | (simp [entryFrame, mkF, argsToLocals, Value.category]; done) | rfl
set_option maxRecDepth 65536 in
set_option maxHeartbeats 40000000 in
theorem own_m_eor2 (l : Launch) (Z : State) (a0 : Array Value) (hw : ∀ d ∈ tables_1, d.before a0 Z = true) (o : Addr) (h0 : Heap) (n0 : Nat) (hn0 : n0 ≤ h0.size) (mk : Int64) (sb od : Addr) (f0 f1 f2 f3 : Int64) (O : own_Ob Z a0 h0 o "com/example/twin64/twin64/search/BlockTable" [("keyMask", "J", (.long mk)), ("sorted", "[J", (.ref sb)), ("indices", "[I", (.ref od))]) (A : own_JA Z h0 sb [f0, f1, f2, f3]) : own_Met l Z n0 (⟨"com/example/twin64/twin64/search/BlockTable", "endOfRun", "(I)I"⟩ : MethodName) prog_33_method_7_code 5 (some .int) [] ({ frames := 0, cells := 0, slots := 0, locals := 0 } : Room) #[(.ref o), (.int (2 : Int32))] h0 (fun v h => v = some (.int (if f3 &&& mk = f2 &&& mk then (4 : Int32) else (3 : Int32))) ∧ h0 = h) := by
  refine own_body (plainFor_of_name own_pn_com_example_twin64_twin64_search_BlockTable) hn0 (own_ef_eor2 o) ?_
  intro p e s m below meth c T C X
  refine own_aloadN C X own_d9_0 rfl rfl (pc' := 1) rfl ?_
  refine own_getfield C X own_d9_1 (hw _ (List.mem_of_getElem? (i := 22) rfl)) O (i := 1) rfl (pc' := 4) rfl ?_
  intro T X
  refine own_iloadN C X own_d9_4 rfl (pc' := 5) rfl ?_
  refine own_laload C X own_d9_5 A (by decide) (i := 2) rfl (pc' := 6) rfl ?_
  refine own_aloadN C X own_d9_6 rfl rfl (pc' := 7) rfl ?_
  refine own_getfield C X own_d9_7 (hw _ (List.mem_of_getElem? (i := 20) rfl)) O (i := 0) rfl (pc' := 10) rfl ?_
  intro T X
  refine own_land C X own_d9_10 rfl (pc' := 11) rfl ?_
  refine own_lstoreN C X own_d9_11 (L' := #[.val (.ref o), .val (.int (2 : Int32)), .val (.long (f2 &&& mk)), .second, .unset]) rfl (pc' := 12) rfl ?_
  refine own_iloadN C X own_d9_12 rfl (pc' := 13) rfl ?_
  refine own_iconst C X own_d9_13 (v := 1) (by decide) (pc' := 14) rfl ?_
  refine own_iadd C X own_d9_14 (z := 3) (by decide) (pc' := 15) rfl ?_
  refine own_istore C X own_d9_15 (L' := #[.val (.ref o), .val (.int (2 : Int32)), .val (.long (f2 &&& mk)), .second, .val (.int (3 : Int32))]) rfl (pc' := 17) rfl ?_
  refine own_iload C X own_d9_17 rfl (pc' := 19) rfl ?_
  refine own_aloadN C X own_d9_19 rfl rfl (pc' := 20) rfl ?_
  refine own_getfield C X own_d9_20 (hw _ (List.mem_of_getElem? (i := 22) rfl)) O (i := 1) rfl (pc' := 23) rfl ?_
  intro T X
  refine own_alenJ C X own_d9_23 (n := 4) A rfl (pc' := 24) rfl ?_
  refine own_icmp_ge C X own_d9_24 (pcT := 50) (pc' := 27) (by decide) (by decide) rfl (fun hc24 => absurd hc24 (by decide)) (fun hc24 => ?_)
  refine own_aloadN C X own_d9_27 rfl rfl (pc' := 28) rfl ?_
  refine own_getfield C X own_d9_28 (hw _ (List.mem_of_getElem? (i := 22) rfl)) O (i := 1) rfl (pc' := 31) rfl ?_
  intro T X
  refine own_iload C X own_d9_31 rfl (pc' := 33) rfl ?_
  refine own_laload C X own_d9_33 A (by decide) (i := 3) rfl (pc' := 34) rfl ?_
  refine own_aloadN C X own_d9_34 rfl rfl (pc' := 35) rfl ?_
  refine own_getfield C X own_d9_35 (hw _ (List.mem_of_getElem? (i := 20) rfl)) O (i := 0) rfl (pc' := 38) rfl ?_
  intro T X
  refine own_land C X own_d9_38 rfl (pc' := 39) rfl ?_
  refine own_lloadN C X own_d9_39 rfl (pc' := 40) rfl ?_
  refine own_lcmp_ne C X own_d9_40 own_d9_41 (pcT := 50) (pc' := 44) (by decide) (by decide) rfl (fun hc40 => ?_) (fun hc40 => ?_)
  · refine own_iload C X own_d9_50 rfl (pc' := 52) rfl ?_
    exact own_ireturn C X own_d9_52 (Nat.le_of_ble_eq_true rfl) (Nat.le_of_ble_eq_true rfl) (⟨by simp only [hc40, if_true, if_false], rfl⟩)
  · refine own_iinc C X own_d9_44 rfl (d := 1) (by decide) (z := 4) (by decide) (L' := #[.val (.ref o), .val (.int (2 : Int32)), .val (.long (f2 &&& mk)), .second, .val (.int (4 : Int32))]) rfl (pc' := 47) rfl ?_
    refine own_goto C X own_d9_47 (pc' := 17) (by decide) (by decide) ?_
    refine own_iload C X own_d9_17 rfl (pc' := 19) rfl ?_
    refine own_aloadN C X own_d9_19 rfl rfl (pc' := 20) rfl ?_
    refine own_getfield C X own_d9_20 (hw _ (List.mem_of_getElem? (i := 22) rfl)) O (i := 1) rfl (pc' := 23) rfl ?_
    intro T X
    refine own_alenJ C X own_d9_23 (n := 4) A rfl (pc' := 24) rfl ?_
    refine own_icmp_ge C X own_d9_24 (pcT := 50) (pc' := 27) (by decide) (by decide) rfl (fun hc24_2 => ?_) (fun hc24_2 => absurd hc24_2 (by decide))
    refine own_iload C X own_d9_50 rfl (pc' := 52) rfl ?_
    exact own_ireturn C X own_d9_52 (Nat.le_of_ble_eq_true rfl) (Nat.le_of_ble_eq_true rfl) (⟨by simp only [hc40, if_true, if_false], rfl⟩)
theorem own_ef_eor3 (o : Addr) (m : MethodId) : entryFrame m #[(.ref o), (.int (3 : Int32))] 5 = mkF m 0 #[.val (.ref o), .val (.int (3 : Int32)), .unset, .unset, .unset] [] := by first | (simp [entryFrame, mkF, argsToLocals, Value.category]; done) | rfl
set_option maxRecDepth 65536 in
set_option maxHeartbeats 40000000 in
theorem own_m_eor3 (l : Launch) (Z : State) (a0 : Array Value) (hw : ∀ d ∈ tables_1, d.before a0 Z = true) (o : Addr) (h0 : Heap) (n0 : Nat) (hn0 : n0 ≤ h0.size) (mk : Int64) (sb od : Addr) (f0 f1 f2 f3 : Int64) (O : own_Ob Z a0 h0 o "com/example/twin64/twin64/search/BlockTable" [("keyMask", "J", (.long mk)), ("sorted", "[J", (.ref sb)), ("indices", "[I", (.ref od))]) (A : own_JA Z h0 sb [f0, f1, f2, f3]) : own_Met l Z n0 (⟨"com/example/twin64/twin64/search/BlockTable", "endOfRun", "(I)I"⟩ : MethodName) prog_33_method_7_code 5 (some .int) [] ({ frames := 0, cells := 0, slots := 0, locals := 0 } : Room) #[(.ref o), (.int (3 : Int32))] h0 (fun v h => v = some (.int (4 : Int32)) ∧ h0 = h) := by
  refine own_body (plainFor_of_name own_pn_com_example_twin64_twin64_search_BlockTable) hn0 (own_ef_eor3 o) ?_
  intro p e s m below meth c T C X
  refine own_aloadN C X own_d9_0 rfl rfl (pc' := 1) rfl ?_
  refine own_getfield C X own_d9_1 (hw _ (List.mem_of_getElem? (i := 22) rfl)) O (i := 1) rfl (pc' := 4) rfl ?_
  intro T X
  refine own_iloadN C X own_d9_4 rfl (pc' := 5) rfl ?_
  refine own_laload C X own_d9_5 A (by decide) (i := 3) rfl (pc' := 6) rfl ?_
  refine own_aloadN C X own_d9_6 rfl rfl (pc' := 7) rfl ?_
  refine own_getfield C X own_d9_7 (hw _ (List.mem_of_getElem? (i := 20) rfl)) O (i := 0) rfl (pc' := 10) rfl ?_
  intro T X
  refine own_land C X own_d9_10 rfl (pc' := 11) rfl ?_
  refine own_lstoreN C X own_d9_11 (L' := #[.val (.ref o), .val (.int (3 : Int32)), .val (.long (f3 &&& mk)), .second, .unset]) rfl (pc' := 12) rfl ?_
  refine own_iloadN C X own_d9_12 rfl (pc' := 13) rfl ?_
  refine own_iconst C X own_d9_13 (v := 1) (by decide) (pc' := 14) rfl ?_
  refine own_iadd C X own_d9_14 (z := 4) (by decide) (pc' := 15) rfl ?_
  refine own_istore C X own_d9_15 (L' := #[.val (.ref o), .val (.int (3 : Int32)), .val (.long (f3 &&& mk)), .second, .val (.int (4 : Int32))]) rfl (pc' := 17) rfl ?_
  refine own_iload C X own_d9_17 rfl (pc' := 19) rfl ?_
  refine own_aloadN C X own_d9_19 rfl rfl (pc' := 20) rfl ?_
  refine own_getfield C X own_d9_20 (hw _ (List.mem_of_getElem? (i := 22) rfl)) O (i := 1) rfl (pc' := 23) rfl ?_
  intro T X
  refine own_alenJ C X own_d9_23 (n := 4) A rfl (pc' := 24) rfl ?_
  refine own_icmp_ge C X own_d9_24 (pcT := 50) (pc' := 27) (by decide) (by decide) rfl (fun hc24 => ?_) (fun hc24 => absurd hc24 (by decide))
  refine own_iload C X own_d9_50 rfl (pc' := 52) rfl ?_
  exact own_ireturn C X own_d9_52 (Nat.le_of_ble_eq_true rfl) (Nat.le_of_ble_eq_true rfl) (⟨rfl, rfl⟩)
theorem own_p4 (x z : Int32) (e : x &&& 3 = z) : z = 0 ∨ z = 1 ∨ z = 2 ∨ z = 3 := by
  have e1 : (x &&& 3).toInt = x.toInt % (2 ^ 2 : Nat) := c_mask x 3 2 (by decide) (by decide)
  rw [e] at e1
  have : z.toInt = 0 ∨ z.toInt = 1 ∨ z.toInt = 2 ∨ z.toInt = 3 := by omega
  rcases this with e | e | e | e
  · exact Or.inl (Int32.toInt_inj.mp e)
  · exact Or.inr (Or.inl (Int32.toInt_inj.mp e))
  · exact Or.inr (Or.inr (Or.inl (Int32.toInt_inj.mp e)))
  · exact Or.inr (Or.inr (Or.inr (Int32.toInt_inj.mp e)))
theorem own_ef_law (q0 : Int64) (q1 : Int64) (q2 : Int64) (q3 : Int64) (i4 : Int32) (i5 : Int32) (m : MethodId) : entryFrame m #[(.long q0), (.long q1), (.long q2), (.long q3), (.int i4), (.int i5)] maxLocals = mkF m 0 #[.val (.long q0), .second, .val (.long q1), .second, .val (.long q2), .second, .val (.long q3), .second, .val (.int i4), .val (.int i5), .unset, .unset, .unset, .unset, .unset, .unset, .unset, .unset, .unset, .unset, .unset, .unset, .unset, .unset, .unset, .unset, .unset, .unset, .unset] [] := by first | (simp [entryFrame, mkF, argsToLocals, Value.category, maxLocals]; done) | rfl
theorem own_pd_2734 : parseMethodDescriptor "(II)I" = some ⟨[.int, .int], some .int⟩ := by decide +kernel
theorem own_pd_4538 : parseMethodDescriptor "(IJJJ)J" = some ⟨[.int, .long, .long, .long], some .long⟩ := by decide +kernel
theorem own_pd_6028 : parseMethodDescriptor "([JJ[I)V" = some ⟨[(.array .long), .long, (.array .int)], none⟩ := by decide +kernel
theorem own_pd_1963 : parseMethodDescriptor "(I)I" = some ⟨[.int], some .int⟩ := by decide +kernel
set_option maxRecDepth 65536 in
set_option maxHeartbeats 40000000 in
theorem own_m_law (l : Launch) (Z : State) (a0 : Array Value) (hw : ∀ d ∈ tables_1, d.before a0 Z = true) (ws : List Jvm.Cond) (q0 : Int64) (q1 : Int64) (q2 : Int64) (q3 : Int64) (i4 : Int32) (i5 : Int32) (h0 : Heap) (n0 : Nat) (hn0 : n0 ≤ h0.size)  : own_Met l Z n0 x code maxLocals ret ws room_1 #[(.long q0), (.long q1), (.long q2), (.long q3), (.int i4), (.int i5)] h0 (fun v h => v = some (.int 1)) := by
  refine own_body (plainFor_of_name own_pn_com_example_twin64_twin64_search_BlockTableEndOfRunPinLaw) hn0 (own_ef_law q0 q1 q2 q3 i4 i5) ?_
  intro p e s m below meth c T C X
  refine own_iload C X at_0 rfl (pc' := 2) rfl ?_
  refine own_iconst C X at_2 (v := 3) (by decide) (pc' := 3) rfl ?_
  refine own_iushr C X at_3 rfl (pc' := 4) rfl ?_
  refine own_iconst C X at_4 (v := 1) (by decide) (pc' := 5) rfl ?_
  obtain ⟨l0, e_l0⟩ : ∃ z : Int32, (((i4.toUInt32 >>> ((3 : Int32) &&& 31).toUInt32).toInt32) &&& (1 : Int32)) = z := ⟨_, rfl⟩
  refine own_iand C X at_5 e_l0 (pc' := 6) rfl ?_
  refine own_istore C X at_6 (L' := #[.val (.long q0), .second, .val (.long q1), .second, .val (.long q2), .second, .val (.long q3), .second, .val (.int i4), .val (.int i5), .val (.int l0), .unset, .unset, .unset, .unset, .unset, .unset, .unset, .unset, .unset, .unset, .unset, .unset, .unset, .unset, .unset, .unset, .unset, .unset]) rfl (pc' := 8) rfl ?_
  refine own_iload C X at_8 rfl (pc' := 10) rfl ?_
  refine own_iload C X at_10 rfl (pc' := 12) rfl ?_
  refine own_iconst C X at_12 (v := 1) (by decide) (pc' := 13) rfl ?_
  refine own_iand C X at_13 rfl (pc' := 14) rfl ?_
  obtain ⟨l1, e_l1⟩ : ∃ z : Int32, (l0 + (i4 &&& (1 : Int32))) = z := ⟨_, rfl⟩
  refine own_iadd C X at_14 e_l1 (pc' := 15) rfl ?_
  refine own_istore C X at_15 (L' := #[.val (.long q0), .second, .val (.long q1), .second, .val (.long q2), .second, .val (.long q3), .second, .val (.int i4), .val (.int i5), .val (.int l0), .val (.int l1), .unset, .unset, .unset, .unset, .unset, .unset, .unset, .unset, .unset, .unset, .unset, .unset, .unset, .unset, .unset, .unset, .unset]) rfl (pc' := 17) rfl ?_
  refine own_iload C X at_17 rfl (pc' := 19) rfl ?_
  refine own_iload C X at_19 rfl (pc' := 21) rfl ?_
  refine own_iconst C X at_21 (v := 1) (by decide) (pc' := 22) rfl ?_
  refine own_iushr C X at_22 rfl (pc' := 23) rfl ?_
  refine own_iconst C X at_23 (v := 1) (by decide) (pc' := 24) rfl ?_
  refine own_iand C X at_24 rfl (pc' := 25) rfl ?_
  obtain ⟨l2, e_l2⟩ : ∃ z : Int32, (l1 + (((i4.toUInt32 >>> ((1 : Int32) &&& 31).toUInt32).toInt32) &&& (1 : Int32))) = z := ⟨_, rfl⟩
  refine own_iadd C X at_25 e_l2 (pc' := 26) rfl ?_
  refine own_istore C X at_26 (L' := #[.val (.long q0), .second, .val (.long q1), .second, .val (.long q2), .second, .val (.long q3), .second, .val (.int i4), .val (.int i5), .val (.int l0), .val (.int l1), .val (.int l2), .unset, .unset, .unset, .unset, .unset, .unset, .unset, .unset, .unset, .unset, .unset, .unset, .unset, .unset, .unset, .unset]) rfl (pc' := 28) rfl ?_
  refine own_iload C X at_28 rfl (pc' := 30) rfl ?_
  refine own_iload C X at_30 rfl (pc' := 32) rfl ?_
  refine own_iconst C X at_32 (v := 2) (by decide) (pc' := 33) rfl ?_
  refine own_iushr C X at_33 rfl (pc' := 34) rfl ?_
  refine own_iconst C X at_34 (v := 1) (by decide) (pc' := 35) rfl ?_
  refine own_iand C X at_35 rfl (pc' := 36) rfl ?_
  obtain ⟨l3, e_l3⟩ : ∃ z : Int32, (l2 + (((i4.toUInt32 >>> ((2 : Int32) &&& 31).toUInt32).toInt32) &&& (1 : Int32))) = z := ⟨_, rfl⟩
  refine own_iadd C X at_36 e_l3 (pc' := 37) rfl ?_
  refine own_istore C X at_37 (L' := #[.val (.long q0), .second, .val (.long q1), .second, .val (.long q2), .second, .val (.long q3), .second, .val (.int i4), .val (.int i5), .val (.int l0), .val (.int l1), .val (.int l2), .val (.int l3), .unset, .unset, .unset, .unset, .unset, .unset, .unset, .unset, .unset, .unset, .unset, .unset, .unset, .unset, .unset]) rfl (pc' := 39) rfl ?_
  refine own_iload C X at_39 rfl (pc' := 41) rfl ?_
  refine own_iconst C X at_41 (v := 3) (by decide) (pc' := 42) rfl ?_
  refine own_callS C X at_42 (own_m_min l Z a0 hw l0 (3 : Int32) _ n0 (own_big C X)) (hw _ (List.mem_of_getElem? (i := 0) rfl)) (hw _ (List.mem_of_getElem? (i := 1) rfl)) (hw _ (List.mem_of_getElem? (i := 2) rfl)) (hw _ (List.mem_of_getElem? (i := 3) rfl)) (by decide) own_pd_2734 rfl rfl (Nat.le_of_ble_eq_true rfl) (Nat.le_of_ble_eq_true rfl) (Nat.le_of_ble_eq_true rfl) (Nat.le_of_ble_eq_true rfl) (av := [(.int l0), (.int (3 : Int32))]) (S := []) rfl (pc' := 45) rfl ?_
  intro T h v X hQ
  obtain ⟨rfl, rfl⟩ := hQ
  show own_Go p e below n0 (own_Fin room_1 s (fun v h => v = some (.int 1))) (T.setTop (mkF m 45 #[.val (.long q0), .second, .val (.long q1), .second, .val (.long q2), .second, .val (.long q3), .second, .val (.int i4), .val (.int i5), .val (.int l0), .val (.int l1), .val (.int l2), .val (.int l3), .unset, .unset, .unset, .unset, .unset, .unset, .unset, .unset, .unset, .unset, .unset, .unset, .unset, .unset, .unset] [(.int (own_mi l0 (3 : Int32)))]))
  refine own_lloadN C X at_45 rfl (pc' := 46) rfl ?_
  refine own_lloadN C X at_46 rfl (pc' := 47) rfl ?_
  refine own_lload C X at_47 rfl (pc' := 49) rfl ?_
  refine own_callS C X at_49 (own_m_lv l Z a0 hw (own_mi l0 (3 : Int32)) q0 q1 q2 _ n0 (own_big C X)) (hw _ (List.mem_of_getElem? (i := 4) rfl)) (hw _ (List.mem_of_getElem? (i := 5) rfl)) (hw _ (List.mem_of_getElem? (i := 6) rfl)) (hw _ (List.mem_of_getElem? (i := 7) rfl)) (by decide) own_pd_4538 rfl rfl (Nat.le_of_ble_eq_true rfl) (Nat.le_of_ble_eq_true rfl) (Nat.le_of_ble_eq_true rfl) (Nat.le_of_ble_eq_true rfl) (av := [(.int (own_mi l0 (3 : Int32))), (.long q0), (.long q1), (.long q2)]) (S := []) rfl (pc' := 52) rfl ?_
  intro T h v X hQ
  obtain ⟨rfl, rfl⟩ := hQ
  show own_Go p e below n0 (own_Fin room_1 s (fun v h => v = some (.int 1))) (T.setTop (mkF m 52 #[.val (.long q0), .second, .val (.long q1), .second, .val (.long q2), .second, .val (.long q3), .second, .val (.int i4), .val (.int i5), .val (.int l0), .val (.int l1), .val (.int l2), .val (.int l3), .unset, .unset, .unset, .unset, .unset, .unset, .unset, .unset, .unset, .unset, .unset, .unset, .unset, .unset, .unset] [(.long (own_lv (own_mi l0 (3 : Int32)) q0 q1 q2))]))
  obtain ⟨k0, e_k0⟩ : ∃ z : Int64, (own_lv (own_mi l0 (3 : Int32)) q0 q1 q2) = z := ⟨_, rfl⟩
  rw [e_k0]
  show own_Go p e below n0 (own_Fin room_1 s (fun v h => v = some (.int 1))) (T.setTop (mkF m 52 #[.val (.long q0), .second, .val (.long q1), .second, .val (.long q2), .second, .val (.long q3), .second, .val (.int i4), .val (.int i5), .val (.int l0), .val (.int l1), .val (.int l2), .val (.int l3), .unset, .unset, .unset, .unset, .unset, .unset, .unset, .unset, .unset, .unset, .unset, .unset, .unset, .unset, .unset] [(.long k0)]))
  refine own_lstore C X at_52 (L' := #[.val (.long q0), .second, .val (.long q1), .second, .val (.long q2), .second, .val (.long q3), .second, .val (.int i4), .val (.int i5), .val (.int l0), .val (.int l1), .val (.int l2), .val (.int l3), .val (.long k0), .second, .unset, .unset, .unset, .unset, .unset, .unset, .unset, .unset, .unset, .unset, .unset, .unset, .unset]) rfl (pc' := 54) rfl ?_
  refine own_iload C X at_54 rfl (pc' := 56) rfl ?_
  refine own_iconst C X at_56 (v := 3) (by decide) (pc' := 57) rfl ?_
  refine own_callS C X at_57 (own_m_min l Z a0 hw l1 (3 : Int32) _ n0 (own_big C X)) (hw _ (List.mem_of_getElem? (i := 0) rfl)) (hw _ (List.mem_of_getElem? (i := 1) rfl)) (hw _ (List.mem_of_getElem? (i := 2) rfl)) (hw _ (List.mem_of_getElem? (i := 3) rfl)) (by decide) own_pd_2734 rfl rfl (Nat.le_of_ble_eq_true rfl) (Nat.le_of_ble_eq_true rfl) (Nat.le_of_ble_eq_true rfl) (Nat.le_of_ble_eq_true rfl) (av := [(.int l1), (.int (3 : Int32))]) (S := []) rfl (pc' := 60) rfl ?_
  intro T h v X hQ
  obtain ⟨rfl, rfl⟩ := hQ
  show own_Go p e below n0 (own_Fin room_1 s (fun v h => v = some (.int 1))) (T.setTop (mkF m 60 #[.val (.long q0), .second, .val (.long q1), .second, .val (.long q2), .second, .val (.long q3), .second, .val (.int i4), .val (.int i5), .val (.int l0), .val (.int l1), .val (.int l2), .val (.int l3), .val (.long k0), .second, .unset, .unset, .unset, .unset, .unset, .unset, .unset, .unset, .unset, .unset, .unset, .unset, .unset] [(.int (own_mi l1 (3 : Int32)))]))
  refine own_lloadN C X at_60 rfl (pc' := 61) rfl ?_
  refine own_lloadN C X at_61 rfl (pc' := 62) rfl ?_
  refine own_lload C X at_62 rfl (pc' := 64) rfl ?_
  refine own_callS C X at_64 (own_m_lv l Z a0 hw (own_mi l1 (3 : Int32)) q0 q1 q2 _ n0 (own_big C X)) (hw _ (List.mem_of_getElem? (i := 4) rfl)) (hw _ (List.mem_of_getElem? (i := 5) rfl)) (hw _ (List.mem_of_getElem? (i := 6) rfl)) (hw _ (List.mem_of_getElem? (i := 7) rfl)) (by decide) own_pd_4538 rfl rfl (Nat.le_of_ble_eq_true rfl) (Nat.le_of_ble_eq_true rfl) (Nat.le_of_ble_eq_true rfl) (Nat.le_of_ble_eq_true rfl) (av := [(.int (own_mi l1 (3 : Int32))), (.long q0), (.long q1), (.long q2)]) (S := []) rfl (pc' := 67) rfl ?_
  intro T h v X hQ
  obtain ⟨rfl, rfl⟩ := hQ
  show own_Go p e below n0 (own_Fin room_1 s (fun v h => v = some (.int 1))) (T.setTop (mkF m 67 #[.val (.long q0), .second, .val (.long q1), .second, .val (.long q2), .second, .val (.long q3), .second, .val (.int i4), .val (.int i5), .val (.int l0), .val (.int l1), .val (.int l2), .val (.int l3), .val (.long k0), .second, .unset, .unset, .unset, .unset, .unset, .unset, .unset, .unset, .unset, .unset, .unset, .unset, .unset] [(.long (own_lv (own_mi l1 (3 : Int32)) q0 q1 q2))]))
  obtain ⟨k1, e_k1⟩ : ∃ z : Int64, (own_lv (own_mi l1 (3 : Int32)) q0 q1 q2) = z := ⟨_, rfl⟩
  rw [e_k1]
  show own_Go p e below n0 (own_Fin room_1 s (fun v h => v = some (.int 1))) (T.setTop (mkF m 67 #[.val (.long q0), .second, .val (.long q1), .second, .val (.long q2), .second, .val (.long q3), .second, .val (.int i4), .val (.int i5), .val (.int l0), .val (.int l1), .val (.int l2), .val (.int l3), .val (.long k0), .second, .unset, .unset, .unset, .unset, .unset, .unset, .unset, .unset, .unset, .unset, .unset, .unset, .unset] [(.long k1)]))
  refine own_lstore C X at_67 (L' := #[.val (.long q0), .second, .val (.long q1), .second, .val (.long q2), .second, .val (.long q3), .second, .val (.int i4), .val (.int i5), .val (.int l0), .val (.int l1), .val (.int l2), .val (.int l3), .val (.long k0), .second, .val (.long k1), .second, .unset, .unset, .unset, .unset, .unset, .unset, .unset, .unset, .unset, .unset, .unset]) rfl (pc' := 69) rfl ?_
  refine own_iload C X at_69 rfl (pc' := 71) rfl ?_
  refine own_iconst C X at_71 (v := 3) (by decide) (pc' := 72) rfl ?_
  refine own_callS C X at_72 (own_m_min l Z a0 hw l2 (3 : Int32) _ n0 (own_big C X)) (hw _ (List.mem_of_getElem? (i := 0) rfl)) (hw _ (List.mem_of_getElem? (i := 1) rfl)) (hw _ (List.mem_of_getElem? (i := 2) rfl)) (hw _ (List.mem_of_getElem? (i := 3) rfl)) (by decide) own_pd_2734 rfl rfl (Nat.le_of_ble_eq_true rfl) (Nat.le_of_ble_eq_true rfl) (Nat.le_of_ble_eq_true rfl) (Nat.le_of_ble_eq_true rfl) (av := [(.int l2), (.int (3 : Int32))]) (S := []) rfl (pc' := 75) rfl ?_
  intro T h v X hQ
  obtain ⟨rfl, rfl⟩ := hQ
  show own_Go p e below n0 (own_Fin room_1 s (fun v h => v = some (.int 1))) (T.setTop (mkF m 75 #[.val (.long q0), .second, .val (.long q1), .second, .val (.long q2), .second, .val (.long q3), .second, .val (.int i4), .val (.int i5), .val (.int l0), .val (.int l1), .val (.int l2), .val (.int l3), .val (.long k0), .second, .val (.long k1), .second, .unset, .unset, .unset, .unset, .unset, .unset, .unset, .unset, .unset, .unset, .unset] [(.int (own_mi l2 (3 : Int32)))]))
  refine own_lloadN C X at_75 rfl (pc' := 76) rfl ?_
  refine own_lloadN C X at_76 rfl (pc' := 77) rfl ?_
  refine own_lload C X at_77 rfl (pc' := 79) rfl ?_
  refine own_callS C X at_79 (own_m_lv l Z a0 hw (own_mi l2 (3 : Int32)) q0 q1 q2 _ n0 (own_big C X)) (hw _ (List.mem_of_getElem? (i := 4) rfl)) (hw _ (List.mem_of_getElem? (i := 5) rfl)) (hw _ (List.mem_of_getElem? (i := 6) rfl)) (hw _ (List.mem_of_getElem? (i := 7) rfl)) (by decide) own_pd_4538 rfl rfl (Nat.le_of_ble_eq_true rfl) (Nat.le_of_ble_eq_true rfl) (Nat.le_of_ble_eq_true rfl) (Nat.le_of_ble_eq_true rfl) (av := [(.int (own_mi l2 (3 : Int32))), (.long q0), (.long q1), (.long q2)]) (S := []) rfl (pc' := 82) rfl ?_
  intro T h v X hQ
  obtain ⟨rfl, rfl⟩ := hQ
  show own_Go p e below n0 (own_Fin room_1 s (fun v h => v = some (.int 1))) (T.setTop (mkF m 82 #[.val (.long q0), .second, .val (.long q1), .second, .val (.long q2), .second, .val (.long q3), .second, .val (.int i4), .val (.int i5), .val (.int l0), .val (.int l1), .val (.int l2), .val (.int l3), .val (.long k0), .second, .val (.long k1), .second, .unset, .unset, .unset, .unset, .unset, .unset, .unset, .unset, .unset, .unset, .unset] [(.long (own_lv (own_mi l2 (3 : Int32)) q0 q1 q2))]))
  obtain ⟨k2, e_k2⟩ : ∃ z : Int64, (own_lv (own_mi l2 (3 : Int32)) q0 q1 q2) = z := ⟨_, rfl⟩
  rw [e_k2]
  show own_Go p e below n0 (own_Fin room_1 s (fun v h => v = some (.int 1))) (T.setTop (mkF m 82 #[.val (.long q0), .second, .val (.long q1), .second, .val (.long q2), .second, .val (.long q3), .second, .val (.int i4), .val (.int i5), .val (.int l0), .val (.int l1), .val (.int l2), .val (.int l3), .val (.long k0), .second, .val (.long k1), .second, .unset, .unset, .unset, .unset, .unset, .unset, .unset, .unset, .unset, .unset, .unset] [(.long k2)]))
  refine own_lstore C X at_82 (L' := #[.val (.long q0), .second, .val (.long q1), .second, .val (.long q2), .second, .val (.long q3), .second, .val (.int i4), .val (.int i5), .val (.int l0), .val (.int l1), .val (.int l2), .val (.int l3), .val (.long k0), .second, .val (.long k1), .second, .val (.long k2), .second, .unset, .unset, .unset, .unset, .unset, .unset, .unset, .unset, .unset]) rfl (pc' := 84) rfl ?_
  refine own_iload C X at_84 rfl (pc' := 86) rfl ?_
  refine own_iconst C X at_86 (v := 3) (by decide) (pc' := 87) rfl ?_
  refine own_callS C X at_87 (own_m_min l Z a0 hw l3 (3 : Int32) _ n0 (own_big C X)) (hw _ (List.mem_of_getElem? (i := 0) rfl)) (hw _ (List.mem_of_getElem? (i := 1) rfl)) (hw _ (List.mem_of_getElem? (i := 2) rfl)) (hw _ (List.mem_of_getElem? (i := 3) rfl)) (by decide) own_pd_2734 rfl rfl (Nat.le_of_ble_eq_true rfl) (Nat.le_of_ble_eq_true rfl) (Nat.le_of_ble_eq_true rfl) (Nat.le_of_ble_eq_true rfl) (av := [(.int l3), (.int (3 : Int32))]) (S := []) rfl (pc' := 90) rfl ?_
  intro T h v X hQ
  obtain ⟨rfl, rfl⟩ := hQ
  show own_Go p e below n0 (own_Fin room_1 s (fun v h => v = some (.int 1))) (T.setTop (mkF m 90 #[.val (.long q0), .second, .val (.long q1), .second, .val (.long q2), .second, .val (.long q3), .second, .val (.int i4), .val (.int i5), .val (.int l0), .val (.int l1), .val (.int l2), .val (.int l3), .val (.long k0), .second, .val (.long k1), .second, .val (.long k2), .second, .unset, .unset, .unset, .unset, .unset, .unset, .unset, .unset, .unset] [(.int (own_mi l3 (3 : Int32)))]))
  refine own_lloadN C X at_90 rfl (pc' := 91) rfl ?_
  refine own_lloadN C X at_91 rfl (pc' := 92) rfl ?_
  refine own_lload C X at_92 rfl (pc' := 94) rfl ?_
  refine own_callS C X at_94 (own_m_lv l Z a0 hw (own_mi l3 (3 : Int32)) q0 q1 q2 _ n0 (own_big C X)) (hw _ (List.mem_of_getElem? (i := 4) rfl)) (hw _ (List.mem_of_getElem? (i := 5) rfl)) (hw _ (List.mem_of_getElem? (i := 6) rfl)) (hw _ (List.mem_of_getElem? (i := 7) rfl)) (by decide) own_pd_4538 rfl rfl (Nat.le_of_ble_eq_true rfl) (Nat.le_of_ble_eq_true rfl) (Nat.le_of_ble_eq_true rfl) (Nat.le_of_ble_eq_true rfl) (av := [(.int (own_mi l3 (3 : Int32))), (.long q0), (.long q1), (.long q2)]) (S := []) rfl (pc' := 97) rfl ?_
  intro T h v X hQ
  obtain ⟨rfl, rfl⟩ := hQ
  show own_Go p e below n0 (own_Fin room_1 s (fun v h => v = some (.int 1))) (T.setTop (mkF m 97 #[.val (.long q0), .second, .val (.long q1), .second, .val (.long q2), .second, .val (.long q3), .second, .val (.int i4), .val (.int i5), .val (.int l0), .val (.int l1), .val (.int l2), .val (.int l3), .val (.long k0), .second, .val (.long k1), .second, .val (.long k2), .second, .unset, .unset, .unset, .unset, .unset, .unset, .unset, .unset, .unset] [(.long (own_lv (own_mi l3 (3 : Int32)) q0 q1 q2))]))
  obtain ⟨k3, e_k3⟩ : ∃ z : Int64, (own_lv (own_mi l3 (3 : Int32)) q0 q1 q2) = z := ⟨_, rfl⟩
  rw [e_k3]
  show own_Go p e below n0 (own_Fin room_1 s (fun v h => v = some (.int 1))) (T.setTop (mkF m 97 #[.val (.long q0), .second, .val (.long q1), .second, .val (.long q2), .second, .val (.long q3), .second, .val (.int i4), .val (.int i5), .val (.int l0), .val (.int l1), .val (.int l2), .val (.int l3), .val (.long k0), .second, .val (.long k1), .second, .val (.long k2), .second, .unset, .unset, .unset, .unset, .unset, .unset, .unset, .unset, .unset] [(.long k3)]))
  refine own_lstore C X at_97 (L' := #[.val (.long q0), .second, .val (.long q1), .second, .val (.long q2), .second, .val (.long q3), .second, .val (.int i4), .val (.int i5), .val (.int l0), .val (.int l1), .val (.int l2), .val (.int l3), .val (.long k0), .second, .val (.long k1), .second, .val (.long k2), .second, .val (.long k3), .second, .unset, .unset, .unset, .unset, .unset, .unset, .unset]) rfl (pc' := 99) rfl ?_
  obtain ⟨s01, s12, s23, s3m⟩ := own_chain q0 q1 q2 l0 l1 l2 l3 0 0 0 _ _ _ _ e_l0 e_l1 e_l2 e_l3
  rw [e_k0, e_k1] at s01
  rw [e_k1, e_k2] at s12
  rw [e_k2, e_k3] at s23
  rw [e_k3] at s3m
  have s2m := own_subt s23 s3m
  have s1m := own_subt s12 s2m
  have s0m := own_subt s01 s1m
  refine own_iconst C X at_99 (v := 4) (by decide) (pc' := 100) rfl ?_
  refine own_newJ C X at_100 (hw _ (List.mem_of_getElem? (i := 8) rfl)) (by decide) (k := 4) (cap := 4) (Nat.le_of_ble_eq_true rfl) (by decide) (Nat.le_of_ble_eq_true rfl) (Nat.le_of_ble_eq_true rfl) (pc' := 102) rfl ?_
  intro T h fa e_fa X K_ ge_fa A_fa_
  have A_fa : own_JA Z h fa [(0 : Int64), (0 : Int64), (0 : Int64), (0 : Int64)] := A_fa_
  refine own_astore C X at_102 rfl (L' := #[.val (.long q0), .second, .val (.long q1), .second, .val (.long q2), .second, .val (.long q3), .second, .val (.int i4), .val (.int i5), .val (.int l0), .val (.int l1), .val (.int l2), .val (.int l3), .val (.long k0), .second, .val (.long k1), .second, .val (.long k2), .second, .val (.long k3), .second, .val (.ref fa), .unset, .unset, .unset, .unset, .unset, .unset]) rfl (pc' := 104) rfl ?_
  refine own_aload C X at_104 rfl rfl (pc' := 106) rfl ?_
  refine own_iconst C X at_106 (v := 0) (by decide) (pc' := 107) rfl ?_
  refine own_lload C X at_107 rfl (pc' := 109) rfl ?_
  refine own_lload C X at_109 rfl (pc' := 111) rfl ?_
  refine own_lloadN C X at_111 rfl (pc' := 112) rfl ?_
  refine own_ldc2L C X at_112 (hw _ (List.mem_of_getElem? (i := 9) rfl)) (pc' := 115) rfl ?_
  refine own_lxor C X at_115 rfl (pc' := 116) rfl ?_
  refine own_land C X at_116 rfl (pc' := 117) rfl ?_
  obtain ⟨g0, e_g0⟩ : ∃ z : Int64, (k0 ||| (q3 &&& (q0 ^^^ (-1 : Int64)))) = z := ⟨_, rfl⟩
  refine own_lor C X at_117 e_g0 (pc' := 118) rfl ?_
  have m0 : g0 &&& q0 = k0 := by rw [← e_g0]; exact own_fm k0 _ q0 s0m
  refine own_lastore C X at_118 A_fa (by decide) (i := 0) (Nat.le_of_ble_eq_true rfl) ge_fa (pc' := 119) rfl ?_
  intro T h X K_ A_fa_
  have A_fa : own_JA Z h fa [g0, (0 : Int64), (0 : Int64), (0 : Int64)] := A_fa_
  refine own_aload C X at_119 rfl rfl (pc' := 121) rfl ?_
  refine own_iconst C X at_121 (v := 1) (by decide) (pc' := 122) rfl ?_
  refine own_lload C X at_122 rfl (pc' := 124) rfl ?_
  refine own_lload C X at_124 rfl (pc' := 126) rfl ?_
  refine own_ldc2L C X at_126 (hw _ (List.mem_of_getElem? (i := 9) rfl)) (pc' := 129) rfl ?_
  refine own_lxor C X at_129 rfl (pc' := 130) rfl ?_
  refine own_lloadN C X at_130 rfl (pc' := 131) rfl ?_
  refine own_ldc2L C X at_131 (hw _ (List.mem_of_getElem? (i := 9) rfl)) (pc' := 134) rfl ?_
  refine own_lxor C X at_134 rfl (pc' := 135) rfl ?_
  refine own_land C X at_135 rfl (pc' := 136) rfl ?_
  obtain ⟨g1, e_g1⟩ : ∃ z : Int64, (k1 ||| ((q3 ^^^ (-1 : Int64)) &&& (q0 ^^^ (-1 : Int64)))) = z := ⟨_, rfl⟩
  refine own_lor C X at_136 e_g1 (pc' := 137) rfl ?_
  have m1 : g1 &&& q0 = k1 := by rw [← e_g1]; exact own_fm k1 _ q0 s1m
  refine own_lastore C X at_137 A_fa (by decide) (i := 1) (Nat.le_of_ble_eq_true rfl) ge_fa (pc' := 138) rfl ?_
  intro T h X K_ A_fa_
  have A_fa : own_JA Z h fa [g0, g1, (0 : Int64), (0 : Int64)] := A_fa_
  refine own_aload C X at_138 rfl rfl (pc' := 140) rfl ?_
  refine own_iconst C X at_140 (v := 2) (by decide) (pc' := 141) rfl ?_
  refine own_lload C X at_141 rfl (pc' := 143) rfl ?_
  refine own_lload C X at_143 rfl (pc' := 145) rfl ?_
  refine own_lloadN C X at_145 rfl (pc' := 146) rfl ?_
  refine own_lxor C X at_146 rfl (pc' := 147) rfl ?_
  refine own_lloadN C X at_147 rfl (pc' := 148) rfl ?_
  refine own_ldc2L C X at_148 (hw _ (List.mem_of_getElem? (i := 9) rfl)) (pc' := 151) rfl ?_
  refine own_lxor C X at_151 rfl (pc' := 152) rfl ?_
  refine own_land C X at_152 rfl (pc' := 153) rfl ?_
  obtain ⟨g2, e_g2⟩ : ∃ z : Int64, (k2 ||| ((q3 ^^^ q1) &&& (q0 ^^^ (-1 : Int64)))) = z := ⟨_, rfl⟩
  refine own_lor C X at_153 e_g2 (pc' := 154) rfl ?_
  have m2 : g2 &&& q0 = k2 := by rw [← e_g2]; exact own_fm k2 _ q0 s2m
  refine own_lastore C X at_154 A_fa (by decide) (i := 2) (Nat.le_of_ble_eq_true rfl) ge_fa (pc' := 155) rfl ?_
  intro T h X K_ A_fa_
  have A_fa : own_JA Z h fa [g0, g1, g2, (0 : Int64)] := A_fa_
  refine own_aload C X at_155 rfl rfl (pc' := 157) rfl ?_
  refine own_iconst C X at_157 (v := 3) (by decide) (pc' := 158) rfl ?_
  refine own_lload C X at_158 rfl (pc' := 160) rfl ?_
  refine own_lload C X at_160 rfl (pc' := 162) rfl ?_
  refine own_lload C X at_162 rfl (pc' := 164) rfl ?_
  refine own_lxor C X at_164 rfl (pc' := 165) rfl ?_
  refine own_lloadN C X at_165 rfl (pc' := 166) rfl ?_
  refine own_ldc2L C X at_166 (hw _ (List.mem_of_getElem? (i := 9) rfl)) (pc' := 169) rfl ?_
  refine own_lxor C X at_169 rfl (pc' := 170) rfl ?_
  refine own_land C X at_170 rfl (pc' := 171) rfl ?_
  obtain ⟨g3, e_g3⟩ : ∃ z : Int64, (k3 ||| ((q3 ^^^ q2) &&& (q0 ^^^ (-1 : Int64)))) = z := ⟨_, rfl⟩
  refine own_lor C X at_171 e_g3 (pc' := 172) rfl ?_
  have m3 : g3 &&& q0 = k3 := by rw [← e_g3]; exact own_fm k3 _ q0 s3m
  refine own_lastore C X at_172 A_fa (by decide) (i := 3) (Nat.le_of_ble_eq_true rfl) ge_fa (pc' := 173) rfl ?_
  intro T h X K_ A_fa_
  have A_fa : own_JA Z h fa [g0, g1, g2, g3] := A_fa_
  refine own_iconst C X at_173 (v := 4) (by decide) (pc' := 174) rfl ?_
  refine own_newI C X at_174 (ty := .int) rfl (hw _ (List.mem_of_getElem? (i := 10) rfl)) (by decide) (k := 4) (cap := 4) (Nat.le_of_ble_eq_true rfl) (by decide) (Nat.le_of_ble_eq_true rfl) (Nat.le_of_ble_eq_true rfl) rfl rfl (pc' := 176) rfl ?_
  intro T h oa e_oa X K_ ge_oa A_oa_
  have ne_fa_oa : fa ≠ oa := by rw [e_oa]; exact Nat.ne_of_lt A_fa.lt
  have A_oa : own_IA Z h oa .int [(0 : Int32), (0 : Int32), (0 : Int32), (0 : Int32)] := A_oa_
  have A_fa := A_fa.keep K_ nin0
  refine own_astore C X at_176 rfl (L' := #[.val (.long q0), .second, .val (.long q1), .second, .val (.long q2), .second, .val (.long q3), .second, .val (.int i4), .val (.int i5), .val (.int l0), .val (.int l1), .val (.int l2), .val (.int l3), .val (.long k0), .second, .val (.long k1), .second, .val (.long k2), .second, .val (.long k3), .second, .val (.ref fa), .val (.ref oa), .unset, .unset, .unset, .unset, .unset]) rfl (pc' := 178) rfl ?_
  refine own_aload C X at_178 rfl rfl (pc' := 180) rfl ?_
  refine own_iconst C X at_180 (v := 0) (by decide) (pc' := 181) rfl ?_
  refine own_iconst C X at_181 (v := 0) (by decide) (pc' := 182) rfl ?_
  refine own_iastore C X at_182 A_oa (by decide) (i := 0) (Nat.le_of_ble_eq_true rfl) ge_oa (pc' := 183) rfl ?_
  intro T h X K_ A_oa_
  have A_oa : own_IA Z h oa .int [(0 : Int32), (0 : Int32), (0 : Int32), (0 : Int32)] := A_oa_
  have A_fa := A_fa.keep K_ (ninS ne_fa_oa nin0)
  refine own_aload C X at_183 rfl rfl (pc' := 185) rfl ?_
  refine own_iconst C X at_185 (v := 1) (by decide) (pc' := 186) rfl ?_
  refine own_iconst C X at_186 (v := 1) (by decide) (pc' := 187) rfl ?_
  refine own_iastore C X at_187 A_oa (by decide) (i := 1) (Nat.le_of_ble_eq_true rfl) ge_oa (pc' := 188) rfl ?_
  intro T h X K_ A_oa_
  have A_oa : own_IA Z h oa .int [(0 : Int32), (1 : Int32), (0 : Int32), (0 : Int32)] := A_oa_
  have A_fa := A_fa.keep K_ (ninS ne_fa_oa nin0)
  refine own_aload C X at_188 rfl rfl (pc' := 190) rfl ?_
  refine own_iconst C X at_190 (v := 2) (by decide) (pc' := 191) rfl ?_
  refine own_iconst C X at_191 (v := 2) (by decide) (pc' := 192) rfl ?_
  refine own_iastore C X at_192 A_oa (by decide) (i := 2) (Nat.le_of_ble_eq_true rfl) ge_oa (pc' := 193) rfl ?_
  intro T h X K_ A_oa_
  have A_oa : own_IA Z h oa .int [(0 : Int32), (1 : Int32), (2 : Int32), (0 : Int32)] := A_oa_
  have A_fa := A_fa.keep K_ (ninS ne_fa_oa nin0)
  refine own_aload C X at_193 rfl rfl (pc' := 195) rfl ?_
  refine own_iconst C X at_195 (v := 3) (by decide) (pc' := 196) rfl ?_
  refine own_iconst C X at_196 (v := 3) (by decide) (pc' := 197) rfl ?_
  refine own_iastore C X at_197 A_oa (by decide) (i := 3) (Nat.le_of_ble_eq_true rfl) ge_oa (pc' := 198) rfl ?_
  intro T h X K_ A_oa_
  have A_oa : own_IA Z h oa .int [(0 : Int32), (1 : Int32), (2 : Int32), (3 : Int32)] := A_oa_
  have A_fa := A_fa.keep K_ (ninS ne_fa_oa nin0)
  refine own_new C X at_198 (hw _ (List.mem_of_getElem? (i := 11) rfl)) (hw _ (List.mem_of_getElem? (i := 12) rfl)) (hw _ (List.mem_of_getElem? (i := 13) rfl)) (Nat.le_of_ble_eq_true rfl) (Nat.le_of_ble_eq_true rfl) [("keyMask", "J", (.long (0 : Int64))), ("sorted", "[J", .null), ("indices", "[I", .null)] (by decide) ?_ (pc' := 201) rfl ?_
  · intro f hf; simp only [List.mem_cons, List.not_mem_nil, or_false] at hf
    rcases hf with rfl | rfl | rfl
    · exact ⟨(Or.inr (hw _ (List.mem_of_getElem? (i := 21) rfl))), .long, by decide, rfl⟩
    · exact ⟨(Or.inr (hw _ (List.mem_of_getElem? (i := 23) rfl))), (.array .long), by decide, rfl⟩
    · exact ⟨(Or.inr (hw _ (List.mem_of_getElem? (i := 25) rfl))), (.array .int), by decide, rfl⟩
  intro T h ob e_ob X K_ ge_ob O_ob
  have ne_fa_ob : fa ≠ ob := by rw [e_ob]; exact Nat.ne_of_lt A_fa.lt
  have ne_oa_ob : oa ≠ ob := by rw [e_ob]; exact Nat.ne_of_lt A_oa.lt
  have A_fa := A_fa.keep K_ nin0
  have A_oa := A_oa.keep K_ nin0
  refine own_dup C X at_201 rfl (pc' := 202) rfl ?_
  refine own_aload C X at_202 rfl rfl (pc' := 204) rfl ?_
  refine own_lloadN C X at_204 rfl (pc' := 205) rfl ?_
  refine own_aload C X at_205 rfl rfl (pc' := 207) rfl ?_
  have t01 : own_sub (g0 &&& q0) (g1 &&& q0) := by rw [m0, m1]; exact s01
  have t12 : own_sub (g1 &&& q0) (g2 &&& q0) := by rw [m1, m2]; exact s12
  have t23 : own_sub (g2 &&& q0) (g3 &&& q0) := by rw [m2, m3]; exact s23
  refine own_callInit C X at_207 (own_m_init l Z a0 hw ob fa q0 oa _ n0 (own_big C X) g0 g1 g2 g3 O_ob A_fa A_oa (Ne.symm ne_fa_ob) (Ne.symm ne_oa_ob) ne_fa_oa ge_ob t01 t12 t23) rfl (hw _ (List.mem_of_getElem? (i := 14) rfl)) (hw _ (List.mem_of_getElem? (i := 15) rfl)) (hw _ (List.mem_of_getElem? (i := 13) rfl)) (hw _ (List.mem_of_getElem? (i := 16) rfl)) (by decide) own_pd_6028 rfl rfl (Nat.le_of_ble_eq_true rfl) (Nat.le_of_ble_eq_true rfl) (Nat.le_of_ble_eq_true rfl) (Nat.le_of_ble_eq_true rfl) (av := [(.ref fa), (.long q0), (.ref oa)]) (S := [(.ref ob)]) rfl (pc' := 210) rfl ?_
  intro T h v X hQ
  obtain ⟨rfl, sb, K_, O_ob, A_sb⟩ := hQ
  show own_Go p e below n0 (own_Fin room_1 s (fun v h => v = some (.int 1))) (T.setTop (mkF m 210 #[.val (.long q0), .second, .val (.long q1), .second, .val (.long q2), .second, .val (.long q3), .second, .val (.int i4), .val (.int i5), .val (.int l0), .val (.int l1), .val (.int l2), .val (.int l3), .val (.long k0), .second, .val (.long k1), .second, .val (.long k2), .second, .val (.long k3), .second, .val (.ref fa), .val (.ref oa), .unset, .unset, .unset, .unset, .unset] [(.ref ob)]))
  refine own_astore C X at_210 rfl (L' := #[.val (.long q0), .second, .val (.long q1), .second, .val (.long q2), .second, .val (.long q3), .second, .val (.int i4), .val (.int i5), .val (.int l0), .val (.int l1), .val (.int l2), .val (.int l3), .val (.long k0), .second, .val (.long k1), .second, .val (.long k2), .second, .val (.long k3), .second, .val (.ref fa), .val (.ref oa), .val (.ref ob), .unset, .unset, .unset, .unset]) rfl (pc' := 212) rfl ?_
  refine own_iload C X at_212 rfl (pc' := 214) rfl ?_
  refine own_iconst C X at_214 (v := 3) (by decide) (pc' := 215) rfl ?_
  obtain ⟨pp, e_pp⟩ : ∃ z : Int32, (i5 &&& (3 : Int32)) = z := ⟨_, rfl⟩
  refine own_iand C X at_215 e_pp (pc' := 216) rfl ?_
  refine own_istore C X at_216 (L' := #[.val (.long q0), .second, .val (.long q1), .second, .val (.long q2), .second, .val (.long q3), .second, .val (.int i4), .val (.int i5), .val (.int l0), .val (.int l1), .val (.int l2), .val (.int l3), .val (.long k0), .second, .val (.long k1), .second, .val (.long k2), .second, .val (.long k3), .second, .val (.ref fa), .val (.ref oa), .val (.ref ob), .val (.int pp), .unset, .unset, .unset]) rfl (pc' := 218) rfl ?_
  rcases own_p4 _ pp e_pp with rfl | rfl | rfl | rfl
  · refine own_iload C X at_218 rfl (pc' := 220) rfl ?_
    refine own_if_ne C X at_220 (pcT := 228) (pc' := 223) (by decide) (by decide) rfl (fun hc220 => absurd hc220 (by decide)) (fun hc220 => ?_)
    refine own_lload C X at_223 rfl (pc' := 225) rfl ?_
    refine own_goto C X at_225 (pc' := 252) (by decide) (by decide) ?_
    refine own_lstore C X at_252 (L' := #[.val (.long q0), .second, .val (.long q1), .second, .val (.long q2), .second, .val (.long q3), .second, .val (.int i4), .val (.int i5), .val (.int l0), .val (.int l1), .val (.int l2), .val (.int l3), .val (.long k0), .second, .val (.long k1), .second, .val (.long k2), .second, .val (.long k3), .second, .val (.ref fa), .val (.ref oa), .val (.ref ob), .val (.int (0 : Int32)), .val (.long k0), .second, .unset]) rfl (pc' := 254) rfl ?_
    refine own_lload C X at_254 rfl (pc' := 256) rfl ?_
    refine own_lload C X at_256 rfl (pc' := 258) rfl ?_
    refine own_callS C X at_258 (own_m_ng l Z a0 hw k0 k0 _ n0 (own_big C X)) (hw _ (List.mem_of_getElem? (i := 38) rfl)) (hw _ (List.mem_of_getElem? (i := 39) rfl)) (hw _ (List.mem_of_getElem? (i := 6) rfl)) (hw _ (List.mem_of_getElem? (i := 40) rfl)) (by decide) own_pd_2751 rfl rfl (Nat.le_of_ble_eq_true rfl) (Nat.le_of_ble_eq_true rfl) (Nat.le_of_ble_eq_true rfl) (Nat.le_of_ble_eq_true rfl) (av := [(.long k0), (.long k0)]) (S := []) rfl (pc' := 261) rfl ?_
    intro T h v X hQ
    obtain ⟨rfl, rfl⟩ := hQ
    show own_Go p e below n0 (own_Fin room_1 s (fun v h => v = some (.int 1))) (T.setTop (mkF m 261 #[.val (.long q0), .second, .val (.long q1), .second, .val (.long q2), .second, .val (.long q3), .second, .val (.int i4), .val (.int i5), .val (.int l0), .val (.int l1), .val (.int l2), .val (.int l3), .val (.long k0), .second, .val (.long k1), .second, .val (.long k2), .second, .val (.long k3), .second, .val (.ref fa), .val (.ref oa), .val (.ref ob), .val (.int (0 : Int32)), .val (.long k0), .second, .unset] [(.int (own_ng k0 k0))]))
    refine own_lload C X at_261 rfl (pc' := 263) rfl ?_
    refine own_lload C X at_263 rfl (pc' := 265) rfl ?_
    refine own_callS C X at_265 (own_m_ng l Z a0 hw k1 k0 _ n0 (own_big C X)) (hw _ (List.mem_of_getElem? (i := 38) rfl)) (hw _ (List.mem_of_getElem? (i := 39) rfl)) (hw _ (List.mem_of_getElem? (i := 6) rfl)) (hw _ (List.mem_of_getElem? (i := 40) rfl)) (by decide) own_pd_2751 rfl rfl (Nat.le_of_ble_eq_true rfl) (Nat.le_of_ble_eq_true rfl) (Nat.le_of_ble_eq_true rfl) (Nat.le_of_ble_eq_true rfl) (av := [(.long k1), (.long k0)]) (S := [(.int (own_ng k0 k0))]) rfl (pc' := 268) rfl ?_
    intro T h v X hQ
    obtain ⟨rfl, rfl⟩ := hQ
    show own_Go p e below n0 (own_Fin room_1 s (fun v h => v = some (.int 1))) (T.setTop (mkF m 268 #[.val (.long q0), .second, .val (.long q1), .second, .val (.long q2), .second, .val (.long q3), .second, .val (.int i4), .val (.int i5), .val (.int l0), .val (.int l1), .val (.int l2), .val (.int l3), .val (.long k0), .second, .val (.long k1), .second, .val (.long k2), .second, .val (.long k3), .second, .val (.ref fa), .val (.ref oa), .val (.ref ob), .val (.int (0 : Int32)), .val (.long k0), .second, .unset] [(.int (own_ng k1 k0)), (.int (own_ng k0 k0))]))
    refine own_iadd C X at_268 rfl (pc' := 269) rfl ?_
    refine own_lload C X at_269 rfl (pc' := 271) rfl ?_
    refine own_lload C X at_271 rfl (pc' := 273) rfl ?_
    refine own_callS C X at_273 (own_m_ng l Z a0 hw k2 k0 _ n0 (own_big C X)) (hw _ (List.mem_of_getElem? (i := 38) rfl)) (hw _ (List.mem_of_getElem? (i := 39) rfl)) (hw _ (List.mem_of_getElem? (i := 6) rfl)) (hw _ (List.mem_of_getElem? (i := 40) rfl)) (by decide) own_pd_2751 rfl rfl (Nat.le_of_ble_eq_true rfl) (Nat.le_of_ble_eq_true rfl) (Nat.le_of_ble_eq_true rfl) (Nat.le_of_ble_eq_true rfl) (av := [(.long k2), (.long k0)]) (S := [(.int ((own_ng k0 k0) + (own_ng k1 k0)))]) rfl (pc' := 276) rfl ?_
    intro T h v X hQ
    obtain ⟨rfl, rfl⟩ := hQ
    show own_Go p e below n0 (own_Fin room_1 s (fun v h => v = some (.int 1))) (T.setTop (mkF m 276 #[.val (.long q0), .second, .val (.long q1), .second, .val (.long q2), .second, .val (.long q3), .second, .val (.int i4), .val (.int i5), .val (.int l0), .val (.int l1), .val (.int l2), .val (.int l3), .val (.long k0), .second, .val (.long k1), .second, .val (.long k2), .second, .val (.long k3), .second, .val (.ref fa), .val (.ref oa), .val (.ref ob), .val (.int (0 : Int32)), .val (.long k0), .second, .unset] [(.int (own_ng k2 k0)), (.int ((own_ng k0 k0) + (own_ng k1 k0)))]))
    refine own_iadd C X at_276 rfl (pc' := 277) rfl ?_
    refine own_lload C X at_277 rfl (pc' := 279) rfl ?_
    refine own_lload C X at_279 rfl (pc' := 281) rfl ?_
    refine own_callS C X at_281 (own_m_ng l Z a0 hw k3 k0 _ n0 (own_big C X)) (hw _ (List.mem_of_getElem? (i := 38) rfl)) (hw _ (List.mem_of_getElem? (i := 39) rfl)) (hw _ (List.mem_of_getElem? (i := 6) rfl)) (hw _ (List.mem_of_getElem? (i := 40) rfl)) (by decide) own_pd_2751 rfl rfl (Nat.le_of_ble_eq_true rfl) (Nat.le_of_ble_eq_true rfl) (Nat.le_of_ble_eq_true rfl) (Nat.le_of_ble_eq_true rfl) (av := [(.long k3), (.long k0)]) (S := [(.int (((own_ng k0 k0) + (own_ng k1 k0)) + (own_ng k2 k0)))]) rfl (pc' := 284) rfl ?_
    intro T h v X hQ
    obtain ⟨rfl, rfl⟩ := hQ
    show own_Go p e below n0 (own_Fin room_1 s (fun v h => v = some (.int 1))) (T.setTop (mkF m 284 #[.val (.long q0), .second, .val (.long q1), .second, .val (.long q2), .second, .val (.long q3), .second, .val (.int i4), .val (.int i5), .val (.int l0), .val (.int l1), .val (.int l2), .val (.int l3), .val (.long k0), .second, .val (.long k1), .second, .val (.long k2), .second, .val (.long k3), .second, .val (.ref fa), .val (.ref oa), .val (.ref ob), .val (.int (0 : Int32)), .val (.long k0), .second, .unset] [(.int (own_ng k3 k0)), (.int (((own_ng k0 k0) + (own_ng k1 k0)) + (own_ng k2 k0)))]))
    refine own_iadd C X at_284 rfl (pc' := 285) rfl ?_
    refine own_istore C X at_285 (L' := #[.val (.long q0), .second, .val (.long q1), .second, .val (.long q2), .second, .val (.long q3), .second, .val (.int i4), .val (.int i5), .val (.int l0), .val (.int l1), .val (.int l2), .val (.int l3), .val (.long k0), .second, .val (.long k1), .second, .val (.long k2), .second, .val (.long k3), .second, .val (.ref fa), .val (.ref oa), .val (.ref ob), .val (.int (0 : Int32)), .val (.long k0), .second, .val (.int ((((own_ng k0 k0) + (own_ng k1 k0)) + (own_ng k2 k0)) + (own_ng k3 k0)))]) rfl (pc' := 287) rfl ?_
    refine own_aload C X at_287 rfl rfl (pc' := 289) rfl ?_
    refine own_iload C X at_289 rfl (pc' := 291) rfl ?_
    refine own_callV C X at_291 (own_m_eor0 l Z a0 hw ob _ n0 (own_big C X) q0 _ _ g0 g1 g2 g3 O_ob A_sb) O_ob.1 (hw _ (List.mem_of_getElem? (i := 41) rfl)) (hw _ (List.mem_of_getElem? (i := 42) rfl)) (hw _ (List.mem_of_getElem? (i := 44) rfl)) (hw _ (List.mem_of_getElem? (i := 43) rfl)) (hw _ (List.mem_of_getElem? (i := 13) rfl)) (hw _ (List.mem_of_getElem? (i := 45) rfl)) (by decide) own_pd_1963 rfl rfl (Nat.le_of_ble_eq_true rfl) (Nat.le_of_ble_eq_true rfl) (Nat.le_of_ble_eq_true rfl) (Nat.le_of_ble_eq_true rfl) (av := [(.int (0 : Int32))]) (S := []) rfl (pc' := 294) rfl ?_
    intro T h v X hQ
    obtain ⟨rfl, rfl⟩ := hQ
    show own_Go p e below n0 (own_Fin room_1 s (fun v h => v = some (.int 1))) (T.setTop (mkF m 294 #[.val (.long q0), .second, .val (.long q1), .second, .val (.long q2), .second, .val (.long q3), .second, .val (.int i4), .val (.int i5), .val (.int l0), .val (.int l1), .val (.int l2), .val (.int l3), .val (.long k0), .second, .val (.long k1), .second, .val (.long k2), .second, .val (.long k3), .second, .val (.ref fa), .val (.ref oa), .val (.ref ob), .val (.int (0 : Int32)), .val (.long k0), .second, .val (.int ((((own_ng k0 k0) + (own_ng k1 k0)) + (own_ng k2 k0)) + (own_ng k3 k0)))] [(.int (if g1 &&& q0 = g0 &&& q0 then (if g2 &&& q0 = g0 &&& q0 then (if g3 &&& q0 = g0 &&& q0 then (4 : Int32) else (3 : Int32)) else (2 : Int32)) else (1 : Int32)))]))
    refine own_iload C X at_294 rfl (pc' := 296) rfl ?_
    refine own_icmp_ne C X at_296 (pcT := 303) (pc' := 299) (by decide) (by decide) rfl (fun hc296 => absurd hc296 (not_not_intro (by rw [m0, m1, m2, m3]; exact own_fin0 k0 k1 k2 k3 s01 s12 s23))) (fun hc296 => ?_)
    refine own_iconst C X at_299 (v := 1) (by decide) (pc' := 300) rfl ?_
    refine own_goto C X at_300 (pc' := 304) (by decide) (by decide) ?_
    exact own_ireturn_z C X at_304 (Nat.le_of_ble_eq_true rfl) (Nat.le_of_ble_eq_true rfl) (rfl)
  · refine own_iload C X at_218 rfl (pc' := 220) rfl ?_
    refine own_if_ne C X at_220 (pcT := 228) (pc' := 223) (by decide) (by decide) rfl (fun hc220 => ?_) (fun hc220 => absurd hc220 (by decide))
    refine own_iload C X at_228 rfl (pc' := 230) rfl ?_
    refine own_iconst C X at_230 (v := 1) (by decide) (pc' := 231) rfl ?_
    refine own_icmp_ne C X at_231 (pcT := 239) (pc' := 234) (by decide) (by decide) rfl (fun hc231 => absurd hc231 (by decide)) (fun hc231 => ?_)
    refine own_lload C X at_234 rfl (pc' := 236) rfl ?_
    refine own_goto C X at_236 (pc' := 252) (by decide) (by decide) ?_
    refine own_lstore C X at_252 (L' := #[.val (.long q0), .second, .val (.long q1), .second, .val (.long q2), .second, .val (.long q3), .second, .val (.int i4), .val (.int i5), .val (.int l0), .val (.int l1), .val (.int l2), .val (.int l3), .val (.long k0), .second, .val (.long k1), .second, .val (.long k2), .second, .val (.long k3), .second, .val (.ref fa), .val (.ref oa), .val (.ref ob), .val (.int (1 : Int32)), .val (.long k1), .second, .unset]) rfl (pc' := 254) rfl ?_
    refine own_lload C X at_254 rfl (pc' := 256) rfl ?_
    refine own_lload C X at_256 rfl (pc' := 258) rfl ?_
    refine own_callS C X at_258 (own_m_ng l Z a0 hw k0 k1 _ n0 (own_big C X)) (hw _ (List.mem_of_getElem? (i := 38) rfl)) (hw _ (List.mem_of_getElem? (i := 39) rfl)) (hw _ (List.mem_of_getElem? (i := 6) rfl)) (hw _ (List.mem_of_getElem? (i := 40) rfl)) (by decide) own_pd_2751 rfl rfl (Nat.le_of_ble_eq_true rfl) (Nat.le_of_ble_eq_true rfl) (Nat.le_of_ble_eq_true rfl) (Nat.le_of_ble_eq_true rfl) (av := [(.long k0), (.long k1)]) (S := []) rfl (pc' := 261) rfl ?_
    intro T h v X hQ
    obtain ⟨rfl, rfl⟩ := hQ
    show own_Go p e below n0 (own_Fin room_1 s (fun v h => v = some (.int 1))) (T.setTop (mkF m 261 #[.val (.long q0), .second, .val (.long q1), .second, .val (.long q2), .second, .val (.long q3), .second, .val (.int i4), .val (.int i5), .val (.int l0), .val (.int l1), .val (.int l2), .val (.int l3), .val (.long k0), .second, .val (.long k1), .second, .val (.long k2), .second, .val (.long k3), .second, .val (.ref fa), .val (.ref oa), .val (.ref ob), .val (.int (1 : Int32)), .val (.long k1), .second, .unset] [(.int (own_ng k0 k1))]))
    refine own_lload C X at_261 rfl (pc' := 263) rfl ?_
    refine own_lload C X at_263 rfl (pc' := 265) rfl ?_
    refine own_callS C X at_265 (own_m_ng l Z a0 hw k1 k1 _ n0 (own_big C X)) (hw _ (List.mem_of_getElem? (i := 38) rfl)) (hw _ (List.mem_of_getElem? (i := 39) rfl)) (hw _ (List.mem_of_getElem? (i := 6) rfl)) (hw _ (List.mem_of_getElem? (i := 40) rfl)) (by decide) own_pd_2751 rfl rfl (Nat.le_of_ble_eq_true rfl) (Nat.le_of_ble_eq_true rfl) (Nat.le_of_ble_eq_true rfl) (Nat.le_of_ble_eq_true rfl) (av := [(.long k1), (.long k1)]) (S := [(.int (own_ng k0 k1))]) rfl (pc' := 268) rfl ?_
    intro T h v X hQ
    obtain ⟨rfl, rfl⟩ := hQ
    show own_Go p e below n0 (own_Fin room_1 s (fun v h => v = some (.int 1))) (T.setTop (mkF m 268 #[.val (.long q0), .second, .val (.long q1), .second, .val (.long q2), .second, .val (.long q3), .second, .val (.int i4), .val (.int i5), .val (.int l0), .val (.int l1), .val (.int l2), .val (.int l3), .val (.long k0), .second, .val (.long k1), .second, .val (.long k2), .second, .val (.long k3), .second, .val (.ref fa), .val (.ref oa), .val (.ref ob), .val (.int (1 : Int32)), .val (.long k1), .second, .unset] [(.int (own_ng k1 k1)), (.int (own_ng k0 k1))]))
    refine own_iadd C X at_268 rfl (pc' := 269) rfl ?_
    refine own_lload C X at_269 rfl (pc' := 271) rfl ?_
    refine own_lload C X at_271 rfl (pc' := 273) rfl ?_
    refine own_callS C X at_273 (own_m_ng l Z a0 hw k2 k1 _ n0 (own_big C X)) (hw _ (List.mem_of_getElem? (i := 38) rfl)) (hw _ (List.mem_of_getElem? (i := 39) rfl)) (hw _ (List.mem_of_getElem? (i := 6) rfl)) (hw _ (List.mem_of_getElem? (i := 40) rfl)) (by decide) own_pd_2751 rfl rfl (Nat.le_of_ble_eq_true rfl) (Nat.le_of_ble_eq_true rfl) (Nat.le_of_ble_eq_true rfl) (Nat.le_of_ble_eq_true rfl) (av := [(.long k2), (.long k1)]) (S := [(.int ((own_ng k0 k1) + (own_ng k1 k1)))]) rfl (pc' := 276) rfl ?_
    intro T h v X hQ
    obtain ⟨rfl, rfl⟩ := hQ
    show own_Go p e below n0 (own_Fin room_1 s (fun v h => v = some (.int 1))) (T.setTop (mkF m 276 #[.val (.long q0), .second, .val (.long q1), .second, .val (.long q2), .second, .val (.long q3), .second, .val (.int i4), .val (.int i5), .val (.int l0), .val (.int l1), .val (.int l2), .val (.int l3), .val (.long k0), .second, .val (.long k1), .second, .val (.long k2), .second, .val (.long k3), .second, .val (.ref fa), .val (.ref oa), .val (.ref ob), .val (.int (1 : Int32)), .val (.long k1), .second, .unset] [(.int (own_ng k2 k1)), (.int ((own_ng k0 k1) + (own_ng k1 k1)))]))
    refine own_iadd C X at_276 rfl (pc' := 277) rfl ?_
    refine own_lload C X at_277 rfl (pc' := 279) rfl ?_
    refine own_lload C X at_279 rfl (pc' := 281) rfl ?_
    refine own_callS C X at_281 (own_m_ng l Z a0 hw k3 k1 _ n0 (own_big C X)) (hw _ (List.mem_of_getElem? (i := 38) rfl)) (hw _ (List.mem_of_getElem? (i := 39) rfl)) (hw _ (List.mem_of_getElem? (i := 6) rfl)) (hw _ (List.mem_of_getElem? (i := 40) rfl)) (by decide) own_pd_2751 rfl rfl (Nat.le_of_ble_eq_true rfl) (Nat.le_of_ble_eq_true rfl) (Nat.le_of_ble_eq_true rfl) (Nat.le_of_ble_eq_true rfl) (av := [(.long k3), (.long k1)]) (S := [(.int (((own_ng k0 k1) + (own_ng k1 k1)) + (own_ng k2 k1)))]) rfl (pc' := 284) rfl ?_
    intro T h v X hQ
    obtain ⟨rfl, rfl⟩ := hQ
    show own_Go p e below n0 (own_Fin room_1 s (fun v h => v = some (.int 1))) (T.setTop (mkF m 284 #[.val (.long q0), .second, .val (.long q1), .second, .val (.long q2), .second, .val (.long q3), .second, .val (.int i4), .val (.int i5), .val (.int l0), .val (.int l1), .val (.int l2), .val (.int l3), .val (.long k0), .second, .val (.long k1), .second, .val (.long k2), .second, .val (.long k3), .second, .val (.ref fa), .val (.ref oa), .val (.ref ob), .val (.int (1 : Int32)), .val (.long k1), .second, .unset] [(.int (own_ng k3 k1)), (.int (((own_ng k0 k1) + (own_ng k1 k1)) + (own_ng k2 k1)))]))
    refine own_iadd C X at_284 rfl (pc' := 285) rfl ?_
    refine own_istore C X at_285 (L' := #[.val (.long q0), .second, .val (.long q1), .second, .val (.long q2), .second, .val (.long q3), .second, .val (.int i4), .val (.int i5), .val (.int l0), .val (.int l1), .val (.int l2), .val (.int l3), .val (.long k0), .second, .val (.long k1), .second, .val (.long k2), .second, .val (.long k3), .second, .val (.ref fa), .val (.ref oa), .val (.ref ob), .val (.int (1 : Int32)), .val (.long k1), .second, .val (.int ((((own_ng k0 k1) + (own_ng k1 k1)) + (own_ng k2 k1)) + (own_ng k3 k1)))]) rfl (pc' := 287) rfl ?_
    refine own_aload C X at_287 rfl rfl (pc' := 289) rfl ?_
    refine own_iload C X at_289 rfl (pc' := 291) rfl ?_
    refine own_callV C X at_291 (own_m_eor1 l Z a0 hw ob _ n0 (own_big C X) q0 _ _ g0 g1 g2 g3 O_ob A_sb) O_ob.1 (hw _ (List.mem_of_getElem? (i := 41) rfl)) (hw _ (List.mem_of_getElem? (i := 42) rfl)) (hw _ (List.mem_of_getElem? (i := 44) rfl)) (hw _ (List.mem_of_getElem? (i := 43) rfl)) (hw _ (List.mem_of_getElem? (i := 13) rfl)) (hw _ (List.mem_of_getElem? (i := 45) rfl)) (by decide) own_pd_1963 rfl rfl (Nat.le_of_ble_eq_true rfl) (Nat.le_of_ble_eq_true rfl) (Nat.le_of_ble_eq_true rfl) (Nat.le_of_ble_eq_true rfl) (av := [(.int (1 : Int32))]) (S := []) rfl (pc' := 294) rfl ?_
    intro T h v X hQ
    obtain ⟨rfl, rfl⟩ := hQ
    show own_Go p e below n0 (own_Fin room_1 s (fun v h => v = some (.int 1))) (T.setTop (mkF m 294 #[.val (.long q0), .second, .val (.long q1), .second, .val (.long q2), .second, .val (.long q3), .second, .val (.int i4), .val (.int i5), .val (.int l0), .val (.int l1), .val (.int l2), .val (.int l3), .val (.long k0), .second, .val (.long k1), .second, .val (.long k2), .second, .val (.long k3), .second, .val (.ref fa), .val (.ref oa), .val (.ref ob), .val (.int (1 : Int32)), .val (.long k1), .second, .val (.int ((((own_ng k0 k1) + (own_ng k1 k1)) + (own_ng k2 k1)) + (own_ng k3 k1)))] [(.int (if g2 &&& q0 = g1 &&& q0 then (if g3 &&& q0 = g1 &&& q0 then (4 : Int32) else (3 : Int32)) else (2 : Int32)))]))
    refine own_iload C X at_294 rfl (pc' := 296) rfl ?_
    refine own_icmp_ne C X at_296 (pcT := 303) (pc' := 299) (by decide) (by decide) rfl (fun hc296 => absurd hc296 (not_not_intro (by rw [m1, m2, m3]; exact own_fin1 k0 k1 k2 k3 s01 s12 s23))) (fun hc296 => ?_)
    refine own_iconst C X at_299 (v := 1) (by decide) (pc' := 300) rfl ?_
    refine own_goto C X at_300 (pc' := 304) (by decide) (by decide) ?_
    exact own_ireturn_z C X at_304 (Nat.le_of_ble_eq_true rfl) (Nat.le_of_ble_eq_true rfl) (rfl)
  · refine own_iload C X at_218 rfl (pc' := 220) rfl ?_
    refine own_if_ne C X at_220 (pcT := 228) (pc' := 223) (by decide) (by decide) rfl (fun hc220 => ?_) (fun hc220 => absurd hc220 (by decide))
    refine own_iload C X at_228 rfl (pc' := 230) rfl ?_
    refine own_iconst C X at_230 (v := 1) (by decide) (pc' := 231) rfl ?_
    refine own_icmp_ne C X at_231 (pcT := 239) (pc' := 234) (by decide) (by decide) rfl (fun hc231 => ?_) (fun hc231 => absurd hc231 (by decide))
    refine own_iload C X at_239 rfl (pc' := 241) rfl ?_
    refine own_iconst C X at_241 (v := 2) (by decide) (pc' := 242) rfl ?_
    refine own_icmp_ne C X at_242 (pcT := 250) (pc' := 245) (by decide) (by decide) rfl (fun hc242 => absurd hc242 (by decide)) (fun hc242 => ?_)
    refine own_lload C X at_245 rfl (pc' := 247) rfl ?_
    refine own_goto C X at_247 (pc' := 252) (by decide) (by decide) ?_
    refine own_lstore C X at_252 (L' := #[.val (.long q0), .second, .val (.long q1), .second, .val (.long q2), .second, .val (.long q3), .second, .val (.int i4), .val (.int i5), .val (.int l0), .val (.int l1), .val (.int l2), .val (.int l3), .val (.long k0), .second, .val (.long k1), .second, .val (.long k2), .second, .val (.long k3), .second, .val (.ref fa), .val (.ref oa), .val (.ref ob), .val (.int (2 : Int32)), .val (.long k2), .second, .unset]) rfl (pc' := 254) rfl ?_
    refine own_lload C X at_254 rfl (pc' := 256) rfl ?_
    refine own_lload C X at_256 rfl (pc' := 258) rfl ?_
    refine own_callS C X at_258 (own_m_ng l Z a0 hw k0 k2 _ n0 (own_big C X)) (hw _ (List.mem_of_getElem? (i := 38) rfl)) (hw _ (List.mem_of_getElem? (i := 39) rfl)) (hw _ (List.mem_of_getElem? (i := 6) rfl)) (hw _ (List.mem_of_getElem? (i := 40) rfl)) (by decide) own_pd_2751 rfl rfl (Nat.le_of_ble_eq_true rfl) (Nat.le_of_ble_eq_true rfl) (Nat.le_of_ble_eq_true rfl) (Nat.le_of_ble_eq_true rfl) (av := [(.long k0), (.long k2)]) (S := []) rfl (pc' := 261) rfl ?_
    intro T h v X hQ
    obtain ⟨rfl, rfl⟩ := hQ
    show own_Go p e below n0 (own_Fin room_1 s (fun v h => v = some (.int 1))) (T.setTop (mkF m 261 #[.val (.long q0), .second, .val (.long q1), .second, .val (.long q2), .second, .val (.long q3), .second, .val (.int i4), .val (.int i5), .val (.int l0), .val (.int l1), .val (.int l2), .val (.int l3), .val (.long k0), .second, .val (.long k1), .second, .val (.long k2), .second, .val (.long k3), .second, .val (.ref fa), .val (.ref oa), .val (.ref ob), .val (.int (2 : Int32)), .val (.long k2), .second, .unset] [(.int (own_ng k0 k2))]))
    refine own_lload C X at_261 rfl (pc' := 263) rfl ?_
    refine own_lload C X at_263 rfl (pc' := 265) rfl ?_
    refine own_callS C X at_265 (own_m_ng l Z a0 hw k1 k2 _ n0 (own_big C X)) (hw _ (List.mem_of_getElem? (i := 38) rfl)) (hw _ (List.mem_of_getElem? (i := 39) rfl)) (hw _ (List.mem_of_getElem? (i := 6) rfl)) (hw _ (List.mem_of_getElem? (i := 40) rfl)) (by decide) own_pd_2751 rfl rfl (Nat.le_of_ble_eq_true rfl) (Nat.le_of_ble_eq_true rfl) (Nat.le_of_ble_eq_true rfl) (Nat.le_of_ble_eq_true rfl) (av := [(.long k1), (.long k2)]) (S := [(.int (own_ng k0 k2))]) rfl (pc' := 268) rfl ?_
    intro T h v X hQ
    obtain ⟨rfl, rfl⟩ := hQ
    show own_Go p e below n0 (own_Fin room_1 s (fun v h => v = some (.int 1))) (T.setTop (mkF m 268 #[.val (.long q0), .second, .val (.long q1), .second, .val (.long q2), .second, .val (.long q3), .second, .val (.int i4), .val (.int i5), .val (.int l0), .val (.int l1), .val (.int l2), .val (.int l3), .val (.long k0), .second, .val (.long k1), .second, .val (.long k2), .second, .val (.long k3), .second, .val (.ref fa), .val (.ref oa), .val (.ref ob), .val (.int (2 : Int32)), .val (.long k2), .second, .unset] [(.int (own_ng k1 k2)), (.int (own_ng k0 k2))]))
    refine own_iadd C X at_268 rfl (pc' := 269) rfl ?_
    refine own_lload C X at_269 rfl (pc' := 271) rfl ?_
    refine own_lload C X at_271 rfl (pc' := 273) rfl ?_
    refine own_callS C X at_273 (own_m_ng l Z a0 hw k2 k2 _ n0 (own_big C X)) (hw _ (List.mem_of_getElem? (i := 38) rfl)) (hw _ (List.mem_of_getElem? (i := 39) rfl)) (hw _ (List.mem_of_getElem? (i := 6) rfl)) (hw _ (List.mem_of_getElem? (i := 40) rfl)) (by decide) own_pd_2751 rfl rfl (Nat.le_of_ble_eq_true rfl) (Nat.le_of_ble_eq_true rfl) (Nat.le_of_ble_eq_true rfl) (Nat.le_of_ble_eq_true rfl) (av := [(.long k2), (.long k2)]) (S := [(.int ((own_ng k0 k2) + (own_ng k1 k2)))]) rfl (pc' := 276) rfl ?_
    intro T h v X hQ
    obtain ⟨rfl, rfl⟩ := hQ
    show own_Go p e below n0 (own_Fin room_1 s (fun v h => v = some (.int 1))) (T.setTop (mkF m 276 #[.val (.long q0), .second, .val (.long q1), .second, .val (.long q2), .second, .val (.long q3), .second, .val (.int i4), .val (.int i5), .val (.int l0), .val (.int l1), .val (.int l2), .val (.int l3), .val (.long k0), .second, .val (.long k1), .second, .val (.long k2), .second, .val (.long k3), .second, .val (.ref fa), .val (.ref oa), .val (.ref ob), .val (.int (2 : Int32)), .val (.long k2), .second, .unset] [(.int (own_ng k2 k2)), (.int ((own_ng k0 k2) + (own_ng k1 k2)))]))
    refine own_iadd C X at_276 rfl (pc' := 277) rfl ?_
    refine own_lload C X at_277 rfl (pc' := 279) rfl ?_
    refine own_lload C X at_279 rfl (pc' := 281) rfl ?_
    refine own_callS C X at_281 (own_m_ng l Z a0 hw k3 k2 _ n0 (own_big C X)) (hw _ (List.mem_of_getElem? (i := 38) rfl)) (hw _ (List.mem_of_getElem? (i := 39) rfl)) (hw _ (List.mem_of_getElem? (i := 6) rfl)) (hw _ (List.mem_of_getElem? (i := 40) rfl)) (by decide) own_pd_2751 rfl rfl (Nat.le_of_ble_eq_true rfl) (Nat.le_of_ble_eq_true rfl) (Nat.le_of_ble_eq_true rfl) (Nat.le_of_ble_eq_true rfl) (av := [(.long k3), (.long k2)]) (S := [(.int (((own_ng k0 k2) + (own_ng k1 k2)) + (own_ng k2 k2)))]) rfl (pc' := 284) rfl ?_
    intro T h v X hQ
    obtain ⟨rfl, rfl⟩ := hQ
    show own_Go p e below n0 (own_Fin room_1 s (fun v h => v = some (.int 1))) (T.setTop (mkF m 284 #[.val (.long q0), .second, .val (.long q1), .second, .val (.long q2), .second, .val (.long q3), .second, .val (.int i4), .val (.int i5), .val (.int l0), .val (.int l1), .val (.int l2), .val (.int l3), .val (.long k0), .second, .val (.long k1), .second, .val (.long k2), .second, .val (.long k3), .second, .val (.ref fa), .val (.ref oa), .val (.ref ob), .val (.int (2 : Int32)), .val (.long k2), .second, .unset] [(.int (own_ng k3 k2)), (.int (((own_ng k0 k2) + (own_ng k1 k2)) + (own_ng k2 k2)))]))
    refine own_iadd C X at_284 rfl (pc' := 285) rfl ?_
    refine own_istore C X at_285 (L' := #[.val (.long q0), .second, .val (.long q1), .second, .val (.long q2), .second, .val (.long q3), .second, .val (.int i4), .val (.int i5), .val (.int l0), .val (.int l1), .val (.int l2), .val (.int l3), .val (.long k0), .second, .val (.long k1), .second, .val (.long k2), .second, .val (.long k3), .second, .val (.ref fa), .val (.ref oa), .val (.ref ob), .val (.int (2 : Int32)), .val (.long k2), .second, .val (.int ((((own_ng k0 k2) + (own_ng k1 k2)) + (own_ng k2 k2)) + (own_ng k3 k2)))]) rfl (pc' := 287) rfl ?_
    refine own_aload C X at_287 rfl rfl (pc' := 289) rfl ?_
    refine own_iload C X at_289 rfl (pc' := 291) rfl ?_
    refine own_callV C X at_291 (own_m_eor2 l Z a0 hw ob _ n0 (own_big C X) q0 _ _ g0 g1 g2 g3 O_ob A_sb) O_ob.1 (hw _ (List.mem_of_getElem? (i := 41) rfl)) (hw _ (List.mem_of_getElem? (i := 42) rfl)) (hw _ (List.mem_of_getElem? (i := 44) rfl)) (hw _ (List.mem_of_getElem? (i := 43) rfl)) (hw _ (List.mem_of_getElem? (i := 13) rfl)) (hw _ (List.mem_of_getElem? (i := 45) rfl)) (by decide) own_pd_1963 rfl rfl (Nat.le_of_ble_eq_true rfl) (Nat.le_of_ble_eq_true rfl) (Nat.le_of_ble_eq_true rfl) (Nat.le_of_ble_eq_true rfl) (av := [(.int (2 : Int32))]) (S := []) rfl (pc' := 294) rfl ?_
    intro T h v X hQ
    obtain ⟨rfl, rfl⟩ := hQ
    show own_Go p e below n0 (own_Fin room_1 s (fun v h => v = some (.int 1))) (T.setTop (mkF m 294 #[.val (.long q0), .second, .val (.long q1), .second, .val (.long q2), .second, .val (.long q3), .second, .val (.int i4), .val (.int i5), .val (.int l0), .val (.int l1), .val (.int l2), .val (.int l3), .val (.long k0), .second, .val (.long k1), .second, .val (.long k2), .second, .val (.long k3), .second, .val (.ref fa), .val (.ref oa), .val (.ref ob), .val (.int (2 : Int32)), .val (.long k2), .second, .val (.int ((((own_ng k0 k2) + (own_ng k1 k2)) + (own_ng k2 k2)) + (own_ng k3 k2)))] [(.int (if g3 &&& q0 = g2 &&& q0 then (4 : Int32) else (3 : Int32)))]))
    refine own_iload C X at_294 rfl (pc' := 296) rfl ?_
    refine own_icmp_ne C X at_296 (pcT := 303) (pc' := 299) (by decide) (by decide) rfl (fun hc296 => absurd hc296 (not_not_intro (by rw [m2, m3]; exact own_fin2 k0 k1 k2 k3 s01 s12 s23))) (fun hc296 => ?_)
    refine own_iconst C X at_299 (v := 1) (by decide) (pc' := 300) rfl ?_
    refine own_goto C X at_300 (pc' := 304) (by decide) (by decide) ?_
    exact own_ireturn_z C X at_304 (Nat.le_of_ble_eq_true rfl) (Nat.le_of_ble_eq_true rfl) (rfl)
  · refine own_iload C X at_218 rfl (pc' := 220) rfl ?_
    refine own_if_ne C X at_220 (pcT := 228) (pc' := 223) (by decide) (by decide) rfl (fun hc220 => ?_) (fun hc220 => absurd hc220 (by decide))
    refine own_iload C X at_228 rfl (pc' := 230) rfl ?_
    refine own_iconst C X at_230 (v := 1) (by decide) (pc' := 231) rfl ?_
    refine own_icmp_ne C X at_231 (pcT := 239) (pc' := 234) (by decide) (by decide) rfl (fun hc231 => ?_) (fun hc231 => absurd hc231 (by decide))
    refine own_iload C X at_239 rfl (pc' := 241) rfl ?_
    refine own_iconst C X at_241 (v := 2) (by decide) (pc' := 242) rfl ?_
    refine own_icmp_ne C X at_242 (pcT := 250) (pc' := 245) (by decide) (by decide) rfl (fun hc242 => ?_) (fun hc242 => absurd hc242 (by decide))
    refine own_lload C X at_250 rfl (pc' := 252) rfl ?_
    refine own_lstore C X at_252 (L' := #[.val (.long q0), .second, .val (.long q1), .second, .val (.long q2), .second, .val (.long q3), .second, .val (.int i4), .val (.int i5), .val (.int l0), .val (.int l1), .val (.int l2), .val (.int l3), .val (.long k0), .second, .val (.long k1), .second, .val (.long k2), .second, .val (.long k3), .second, .val (.ref fa), .val (.ref oa), .val (.ref ob), .val (.int (3 : Int32)), .val (.long k3), .second, .unset]) rfl (pc' := 254) rfl ?_
    refine own_lload C X at_254 rfl (pc' := 256) rfl ?_
    refine own_lload C X at_256 rfl (pc' := 258) rfl ?_
    refine own_callS C X at_258 (own_m_ng l Z a0 hw k0 k3 _ n0 (own_big C X)) (hw _ (List.mem_of_getElem? (i := 38) rfl)) (hw _ (List.mem_of_getElem? (i := 39) rfl)) (hw _ (List.mem_of_getElem? (i := 6) rfl)) (hw _ (List.mem_of_getElem? (i := 40) rfl)) (by decide) own_pd_2751 rfl rfl (Nat.le_of_ble_eq_true rfl) (Nat.le_of_ble_eq_true rfl) (Nat.le_of_ble_eq_true rfl) (Nat.le_of_ble_eq_true rfl) (av := [(.long k0), (.long k3)]) (S := []) rfl (pc' := 261) rfl ?_
    intro T h v X hQ
    obtain ⟨rfl, rfl⟩ := hQ
    show own_Go p e below n0 (own_Fin room_1 s (fun v h => v = some (.int 1))) (T.setTop (mkF m 261 #[.val (.long q0), .second, .val (.long q1), .second, .val (.long q2), .second, .val (.long q3), .second, .val (.int i4), .val (.int i5), .val (.int l0), .val (.int l1), .val (.int l2), .val (.int l3), .val (.long k0), .second, .val (.long k1), .second, .val (.long k2), .second, .val (.long k3), .second, .val (.ref fa), .val (.ref oa), .val (.ref ob), .val (.int (3 : Int32)), .val (.long k3), .second, .unset] [(.int (own_ng k0 k3))]))
    refine own_lload C X at_261 rfl (pc' := 263) rfl ?_
    refine own_lload C X at_263 rfl (pc' := 265) rfl ?_
    refine own_callS C X at_265 (own_m_ng l Z a0 hw k1 k3 _ n0 (own_big C X)) (hw _ (List.mem_of_getElem? (i := 38) rfl)) (hw _ (List.mem_of_getElem? (i := 39) rfl)) (hw _ (List.mem_of_getElem? (i := 6) rfl)) (hw _ (List.mem_of_getElem? (i := 40) rfl)) (by decide) own_pd_2751 rfl rfl (Nat.le_of_ble_eq_true rfl) (Nat.le_of_ble_eq_true rfl) (Nat.le_of_ble_eq_true rfl) (Nat.le_of_ble_eq_true rfl) (av := [(.long k1), (.long k3)]) (S := [(.int (own_ng k0 k3))]) rfl (pc' := 268) rfl ?_
    intro T h v X hQ
    obtain ⟨rfl, rfl⟩ := hQ
    show own_Go p e below n0 (own_Fin room_1 s (fun v h => v = some (.int 1))) (T.setTop (mkF m 268 #[.val (.long q0), .second, .val (.long q1), .second, .val (.long q2), .second, .val (.long q3), .second, .val (.int i4), .val (.int i5), .val (.int l0), .val (.int l1), .val (.int l2), .val (.int l3), .val (.long k0), .second, .val (.long k1), .second, .val (.long k2), .second, .val (.long k3), .second, .val (.ref fa), .val (.ref oa), .val (.ref ob), .val (.int (3 : Int32)), .val (.long k3), .second, .unset] [(.int (own_ng k1 k3)), (.int (own_ng k0 k3))]))
    refine own_iadd C X at_268 rfl (pc' := 269) rfl ?_
    refine own_lload C X at_269 rfl (pc' := 271) rfl ?_
    refine own_lload C X at_271 rfl (pc' := 273) rfl ?_
    refine own_callS C X at_273 (own_m_ng l Z a0 hw k2 k3 _ n0 (own_big C X)) (hw _ (List.mem_of_getElem? (i := 38) rfl)) (hw _ (List.mem_of_getElem? (i := 39) rfl)) (hw _ (List.mem_of_getElem? (i := 6) rfl)) (hw _ (List.mem_of_getElem? (i := 40) rfl)) (by decide) own_pd_2751 rfl rfl (Nat.le_of_ble_eq_true rfl) (Nat.le_of_ble_eq_true rfl) (Nat.le_of_ble_eq_true rfl) (Nat.le_of_ble_eq_true rfl) (av := [(.long k2), (.long k3)]) (S := [(.int ((own_ng k0 k3) + (own_ng k1 k3)))]) rfl (pc' := 276) rfl ?_
    intro T h v X hQ
    obtain ⟨rfl, rfl⟩ := hQ
    show own_Go p e below n0 (own_Fin room_1 s (fun v h => v = some (.int 1))) (T.setTop (mkF m 276 #[.val (.long q0), .second, .val (.long q1), .second, .val (.long q2), .second, .val (.long q3), .second, .val (.int i4), .val (.int i5), .val (.int l0), .val (.int l1), .val (.int l2), .val (.int l3), .val (.long k0), .second, .val (.long k1), .second, .val (.long k2), .second, .val (.long k3), .second, .val (.ref fa), .val (.ref oa), .val (.ref ob), .val (.int (3 : Int32)), .val (.long k3), .second, .unset] [(.int (own_ng k2 k3)), (.int ((own_ng k0 k3) + (own_ng k1 k3)))]))
    refine own_iadd C X at_276 rfl (pc' := 277) rfl ?_
    refine own_lload C X at_277 rfl (pc' := 279) rfl ?_
    refine own_lload C X at_279 rfl (pc' := 281) rfl ?_
    refine own_callS C X at_281 (own_m_ng l Z a0 hw k3 k3 _ n0 (own_big C X)) (hw _ (List.mem_of_getElem? (i := 38) rfl)) (hw _ (List.mem_of_getElem? (i := 39) rfl)) (hw _ (List.mem_of_getElem? (i := 6) rfl)) (hw _ (List.mem_of_getElem? (i := 40) rfl)) (by decide) own_pd_2751 rfl rfl (Nat.le_of_ble_eq_true rfl) (Nat.le_of_ble_eq_true rfl) (Nat.le_of_ble_eq_true rfl) (Nat.le_of_ble_eq_true rfl) (av := [(.long k3), (.long k3)]) (S := [(.int (((own_ng k0 k3) + (own_ng k1 k3)) + (own_ng k2 k3)))]) rfl (pc' := 284) rfl ?_
    intro T h v X hQ
    obtain ⟨rfl, rfl⟩ := hQ
    show own_Go p e below n0 (own_Fin room_1 s (fun v h => v = some (.int 1))) (T.setTop (mkF m 284 #[.val (.long q0), .second, .val (.long q1), .second, .val (.long q2), .second, .val (.long q3), .second, .val (.int i4), .val (.int i5), .val (.int l0), .val (.int l1), .val (.int l2), .val (.int l3), .val (.long k0), .second, .val (.long k1), .second, .val (.long k2), .second, .val (.long k3), .second, .val (.ref fa), .val (.ref oa), .val (.ref ob), .val (.int (3 : Int32)), .val (.long k3), .second, .unset] [(.int (own_ng k3 k3)), (.int (((own_ng k0 k3) + (own_ng k1 k3)) + (own_ng k2 k3)))]))
    refine own_iadd C X at_284 rfl (pc' := 285) rfl ?_
    refine own_istore C X at_285 (L' := #[.val (.long q0), .second, .val (.long q1), .second, .val (.long q2), .second, .val (.long q3), .second, .val (.int i4), .val (.int i5), .val (.int l0), .val (.int l1), .val (.int l2), .val (.int l3), .val (.long k0), .second, .val (.long k1), .second, .val (.long k2), .second, .val (.long k3), .second, .val (.ref fa), .val (.ref oa), .val (.ref ob), .val (.int (3 : Int32)), .val (.long k3), .second, .val (.int ((((own_ng k0 k3) + (own_ng k1 k3)) + (own_ng k2 k3)) + (own_ng k3 k3)))]) rfl (pc' := 287) rfl ?_
    refine own_aload C X at_287 rfl rfl (pc' := 289) rfl ?_
    refine own_iload C X at_289 rfl (pc' := 291) rfl ?_
    refine own_callV C X at_291 (own_m_eor3 l Z a0 hw ob _ n0 (own_big C X) q0 _ _ g0 g1 g2 g3 O_ob A_sb) O_ob.1 (hw _ (List.mem_of_getElem? (i := 41) rfl)) (hw _ (List.mem_of_getElem? (i := 42) rfl)) (hw _ (List.mem_of_getElem? (i := 44) rfl)) (hw _ (List.mem_of_getElem? (i := 43) rfl)) (hw _ (List.mem_of_getElem? (i := 13) rfl)) (hw _ (List.mem_of_getElem? (i := 45) rfl)) (by decide) own_pd_1963 rfl rfl (Nat.le_of_ble_eq_true rfl) (Nat.le_of_ble_eq_true rfl) (Nat.le_of_ble_eq_true rfl) (Nat.le_of_ble_eq_true rfl) (av := [(.int (3 : Int32))]) (S := []) rfl (pc' := 294) rfl ?_
    intro T h v X hQ
    obtain ⟨rfl, rfl⟩ := hQ
    show own_Go p e below n0 (own_Fin room_1 s (fun v h => v = some (.int 1))) (T.setTop (mkF m 294 #[.val (.long q0), .second, .val (.long q1), .second, .val (.long q2), .second, .val (.long q3), .second, .val (.int i4), .val (.int i5), .val (.int l0), .val (.int l1), .val (.int l2), .val (.int l3), .val (.long k0), .second, .val (.long k1), .second, .val (.long k2), .second, .val (.long k3), .second, .val (.ref fa), .val (.ref oa), .val (.ref ob), .val (.int (3 : Int32)), .val (.long k3), .second, .val (.int ((((own_ng k0 k3) + (own_ng k1 k3)) + (own_ng k2 k3)) + (own_ng k3 k3)))] [(.int (4 : Int32))]))
    refine own_iload C X at_294 rfl (pc' := 296) rfl ?_
    refine own_icmp_ne C X at_296 (pcT := 303) (pc' := 299) (by decide) (by decide) rfl (fun hc296 => absurd hc296 (not_not_intro (by exact own_fin3 k0 k1 k2 k3 s01 s12 s23))) (fun hc296 => ?_)
    refine own_iconst C X at_299 (v := 1) (by decide) (pc' := 300) rfl ?_
    refine own_goto C X at_300 (pc' := 304) (by decide) (by decide) ?_
    exact own_ireturn_z C X at_304 (Nat.le_of_ble_eq_true rfl) (Nat.le_of_ble_eq_true rfl) (rfl)
set_option maxRecDepth 65536 in
set_option maxHeartbeats 40000000 in
theorem own_comes {Post : Tables → Env → Array Value → State → Outcome → State → Prop} (hpost : ∀ tb e args s v u, (limb_1_1.after args s (.returned v) u = true ∧ limb_1_2.after args s (.returned v) u = true ∧ True) → FrameEnd s (.returned v) u (Jvm.fieldLocs frame_1_writes args s ++ Jvm.arrayLocs frame_1_arrays args s ++ Jvm.staticLocs frame_1_statics s) 16 128 → Post tb e args s (.returned v) u) :
    ArmFor flags0 classFile x code maxLocals ret World_1 tables_1 room_1 Calls_1 rest_1 Pre_1 Post := by
  intro l hfl _ _ p e ha hc hk s m args below hf hA hF happ hP
  obtain ⟨hcalls, hrest, hpre⟩ := hP
  obtain ⟨-, -, -, hnamed, -, -, -, hat⟩ := (Spec.applies_iff hf).mp happ
  obtain ⟨hg, hn⟩ := and_e (Cond.before_iff.mp (show (Jvm.Cond.and given_1 narrow_1).before args s = true from hpre))
  obtain ⟨gc, g0⟩ := and_e hg
  obtain ⟨k0, g1⟩ := and_e g0
  obtain ⟨k1, g2⟩ := and_e g1
  obtain ⟨k2, g3⟩ := and_e g2
  obtain ⟨k3, g4⟩ := and_e g3
  obtain ⟨k4, g5⟩ := and_e g4
  obtain ⟨w0, w1, w2, w3, w4, w5, rfl⟩ : ∃ w0 w1 w2 w3 w4 w5 : Value, args = #[w0, w1, w2, w3, w4, w5] := by
    have hs : args.size = 6 := by simpa [Cond.value, given_1] using gc
    obtain ⟨L⟩ := args
    match L, hs with
    | [w0, w1, w2, w3, w4, w5], _ => exact ⟨w0, w1, w2, w3, w4, w5, rfl⟩
  have hw := fun d (hd : d ∈ tables_1) => atoms_spec (ws := Jvm.Cond.code x code maxLocals ret :: tables_1) hat d (List.mem_cons_of_mem _ hd)
  obtain ⟨i0, ei0⟩ := isL_v k0
  obtain rfl : w0 = (.long i0) := Option.some.inj ei0
  obtain ⟨i1, ei1⟩ := isL_v k1
  obtain rfl : w1 = (.long i1) := Option.some.inj ei1
  obtain ⟨i2, ei2⟩ := isL_v k2
  obtain rfl : w2 = (.long i2) := Option.some.inj ei2
  obtain ⟨i3, ei3⟩ := isL_v k3
  obtain rfl : w3 = (.long i3) := Option.some.inj ei3
  obtain ⟨i4, ei4⟩ := is_v k4
  obtain rfl : w4 = (.int i4) := Option.some.inj ei4
  obtain ⟨i5, ei5⟩ := is_v g5
  obtain rfl : w5 = (.int i5) := Option.some.inj ei5
  obtain ⟨n, o, h1, h2, h3, _, L, rfl, ⟨rfl, N⟩, hq⟩ := own_m_law l s _ hw tables_1 i0 i1 i2 i3 i4 i5 s.heap s.heap.size (Nat.le_refl _)  p e ha hc hk s m _ below hf ((Spec.applies_iff_loose hf).mp happ).1 ⟨rfl, State.Warmed39.refl s, rfl⟩ trivial
  refine ⟨n, _, h1, h2, h3, hpost _ _ _ _ _ _ ⟨Cond.after_iff.mpr rfl, Cond.after_iff.mpr (eq_i res_at (Term.int_eval (1)) rfl), trivial⟩ ⟨hq.1, hq.2.1, (hq.2.2.sift fun y hy => Or.inr (N y hy)).mono (by decide) (by decide)⟩⟩
theorem main_1_1 : Claimed_1_1 := own_comes fun _ _ _ _ _ _ h hF => ⟨h.1, hF⟩
theorem main_1_2 : Claimed_1_2 := own_comes fun _ _ _ _ _ _ h hF => ⟨h.2.1, hF⟩
end Jvm.Pilot.@@N@@
namespace Jvm.Pilot.@@N@@
open Jvm Jvm.ClassFile Sem Op Lib Jvm.Free Jvm.Stand Jvm.Pilot.@@N@@.Jvm.D
/-! MADE BY PROGRAM (witnessworld.py) out of the Statement's table words and the real class files: 17 classes; the members and pool entries that the words name. The judged class is class 1, her method 3. -/
namespace start1
open Jvm.ClassFile
def u (s : String) : CpInfo := .utf8 (stringToUtf16 s)
/-- a pool by its gaps: so many unusable entries, then the entry; so many at the end -/
def gap : Nat → List CpInfo → List CpInfo
  | 0, r => r
  | n + 1, r => .unusable :: gap n r
def poolList (es : List (Nat × CpInfo)) (last : Nat) : List CpInfo := es.foldr (fun e r => gap e.1 (e.2 :: r)) (gap last [])
def pool (es : List (Nat × CpInfo)) (last : Nat) : Array CpInfo := ⟨poolList es last⟩
def fileOf (pool : Array CpInfo) (this : Nat) (attrs : Array Attribute := #[]) (ms : Array MethodInfo := #[]) (fl : Nat := 33) (sup : Nat := 0) (ifs : Array Nat := #[]) (fds : Array FieldInfo := #[]) : ClassFile where
  minorVersion := 0
  majorVersion := 65
  constantPool := pool
  accessFlags := fl
  thisClass := this
  superClass := sup
  interfaces := ifs
  fields := fds
  methods := ms
  attributes := attrs
def plain (name : String) (sup : Option ClassId) : Class where
  name := name
  kind := .ordinary
  loader := none
  accessFlags := 33
  super := sup
  interfaces := #[]
  cf := none
  fields := #[]
  methods := #[]
  instanceTypes := #[]
  staticTypes := #[]
  resolved := #[]
  callSites := []
  init := .initialized
  statics := none
  mirror := none

def pool0 : Array CpInfo := pool [(5, u "<init>"), (0, u "()V"), (1, .class_ 10), (1, u "java/lang/Object")] 113

def k0c0 : Code := { maxStack := 0, maxLocals := 1, code := object_method_1_code, exceptionTable := #[], attributes := #[] }
def k0m0 : Method := { name := "<init>", desc := "()V", sig := { parameters := [], returnType := none }, accessFlags := 1, code := some k0c0 }
/-- java/lang/Object -/
def k0 : Class := { plain "java/lang/Object" none with
  accessFlags := 33
  interfaces := #[]
  cf := some (fileOf pool0 8 #[] #[{ accessFlags := 1, nameIndex := 5, descriptorIndex := 6, attributes := #[] }] 33 0 #[] #[])
  fields := #[]
  methods := #[k0m0]
  instanceTypes := #[]
  staticTypes := #[]
  resolved := Array.replicate 124 none
  statics := none }

def pool1 : Array CpInfo := pool [(2, .class_ 4), (1, u "java/lang/Object"), (0, u "<init>"), (0, u "()V"), (0, .long 18446744073709551615), (1, .methodref 10 11), (0, .class_ 12), (0, .nameAndType 13 14), (0, u "java/lang/Math"), (0, u "min"), (0, u "(II)I"), (0, .methodref 16 17), (0, .class_ 18), (0, .nameAndType 19 20), (0, u "com/example/twin64/twin64/search/BlockTableEndOfRunPinLaw"), (0, u "level"), (0, u "(IJJJ)J"), (0, .class_ 22), (0, u "com/example/twin64/twin64/search/BlockTable"), (0, .methodref 21 24), (0, .nameAndType 5 25), (0, u "([JJ[I)V"), (0, .methodref 16 27), (0, .nameAndType 28 29), (0, u "notGreater"), (0, u "(JJ)I"), (0, .methodref 21 31), (0, .nameAndType 32 33), (0, u "endOfRun"), (0, u "(I)I"), (3, u "law"), (0, u "(JJJJII)Z")] 6

def k1m0 : Method := { name := "<init>", desc := "()V", sig := { parameters := [], returnType := none }, accessFlags := 1, code := none }
def k1c1 : Code := { maxStack := 4, maxLocals := 7, code := method_2_code, exceptionTable := #[], attributes := #[] }
def k1m1 : Method := { name := "level", desc := "(IJJJ)J", sig := { parameters := [.int, .long, .long, .long], returnType := some .long }, accessFlags := 10, code := some k1c1 }
def k1c2 : Code := { maxStack := 6, maxLocals := 4, code := method_3_code, exceptionTable := #[], attributes := #[] }
def k1m2 : Method := { name := "notGreater", desc := "(JJ)I", sig := { parameters := [.long, .long], returnType := some .int }, accessFlags := 10, code := some k1c2 }
def k1c3 : Code := { maxStack := 10, maxLocals := 29, code := code, exceptionTable := #[], attributes := #[] }
def k1m3 : Method := { name := "law", desc := "(JJJJII)Z", sig := { parameters := [.long, .long, .long, .long, .int, .int], returnType := some .boolean }, accessFlags := 9, code := some k1c3 }
/-- com/example/twin64/twin64/search/BlockTableEndOfRunPinLaw -/
def k1 : Class := { plain "com/example/twin64/twin64/search/BlockTableEndOfRunPinLaw" (some 0) with
  accessFlags := 49
  interfaces := #[]
  cf := some (fileOf pool1 16 #[] #[{ accessFlags := 1, nameIndex := 5, descriptorIndex := 6, attributes := #[] }, { accessFlags := 10, nameIndex := 19, descriptorIndex := 20, attributes := #[] }, { accessFlags := 10, nameIndex := 28, descriptorIndex := 29, attributes := #[] }, { accessFlags := 9, nameIndex := 37, descriptorIndex := 38, attributes := #[] }] 49 2 #[] #[])
  fields := #[]
  methods := #[k1m0, k1m1, k1m2, k1m3]
  instanceTypes := #[]
  staticTypes := #[]
  resolved := Array.replicate 45 none
  statics := none }

def pool2 : Array CpInfo := pool [(1, .class_ 2), (0, u "java/lang/Math"), (1, .class_ 6), (1, u "java/lang/Object"), (0, u "<init>"), (0, u "()V"), (89, .class_ 100), (1, u "java/lang/Math$RandomNumberGeneratorHolder"), (71, u "negativeZeroFloatBits"), (0, u "J"), (2, u "negativeZeroDoubleBits"), (24, u "min"), (43, u "$assertionsDisabled"), (0, u "Z"), (88, u "(II)I"), (2, u "twoToTheDoubleScaleDown"), (0, u "D"), (4, u "twoToTheDoubleScaleUp"), (9, u "E"), (3, u "PI"), (2, u "TAU"), (2, u "DEGREES_TO_RADIANS"), (0, u "RADIANS_TO_DEGREES")] 94

def k2m0 : Method := { name := "<init>", desc := "()V", sig := { parameters := [], returnType := none }, accessFlags := 2, code := none }
def k2c1 : Code := { maxStack := 2, maxLocals := 2, code := jdk_29_method_69_code, exceptionTable := #[], attributes := #[] }
def k2m1 : Method := { name := "min", desc := "(II)I", sig := { parameters := [.int, .int], returnType := some .int }, accessFlags := 9, code := some k2c1 }
/-- java/lang/Math -/
def k2 : Class := { plain "java/lang/Math" (some 0) with
  accessFlags := 49
  interfaces := #[]
  cf := some (fileOf pool2 1 #[.nestMembers #[98]] #[{ accessFlags := 2, nameIndex := 7, descriptorIndex := 8, attributes := #[] }, { accessFlags := 9, nameIndex := 201, descriptorIndex := 335, attributes := #[] }] 49 4 #[] #[{ accessFlags := 25, nameIndex := 354, descriptorIndex := 339, attributes := #[] }, { accessFlags := 25, nameIndex := 358, descriptorIndex := 339, attributes := #[] }, { accessFlags := 25, nameIndex := 361, descriptorIndex := 339, attributes := #[] }, { accessFlags := 26, nameIndex := 364, descriptorIndex := 339, attributes := #[] }, { accessFlags := 26, nameIndex := 365, descriptorIndex := 339, attributes := #[] }, { accessFlags := 26, nameIndex := 172, descriptorIndex := 173, attributes := #[] }, { accessFlags := 26, nameIndex := 176, descriptorIndex := 173, attributes := #[] }, { accessFlags := 8, nameIndex := 344, descriptorIndex := 339, attributes := #[] }, { accessFlags := 8, nameIndex := 338, descriptorIndex := 339, attributes := #[] }, { accessFlags := 4120, nameIndex := 245, descriptorIndex := 246, attributes := #[] }])
  fields := #[{ name := "E", type := .double, accessFlags := 25, slot := 0, constantValue := 0 }, { name := "PI", type := .double, accessFlags := 25, slot := 1, constantValue := 0 }, { name := "TAU", type := .double, accessFlags := 25, slot := 2, constantValue := 0 }, { name := "DEGREES_TO_RADIANS", type := .double, accessFlags := 26, slot := 3, constantValue := 0 }, { name := "RADIANS_TO_DEGREES", type := .double, accessFlags := 26, slot := 4, constantValue := 0 }, { name := "negativeZeroFloatBits", type := .long, accessFlags := 26, slot := 5, constantValue := 0 }, { name := "negativeZeroDoubleBits", type := .long, accessFlags := 26, slot := 6, constantValue := 0 }, { name := "twoToTheDoubleScaleUp", type := .double, accessFlags := 8, slot := 7, constantValue := 0 }, { name := "twoToTheDoubleScaleDown", type := .double, accessFlags := 8, slot := 8, constantValue := 0 }, { name := "$assertionsDisabled", type := .boolean, accessFlags := 4120, slot := 9, constantValue := 0 }]
  methods := #[k2m0, k2m1]
  instanceTypes := #[]
  staticTypes := #[.double, .double, .double, .double, .double, .long, .long, .double, .double, .boolean]
  resolved := Array.replicate 460 none
  statics := none }

def pool3 : Array CpInfo := pool [(1, .class_ 2), (0, u "com/example/twin64/twin64/search/BlockTable$Room"), (2, u "<init>"), (2, .class_ 10), (1, u "com/example/twin64/twin64/search/BlockTable"), (1, .methodref 13 14), (0, .class_ 15), (0, .nameAndType 5 16), (0, u "java/lang/Object"), (0, u "()V"), (0, .fieldref 8 18), (0, .nameAndType 19 20), (0, u "keyMask"), (0, u "J"), (0, .class_ 22), (0, u "com/example/twin64/twin64/search/BlockTable$KeyBits"), (4, .class_ 29), (1, u "java/lang/Long"), (5, u "[J"), (9, u "[I"), (3, u "(I)I"), (10, .fieldref 8 61), (0, .nameAndType 62 35), (0, u "sorted"), (0, .fieldref 8 64), (0, .nameAndType 65 45), (0, u "indices"), (7, .methodref 8 74), (0, .nameAndType 75 76), (0, u "followsItsPredecessor"), (0, u "(I)Z"), (4, .methodref 27 82), (0, .nameAndType 83 84), (0, u "compareUnsigned"), (0, u "(JJ)I"), (0, u "MAX_DIGIT_BITS"), (0, u "I"), (7, u "([JJ[I)V"), (6, u "endOfRun")] 23

def k3c0 : Code := { maxStack := 4, maxLocals := 8, code := prog_33_method_3_code, exceptionTable := #[], attributes := #[] }
def k3m0 : Method := { name := "<init>", desc := "([JJ[I)V", sig := { parameters := [(.array .long), .long, (.array .int)], returnType := none }, accessFlags := 0, code := some k3c0 }
def k3c1 : Code := { maxStack := 4, maxLocals := 5, code := prog_33_method_7_code, exceptionTable := #[], attributes := #[] }
def k3m1 : Method := { name := "endOfRun", desc := "(I)I", sig := { parameters := [.int], returnType := some .int }, accessFlags := 0, code := some k3c1 }
def k3c2 : Code := { maxStack := 6, maxLocals := 3, code := prog_33_method_10_code, exceptionTable := #[], attributes := #[] }
def k3m2 : Method := { name := "followsItsPredecessor", desc := "(I)Z", sig := { parameters := [.int], returnType := some .boolean }, accessFlags := 2, code := some k3c2 }
/-- com/example/twin64/twin64/search/BlockTable -/
def k3 : Class := { plain "com/example/twin64/twin64/search/BlockTable" (some 0) with
  accessFlags := 32
  interfaces := #[]
  cf := some (fileOf pool3 8 #[.nestMembers #[21, 1]] #[{ accessFlags := 0, nameIndex := 5, descriptorIndex := 94, attributes := #[] }, { accessFlags := 0, nameIndex := 101, descriptorIndex := 49, attributes := #[] }, { accessFlags := 2, nameIndex := 75, descriptorIndex := 76, attributes := #[] }] 32 13 #[] #[{ accessFlags := 26, nameIndex := 85, descriptorIndex := 86, attributes := #[] }, { accessFlags := 18, nameIndex := 19, descriptorIndex := 20, attributes := #[] }, { accessFlags := 18, nameIndex := 62, descriptorIndex := 35, attributes := #[] }, { accessFlags := 18, nameIndex := 65, descriptorIndex := 45, attributes := #[] }])
  fields := #[{ name := "MAX_DIGIT_BITS", type := .int, accessFlags := 26, slot := 0, constantValue := 0 }, { name := "keyMask", type := .long, accessFlags := 18, slot := 0, constantValue := 0 }, { name := "sorted", type := (.array .long), accessFlags := 18, slot := 1, constantValue := 0 }, { name := "indices", type := (.array .int), accessFlags := 18, slot := 2, constantValue := 0 }]
  methods := #[k3m0, k3m1, k3m2]
  instanceTypes := #[.long, (.array .long), (.array .int)]
  staticTypes := #[.int]
  resolved := Array.replicate 125 none
  statics := none }

def pool4 : Array CpInfo := pool [(1, .class_ 2), (0, u "java/io/Serializable"), (0, .class_ 4), (0, u "java/lang/Object")] 2

/-- java/io/Serializable -/
def k4 : Class := { plain "java/io/Serializable" (some 0) with
  accessFlags := 1537
  interfaces := #[]
  cf := some (fileOf pool4 1 #[] #[] 1537 3 #[] #[])
  fields := #[]
  methods := #[]
  instanceTypes := #[]
  staticTypes := #[]
  resolved := Array.replicate 7 none
  statics := none }

def pool5 : Array CpInfo := pool [(2, .class_ 4), (1, u "java/lang/Object"), (0, u "<init>"), (0, u "()V"), (1, .class_ 10), (1, u "java/lang/Number"), (2, .class_ 14), (0, u "java/io/Serializable"), (0, u "serialVersionUID"), (0, u "J")] 20

def k5m0 : Method := { name := "<init>", desc := "()V", sig := { parameters := [], returnType := none }, accessFlags := 1, code := none }
/-- java/lang/Number -/
def k5 : Class := { plain "java/lang/Number" (some 0) with
  accessFlags := 1057
  interfaces := #[4]
  cf := some (fileOf pool5 8 #[] #[{ accessFlags := 1, nameIndex := 5, descriptorIndex := 6, attributes := #[] }] 1057 2 #[13] #[{ accessFlags := 26, nameIndex := 15, descriptorIndex := 16, attributes := #[] }])
  fields := #[{ name := "serialVersionUID", type := .long, accessFlags := 26, slot := 0, constantValue := 0 }]
  methods := #[k5m0]
  instanceTypes := #[]
  staticTypes := #[.long]
  resolved := Array.replicate 37 none
  statics := none }

def pool6 : Array CpInfo := pool [(1, .class_ 2), (0, u "java/lang/Comparable"), (0, .class_ 4), (0, u "java/lang/Object")] 7

/-- java/lang/Comparable -/
def k6 : Class := { plain "java/lang/Comparable" (some 0) with
  accessFlags := 1537
  interfaces := #[]
  cf := some (fileOf pool6 1 #[] #[] 1537 3 #[] #[])
  fields := #[]
  methods := #[]
  instanceTypes := #[]
  staticTypes := #[]
  resolved := Array.replicate 12 none
  statics := none }

def pool7 : Array CpInfo := pool [(1, .class_ 2), (0, u "java/lang/constant/Constable"), (0, .class_ 4), (0, u "java/lang/Object")] 6

/-- java/lang/constant/Constable -/
def k7 : Class := { plain "java/lang/constant/Constable" (some 0) with
  accessFlags := 1537
  interfaces := #[]
  cf := some (fileOf pool7 1 #[] #[] 1537 3 #[] #[])
  fields := #[]
  methods := #[]
  instanceTypes := #[]
  staticTypes := #[]
  resolved := Array.replicate 11 none
  statics := none }

def pool8 : Array CpInfo := pool [(1, .class_ 2), (0, u "java/lang/constant/ConstantDesc"), (0, .class_ 4), (0, u "java/lang/Object")] 32

/-- java/lang/constant/ConstantDesc -/
def k8 : Class := { plain "java/lang/constant/ConstantDesc" (some 0) with
  accessFlags := 1537
  interfaces := #[]
  cf := some (fileOf pool8 1 #[] #[] 1537 3 #[] #[])
  fields := #[]
  methods := #[]
  instanceTypes := #[]
  staticTypes := #[]
  resolved := Array.replicate 37 none
  statics := none }

def pool9 : Array CpInfo := pool [(1, .class_ 2), (0, u "java/lang/Long"), (165, .long 9223372036854775808), (66, .class_ 237), (1, u "java/lang/Long$LongCache"), (33, .class_ 272), (0, u "java/lang/Number"), (2, u "value"), (0, u "J"), (25, .methodref 1 303), (0, .nameAndType 304 305), (0, u "compare"), (0, u "(JJ)I"), (55, u "TYPE"), (0, u "Ljava/lang/Class;"), (0, .class_ 364), (0, u "java/lang/Comparable"), (0, .class_ 366), (0, u "java/lang/constant/Constable"), (0, .class_ 368), (0, u "java/lang/constant/ConstantDesc"), (0, u "MIN_VALUE"), (1, u "MAX_VALUE"), (4, u "SIZE"), (0, u "I"), (1, u "BYTES"), (1, u "serialVersionUID"), (87, u "compareUnsigned")] 54

def k9c0 : Code := { maxStack := 4, maxLocals := 4, code := jdk_35_method_42_code, exceptionTable := #[], attributes := #[] }
def k9m0 : Method := { name := "compare", desc := "(JJ)I", sig := { parameters := [.long, .long], returnType := some .int }, accessFlags := 9, code := some k9c0 }
def k9c1 : Code := { maxStack := 6, maxLocals := 4, code := jdk_35_method_43_code, exceptionTable := #[], attributes := #[] }
def k9m1 : Method := { name := "compareUnsigned", desc := "(JJ)I", sig := { parameters := [.long, .long], returnType := some .int }, accessFlags := 9, code := some k9c1 }
/-- java/lang/Long -/
def k9 : Class := { plain "java/lang/Long" (some 5) with
  accessFlags := 49
  interfaces := #[6, 7, 8]
  cf := some (fileOf pool9 1 #[.nestMembers #[235]] #[{ accessFlags := 9, nameIndex := 304, descriptorIndex := 305, attributes := #[] }, { accessFlags := 9, nameIndex := 469, descriptorIndex := 305, attributes := #[] }] 49 271 #[363, 365, 367] #[{ accessFlags := 25, nameIndex := 369, descriptorIndex := 276, attributes := #[] }, { accessFlags := 25, nameIndex := 371, descriptorIndex := 276, attributes := #[] }, { accessFlags := 25, nameIndex := 361, descriptorIndex := 362, attributes := #[] }, { accessFlags := 18, nameIndex := 275, descriptorIndex := 276, attributes := #[] }, { accessFlags := 25, nameIndex := 376, descriptorIndex := 377, attributes := #[] }, { accessFlags := 25, nameIndex := 379, descriptorIndex := 377, attributes := #[] }, { accessFlags := 26, nameIndex := 381, descriptorIndex := 276, attributes := #[] }])
  fields := #[{ name := "MIN_VALUE", type := .long, accessFlags := 25, slot := 0, constantValue := 0 }, { name := "MAX_VALUE", type := .long, accessFlags := 25, slot := 1, constantValue := 0 }, { name := "TYPE", type := (.object "java/lang/Class"), accessFlags := 25, slot := 2, constantValue := 0 }, { name := "value", type := .long, accessFlags := 18, slot := 0, constantValue := 0 }, { name := "SIZE", type := .int, accessFlags := 25, slot := 3, constantValue := 0 }, { name := "BYTES", type := .int, accessFlags := 25, slot := 4, constantValue := 0 }, { name := "serialVersionUID", type := .long, accessFlags := 26, slot := 5, constantValue := 0 }]
  methods := #[k9m0, k9m1]
  instanceTypes := #[.long]
  staticTypes := #[.long, .long, (.object "java/lang/Class"), .int, .int, .long]
  resolved := Array.replicate 524 none
  statics := none }

def pool10 : Array CpInfo := pool [(1, u "java/lang/Cloneable"), (0, .class_ 1), (0, u "java/lang/Object"), (0, .class_ 3)] 3

/-- java/lang/Cloneable -/
def k10 : Class := { plain "java/lang/Cloneable" (some 0) with
  accessFlags := 1537
  interfaces := #[]
  cf := some (fileOf pool10 2 #[] #[] 1537 4 #[] #[])
  fields := #[]
  methods := #[]
  instanceTypes := #[]
  staticTypes := #[]
  resolved := Array.replicate 8 none
  statics := none }

/-- the primitive byte -/
def k11 : Class := { plain "byte" none with kind := .primitive 'B', accessFlags := 0x411 }
/-- [B -/
def k12 : Class := { plain "[B" (some 0) with kind := .array 11 .byte, interfaces := #[10, 4], accessFlags := 1041 }

/-- the primitive int -/
def k13 : Class := { plain "int" none with kind := .primitive 'I', accessFlags := 0x411 }
/-- [I -/
def k14 : Class := { plain "[I" (some 0) with kind := .array 13 .int, interfaces := #[10, 4], accessFlags := 1041 }

/-- the primitive long -/
def k15 : Class := { plain "long" none with kind := .primitive 'J', accessFlags := 0x411 }
/-- [J -/
def k16 : Class := { plain "[J" (some 0) with kind := .array 15 .long, interfaces := #[10, 4], accessFlags := 1041 }

def heap : Heap := #[]
def classes : Array Class := #[k0, k1, k2, k3, k4, k5, k6, k7, k8, k9, k10, k11, k12, k13, k14, k15, k16]
def interned : List (Array UInt16 × Addr) := []
def slotsUsed : Nat := 0
def theMethod : MethodId := ⟨1, 3⟩
def args0 : Array Value := #[.long 5, .long 6, .long 7, .long 8, .int 5, .int 2]
def aboutOver (below : List Frame) : State where
  vm := { classes := classes, interned := interned.toArray }
  heap := heap
  slotsUsed := slotsUsed
  threads := #[{ frames := .invoking theMethod args0 :: below }]
def below0 : List Frame := [.native { method := ⟨0, 0⟩, args := #[] }]
def about1 : State := aboutOver below0
def p0 : Program := .bare "" "" ""
def e0 : Env := launch0.env 0 0 0
theorem w_frames : about1.frames = Frame.invoking theMethod args0 :: below0 := rfl
set_option maxRecDepth 65536 in
theorem w_args : argsFit about1.vm theMethod args0 = true := by decide +kernel
set_option maxRecDepth 65536 in
theorem w_heap : heapFits about1 = true := by decide +kernel
set_option maxRecDepth 65536 in
theorem w_runnable : about1.curStatus? = some .runnable := by decide +kernel
set_option maxRecDepth 65536 in
theorem w_alone : about1.alone = true := by decide +kernel
set_option maxRecDepth 65536 in
theorem w_named : about1.methodNamed? x = some theMethod := by decide +kernel
set_option maxRecDepth 65536 in
theorem w_hears : about1.hears theMethod below0 = true := by decide +kernel
set_option maxRecDepth 65536 in
theorem w_ripe : about1.ripe theMethod args0 below0 = true := by decide +kernel
theorem w_running : about1.status = .running := rfl
set_option maxRecDepth 65536 in
theorem w_room : about1.hasRoom e0.platform room_1 = true :=
  launch0.hasRoom_least _ room_1 (by decide +kernel) (by decide +kernel) (by decide +kernel) (by decide +kernel) (by decide +kernel) (by decide +kernel)
theorem allAtoms_all (ts : List Jvm.Cond) (a : Array Jvm.Value) (st : Jvm.State) : (allAtoms ts).before a st = ts.all (fun c => c.before a st) := by
  induction ts with
  | nil => rfl
  | cons c t ih =>
    show (Jvm.Cond.and c (allAtoms t)).before a st = _
    rw [Jvm.Cond.before_and, ih, List.all_cons]
def words1 : List Jvm.Cond := Jvm.Cond.code x code maxLocals ret :: tables_1
/-- a 'code' word, met by the world's own term for the bytes: nothing is compared byte by byte -/
theorem code_word {y : MethodName} {bytes : ByteArray} {mx : Nat} {rt : Option FieldType} {a : Array Value} {s : State} {m : MethodId} {meth : Method} {c : Code} (h1 : s.methodNamed? y = some m) (h2 : s.vm.method? m = some meth) (h3 : meth.code = some c) (h4 : c.code = bytes)
    (h5 : (c.maxLocals == mx && c.exceptionTable.isEmpty && decide (c.maxStack ≤ mostOperands) && decide (meth.sig.returnType = rt) && !meth.locks && decide (parseMethodDescriptor y.desc = some meth.sig)) = true) : (Jvm.Cond.code y bytes mx rt).before a s = true := by
  simp only [Bool.and_eq_true, beq_iff_eq, Bool.not_eq_true', decide_eq_true_eq] at h5
  obtain ⟨⟨⟨⟨⟨g1, g2⟩, g3⟩, g4⟩, g5⟩, g6⟩ := h5
  simp [Cond.before, Cond.holds, Cond.value, h1, h2, h3, h4, g1, g2, g3, g4, g5, g6]
def isCode : Jvm.Cond → Bool
  | .code _ _ _ _ => true
  | _ => false
theorem all_split {L : List Jvm.Cond} {P : Jvm.Cond → Bool} (h1 : L.all (fun c => isCode c || P c) = true) (h2 : ∀ c ∈ L.filter isCode, P c = true) : L.all P = true := by
  refine List.all_eq_true.mpr fun c hc => ?_
  have h := List.all_eq_true.mp h1 c hc
  rcases Bool.eq_false_or_eq_true (isCode c) with hi | hi
  · exact h2 c (List.mem_filter.mpr ⟨hc, hi⟩)
  · simpa [hi] using h
set_option maxRecDepth 65536 in
theorem w_c0 : (Jvm.Cond.code x code maxLocals ret).before args0 about1 = true := code_word (m := ⟨1, 3⟩) (meth := k1m3) (c := k1c3) (by decide +kernel) rfl rfl rfl (by decide +kernel)
set_option maxRecDepth 65536 in
theorem w_c1 : (Jvm.Cond.code ({ cls := "java/lang/Math", name := "min", desc := "(II)I" } : Jvm.MethodName) jdk_29_method_69_code (2 : Nat) (Option.some Jvm.ClassFile.FieldType.int)).before args0 about1 = true := code_word (m := ⟨2, 1⟩) (meth := k2m1) (c := k2c1) (by decide +kernel) rfl rfl rfl (by decide +kernel)
set_option maxRecDepth 65536 in
theorem w_c2 : (Jvm.Cond.code ({ cls := "com/example/twin64/twin64/search/BlockTableEndOfRunPinLaw", name := "level", desc := "(IJJJ)J" } : Jvm.MethodName) method_2_code (7 : Nat) (Option.some Jvm.ClassFile.FieldType.long)).before args0 about1 = true := code_word (m := ⟨1, 1⟩) (meth := k1m1) (c := k1c1) (by decide +kernel) rfl rfl rfl (by decide +kernel)
set_option maxRecDepth 65536 in
theorem w_c3 : (Jvm.Cond.code ({ cls := "com/example/twin64/twin64/search/BlockTable", name := "<init>", desc := "([JJ[I)V" } : Jvm.MethodName) prog_33_method_3_code (8 : Nat) (Option.none : Option Jvm.ClassFile.FieldType)).before args0 about1 = true := code_word (m := ⟨3, 0⟩) (meth := k3m0) (c := k3c0) (by decide +kernel) rfl rfl rfl (by decide +kernel)
set_option maxRecDepth 65536 in
theorem w_c4 : (Jvm.Cond.code ({ cls := "java/lang/Object", name := "<init>", desc := "()V" } : Jvm.MethodName) object_method_1_code (1 : Nat) (Option.none : Option Jvm.ClassFile.FieldType)).before args0 about1 = true := code_word (m := ⟨0, 0⟩) (meth := k0m0) (c := k0c0) (by decide +kernel) rfl rfl rfl (by decide +kernel)
set_option maxRecDepth 65536 in
theorem w_c5 : (Jvm.Cond.code ({ cls := "com/example/twin64/twin64/search/BlockTable", name := "followsItsPredecessor", desc := "(I)Z" } : Jvm.MethodName) prog_33_method_10_code (3 : Nat) (Option.some Jvm.ClassFile.FieldType.boolean)).before args0 about1 = true := code_word (m := ⟨3, 2⟩) (meth := k3m2) (c := k3c2) (by decide +kernel) rfl rfl rfl (by decide +kernel)
set_option maxRecDepth 65536 in
theorem w_c6 : (Jvm.Cond.code ({ cls := "java/lang/Long", name := "compareUnsigned", desc := "(JJ)I" } : Jvm.MethodName) jdk_35_method_43_code (4 : Nat) (Option.some Jvm.ClassFile.FieldType.int)).before args0 about1 = true := code_word (m := ⟨9, 1⟩) (meth := k9m1) (c := k9c1) (by decide +kernel) rfl rfl rfl (by decide +kernel)
set_option maxRecDepth 65536 in
theorem w_c7 : (Jvm.Cond.code ({ cls := "java/lang/Long", name := "compare", desc := "(JJ)I" } : Jvm.MethodName) jdk_35_method_42_code (4 : Nat) (Option.some Jvm.ClassFile.FieldType.int)).before args0 about1 = true := code_word (m := ⟨9, 0⟩) (meth := k9m0) (c := k9c0) (by decide +kernel) rfl rfl rfl (by decide +kernel)
set_option maxRecDepth 65536 in
theorem w_c8 : (Jvm.Cond.code ({ cls := "com/example/twin64/twin64/search/BlockTableEndOfRunPinLaw", name := "notGreater", desc := "(JJ)I" } : Jvm.MethodName) method_3_code (4 : Nat) (Option.some Jvm.ClassFile.FieldType.int)).before args0 about1 = true := code_word (m := ⟨1, 2⟩) (meth := k1m2) (c := k1c2) (by decide +kernel) rfl rfl rfl (by decide +kernel)
set_option maxRecDepth 65536 in
theorem w_c9 : (Jvm.Cond.code ({ cls := "com/example/twin64/twin64/search/BlockTable", name := "endOfRun", desc := "(I)I" } : Jvm.MethodName) prog_33_method_7_code (5 : Nat) (Option.some Jvm.ClassFile.FieldType.int)).before args0 about1 = true := code_word (m := ⟨3, 1⟩) (meth := k3m1) (c := k3c1) (by decide +kernel) rfl rfl rfl (by decide +kernel)
def codes1 : List Jvm.Cond := [Jvm.Cond.code x code maxLocals ret, Jvm.Cond.code ({ cls := "java/lang/Math", name := "min", desc := "(II)I" } : Jvm.MethodName) jdk_29_method_69_code (2 : Nat) (Option.some Jvm.ClassFile.FieldType.int), Jvm.Cond.code ({ cls := "com/example/twin64/twin64/search/BlockTableEndOfRunPinLaw", name := "level", desc := "(IJJJ)J" } : Jvm.MethodName) method_2_code (7 : Nat) (Option.some Jvm.ClassFile.FieldType.long), Jvm.Cond.code ({ cls := "com/example/twin64/twin64/search/BlockTable", name := "<init>", desc := "([JJ[I)V" } : Jvm.MethodName) prog_33_method_3_code (8 : Nat) (Option.none : Option Jvm.ClassFile.FieldType), Jvm.Cond.code ({ cls := "java/lang/Object", name := "<init>", desc := "()V" } : Jvm.MethodName) object_method_1_code (1 : Nat) (Option.none : Option Jvm.ClassFile.FieldType), Jvm.Cond.code ({ cls := "com/example/twin64/twin64/search/BlockTable", name := "followsItsPredecessor", desc := "(I)Z" } : Jvm.MethodName) prog_33_method_10_code (3 : Nat) (Option.some Jvm.ClassFile.FieldType.boolean), Jvm.Cond.code ({ cls := "java/lang/Long", name := "compareUnsigned", desc := "(JJ)I" } : Jvm.MethodName) jdk_35_method_43_code (4 : Nat) (Option.some Jvm.ClassFile.FieldType.int), Jvm.Cond.code ({ cls := "java/lang/Long", name := "compare", desc := "(JJ)I" } : Jvm.MethodName) jdk_35_method_42_code (4 : Nat) (Option.some Jvm.ClassFile.FieldType.int), Jvm.Cond.code ({ cls := "com/example/twin64/twin64/search/BlockTableEndOfRunPinLaw", name := "notGreater", desc := "(JJ)I" } : Jvm.MethodName) method_3_code (4 : Nat) (Option.some Jvm.ClassFile.FieldType.int), Jvm.Cond.code ({ cls := "com/example/twin64/twin64/search/BlockTable", name := "endOfRun", desc := "(I)I" } : Jvm.MethodName) prog_33_method_7_code (5 : Nat) (Option.some Jvm.ClassFile.FieldType.int)]
set_option maxRecDepth 65536 in
theorem codes_eq : words1.filter isCode = codes1 := rfl
theorem w_codes : ∀ c ∈ words1.filter isCode, c.before args0 about1 = true := by
  rw [codes_eq]
  intro c hc
  simp only [codes1, List.mem_cons, List.not_mem_nil, or_false] at hc
  rcases hc with rfl | rfl | rfl | rfl | rfl | rfl | rfl | rfl | rfl | rfl
  · exact w_c0
  · exact w_c1
  · exact w_c2
  · exact w_c3
  · exact w_c4
  · exact w_c5
  · exact w_c6
  · exact w_c7
  · exact w_c8
  · exact w_c9
set_option maxRecDepth 65536 in
theorem w_t1 : (words1.take 24).all (fun c => isCode c || c.before args0 about1) = true := by decide +kernel
set_option maxRecDepth 65536 in
theorem w_t2 : (words1.drop 24).all (fun c => isCode c || c.before args0 about1) = true := by decide +kernel
theorem w_tables : (allAtoms (Jvm.Cond.code x code maxLocals ret :: tables_1)).before args0 about1 = true := by
  rw [allAtoms_all]
  show words1.all (fun c => c.before args0 about1) = true
  refine all_split ?_ w_codes
  rw [← List.take_append_drop 24 words1, List.all_append, w_t1, w_t2]
  rfl
set_option maxRecDepth 65536 in
theorem w_case : (Jvm.Cond.and given_1 narrow_1).before args0 about1 = true := by decide +kernel
theorem w_applies : (headSpec (Jvm.Cond.code x code maxLocals ret :: tables_1) room_1).applies x e0.platform about1 = true :=
  (Spec.applies_iff w_frames).mpr ⟨w_running, w_runnable, w_alone, w_named, w_hears, w_ripe, w_room, w_tables⟩
theorem atStart : AtStart classFile x code maxLocals ret World_1 tables_1 room_1 Calls_1 rest_1 Pre_1 launch0 p0 e0 about1 theMethod args0 below0 :=
  ⟨lists_1, trivial, launch0.admits_env _ _ _, launch0.least_env, fairChoices_fair.cas, fairChoices_fair.clock, w_frames, w_args, w_heap, w_applies, trivial, trivial, w_case⟩
end start1
theorem witness_1 : WitnessClaimed_1 := ⟨start1.p0, start1.e0, start1.about1, start1.theMethod, start1.args0, start1.below0, start1.atStart⟩
end Jvm.Pilot.@@N@@

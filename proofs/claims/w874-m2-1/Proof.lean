import JvmDerived
import JvmDerived.Pilot.@@N@@Statement
import JvmDerived.Pilot.@@N@@Code
set_option linter.unusedVariables false
set_option linter.unusedSimpArgs false
namespace Jvm.Pilot.@@N@@
open Jvm Jvm.ClassFile Sem Op Lib Jvm.Free Jvm.Stand Jvm.LawKit Jvm.RoadKit Bundle Jvm.Pilot.@@N@@.Jvm.D
section OwnKit
def own_Cx (p : Program) (s : State) (m : MethodId) (meth : Method) (c : Code) (Z : State) (n0 : Nat) (own nm : String) (bytes : ByteArray) (ml : Nat) (ret : Option FieldType) : Prop :=
  p.tables.exec = Jvm.exec ∧ c.code = bytes ∧ c.maxLocals = ml ∧ s.vm.findClass own = some m.cls ∧ meth.name = nm ∧ meth.sig.returnType = ret ∧ meth.locks = false ∧ Z.Warmed39 s.vm ∧ n0 ≤ s.heap.size
def own_St (p : Program) (l : Launch) (e : Env) (R : Room) (s : State) (m : MethodId) (args : Array Value) (below : List Frame) (meth : Method) (c : Code) (n0 : Nat) (T : State) (h : Heap) (cells slots : Nat) : Prop :=
  ∃ locs, Stand p l e R s m args below meth c T locs cells slots ∧ Fr n0 locs ∧ T.heap = h
def own_Go (p : Program) (e : Env) (below : List Frame) (n0 : Nat) (F : Option Value → State → List Loc → Prop) (S : State) : Prop :=
  ∃ t v L, Steps p.tables e below S t ∧ t.status = .running ∧ Ended t below (.returned v) ∧ Fr n0 L ∧ F v t L
def own_Fin (R : Room) (s : State) (Q : Option Value → Heap → Prop) : Option Value → State → List Loc → Prop := fun v t L => Q v t.heap ∧ FrameEnd s (.returned v) t L R.cells R.slots
abbrev own_Met (l : Launch) (Z : State) (n0 : Nat) (y : MethodName) (bytes : ByteArray) (ml : Nat) (ret : Option FieldType) (ws : List Jvm.Cond) (rm : Room) (as' : Array Value) (h0 : Heap) (Q : Option Value → Heap → Prop) : Prop :=
  MetFree l y (head1 (Jvm.Cond.code y bytes ml ret :: ws) rm) (fun a U => a = as' ∧ Z.Warmed39 U.vm ∧ U.heap = h0) (fun _ _ _ _ _ => True) (fun _ U o U' => ∃ v L, o = .returned v ∧ (Q v U'.heap ∧ Fr n0 L) ∧ FrameEnd U o U' L rm.cells rm.slots)
variable {p : Program} {l : Launch} {e : Env} {R : Room} {s : State} {m : MethodId} {args : Array Value} {below : List Frame} {meth : Method} {c : Code} {T : State} {cells slots : Nat} {Z : State} {a0 : Array Value} {h h' : Heap} {n0 : Nat} {own nm : String} {bytes : ByteArray} {ml : Nat} {ret : Option FieldType} {Q : Option Value → Heap → Prop} {F : Option Value → State → List Loc → Prop} {pc pc' pcT : Nat} {L L' : Array Slot} {S : List Value}
theorem own_st {A B : State} (k : ∀ t, Steps p.tables e below B t → Steps p.tables e below A t) (g : own_Go p e below n0 F B) : own_Go p e below n0 F A := by
  obtain ⟨t, v, L, h1, r⟩ := g; exact ⟨t, v, L, k t h1, r⟩
theorem own_big (C : own_Cx p s m meth c Z n0 own nm bytes ml ret) (X : own_St p l e R s m args below meth c n0 T h cells slots) : n0 ≤ h.size := by
  obtain ⟨locs, X, -, rfl⟩ := X; exact Nat.le_trans C.2.2.2.2.2.2.2.2 X.same.2.1
/-- a body's contract out of its run -/
theorem own_body {y : MethodName} {ws : List Jvm.Cond} {rm : Room} {as' : Array Value} {h0 : Heap} {Ls : Array Slot} (hpl : plainFor y = true) (hn : n0 ≤ h0.size) (hef : ∀ m, entryFrame m as' ml = mkF m 0 Ls [])
    (run : ∀ p e s m below meth c T, own_Cx p s m meth c Z n0 y.cls y.name bytes ml ret → own_St p l e rm s m as' below meth c n0 T h0 0 0 → own_Go p e below n0 (own_Fin rm s Q) (T.setTop (mkF m 0 Ls []))) :
    own_Met l Z n0 y bytes ml ret ws rm as' h0 Q := by
  refine MetFree.of_bodySF hpl hisR ?_
  intro p e s m args below meth c s₁ Bd hml0 hP hK
  obtain ⟨rfl, hZ, hh⟩ := hP
  have X0 : Stand p l e rm s m args below meth c s₁ [] 0 0 := Stand.of_body Bd
  have e0 : s₁.heap = h0 := by rw [← hh, Bd.state]; rfl
  obtain ⟨t, v, L, g1, g2, g3, g5, g4, g6⟩ := run p e s m below meth c s₁ ⟨Bd.exec, Bd.bytes, hml0, findClass_of_methodNamed Bd.named, (name_of_methodNamed Bd.named Bd.method).1, Bd.returns, Bd.notSynchronized, hZ, by rw [hh]; exact hn⟩ ⟨[], X0, Fr.nil n0, e0⟩
  exact ⟨t, .returned v, castTop (hef m) g1, g2, g3, v, L, rfl, ⟨g4, g5⟩, g6⟩

theorem own_iload (C : own_Cx p s m meth c Z n0 own nm bytes ml ret) (X : own_St p l e R s m args below meth c n0 T h cells slots) {k : Nat} {v : Int32} (hd : decode bytes pc = .ok (.iload k, 2)) (hl : L[k]? = some (.val (.int v))) (hp : pc + 2 = pc') (g : own_Go p e below n0 F (T.setTop (mkF m pc' L (.int v :: S)))) : own_Go p e below n0 F (T.setTop (mkF m pc L (S))) := by
  obtain ⟨locs, X, -, -⟩ := X; subst hp
  exact own_st (fun t k => XS.iload X.here C.1 rfl (hb C.2.1 hd) hl k) g
theorem own_iloadN (C : own_Cx p s m meth c Z n0 own nm bytes ml ret) (X : own_St p l e R s m args below meth c n0 T h cells slots) {k : Fin 4} {v : Int32} (hd : decode bytes pc = .ok (.iload_n k, 1)) (hl : L[k.val]? = some (.val (.int v))) (hp : pc + 1 = pc') (g : own_Go p e below n0 F (T.setTop (mkF m pc' L (.int v :: S)))) : own_Go p e below n0 F (T.setTop (mkF m pc L (S))) := by
  obtain ⟨locs, X, -, -⟩ := X; subst hp
  exact own_st (fun t k => XS.iloadN X.here C.1 rfl (hb C.2.1 hd) hl k) g
theorem own_istore (C : own_Cx p s m meth c Z n0 own nm bytes ml ret) (X : own_St p l e R s m args below meth c n0 T h cells slots) {k : Nat} {v : Int32} (hd : decode bytes pc = .ok (.istore k, 2)) (hl : storeLocals L k (.int v) = some L') (hp : pc + 2 = pc') (g : own_Go p e below n0 F (T.setTop (mkF m pc' L' (S)))) : own_Go p e below n0 F (T.setTop (mkF m pc L (.int v :: S))) := by
  obtain ⟨locs, X, -, -⟩ := X; subst hp
  exact own_st (fun t k => XS.istore X.here C.1 rfl (hb C.2.1 hd) rfl hl k) g
theorem own_istoreN (C : own_Cx p s m meth c Z n0 own nm bytes ml ret) (X : own_St p l e R s m args below meth c n0 T h cells slots) {k : Fin 4} {v : Int32} (hd : decode bytes pc = .ok (.istore_n k, 1)) (hl : storeLocals L k.val (.int v) = some L') (hp : pc + 1 = pc') (g : own_Go p e below n0 F (T.setTop (mkF m pc' L' (S)))) : own_Go p e below n0 F (T.setTop (mkF m pc L (.int v :: S))) := by
  obtain ⟨locs, X, -, -⟩ := X; subst hp
  exact own_st (fun t k => XS.istoreN X.here C.1 rfl (hb C.2.1 hd) rfl hl k) g
theorem own_lload (C : own_Cx p s m meth c Z n0 own nm bytes ml ret) (X : own_St p l e R s m args below meth c n0 T h cells slots) {k : Nat} {v : Int64} (hd : decode bytes pc = .ok (.lload k, 2)) (hl : L[k]? = some (.val (.long v))) (hp : pc + 2 = pc') (g : own_Go p e below n0 F (T.setTop (mkF m pc' L (.long v :: S)))) : own_Go p e below n0 F (T.setTop (mkF m pc L (S))) := by
  obtain ⟨locs, X, -, -⟩ := X; subst hp
  exact own_st (fun t k => XS.lload X.here C.1 rfl (hb C.2.1 hd) hl k) g
theorem own_lloadN (C : own_Cx p s m meth c Z n0 own nm bytes ml ret) (X : own_St p l e R s m args below meth c n0 T h cells slots) {k : Fin 4} {v : Int64} (hd : decode bytes pc = .ok (.lload_n k, 1)) (hl : L[k.val]? = some (.val (.long v))) (hp : pc + 1 = pc') (g : own_Go p e below n0 F (T.setTop (mkF m pc' L (.long v :: S)))) : own_Go p e below n0 F (T.setTop (mkF m pc L (S))) := by
  obtain ⟨locs, X, -, -⟩ := X; subst hp
  exact own_st (fun t k => XS.lloadN X.here C.1 rfl (hb C.2.1 hd) hl k) g
theorem own_lstore (C : own_Cx p s m meth c Z n0 own nm bytes ml ret) (X : own_St p l e R s m args below meth c n0 T h cells slots) {k : Nat} {v : Int64} (hd : decode bytes pc = .ok (.lstore k, 2)) (hl : storeLocals L k (.long v) = some L') (hp : pc + 2 = pc') (g : own_Go p e below n0 F (T.setTop (mkF m pc' L' (S)))) : own_Go p e below n0 F (T.setTop (mkF m pc L (.long v :: S))) := by
  obtain ⟨locs, X, -, -⟩ := X; subst hp
  exact own_st (fun t k => XS.lstore X.here C.1 rfl (hb C.2.1 hd) rfl hl k) g
theorem own_lstoreN (C : own_Cx p s m meth c Z n0 own nm bytes ml ret) (X : own_St p l e R s m args below meth c n0 T h cells slots) {k : Fin 4} {v : Int64} (hd : decode bytes pc = .ok (.lstore_n k, 1)) (hl : storeLocals L k.val (.long v) = some L') (hp : pc + 1 = pc') (g : own_Go p e below n0 F (T.setTop (mkF m pc' L' (S)))) : own_Go p e below n0 F (T.setTop (mkF m pc L (.long v :: S))) := by
  obtain ⟨locs, X, -, -⟩ := X; subst hp
  exact own_st (fun t k => XS.lstoreN X.here C.1 rfl (hb C.2.1 hd) rfl hl k) g
theorem own_aload (C : own_Cx p s m meth c Z n0 own nm bytes ml ret) (X : own_St p l e R s m args below meth c n0 T h cells slots) {k : Nat} {v : Value} (hd : decode bytes pc = .ok (.aload k, 2)) (hl : L[k]? = some (.val v)) (hv : v.isRef = true) (hp : pc + 2 = pc') (g : own_Go p e below n0 F (T.setTop (mkF m pc' L (v :: S)))) : own_Go p e below n0 F (T.setTop (mkF m pc L (S))) := by
  obtain ⟨locs, X, -, -⟩ := X; subst hp
  exact own_st (fun t k => XS.aload X.here C.1 rfl (hb C.2.1 hd) hl hv k) g
theorem own_aloadN (C : own_Cx p s m meth c Z n0 own nm bytes ml ret) (X : own_St p l e R s m args below meth c n0 T h cells slots) {k : Fin 4} {v : Value} (hd : decode bytes pc = .ok (.aload_n k, 1)) (hl : L[k.val]? = some (.val v)) (hv : v.isRef = true) (hp : pc + 1 = pc') (g : own_Go p e below n0 F (T.setTop (mkF m pc' L (v :: S)))) : own_Go p e below n0 F (T.setTop (mkF m pc L (S))) := by
  obtain ⟨locs, X, -, -⟩ := X; subst hp
  exact own_st (fun t k => XS.aloadN X.here C.1 rfl (hb C.2.1 hd) hl hv k) g
theorem own_astore (C : own_Cx p s m meth c Z n0 own nm bytes ml ret) (X : own_St p l e R s m args below meth c n0 T h cells slots) {k : Nat} {v : Value} (hd : decode bytes pc = .ok (.astore k, 2)) (hv : v.isRef = true) (hl : storeLocals L k v = some L') (hp : pc + 2 = pc') (g : own_Go p e below n0 F (T.setTop (mkF m pc' L' (S)))) : own_Go p e below n0 F (T.setTop (mkF m pc L (v :: S))) := by
  obtain ⟨locs, X, -, -⟩ := X; subst hp
  exact own_st (fun t k => XS.astore X.here C.1 rfl (hb C.2.1 hd) rfl hv hl k) g
theorem own_astoreN (C : own_Cx p s m meth c Z n0 own nm bytes ml ret) (X : own_St p l e R s m args below meth c n0 T h cells slots) {k : Fin 4} {v : Value} (hd : decode bytes pc = .ok (.astore_n k, 1)) (hv : v.isRef = true) (hl : storeLocals L k.val v = some L') (hp : pc + 1 = pc') (g : own_Go p e below n0 F (T.setTop (mkF m pc' L' (S)))) : own_Go p e below n0 F (T.setTop (mkF m pc L (v :: S))) := by
  obtain ⟨locs, X, -, -⟩ := X; subst hp
  exact own_st (fun t k => XS.astoreN X.here C.1 rfl (hb C.2.1 hd) rfl hv hl k) g
theorem own_iconst (C : own_Cx p s m meth c Z n0 own nm bytes ml ret) (X : own_St p l e R s m args below meth c n0 T h cells slots) {i : Int} {v : Int32} (hd : decode bytes pc = .ok (.iconst i, 1)) (hv : Int32.ofInt i = v) (hp : pc + 1 = pc') (g : own_Go p e below n0 F (T.setTop (mkF m pc' L (.int v :: S)))) : own_Go p e below n0 F (T.setTop (mkF m pc L (S))) := by
  obtain ⟨locs, X, -, -⟩ := X; subst hp hv
  exact own_st (fun t k => XS.iconst X.here C.1 rfl (hb C.2.1 hd) k) g
theorem own_bipush (C : own_Cx p s m meth c Z n0 own nm bytes ml ret) (X : own_St p l e R s m args below meth c n0 T h cells slots) {i : Int} {v : Int32} (hd : decode bytes pc = .ok (.bipush i, 2)) (hv : (Int8.ofInt i).toInt32 = v) (hp : pc + 2 = pc') (g : own_Go p e below n0 F (T.setTop (mkF m pc' L (.int v :: S)))) : own_Go p e below n0 F (T.setTop (mkF m pc L (S))) := by
  obtain ⟨locs, X, -, -⟩ := X; subst hp hv
  exact own_st (fun t k => XS.bipush X.here C.1 rfl (hb C.2.1 hd) k) g
theorem own_sipush (C : own_Cx p s m meth c Z n0 own nm bytes ml ret) (X : own_St p l e R s m args below meth c n0 T h cells slots) {i : Int} {v : Int32} (hd : decode bytes pc = .ok (.sipush i, 3)) (hv : (Int16.ofInt i).toInt32 = v) (hp : pc + 3 = pc') (g : own_Go p e below n0 F (T.setTop (mkF m pc' L (.int v :: S)))) : own_Go p e below n0 F (T.setTop (mkF m pc L (S))) := by
  obtain ⟨locs, X, -, -⟩ := X; subst hp hv
  exact own_st (fun t k => XS.sipush X.here C.1 rfl (hb C.2.1 hd) k) g
theorem own_lconst (C : own_Cx p s m meth c Z n0 own nm bytes ml ret) (X : own_St p l e R s m args below meth c n0 T h cells slots) {i : Fin 2} {v : Int64} (hd : decode bytes pc = .ok (.lconst i, 1)) (hv : Int64.ofNat i = v) (hp : pc + 1 = pc') (g : own_Go p e below n0 F (T.setTop (mkF m pc' L (.long v :: S)))) : own_Go p e below n0 F (T.setTop (mkF m pc L (S))) := by
  obtain ⟨locs, X, -, -⟩ := X; subst hp hv
  exact own_st (fun t k => XS.lconst X.here C.1 rfl (hb C.2.1 hd) k) g
theorem own_aconst_null (C : own_Cx p s m meth c Z n0 own nm bytes ml ret) (X : own_St p l e R s m args below meth c n0 T h cells slots)  (hd : decode bytes pc = .ok (.aconst_null, 1))  (hp : pc + 1 = pc') (g : own_Go p e below n0 F (T.setTop (mkF m pc' L (.null :: S)))) : own_Go p e below n0 F (T.setTop (mkF m pc L (S))) := by
  obtain ⟨locs, X, -, -⟩ := X; subst hp
  exact own_st (fun t k => XS.aconstNull X.here C.1 rfl (hb C.2.1 hd) k) g
theorem own_iadd (C : own_Cx p s m meth c Z n0 own nm bytes ml ret) (X : own_St p l e R s m args below meth c n0 T h cells slots) {x y z : Int32} (hd : decode bytes pc = .ok (.iadd, 1)) (hz : x + y = z) (hp : pc + 1 = pc') (g : own_Go p e below n0 F (T.setTop (mkF m pc' L (.int z :: S)))) : own_Go p e below n0 F (T.setTop (mkF m pc L (.int y :: .int x :: S))) := by
  obtain ⟨locs, X, -, -⟩ := X; subst hp hz
  exact own_st (fun t k => XS.iadd X.here C.1 rfl (hb C.2.1 hd) rfl k) g
theorem own_ladd (C : own_Cx p s m meth c Z n0 own nm bytes ml ret) (X : own_St p l e R s m args below meth c n0 T h cells slots) {x y z : Int64} (hd : decode bytes pc = .ok (.ladd, 1)) (hz : x + y = z) (hp : pc + 1 = pc') (g : own_Go p e below n0 F (T.setTop (mkF m pc' L (.long z :: S)))) : own_Go p e below n0 F (T.setTop (mkF m pc L (.long y :: .long x :: S))) := by
  obtain ⟨locs, X, -, -⟩ := X; subst hp hz
  exact own_st (fun t k => XS.ladd X.here C.1 rfl (hb C.2.1 hd) rfl k) g
theorem own_isub (C : own_Cx p s m meth c Z n0 own nm bytes ml ret) (X : own_St p l e R s m args below meth c n0 T h cells slots) {x y z : Int32} (hd : decode bytes pc = .ok (.isub, 1)) (hz : x - y = z) (hp : pc + 1 = pc') (g : own_Go p e below n0 F (T.setTop (mkF m pc' L (.int z :: S)))) : own_Go p e below n0 F (T.setTop (mkF m pc L (.int y :: .int x :: S))) := by
  obtain ⟨locs, X, -, -⟩ := X; subst hp hz
  exact own_st (fun t k => XS.isub X.here C.1 rfl (hb C.2.1 hd) rfl k) g
theorem own_lsub (C : own_Cx p s m meth c Z n0 own nm bytes ml ret) (X : own_St p l e R s m args below meth c n0 T h cells slots) {x y z : Int64} (hd : decode bytes pc = .ok (.lsub, 1)) (hz : x - y = z) (hp : pc + 1 = pc') (g : own_Go p e below n0 F (T.setTop (mkF m pc' L (.long z :: S)))) : own_Go p e below n0 F (T.setTop (mkF m pc L (.long y :: .long x :: S))) := by
  obtain ⟨locs, X, -, -⟩ := X; subst hp hz
  exact own_st (fun t k => XS.lsub X.here C.1 rfl (hb C.2.1 hd) rfl k) g
theorem own_imul (C : own_Cx p s m meth c Z n0 own nm bytes ml ret) (X : own_St p l e R s m args below meth c n0 T h cells slots) {x y z : Int32} (hd : decode bytes pc = .ok (.imul, 1)) (hz : x * y = z) (hp : pc + 1 = pc') (g : own_Go p e below n0 F (T.setTop (mkF m pc' L (.int z :: S)))) : own_Go p e below n0 F (T.setTop (mkF m pc L (.int y :: .int x :: S))) := by
  obtain ⟨locs, X, -, -⟩ := X; subst hp hz
  exact own_st (fun t k => XS.imul X.here C.1 rfl (hb C.2.1 hd) rfl k) g
theorem own_lmul (C : own_Cx p s m meth c Z n0 own nm bytes ml ret) (X : own_St p l e R s m args below meth c n0 T h cells slots) {x y z : Int64} (hd : decode bytes pc = .ok (.lmul, 1)) (hz : x * y = z) (hp : pc + 1 = pc') (g : own_Go p e below n0 F (T.setTop (mkF m pc' L (.long z :: S)))) : own_Go p e below n0 F (T.setTop (mkF m pc L (.long y :: .long x :: S))) := by
  obtain ⟨locs, X, -, -⟩ := X; subst hp hz
  exact own_st (fun t k => XS.lmul X.here C.1 rfl (hb C.2.1 hd) rfl k) g
theorem own_iand (C : own_Cx p s m meth c Z n0 own nm bytes ml ret) (X : own_St p l e R s m args below meth c n0 T h cells slots) {x y z : Int32} (hd : decode bytes pc = .ok (.iand, 1)) (hz : x &&& y = z) (hp : pc + 1 = pc') (g : own_Go p e below n0 F (T.setTop (mkF m pc' L (.int z :: S)))) : own_Go p e below n0 F (T.setTop (mkF m pc L (.int y :: .int x :: S))) := by
  obtain ⟨locs, X, -, -⟩ := X; subst hp hz
  exact own_st (fun t k => XS.iand X.here C.1 rfl (hb C.2.1 hd) rfl k) g
theorem own_land (C : own_Cx p s m meth c Z n0 own nm bytes ml ret) (X : own_St p l e R s m args below meth c n0 T h cells slots) {x y z : Int64} (hd : decode bytes pc = .ok (.land, 1)) (hz : x &&& y = z) (hp : pc + 1 = pc') (g : own_Go p e below n0 F (T.setTop (mkF m pc' L (.long z :: S)))) : own_Go p e below n0 F (T.setTop (mkF m pc L (.long y :: .long x :: S))) := by
  obtain ⟨locs, X, -, -⟩ := X; subst hp hz
  exact own_st (fun t k => XS.land X.here C.1 rfl (hb C.2.1 hd) rfl k) g
theorem own_ior (C : own_Cx p s m meth c Z n0 own nm bytes ml ret) (X : own_St p l e R s m args below meth c n0 T h cells slots) {x y z : Int32} (hd : decode bytes pc = .ok (.ior, 1)) (hz : x ||| y = z) (hp : pc + 1 = pc') (g : own_Go p e below n0 F (T.setTop (mkF m pc' L (.int z :: S)))) : own_Go p e below n0 F (T.setTop (mkF m pc L (.int y :: .int x :: S))) := by
  obtain ⟨locs, X, -, -⟩ := X; subst hp hz
  exact own_st (fun t k => XS.ior X.here C.1 rfl (hb C.2.1 hd) rfl k) g
theorem own_lor (C : own_Cx p s m meth c Z n0 own nm bytes ml ret) (X : own_St p l e R s m args below meth c n0 T h cells slots) {x y z : Int64} (hd : decode bytes pc = .ok (.lor, 1)) (hz : x ||| y = z) (hp : pc + 1 = pc') (g : own_Go p e below n0 F (T.setTop (mkF m pc' L (.long z :: S)))) : own_Go p e below n0 F (T.setTop (mkF m pc L (.long y :: .long x :: S))) := by
  obtain ⟨locs, X, -, -⟩ := X; subst hp hz
  exact own_st (fun t k => XS.lor X.here C.1 rfl (hb C.2.1 hd) rfl k) g
theorem own_ixor (C : own_Cx p s m meth c Z n0 own nm bytes ml ret) (X : own_St p l e R s m args below meth c n0 T h cells slots) {x y z : Int32} (hd : decode bytes pc = .ok (.ixor, 1)) (hz : x ^^^ y = z) (hp : pc + 1 = pc') (g : own_Go p e below n0 F (T.setTop (mkF m pc' L (.int z :: S)))) : own_Go p e below n0 F (T.setTop (mkF m pc L (.int y :: .int x :: S))) := by
  obtain ⟨locs, X, -, -⟩ := X; subst hp hz
  exact own_st (fun t k => XS.ixor X.here C.1 rfl (hb C.2.1 hd) rfl k) g
theorem own_lxor (C : own_Cx p s m meth c Z n0 own nm bytes ml ret) (X : own_St p l e R s m args below meth c n0 T h cells slots) {x y z : Int64} (hd : decode bytes pc = .ok (.lxor, 1)) (hz : x ^^^ y = z) (hp : pc + 1 = pc') (g : own_Go p e below n0 F (T.setTop (mkF m pc' L (.long z :: S)))) : own_Go p e below n0 F (T.setTop (mkF m pc L (.long y :: .long x :: S))) := by
  obtain ⟨locs, X, -, -⟩ := X; subst hp hz
  exact own_st (fun t k => XS.lxor X.here C.1 rfl (hb C.2.1 hd) rfl k) g
theorem own_ishl (C : own_Cx p s m meth c Z n0 own nm bytes ml ret) (X : own_St p l e R s m args below meth c n0 T h cells slots) {x y z : Int32} (hd : decode bytes pc = .ok (.ishl, 1)) (hz : x <<< (y &&& 31) = z) (hp : pc + 1 = pc') (g : own_Go p e below n0 F (T.setTop (mkF m pc' L (.int z :: S)))) : own_Go p e below n0 F (T.setTop (mkF m pc L (.int y :: .int x :: S))) := by
  obtain ⟨locs, X, -, -⟩ := X; subst hp hz
  exact own_st (fun t k => XS.ishl X.here C.1 rfl (hb C.2.1 hd) rfl k) g
theorem own_ishr (C : own_Cx p s m meth c Z n0 own nm bytes ml ret) (X : own_St p l e R s m args below meth c n0 T h cells slots) {x y z : Int32} (hd : decode bytes pc = .ok (.ishr, 1)) (hz : x >>> (y &&& 31) = z) (hp : pc + 1 = pc') (g : own_Go p e below n0 F (T.setTop (mkF m pc' L (.int z :: S)))) : own_Go p e below n0 F (T.setTop (mkF m pc L (.int y :: .int x :: S))) := by
  obtain ⟨locs, X, -, -⟩ := X; subst hp hz
  exact own_st (fun t k => XS.ishr X.here C.1 rfl (hb C.2.1 hd) rfl k) g
theorem own_iushr (C : own_Cx p s m meth c Z n0 own nm bytes ml ret) (X : own_St p l e R s m args below meth c n0 T h cells slots) {x y z : Int32} (hd : decode bytes pc = .ok (.iushr, 1)) (hz : (x.toUInt32 >>> (y &&& 31).toUInt32).toInt32 = z) (hp : pc + 1 = pc') (g : own_Go p e below n0 F (T.setTop (mkF m pc' L (.int z :: S)))) : own_Go p e below n0 F (T.setTop (mkF m pc L (.int y :: .int x :: S))) := by
  obtain ⟨locs, X, -, -⟩ := X; subst hp hz
  exact own_st (fun t k => XS.iushr X.here C.1 rfl (hb C.2.1 hd) rfl k) g
theorem own_lshl (C : own_Cx p s m meth c Z n0 own nm bytes ml ret) (X : own_St p l e R s m args below meth c n0 T h cells slots) {x z : Int64} {y : Int32} (hd : decode bytes pc = .ok (.lshl, 1)) (hz : x <<< (y &&& 0x3f).toInt64 = z) (hp : pc + 1 = pc') (g : own_Go p e below n0 F (T.setTop (mkF m pc' L (.long z :: S)))) : own_Go p e below n0 F (T.setTop (mkF m pc L (.int y :: .long x :: S))) := by
  obtain ⟨locs, X, -, -⟩ := X; subst hp hz
  exact own_st (fun t k => XS.lshl X.here C.1 rfl (hb C.2.1 hd) rfl k) g
theorem own_lshr (C : own_Cx p s m meth c Z n0 own nm bytes ml ret) (X : own_St p l e R s m args below meth c n0 T h cells slots) {x z : Int64} {y : Int32} (hd : decode bytes pc = .ok (.lshr, 1)) (hz : x >>> (y &&& 0x3f).toInt64 = z) (hp : pc + 1 = pc') (g : own_Go p e below n0 F (T.setTop (mkF m pc' L (.long z :: S)))) : own_Go p e below n0 F (T.setTop (mkF m pc L (.int y :: .long x :: S))) := by
  obtain ⟨locs, X, -, -⟩ := X; subst hp hz
  exact own_st (fun t k => XS.lshr X.here C.1 rfl (hb C.2.1 hd) rfl k) g
theorem own_lushr (C : own_Cx p s m meth c Z n0 own nm bytes ml ret) (X : own_St p l e R s m args below meth c n0 T h cells slots) {x z : Int64} {y : Int32} (hd : decode bytes pc = .ok (.lushr, 1)) (hz : (x.toUInt64 >>> (y &&& 0x3f).toInt64.toUInt64).toInt64 = z) (hp : pc + 1 = pc') (g : own_Go p e below n0 F (T.setTop (mkF m pc' L (.long z :: S)))) : own_Go p e below n0 F (T.setTop (mkF m pc L (.int y :: .long x :: S))) := by
  obtain ⟨locs, X, -, -⟩ := X; subst hp hz
  exact own_st (fun t k => XS.lushr X.here C.1 rfl (hb C.2.1 hd) rfl k) g
theorem own_idiv (C : own_Cx p s m meth c Z n0 own nm bytes ml ret) (X : own_St p l e R s m args below meth c n0 T h cells slots) {x y z : Int32} (hd : decode bytes pc = .ok (.idiv, 1)) (hy : y ≠ 0) (hz : x / y = z) (hp : pc + 1 = pc') (g : own_Go p e below n0 F (T.setTop (mkF m pc' L (.int z :: S)))) : own_Go p e below n0 F (T.setTop (mkF m pc L (.int y :: .int x :: S))) := by
  obtain ⟨locs, X, -, -⟩ := X; subst hp hz
  exact own_st (fun t k => XS.idiv X.here C.1 rfl (hb C.2.1 hd) rfl hy k) g
theorem own_irem (C : own_Cx p s m meth c Z n0 own nm bytes ml ret) (X : own_St p l e R s m args below meth c n0 T h cells slots) {x y z : Int32} (hd : decode bytes pc = .ok (.irem, 1)) (hy : y ≠ 0) (hz : x % y = z) (hp : pc + 1 = pc') (g : own_Go p e below n0 F (T.setTop (mkF m pc' L (.int z :: S)))) : own_Go p e below n0 F (T.setTop (mkF m pc L (.int y :: .int x :: S))) := by
  obtain ⟨locs, X, -, -⟩ := X; subst hp hz
  exact own_st (fun t k => iremM X C.1 rfl (hb C.2.1 hd) rfl hy k) g
theorem own_ldiv (C : own_Cx p s m meth c Z n0 own nm bytes ml ret) (X : own_St p l e R s m args below meth c n0 T h cells slots) {x y z : Int64} (hd : decode bytes pc = .ok (.ldiv, 1)) (hy : y ≠ 0) (hz : x / y = z) (hp : pc + 1 = pc') (g : own_Go p e below n0 F (T.setTop (mkF m pc' L (.long z :: S)))) : own_Go p e below n0 F (T.setTop (mkF m pc L (.long y :: .long x :: S))) := by
  obtain ⟨locs, X, -, -⟩ := X; subst hp hz
  exact own_st (fun t k => XS.ldiv X.here C.1 rfl (hb C.2.1 hd) rfl hy k) g
theorem own_lrem (C : own_Cx p s m meth c Z n0 own nm bytes ml ret) (X : own_St p l e R s m args below meth c n0 T h cells slots) {x y z : Int64} (hd : decode bytes pc = .ok (.lrem, 1)) (hy : y ≠ 0) (hz : x % y = z) (hp : pc + 1 = pc') (g : own_Go p e below n0 F (T.setTop (mkF m pc' L (.long z :: S)))) : own_Go p e below n0 F (T.setTop (mkF m pc L (.long y :: .long x :: S))) := by
  obtain ⟨locs, X, -, -⟩ := X; subst hp hz
  exact own_st (fun t k => XS.lrem X.here C.1 rfl (hb C.2.1 hd) rfl hy (by rw [lrem_mod]; exact k)) g
theorem own_ineg (C : own_Cx p s m meth c Z n0 own nm bytes ml ret) (X : own_St p l e R s m args below meth c n0 T h cells slots) {x : Int32} {z : Int32} (hd : decode bytes pc = .ok (.ineg, 1)) (hz : -x = z) (hp : pc + 1 = pc') (g : own_Go p e below n0 F (T.setTop (mkF m pc' L (.int z :: S)))) : own_Go p e below n0 F (T.setTop (mkF m pc L (.int x :: S))) := by
  obtain ⟨locs, X, -, -⟩ := X; subst hp hz
  exact own_st (fun t k => XS.ineg X.here C.1 rfl (hb C.2.1 hd) rfl k) g
theorem own_lneg (C : own_Cx p s m meth c Z n0 own nm bytes ml ret) (X : own_St p l e R s m args below meth c n0 T h cells slots) {x : Int64} {z : Int64} (hd : decode bytes pc = .ok (.lneg, 1)) (hz : -x = z) (hp : pc + 1 = pc') (g : own_Go p e below n0 F (T.setTop (mkF m pc' L (.long z :: S)))) : own_Go p e below n0 F (T.setTop (mkF m pc L (.long x :: S))) := by
  obtain ⟨locs, X, -, -⟩ := X; subst hp hz
  exact own_st (fun t k => XS.lneg X.here C.1 rfl (hb C.2.1 hd) rfl k) g
theorem own_i2l (C : own_Cx p s m meth c Z n0 own nm bytes ml ret) (X : own_St p l e R s m args below meth c n0 T h cells slots) {x : Int32} {z : Int64} (hd : decode bytes pc = .ok (.i2l, 1)) (hz : x.toInt64 = z) (hp : pc + 1 = pc') (g : own_Go p e below n0 F (T.setTop (mkF m pc' L (.long z :: S)))) : own_Go p e below n0 F (T.setTop (mkF m pc L (.int x :: S))) := by
  obtain ⟨locs, X, -, -⟩ := X; subst hp hz
  exact own_st (fun t k => XS.i2l X.here C.1 rfl (hb C.2.1 hd) rfl k) g
theorem own_l2i (C : own_Cx p s m meth c Z n0 own nm bytes ml ret) (X : own_St p l e R s m args below meth c n0 T h cells slots) {x : Int64} {z : Int32} (hd : decode bytes pc = .ok (.l2i, 1)) (hz : x.toInt32 = z) (hp : pc + 1 = pc') (g : own_Go p e below n0 F (T.setTop (mkF m pc' L (.int z :: S)))) : own_Go p e below n0 F (T.setTop (mkF m pc L (.long x :: S))) := by
  obtain ⟨locs, X, -, -⟩ := X; subst hp hz
  exact own_st (fun t k => XS.l2i X.here C.1 rfl (hb C.2.1 hd) rfl k) g
theorem own_i2b (C : own_Cx p s m meth c Z n0 own nm bytes ml ret) (X : own_St p l e R s m args below meth c n0 T h cells slots) {x : Int32} {z : Int32} (hd : decode bytes pc = .ok (.i2b, 1)) (hz : x.toInt8.toInt32 = z) (hp : pc + 1 = pc') (g : own_Go p e below n0 F (T.setTop (mkF m pc' L (.int z :: S)))) : own_Go p e below n0 F (T.setTop (mkF m pc L (.int x :: S))) := by
  obtain ⟨locs, X, -, -⟩ := X; subst hp hz
  exact own_st (fun t k => XS.i2b X.here C.1 rfl (hb C.2.1 hd) rfl k) g
theorem own_i2c (C : own_Cx p s m meth c Z n0 own nm bytes ml ret) (X : own_St p l e R s m args below meth c n0 T h cells slots) {x : Int32} {z : Int32} (hd : decode bytes pc = .ok (.i2c, 1)) (hz : x.toUInt32.toUInt16.toUInt32.toInt32 = z) (hp : pc + 1 = pc') (g : own_Go p e below n0 F (T.setTop (mkF m pc' L (.int z :: S)))) : own_Go p e below n0 F (T.setTop (mkF m pc L (.int x :: S))) := by
  obtain ⟨locs, X, -, -⟩ := X; subst hp hz
  exact own_st (fun t k => XS.i2c X.here C.1 rfl (hb C.2.1 hd) rfl k) g
theorem own_i2s (C : own_Cx p s m meth c Z n0 own nm bytes ml ret) (X : own_St p l e R s m args below meth c n0 T h cells slots) {x : Int32} {z : Int32} (hd : decode bytes pc = .ok (.i2s, 1)) (hz : x.toInt16.toInt32 = z) (hp : pc + 1 = pc') (g : own_Go p e below n0 F (T.setTop (mkF m pc' L (.int z :: S)))) : own_Go p e below n0 F (T.setTop (mkF m pc L (.int x :: S))) := by
  obtain ⟨locs, X, -, -⟩ := X; subst hp hz
  exact own_st (fun t k => XS.i2s X.here C.1 rfl (hb C.2.1 hd) rfl k) g
theorem own_iinc (C : own_Cx p s m meth c Z n0 own nm bytes ml ret) (X : own_St p l e R s m args below meth c n0 T h cells slots) {k : Nat} {i : Int} {x d z : Int32} (hd : decode bytes pc = .ok (.iinc k i, 3)) (hl : L[k]? = some (.val (.int x))) (hv : Int32.ofInt i = d) (hz : x + d = z) (hl' : storeLocals L k (.int z) = some L') (hp : pc + 3 = pc') (g : own_Go p e below n0 F (T.setTop (mkF m pc' L' (S)))) : own_Go p e below n0 F (T.setTop (mkF m pc L (S))) := by
  obtain ⟨locs, X, -, -⟩ := X; subst hp hv hz
  exact own_st (fun t k => XS.iinc X.here C.1 rfl (hb C.2.1 hd) hl hl' k) g
theorem own_dup (C : own_Cx p s m meth c Z n0 own nm bytes ml ret) (X : own_St p l e R s m args below meth c n0 T h cells slots) {v : Value} (hd : decode bytes pc = .ok (.dup, 1)) (hc : v.category = 1) (hp : pc + 1 = pc') (g : own_Go p e below n0 F (T.setTop (mkF m pc' L (v :: v :: S)))) : own_Go p e below n0 F (T.setTop (mkF m pc L (v :: S))) := by
  obtain ⟨locs, X, -, -⟩ := X; subst hp
  exact own_st (fun t k => XS.dup X.here C.1 rfl (hb C.2.1 hd) rfl hc k) g
theorem own_pop (C : own_Cx p s m meth c Z n0 own nm bytes ml ret) (X : own_St p l e R s m args below meth c n0 T h cells slots) {v : Value} (hd : decode bytes pc = .ok (.pop, 1)) (hc : v.category = 1) (hp : pc + 1 = pc') (g : own_Go p e below n0 F (T.setTop (mkF m pc' L (S)))) : own_Go p e below n0 F (T.setTop (mkF m pc L (v :: S))) := by
  obtain ⟨locs, X, -, -⟩ := X; subst hp
  exact own_st (fun t k => XS.pop X.here C.1 rfl (hb C.2.1 hd) rfl hc k) g
theorem own_dup_x1 (C : own_Cx p s m meth c Z n0 own nm bytes ml ret) (X : own_St p l e R s m args below meth c n0 T h cells slots) {v w : Value} (hd : decode bytes pc = .ok (.dup_x1, 1)) (hc : v.category = 1) (hc' : w.category = 1) (hp : pc + 1 = pc') (g : own_Go p e below n0 F (T.setTop (mkF m pc' L (v :: w :: v :: S)))) : own_Go p e below n0 F (T.setTop (mkF m pc L (v :: w :: S))) := by
  obtain ⟨locs, X, -, -⟩ := X; subst hp
  exact own_st (fun t k => XS.dupX1 X.here C.1 rfl (hb C.2.1 hd) rfl hc hc' k) g
theorem own_dup2 (C : own_Cx p s m meth c Z n0 own nm bytes ml ret) (X : own_St p l e R s m args below meth c n0 T h cells slots) {v w : Value} (hd : decode bytes pc = .ok (.dup2, 1)) (hc : v.category = 1) (hc' : w.category = 1) (hp : pc + 1 = pc') (g : own_Go p e below n0 F (T.setTop (mkF m pc' L (v :: w :: v :: w :: S)))) : own_Go p e below n0 F (T.setTop (mkF m pc L (v :: w :: S))) := by
  obtain ⟨locs, X, -, -⟩ := X; subst hp
  exact own_st (fun t k => XT.dup2 X.here C.1 rfl (hb C.2.1 hd) rfl hc hc' k) g
theorem own_dup2L (C : own_Cx p s m meth c Z n0 own nm bytes ml ret) (X : own_St p l e R s m args below meth c n0 T h cells slots) {v : Int64} (hd : decode bytes pc = .ok (.dup2, 1))  (hp : pc + 1 = pc') (g : own_Go p e below n0 F (T.setTop (mkF m pc' L (.long v :: .long v :: S)))) : own_Go p e below n0 F (T.setTop (mkF m pc L (.long v :: S))) := by
  obtain ⟨locs, X, -, -⟩ := X; subst hp
  exact own_st (fun t k => XT.dup2L X.here C.1 rfl (hb C.2.1 hd) rfl k) g
theorem own_pop2L (C : own_Cx p s m meth c Z n0 own nm bytes ml ret) (X : own_St p l e R s m args below meth c n0 T h cells slots) {v : Int64} (hd : decode bytes pc = .ok (.pop2, 1))  (hp : pc + 1 = pc') (g : own_Go p e below n0 F (T.setTop (mkF m pc' L (S)))) : own_Go p e below n0 F (T.setTop (mkF m pc L (.long v :: S))) := by
  obtain ⟨locs, X, -, -⟩ := X; subst hp
  exact own_st (fun t k => (by jvm_step X.here [X.here.top, C.1, hb C.2.1 hd, Value.category]; exact k)) g
theorem own_lcmp (C : own_Cx p s m meth c Z n0 own nm bytes ml ret) (X : own_St p l e R s m args below meth c n0 T h cells slots) {x y : Int64} {z : Int32} (hd : decode bytes pc = .ok (.lcmp, 1)) (hz : lcmpW x y = z) (hp : pc + 1 = pc') (g : own_Go p e below n0 F (T.setTop (mkF m pc' L (.int z :: S)))) : own_Go p e below n0 F (T.setTop (mkF m pc L (.long y :: .long x :: S))) := by
  obtain ⟨locs, X, -, -⟩ := X; subst hp hz
  exact own_st (fun t k => XS.lcmp X.here C.1 rfl (hb C.2.1 hd) rfl k) g
theorem own_ldcI (C : own_Cx p s m meth c Z n0 own nm bytes ml ret) (X : own_St p l e R s m args below meth c n0 T h cells slots) {i : Nat} {v : Int32} (hd : decode bytes pc = .ok (.ldc i, 2)) (w : (Jvm.Cond.constant own i v).before a0 Z = true) (hp : pc + 2 = pc') (g : own_Go p e below n0 F (T.setTop (mkF m pc' L (.int v :: S)))) : own_Go p e below n0 F (T.setTop (mkF m pc L (S))) := by
  obtain ⟨locs, X, -, -⟩ := X; subst hp
  exact own_st (fun t k => X.ldcInt C.1 C.2.2.2.1 (mvT C.2.2.2.2.2.2.2.1 w) (g := mkF m pc L S) rfl (hb C.2.1 hd) t k) g
theorem own_ldc2L (C : own_Cx p s m meth c Z n0 own nm bytes ml ret) (X : own_St p l e R s m args below meth c n0 T h cells slots) {i : Nat} {v : Int64} (hd : decode bytes pc = .ok (.ldc2_w i, 3)) (w : (Jvm.Cond.constantLong own i v).before a0 Z = true) (hp : pc + 3 = pc') (g : own_Go p e below n0 F (T.setTop (mkF m pc' L (.long v :: S)))) : own_Go p e below n0 F (T.setTop (mkF m pc L (S))) := by
  obtain ⟨locs, X, -, -⟩ := X; subst hp
  exact own_st (fun t k => X.ldc2Long C.1 C.2.2.2.1 (mvT C.2.2.2.2.2.2.2.1 w) (g := mkF m pc L S) rfl (hb C.2.1 hd) t k) g
theorem own_goto (C : own_Cx p s m meth c Z n0 own nm bytes ml ret) (X : own_St p l e R s m args below meth c n0 T h cells slots) {o : Int} (hd : decode bytes pc = .ok (.goto o, 3)) (ho : 0 ≤ (pc : Int) + o) (hp : ((pc : Int) + o).toNat = pc') (g : own_Go p e below n0 F (T.setTop (mkF m pc' L (S)))) : own_Go p e below n0 F (T.setTop (mkF m pc L (S))) := by
  obtain ⟨locs, X, -, -⟩ := X
  exact own_st (fun t k => XS.goto X.here C.1 rfl rfl (hb C.2.1 hd) ho hp k) g
theorem own_icmp_lt (C : own_Cx p s m meth c Z n0 own nm bytes ml ret) (X : own_St p l e R s m args below meth c n0 T h cells slots) {x y : Int32} {o : Int} (hd : decode bytes pc = .ok (.if_icmp .lt o, 3)) (ho : 0 ≤ (pc : Int) + o) (hq : ((pc : Int) + o).toNat = pcT) (hp : pc + 3 = pc') (gT : x < y → own_Go p e below n0 F (T.setTop (mkF m pcT L (S)))) (gF : ¬ x < y → own_Go p e below n0 F (T.setTop (mkF m pc' L (S)))) : own_Go p e below n0 F (T.setTop (mkF m pc L (.int y :: .int x :: S))) := by
  obtain ⟨locs, X, -, -⟩ := X; subst hp
  by_cases q : x < y
  · exact own_st (fun t k => XS.icmpYes X.here C.1 rfl rfl (hb C.2.1 hd) rfl (tlt q).1 ho hq k) (gT q)
  · exact own_st (fun t k => XS.icmpNo X.here C.1 rfl (hb C.2.1 hd) rfl (flt q).1 k) (gF q)
theorem own_if_lt (C : own_Cx p s m meth c Z n0 own nm bytes ml ret) (X : own_St p l e R s m args below meth c n0 T h cells slots) {x : Int32} {o : Int} (hd : decode bytes pc = .ok (.ifCond .lt o, 3)) (ho : 0 ≤ (pc : Int) + o) (hq : ((pc : Int) + o).toNat = pcT) (hp : pc + 3 = pc') (gT : x < 0 → own_Go p e below n0 F (T.setTop (mkF m pcT L (S)))) (gF : ¬ x < 0 → own_Go p e below n0 F (T.setTop (mkF m pc' L (S)))) : own_Go p e below n0 F (T.setTop (mkF m pc L (.int x :: S))) := by
  obtain ⟨locs, X, -, -⟩ := X; subst hp
  by_cases q : x < 0
  · exact own_st (fun t k => XS.ifYes X.here C.1 rfl rfl (hb C.2.1 hd) rfl ((if0 _ _).trans (tlt q).1) ho hq k) (gT q)
  · exact own_st (fun t k => XS.ifNo X.here C.1 rfl (hb C.2.1 hd) rfl ((if0 _ _).trans (flt q).1) k) (gF q)
theorem own_lcmp_lt (C : own_Cx p s m meth c Z n0 own nm bytes ml ret) (X : own_St p l e R s m args below meth c n0 T h cells slots) {x y : Int64} {o : Int} (hd1 : decode bytes pc = .ok (.lcmp, 1)) (hd : decode bytes (pc + 1) = .ok (.ifCond .lt o, 3)) (ho : 0 ≤ ((pc + 1 : Nat) : Int) + o) (hq : (((pc + 1 : Nat) : Int) + o).toNat = pcT) (hp : pc + 4 = pc') (gT : x < y → own_Go p e below n0 F (T.setTop (mkF m pcT L (S)))) (gF : ¬ x < y → own_Go p e below n0 F (T.setTop (mkF m pc' L (S)))) : own_Go p e below n0 F (T.setTop (mkF m pc L (.long y :: .long x :: S))) := by
  subst hp
  exact own_lcmp C X hd1 rfl rfl (own_if_lt C X hd ho hq rfl (fun q => gT ((lw_lt x y).mp q)) (fun q => gF (fun r => q ((lw_lt x y).mpr r))))
theorem own_icmp_ge (C : own_Cx p s m meth c Z n0 own nm bytes ml ret) (X : own_St p l e R s m args below meth c n0 T h cells slots) {x y : Int32} {o : Int} (hd : decode bytes pc = .ok (.if_icmp .ge o, 3)) (ho : 0 ≤ (pc : Int) + o) (hq : ((pc : Int) + o).toNat = pcT) (hp : pc + 3 = pc') (gT : ¬ x < y → own_Go p e below n0 F (T.setTop (mkF m pcT L (S)))) (gF : x < y → own_Go p e below n0 F (T.setTop (mkF m pc' L (S)))) : own_Go p e below n0 F (T.setTop (mkF m pc L (.int y :: .int x :: S))) := by
  obtain ⟨locs, X, -, -⟩ := X; subst hp
  by_cases q : x < y
  · exact own_st (fun t k => XS.icmpNo X.here C.1 rfl (hb C.2.1 hd) rfl (tlt q).2.1 k) (gF q)
  · exact own_st (fun t k => XS.icmpYes X.here C.1 rfl rfl (hb C.2.1 hd) rfl (flt q).2.1 ho hq k) (gT q)
theorem own_if_ge (C : own_Cx p s m meth c Z n0 own nm bytes ml ret) (X : own_St p l e R s m args below meth c n0 T h cells slots) {x : Int32} {o : Int} (hd : decode bytes pc = .ok (.ifCond .ge o, 3)) (ho : 0 ≤ (pc : Int) + o) (hq : ((pc : Int) + o).toNat = pcT) (hp : pc + 3 = pc') (gT : ¬ x < 0 → own_Go p e below n0 F (T.setTop (mkF m pcT L (S)))) (gF : x < 0 → own_Go p e below n0 F (T.setTop (mkF m pc' L (S)))) : own_Go p e below n0 F (T.setTop (mkF m pc L (.int x :: S))) := by
  obtain ⟨locs, X, -, -⟩ := X; subst hp
  by_cases q : x < 0
  · exact own_st (fun t k => XS.ifNo X.here C.1 rfl (hb C.2.1 hd) rfl ((if0 _ _).trans (tlt q).2.1) k) (gF q)
  · exact own_st (fun t k => XS.ifYes X.here C.1 rfl rfl (hb C.2.1 hd) rfl ((if0 _ _).trans (flt q).2.1) ho hq k) (gT q)
theorem own_lcmp_ge (C : own_Cx p s m meth c Z n0 own nm bytes ml ret) (X : own_St p l e R s m args below meth c n0 T h cells slots) {x y : Int64} {o : Int} (hd1 : decode bytes pc = .ok (.lcmp, 1)) (hd : decode bytes (pc + 1) = .ok (.ifCond .ge o, 3)) (ho : 0 ≤ ((pc + 1 : Nat) : Int) + o) (hq : (((pc + 1 : Nat) : Int) + o).toNat = pcT) (hp : pc + 4 = pc') (gT : ¬ x < y → own_Go p e below n0 F (T.setTop (mkF m pcT L (S)))) (gF : x < y → own_Go p e below n0 F (T.setTop (mkF m pc' L (S)))) : own_Go p e below n0 F (T.setTop (mkF m pc L (.long y :: .long x :: S))) := by
  subst hp
  exact own_lcmp C X hd1 rfl rfl (own_if_ge C X hd ho hq rfl (fun q => gT (fun r => q ((lw_lt x y).mpr r))) (fun q => gF ((lw_lt x y).mp q)))
theorem own_icmp_gt (C : own_Cx p s m meth c Z n0 own nm bytes ml ret) (X : own_St p l e R s m args below meth c n0 T h cells slots) {x y : Int32} {o : Int} (hd : decode bytes pc = .ok (.if_icmp .gt o, 3)) (ho : 0 ≤ (pc : Int) + o) (hq : ((pc : Int) + o).toNat = pcT) (hp : pc + 3 = pc') (gT : y < x → own_Go p e below n0 F (T.setTop (mkF m pcT L (S)))) (gF : ¬ y < x → own_Go p e below n0 F (T.setTop (mkF m pc' L (S)))) : own_Go p e below n0 F (T.setTop (mkF m pc L (.int y :: .int x :: S))) := by
  obtain ⟨locs, X, -, -⟩ := X; subst hp
  by_cases q : y < x
  · exact own_st (fun t k => XS.icmpYes X.here C.1 rfl rfl (hb C.2.1 hd) rfl (tlt q).2.2.1 ho hq k) (gT q)
  · exact own_st (fun t k => XS.icmpNo X.here C.1 rfl (hb C.2.1 hd) rfl (flt q).2.2.1 k) (gF q)
theorem own_if_gt (C : own_Cx p s m meth c Z n0 own nm bytes ml ret) (X : own_St p l e R s m args below meth c n0 T h cells slots) {x : Int32} {o : Int} (hd : decode bytes pc = .ok (.ifCond .gt o, 3)) (ho : 0 ≤ (pc : Int) + o) (hq : ((pc : Int) + o).toNat = pcT) (hp : pc + 3 = pc') (gT : 0 < x → own_Go p e below n0 F (T.setTop (mkF m pcT L (S)))) (gF : ¬ 0 < x → own_Go p e below n0 F (T.setTop (mkF m pc' L (S)))) : own_Go p e below n0 F (T.setTop (mkF m pc L (.int x :: S))) := by
  obtain ⟨locs, X, -, -⟩ := X; subst hp
  by_cases q : 0 < x
  · exact own_st (fun t k => XS.ifYes X.here C.1 rfl rfl (hb C.2.1 hd) rfl ((if0 _ _).trans (tlt q).2.2.1) ho hq k) (gT q)
  · exact own_st (fun t k => XS.ifNo X.here C.1 rfl (hb C.2.1 hd) rfl ((if0 _ _).trans (flt q).2.2.1) k) (gF q)
theorem own_lcmp_gt (C : own_Cx p s m meth c Z n0 own nm bytes ml ret) (X : own_St p l e R s m args below meth c n0 T h cells slots) {x y : Int64} {o : Int} (hd1 : decode bytes pc = .ok (.lcmp, 1)) (hd : decode bytes (pc + 1) = .ok (.ifCond .gt o, 3)) (ho : 0 ≤ ((pc + 1 : Nat) : Int) + o) (hq : (((pc + 1 : Nat) : Int) + o).toNat = pcT) (hp : pc + 4 = pc') (gT : y < x → own_Go p e below n0 F (T.setTop (mkF m pcT L (S)))) (gF : ¬ y < x → own_Go p e below n0 F (T.setTop (mkF m pc' L (S)))) : own_Go p e below n0 F (T.setTop (mkF m pc L (.long y :: .long x :: S))) := by
  subst hp
  exact own_lcmp C X hd1 rfl rfl (own_if_gt C X hd ho hq rfl (fun q => gT ((lw_gt x y).mp q)) (fun q => gF (fun r => q ((lw_gt x y).mpr r))))
theorem own_icmp_le (C : own_Cx p s m meth c Z n0 own nm bytes ml ret) (X : own_St p l e R s m args below meth c n0 T h cells slots) {x y : Int32} {o : Int} (hd : decode bytes pc = .ok (.if_icmp .le o, 3)) (ho : 0 ≤ (pc : Int) + o) (hq : ((pc : Int) + o).toNat = pcT) (hp : pc + 3 = pc') (gT : ¬ y < x → own_Go p e below n0 F (T.setTop (mkF m pcT L (S)))) (gF : y < x → own_Go p e below n0 F (T.setTop (mkF m pc' L (S)))) : own_Go p e below n0 F (T.setTop (mkF m pc L (.int y :: .int x :: S))) := by
  obtain ⟨locs, X, -, -⟩ := X; subst hp
  by_cases q : y < x
  · exact own_st (fun t k => XS.icmpNo X.here C.1 rfl (hb C.2.1 hd) rfl (tlt q).2.2.2 k) (gF q)
  · exact own_st (fun t k => XS.icmpYes X.here C.1 rfl rfl (hb C.2.1 hd) rfl (flt q).2.2.2 ho hq k) (gT q)
theorem own_if_le (C : own_Cx p s m meth c Z n0 own nm bytes ml ret) (X : own_St p l e R s m args below meth c n0 T h cells slots) {x : Int32} {o : Int} (hd : decode bytes pc = .ok (.ifCond .le o, 3)) (ho : 0 ≤ (pc : Int) + o) (hq : ((pc : Int) + o).toNat = pcT) (hp : pc + 3 = pc') (gT : ¬ 0 < x → own_Go p e below n0 F (T.setTop (mkF m pcT L (S)))) (gF : 0 < x → own_Go p e below n0 F (T.setTop (mkF m pc' L (S)))) : own_Go p e below n0 F (T.setTop (mkF m pc L (.int x :: S))) := by
  obtain ⟨locs, X, -, -⟩ := X; subst hp
  by_cases q : 0 < x
  · exact own_st (fun t k => XS.ifNo X.here C.1 rfl (hb C.2.1 hd) rfl ((if0 _ _).trans (tlt q).2.2.2) k) (gF q)
  · exact own_st (fun t k => XS.ifYes X.here C.1 rfl rfl (hb C.2.1 hd) rfl ((if0 _ _).trans (flt q).2.2.2) ho hq k) (gT q)
theorem own_lcmp_le (C : own_Cx p s m meth c Z n0 own nm bytes ml ret) (X : own_St p l e R s m args below meth c n0 T h cells slots) {x y : Int64} {o : Int} (hd1 : decode bytes pc = .ok (.lcmp, 1)) (hd : decode bytes (pc + 1) = .ok (.ifCond .le o, 3)) (ho : 0 ≤ ((pc + 1 : Nat) : Int) + o) (hq : (((pc + 1 : Nat) : Int) + o).toNat = pcT) (hp : pc + 4 = pc') (gT : ¬ y < x → own_Go p e below n0 F (T.setTop (mkF m pcT L (S)))) (gF : y < x → own_Go p e below n0 F (T.setTop (mkF m pc' L (S)))) : own_Go p e below n0 F (T.setTop (mkF m pc L (.long y :: .long x :: S))) := by
  subst hp
  exact own_lcmp C X hd1 rfl rfl (own_if_le C X hd ho hq rfl (fun q => gT (fun r => q ((lw_gt x y).mpr r))) (fun q => gF ((lw_gt x y).mp q)))
theorem own_icmp_eq (C : own_Cx p s m meth c Z n0 own nm bytes ml ret) (X : own_St p l e R s m args below meth c n0 T h cells slots) {x y : Int32} {o : Int} (hd : decode bytes pc = .ok (.if_icmp .eq o, 3)) (ho : 0 ≤ (pc : Int) + o) (hq : ((pc : Int) + o).toNat = pcT) (hp : pc + 3 = pc') (gT : x = y → own_Go p e below n0 F (T.setTop (mkF m pcT L (S)))) (gF : ¬ x = y → own_Go p e below n0 F (T.setTop (mkF m pc' L (S)))) : own_Go p e below n0 F (T.setTop (mkF m pc L (.int y :: .int x :: S))) := by
  obtain ⟨locs, X, -, -⟩ := X; subst hp
  by_cases q : x = y
  · exact own_st (fun t k => XS.icmpYes X.here C.1 rfl rfl (hb C.2.1 hd) rfl (teq q).1 ho hq k) (gT q)
  · exact own_st (fun t k => XS.icmpNo X.here C.1 rfl (hb C.2.1 hd) rfl (feq q).1 k) (gF q)
theorem own_if_eq (C : own_Cx p s m meth c Z n0 own nm bytes ml ret) (X : own_St p l e R s m args below meth c n0 T h cells slots) {x : Int32} {o : Int} (hd : decode bytes pc = .ok (.ifCond .eq o, 3)) (ho : 0 ≤ (pc : Int) + o) (hq : ((pc : Int) + o).toNat = pcT) (hp : pc + 3 = pc') (gT : x = 0 → own_Go p e below n0 F (T.setTop (mkF m pcT L (S)))) (gF : ¬ x = 0 → own_Go p e below n0 F (T.setTop (mkF m pc' L (S)))) : own_Go p e below n0 F (T.setTop (mkF m pc L (.int x :: S))) := by
  obtain ⟨locs, X, -, -⟩ := X; subst hp
  by_cases q : x = 0
  · exact own_st (fun t k => XS.ifYes X.here C.1 rfl rfl (hb C.2.1 hd) rfl ((if0 _ _).trans (teq q).1) ho hq k) (gT q)
  · exact own_st (fun t k => XS.ifNo X.here C.1 rfl (hb C.2.1 hd) rfl ((if0 _ _).trans (feq q).1) k) (gF q)
theorem own_lcmp_eq (C : own_Cx p s m meth c Z n0 own nm bytes ml ret) (X : own_St p l e R s m args below meth c n0 T h cells slots) {x y : Int64} {o : Int} (hd1 : decode bytes pc = .ok (.lcmp, 1)) (hd : decode bytes (pc + 1) = .ok (.ifCond .eq o, 3)) (ho : 0 ≤ ((pc + 1 : Nat) : Int) + o) (hq : (((pc + 1 : Nat) : Int) + o).toNat = pcT) (hp : pc + 4 = pc') (gT : x = y → own_Go p e below n0 F (T.setTop (mkF m pcT L (S)))) (gF : ¬ x = y → own_Go p e below n0 F (T.setTop (mkF m pc' L (S)))) : own_Go p e below n0 F (T.setTop (mkF m pc L (.long y :: .long x :: S))) := by
  subst hp
  exact own_lcmp C X hd1 rfl rfl (own_if_eq C X hd ho hq rfl (fun q => gT ((lw_eq x y).mp q)) (fun q => gF (fun r => q ((lw_eq x y).mpr r))))
theorem own_icmp_ne (C : own_Cx p s m meth c Z n0 own nm bytes ml ret) (X : own_St p l e R s m args below meth c n0 T h cells slots) {x y : Int32} {o : Int} (hd : decode bytes pc = .ok (.if_icmp .ne o, 3)) (ho : 0 ≤ (pc : Int) + o) (hq : ((pc : Int) + o).toNat = pcT) (hp : pc + 3 = pc') (gT : ¬ x = y → own_Go p e below n0 F (T.setTop (mkF m pcT L (S)))) (gF : x = y → own_Go p e below n0 F (T.setTop (mkF m pc' L (S)))) : own_Go p e below n0 F (T.setTop (mkF m pc L (.int y :: .int x :: S))) := by
  obtain ⟨locs, X, -, -⟩ := X; subst hp
  by_cases q : x = y
  · exact own_st (fun t k => XS.icmpNo X.here C.1 rfl (hb C.2.1 hd) rfl (teq q).2 k) (gF q)
  · exact own_st (fun t k => XS.icmpYes X.here C.1 rfl rfl (hb C.2.1 hd) rfl (feq q).2 ho hq k) (gT q)
theorem own_if_ne (C : own_Cx p s m meth c Z n0 own nm bytes ml ret) (X : own_St p l e R s m args below meth c n0 T h cells slots) {x : Int32} {o : Int} (hd : decode bytes pc = .ok (.ifCond .ne o, 3)) (ho : 0 ≤ (pc : Int) + o) (hq : ((pc : Int) + o).toNat = pcT) (hp : pc + 3 = pc') (gT : ¬ x = 0 → own_Go p e below n0 F (T.setTop (mkF m pcT L (S)))) (gF : x = 0 → own_Go p e below n0 F (T.setTop (mkF m pc' L (S)))) : own_Go p e below n0 F (T.setTop (mkF m pc L (.int x :: S))) := by
  obtain ⟨locs, X, -, -⟩ := X; subst hp
  by_cases q : x = 0
  · exact own_st (fun t k => XS.ifNo X.here C.1 rfl (hb C.2.1 hd) rfl ((if0 _ _).trans (teq q).2) k) (gF q)
  · exact own_st (fun t k => XS.ifYes X.here C.1 rfl rfl (hb C.2.1 hd) rfl ((if0 _ _).trans (feq q).2) ho hq k) (gT q)
theorem own_lcmp_ne (C : own_Cx p s m meth c Z n0 own nm bytes ml ret) (X : own_St p l e R s m args below meth c n0 T h cells slots) {x y : Int64} {o : Int} (hd1 : decode bytes pc = .ok (.lcmp, 1)) (hd : decode bytes (pc + 1) = .ok (.ifCond .ne o, 3)) (ho : 0 ≤ ((pc + 1 : Nat) : Int) + o) (hq : (((pc + 1 : Nat) : Int) + o).toNat = pcT) (hp : pc + 4 = pc') (gT : ¬ x = y → own_Go p e below n0 F (T.setTop (mkF m pcT L (S)))) (gF : x = y → own_Go p e below n0 F (T.setTop (mkF m pc' L (S)))) : own_Go p e below n0 F (T.setTop (mkF m pc L (.long y :: .long x :: S))) := by
  subst hp
  exact own_lcmp C X hd1 rfl rfl (own_if_ne C X hd ho hq rfl (fun q => gT (fun r => q ((lw_eq x y).mpr r))) (fun q => gF ((lw_eq x y).mp q)))
theorem own_acmp_eq (C : own_Cx p s m meth c Z n0 own nm bytes ml ret) (X : own_St p l e R s m args below meth c n0 T h cells slots) {v w : Value} {o : Int} (hd : decode bytes pc = .ok (.if_acmp .eq o, 3)) (hv : v.isRef = true) (hw : w.isRef = true) (ho : 0 ≤ (pc : Int) + o) (hq : ((pc : Int) + o).toNat = pcT) (hp : pc + 3 = pc') (gT : v = w → own_Go p e below n0 F (T.setTop (mkF m pcT L (S)))) (gF : ¬ v = w → own_Go p e below n0 F (T.setTop (mkF m pc' L (S)))) : own_Go p e below n0 F (T.setTop (mkF m pc L (w :: v :: S))) := by
  obtain ⟨locs, X, -, -⟩ := X; subst hp
  by_cases q : v = w
  · exact own_st (fun t k => XT.acmpYes X.here C.1 rfl rfl (hb C.2.1 hd) rfl hv hw (XT.aa_eq_t q) ho hq k) (gT q)
  · exact own_st (fun t k => XT.acmpNo X.here C.1 rfl (hb C.2.1 hd) rfl hv hw (XT.aa_eq_f q) k) (gF q)
theorem own_acmp_ne (C : own_Cx p s m meth c Z n0 own nm bytes ml ret) (X : own_St p l e R s m args below meth c n0 T h cells slots) {v w : Value} {o : Int} (hd : decode bytes pc = .ok (.if_acmp .ne o, 3)) (hv : v.isRef = true) (hw : w.isRef = true) (ho : 0 ≤ (pc : Int) + o) (hq : ((pc : Int) + o).toNat = pcT) (hp : pc + 3 = pc') (gT : ¬ v = w → own_Go p e below n0 F (T.setTop (mkF m pcT L (S)))) (gF : v = w → own_Go p e below n0 F (T.setTop (mkF m pc' L (S)))) : own_Go p e below n0 F (T.setTop (mkF m pc L (w :: v :: S))) := by
  obtain ⟨locs, X, -, -⟩ := X; subst hp
  by_cases q : v = w
  · exact own_st (fun t k => XT.acmpNo X.here C.1 rfl (hb C.2.1 hd) rfl hv hw (XT.aa_ne_f q) k) (gF q)
  · exact own_st (fun t k => XT.acmpYes X.here C.1 rfl rfl (hb C.2.1 hd) rfl hv hw (XT.aa_ne_t q) ho hq k) (gT q)
theorem own_ireturn {z : Int32} (C : own_Cx p s m meth c Z n0 own nm bytes ml (some .int)) (X : own_St p l e R s m args below meth c n0 T h cells slots) (hd : decode bytes pc = .ok (.ireturn, 1))  (hc : cells ≤ R.cells) (hs : slots ≤ R.slots) (hq : Q (some (.int z)) h) : own_Go p e below n0 (own_Fin R s Q) (T.setTop (mkF m pc L (.int z :: S))) := by
  obtain ⟨locs, X, N, rfl⟩ := X
  have hlk : meth.locks = false := C.2.2.2.2.2.2.1
  obtain ⟨fs, hr, hrun, hended, hW, hsame⟩ := X.leave (v := some (.int z)) (fun h => by rw [C.2.2.2.2.2.1] at h; cases h) hlk
  exact ⟨_, _, locs, retOut X C.1 C.2.2.2.2.2.1 rfl (Or.inl ⟨rfl, by simp, _, rfl⟩) (hb C.2.1 hd) hr, hrun, hended, N, hq, ⟨_, rfl⟩, hW, hsame.mono hc hs⟩
theorem own_ireturn_z {z : Int32} (C : own_Cx p s m meth c Z n0 own nm bytes ml (some .boolean)) (X : own_St p l e R s m args below meth c n0 T h cells slots) (hd : decode bytes pc = .ok (.ireturn, 1))  (hc : cells ≤ R.cells) (hs : slots ≤ R.slots) (hq : Q (some (.int (nar .boolean z))) h) : own_Go p e below n0 (own_Fin R s Q) (T.setTop (mkF m pc L (.int z :: S))) := by
  obtain ⟨locs, X, N, rfl⟩ := X
  have hlk : meth.locks = false := C.2.2.2.2.2.2.1
  obtain ⟨fs, hr, hrun, hended, hW, hsame⟩ := X.leave (v := some (.int (nar .boolean z))) (fun h => by rw [C.2.2.2.2.2.1] at h; cases h) hlk
  exact ⟨_, _, locs, retN X C.1 (t := .boolean) C.2.2.2.2.2.1 (by simp) (hb C.2.1 hd) hr, hrun, hended, N, hq, ⟨_, rfl⟩, hW, hsame.mono hc hs⟩
theorem own_ireturn_b {z : Int32} (C : own_Cx p s m meth c Z n0 own nm bytes ml (some .byte)) (X : own_St p l e R s m args below meth c n0 T h cells slots) (hd : decode bytes pc = .ok (.ireturn, 1))  (hc : cells ≤ R.cells) (hs : slots ≤ R.slots) (hq : Q (some (.int (nar .byte z))) h) : own_Go p e below n0 (own_Fin R s Q) (T.setTop (mkF m pc L (.int z :: S))) := by
  obtain ⟨locs, X, N, rfl⟩ := X
  have hlk : meth.locks = false := C.2.2.2.2.2.2.1
  obtain ⟨fs, hr, hrun, hended, hW, hsame⟩ := X.leave (v := some (.int (nar .byte z))) (fun h => by rw [C.2.2.2.2.2.1] at h; cases h) hlk
  exact ⟨_, _, locs, retN X C.1 (t := .byte) C.2.2.2.2.2.1 (by simp) (hb C.2.1 hd) hr, hrun, hended, N, hq, ⟨_, rfl⟩, hW, hsame.mono hc hs⟩
theorem own_ireturn_c {z : Int32} (C : own_Cx p s m meth c Z n0 own nm bytes ml (some .char)) (X : own_St p l e R s m args below meth c n0 T h cells slots) (hd : decode bytes pc = .ok (.ireturn, 1))  (hc : cells ≤ R.cells) (hs : slots ≤ R.slots) (hq : Q (some (.int (nar .char z))) h) : own_Go p e below n0 (own_Fin R s Q) (T.setTop (mkF m pc L (.int z :: S))) := by
  obtain ⟨locs, X, N, rfl⟩ := X
  have hlk : meth.locks = false := C.2.2.2.2.2.2.1
  obtain ⟨fs, hr, hrun, hended, hW, hsame⟩ := X.leave (v := some (.int (nar .char z))) (fun h => by rw [C.2.2.2.2.2.1] at h; cases h) hlk
  exact ⟨_, _, locs, retN X C.1 (t := .char) C.2.2.2.2.2.1 (by simp) (hb C.2.1 hd) hr, hrun, hended, N, hq, ⟨_, rfl⟩, hW, hsame.mono hc hs⟩
theorem own_lreturn {z : Int64} (C : own_Cx p s m meth c Z n0 own nm bytes ml (some .long)) (X : own_St p l e R s m args below meth c n0 T h cells slots) (hd : decode bytes pc = .ok (.lreturn, 1))  (hc : cells ≤ R.cells) (hs : slots ≤ R.slots) (hq : Q (some (.long z)) h) : own_Go p e below n0 (own_Fin R s Q) (T.setTop (mkF m pc L (.long z :: S))) := by
  obtain ⟨locs, X, N, rfl⟩ := X
  have hlk : meth.locks = false := C.2.2.2.2.2.2.1
  obtain ⟨fs, hr, hrun, hended, hW, hsame⟩ := X.leave (v := some (.long z)) (fun h => by rw [C.2.2.2.2.2.1] at h; cases h) hlk
  exact ⟨_, _, locs, retOut X C.1 C.2.2.2.2.2.1 rfl (Or.inr (Or.inl ⟨rfl, rfl, _, rfl⟩)) (hb C.2.1 hd) hr, hrun, hended, N, hq, ⟨_, rfl⟩, hW, hsame.mono hc hs⟩
theorem own_areturn {v : Value} {ty : FieldType} (C : own_Cx p s m meth c Z n0 own nm bytes ml (some ty)) (X : own_St p l e R s m args below meth c n0 T h cells slots) (hd : decode bytes pc = .ok (.areturn, 1)) (ht : ty.isReference = true) (hv : v.isRef = true) (hn : narrow ty v = v) (hc : cells ≤ R.cells) (hs : slots ≤ R.slots) (hq : Q (some v) h) : own_Go p e below n0 (own_Fin R s Q) (T.setTop (mkF m pc L (v :: S))) := by
  obtain ⟨locs, X, N, rfl⟩ := X
  have hlk : meth.locks = false := C.2.2.2.2.2.2.1
  obtain ⟨fs, hr, hrun, hended, hW, hsame⟩ := X.leave (v := some v) (fun h => by rw [C.2.2.2.2.2.1] at h; cases h) hlk
  exact ⟨_, _, locs, retOut X C.1 C.2.2.2.2.2.1 hn (Or.inr (Or.inr (Or.inr (Or.inr ⟨rfl, ht, hv⟩)))) (hb C.2.1 hd) hr, hrun, hended, N, hq, ⟨_, rfl⟩, hW, hsame.mono hc hs⟩
theorem own_return  (C : own_Cx p s m meth c Z n0 own nm bytes ml (none)) (X : own_St p l e R s m args below meth c n0 T h cells slots) (hd : decode bytes pc = .ok (.return_, 1))  (hc : cells ≤ R.cells) (hs : slots ≤ R.slots) (hq : Q (none) h) : own_Go p e below n0 (own_Fin R s Q) (T.setTop (mkF m pc L ([]))) := by
  obtain ⟨locs, X, N, rfl⟩ := X
  have hlk : meth.locks = false := C.2.2.2.2.2.2.1
  obtain ⟨fs, hr, hrun, hended, hW, hsame⟩ := X.leave (v := none) (fun _ => rfl) hlk
  exact ⟨_, _, locs, X.returnOut C.1 C.2.2.2.2.2.1 (hb C.2.1 hd) hr, hrun, hended, N, hq, ⟨_, rfl⟩, hW, hsame.mono hc hs⟩
end OwnKit
end Jvm.Pilot.@@N@@
namespace Jvm.Pilot.@@N@@
open Jvm Jvm.ClassFile Sem Op Lib Jvm.Free Jvm.Stand Jvm.LawKit Jvm.RoadKit Bundle Jvm.Pilot.@@N@@.Jvm.D
section OwnKitTwo
variable {p : Program} {l : Launch} {e : Env} {R : Room} {s : State} {m : MethodId} {args : Array Value} {below : List Frame} {meth : Method} {c : Code} {T : State} {cells slots : Nat} {Z : State} {a0 : Array Value} {h h' : Heap} {n0 : Nat} {own nm : String} {bytes : ByteArray} {ml : Nat} {ret : Option FieldType} {F : Option Value → State → List Loc → Prop} {pc pc' pcT : Nat} {L L' : Array Slot} {S : List Value} {a b : Addr} {ty : FieldType} {ws : List Addr}
/-! arrays by their lists -/
def own_IA (Z : State) (h : Heap) (a : Addr) (ty : FieldType) (xs : List Int32) : Prop := ∃ c : Cell, Arr Z h a c ty ∧ c.slots.toList = xs.map Value.int ∧ xs.length < 2 ^ 31 ∧ ∀ x ∈ xs, fits ty (.int x) = true
def own_JA (Z : State) (h : Heap) (a : Addr) (xs : List Int64) : Prop := ∃ c : Cell, Arr Z h a c .long ∧ c.slots.toList = xs.map Value.long ∧ xs.length < 2 ^ 31
theorem own_IA.keep {xs : List Int32} (A : own_IA Z h a ty xs) (K : Keep h h' ws) (q : a ∉ ws) : own_IA Z h' a ty xs := by
  obtain ⟨c, A, r⟩ := A; exact ⟨c, ⟨K.2.1 a c A.1 q, A.2⟩, r⟩
theorem own_JA.keep {xs : List Int64} (A : own_JA Z h a xs) (K : Keep h h' ws) (q : a ∉ ws) : own_JA Z h' a xs := by
  obtain ⟨c, A, r⟩ := A; exact ⟨c, ⟨K.2.1 a c A.1 q, A.2⟩, r⟩
theorem own_IA.lt {xs : List Int32} (A : own_IA Z h a ty xs) : a < h.size := by obtain ⟨c, A, r⟩ := A; exact A.lt
theorem own_JA.lt {xs : List Int64} (A : own_JA Z h a xs) : a < h.size := by obtain ⟨c, A, r⟩ := A; exact A.lt
theorem own_ix {j : Int32} {i : Nat} (hj : j.toInt = (i : Int)) : ¬ j < 0 ∧ j.toNatClampNeg = i := by
  refine ⟨?_, ?_⟩
  · rw [Int32.lt_iff_toInt_lt, hj]; show ¬ (i : Int) < 0; omega
  · simp only [Int32.toNatClampNeg, hj, Int.toNat_natCast]
theorem own_sz {α : Type} {f : α → Value} {c : Cell} {xs : List α} (e : c.slots.toList = xs.map f) : c.slots.size = xs.length := by
  have := congrArg List.length e; simpa using this
theorem own_in {α : Type} {f : α → Value} {c : Cell} {xs : List α} (e : c.slots.toList = xs.map f) {j : Int32} {i : Nat} (hj : j.toInt = (i : Int)) (hi : i < xs.length) : ¬ (j < 0 ∨ c.slots.size ≤ j.toNatClampNeg) := by
  obtain ⟨q1, q2⟩ := own_ix hj
  rw [own_sz e, q2]
  exact fun q => q.elim q1 (fun q => Nat.lt_irrefl _ (Nat.lt_of_lt_of_le hi q))
theorem own_at {α : Type} {f : α → Value} {c : Cell} {xs : List α} (e : c.slots.toList = xs.map f) {j : Int32} {i : Nat} (hj : j.toInt = (i : Int)) {v : α} (hv : xs[i]? = some v) : c.slots[j.toNatClampNeg]? = some (f v) := by
  rw [(own_ix hj).2, ← Array.getElem?_toList, e, List.getElem?_map, hv]; rfl
theorem own_lt_of {α : Type} {xs : List α} {i : Nat} {v : α} (hv : xs[i]? = some v) : i < xs.length := (List.getElem?_eq_some_iff.mp hv).1
theorem own_set {α : Type} {f : α → Value} {c : Cell} {xs : List α} (e : c.slots.toList = xs.map f) {j : Int32} {i : Nat} (hj : j.toInt = (i : Int)) {v : α} : (c.setSlot j.toNatClampNeg (f v)).slots.toList = (xs.set i v).map f := by
  rw [(own_ix hj).2]; simp only [Cell.setSlot, Array.toList_setIfInBounds, e, List.map_set]
theorem own_iaload (C : own_Cx p s m meth c Z n0 own nm bytes ml ret) (X : own_St p l e R s m args below meth c n0 T h cells slots) {j v : Int32} {i : Nat} {xs : List Int32} (hd : decode bytes pc = .ok (.iaload, 1)) (A : own_IA Z h a .int xs) (hj : j.toInt = (i : Int)) (hv : xs[i]? = some v) (hp : pc + 1 = pc')
    (g : own_Go p e below n0 F (T.setTop (mkF m pc' L (.int v :: S)))) : own_Go p e below n0 F (T.setTop (mkF m pc L (.int j :: .ref a :: S))) := by
  obtain ⟨locs, X, -, rfl⟩ := X; subst hp; obtain ⟨cl, A, ec, -⟩ := A
  exact own_st (fun t k => X.iaload C.1 A.1 (State.isArrayOf_alike C.2.2.2.2.2.2.2.1.alike A.2.1) A.2.2 (own_in ec hj (own_lt_of hv)) (own_at ec hj hv) (g := mkF m pc L (.int j :: .ref a :: S)) rfl rfl (hb C.2.1 hd) t k) g
theorem own_baload (C : own_Cx p s m meth c Z n0 own nm bytes ml ret) (X : own_St p l e R s m args below meth c n0 T h cells slots) {j v : Int32} {i : Nat} {xs : List Int32} (hd : decode bytes pc = .ok (.baload, 1)) (A : own_IA Z h a .byte xs) (hj : j.toInt = (i : Int)) (hv : xs[i]? = some v) (hp : pc + 1 = pc')
    (g : own_Go p e below n0 F (T.setTop (mkF m pc' L (.int v :: S)))) : own_Go p e below n0 F (T.setTop (mkF m pc L (.int j :: .ref a :: S))) := by
  obtain ⟨locs, X, -, rfl⟩ := X; subst hp; obtain ⟨cl, A, ec, -⟩ := A
  exact own_st (fun t k => X.baloadBytes C.1 A.1 (State.isArrayOf_alike C.2.2.2.2.2.2.2.1.alike A.2.1) A.2.2 (own_in ec hj (own_lt_of hv)) (own_at ec hj hv) (g := mkF m pc L (.int j :: .ref a :: S)) rfl rfl (hb C.2.1 hd) t k) g
theorem own_laload (C : own_Cx p s m meth c Z n0 own nm bytes ml ret) (X : own_St p l e R s m args below meth c n0 T h cells slots) {j : Int32} {v : Int64} {i : Nat} {xs : List Int64} (hd : decode bytes pc = .ok (.laload, 1)) (A : own_JA Z h a xs) (hj : j.toInt = (i : Int)) (hv : xs[i]? = some v) (hp : pc + 1 = pc')
    (g : own_Go p e below n0 F (T.setTop (mkF m pc' L (.long v :: S)))) : own_Go p e below n0 F (T.setTop (mkF m pc L (.int j :: .ref a :: S))) := by
  obtain ⟨locs, X, -, rfl⟩ := X; subst hp; obtain ⟨cl, A, ec, -⟩ := A
  exact own_st (fun t k => X.laload C.1 A.1 (State.isArrayOf_alike C.2.2.2.2.2.2.2.1.alike A.2.1) A.2.2 (own_in ec hj (own_lt_of hv)) (own_at ec hj hv) (g := mkF m pc L (.int j :: .ref a :: S)) rfl rfl (hb C.2.1 hd) t k) g
theorem own_len {α : Type} {f : α → Value} {c : Cell} {xs : List α} (e : c.slots.toList = xs.map f) (hb : xs.length < 2 ^ 31) {n : Int32} (hn : n.toInt = (xs.length : Int)) : c.slots.size.toInt32 = n := by
  rw [own_sz e]; exact Int32.toInt_inj.mp (by rw [len_toInt hb, hn])
theorem own_alenI (C : own_Cx p s m meth c Z n0 own nm bytes ml ret) (X : own_St p l e R s m args below meth c n0 T h cells slots) {n : Int32} {xs : List Int32} (hd : decode bytes pc = .ok (.arraylength, 1)) (A : own_IA Z h a ty xs) (hn : n.toInt = (xs.length : Int)) (hp : pc + 1 = pc')
    (g : own_Go p e below n0 F (T.setTop (mkF m pc' L (.int n :: S)))) : own_Go p e below n0 F (T.setTop (mkF m pc L (.ref a :: S))) := by
  obtain ⟨locs, X, -, rfl⟩ := X; subst hp; obtain ⟨cl, A, ec, hb1, -⟩ := A
  have := own_len ec hb1 hn; subst this
  exact own_st (fun t k => X.arraylength C.1 A.1 (State.isArrayOf_alike C.2.2.2.2.2.2.2.1.alike A.2.1) (g := mkF m pc L (.ref a :: S)) rfl rfl (hb C.2.1 hd) t k) g
theorem own_alenJ (C : own_Cx p s m meth c Z n0 own nm bytes ml ret) (X : own_St p l e R s m args below meth c n0 T h cells slots) {n : Int32} {xs : List Int64} (hd : decode bytes pc = .ok (.arraylength, 1)) (A : own_JA Z h a xs) (hn : n.toInt = (xs.length : Int)) (hp : pc + 1 = pc')
    (g : own_Go p e below n0 F (T.setTop (mkF m pc' L (.int n :: S)))) : own_Go p e below n0 F (T.setTop (mkF m pc L (.ref a :: S))) := by
  obtain ⟨locs, X, -, rfl⟩ := X; subst hp; obtain ⟨cl, A, ec, hb1⟩ := A
  have := own_len ec hb1 hn; subst this
  exact own_st (fun t k => X.arraylength C.1 A.1 (State.isArrayOf_alike C.2.2.2.2.2.2.2.1.alike A.2.1) (g := mkF m pc L (.ref a :: S)) rfl rfl (hb C.2.1 hd) t k) g
theorem own_fitset {xs : List Int32} {i : Nat} {v : Int32} (hf : ∀ x ∈ xs, fits ty (.int x) = true) (hv : fits ty (.int v) = true) : ∀ x ∈ xs.set i v, fits ty (.int x) = true := fun x hx =>
  (List.mem_or_eq_of_mem_set hx).elim (hf x) (fun q => q ▸ hv)
theorem own_bastore (C : own_Cx p s m meth c Z n0 own nm bytes ml ret) (X : own_St p l e R s m args below meth c n0 T h cells slots) {j x v : Int32} {i : Nat} {xs : List Int32} (hd : decode bytes pc = .ok (.bastore, 1)) (A : own_IA Z h a .byte xs) (hj : j.toInt = (i : Int)) (hi : i < xs.length) (hx : x.toInt8.toInt32 = v) (ha : n0 ≤ a) (hp : pc + 1 = pc')
    (g : ∀ T' h', own_St p l e R s m args below meth c n0 T' h' cells slots → Keep h h' [a] → own_IA Z h' a .byte (xs.set i v) → own_Go p e below n0 F (T'.setTop (mkF m pc' L S))) : own_Go p e below n0 F (T.setTop (mkF m pc L (.int x :: .int j :: .ref a :: S))) := by
  obtain ⟨locs, X, N, e0⟩ := X; subst hp; subst hx; obtain ⟨cl, A, ec, hl, hf⟩ := A
  obtain ⟨T', h2, X', e', W, st⟩ := stB X C.1 C.2.2.2.2.2.2.2.1 e0 A (own_in ec hj hi) (g := mkF m pc L (.int x :: .int j :: .ref a :: S)) rfl rfl (hb C.2.1 hd)
  exact own_st st (g T' h2 ⟨_, X', Fr.snoc X' N ha, e'⟩ (Keep.of_wr W) ⟨_, A.same W, own_set ec hj, by simpa using hl, own_fitset hf (fits_nar_byte x)⟩)
theorem own_iastore (C : own_Cx p s m meth c Z n0 own nm bytes ml ret) (X : own_St p l e R s m args below meth c n0 T h cells slots) {j x : Int32} {i : Nat} {xs : List Int32} (hd : decode bytes pc = .ok (.iastore, 1)) (A : own_IA Z h a .int xs) (hj : j.toInt = (i : Int)) (hi : i < xs.length) (ha : n0 ≤ a) (hp : pc + 1 = pc')
    (g : ∀ T' h', own_St p l e R s m args below meth c n0 T' h' cells slots → Keep h h' [a] → own_IA Z h' a .int (xs.set i x) → own_Go p e below n0 F (T'.setTop (mkF m pc' L S))) : own_Go p e below n0 F (T.setTop (mkF m pc L (.int x :: .int j :: .ref a :: S))) := by
  obtain ⟨locs, X, N, e0⟩ := X; subst hp; obtain ⟨cl, A, ec, hl, hf⟩ := A
  obtain ⟨T', h2, X', e', W, st⟩ := stI X C.1 C.2.2.2.2.2.2.2.1 e0 A (own_in ec hj hi) (g := mkF m pc L (.int x :: .int j :: .ref a :: S)) rfl rfl (hb C.2.1 hd)
  exact own_st st (g T' h2 ⟨_, X', Fr.snoc X' N ha, e'⟩ (Keep.of_wr W) ⟨_, A.same W, own_set ec hj, by simpa using hl, own_fitset hf rfl⟩)
theorem own_lastore (C : own_Cx p s m meth c Z n0 own nm bytes ml ret) (X : own_St p l e R s m args below meth c n0 T h cells slots) {j : Int32} {x : Int64} {i : Nat} {xs : List Int64} (hd : decode bytes pc = .ok (.lastore, 1)) (A : own_JA Z h a xs) (hj : j.toInt = (i : Int)) (hi : i < xs.length) (ha : n0 ≤ a) (hp : pc + 1 = pc')
    (g : ∀ T' h', own_St p l e R s m args below meth c n0 T' h' cells slots → Keep h h' [a] → own_JA Z h' a (xs.set i x) → own_Go p e below n0 F (T'.setTop (mkF m pc' L S))) : own_Go p e below n0 F (T.setTop (mkF m pc L (.long x :: .int j :: .ref a :: S))) := by
  obtain ⟨locs, X, N, e0⟩ := X; subst hp; obtain ⟨cl, A, ec, hl⟩ := A
  obtain ⟨T', h2, X', e', W, st⟩ := stJ X C.1 C.2.2.2.2.2.2.2.1 e0 A (own_in ec hj hi) (g := mkF m pc L (.long x :: .int j :: .ref a :: S)) rfl rfl (hb C.2.1 hd)
  exact own_st st (g T' h2 ⟨_, X', Fr.snoc X' N ha, e'⟩ (Keep.of_wr W) ⟨_, A.same W, own_set ec hj, by simpa using hl⟩)
theorem own_keep_ext (E : Ext h h') : Keep h h' [] := (Keep.refl h []).ext E
theorem own_newI (C : own_Cx p s m meth c Z n0 own nm bytes ml ret) (X : own_St p l e R s m args below meth c n0 T h cells slots) {aty : ArrayType} {n : Int32} {k cap : Nat} (hd : decode bytes pc = .ok (.newarray aty, 2)) (hty : newarray.typeOf aty = ty) (w : (Jvm.Cond.arrayClass ty).before a0 Z = true) (hn : n.toInt = (k : Int)) (hcap : k ≤ cap) (hb8 : cap * 8 ≤ 536870912)
    (hc : cells + 1 ≤ R.cells) (hs : slots + cap ≤ R.slots) (hdef : defaultValue ty = .int 0) (hfit : fits ty (.int 0) = true) (hp : pc + 2 = pc')
    (g : ∀ T' h' a, a = h.size → own_St p l e R s m args below meth c n0 T' h' (cells + 1) (slots + cap) → Keep h h' [] → n0 ≤ a → own_IA Z h' a ty (List.replicate k 0) → own_Go p e below n0 F (T'.setTop (mkF m pc' L (.ref a :: S)))) : own_Go p e below n0 F (T.setTop (mkF m pc L (.int n :: S))) := by
  have hbig := own_big C X
  obtain ⟨locs, X, N, e0⟩ := X; subst hp; subst hty
  obtain ⟨q1, q2⟩ := own_ix hn
  obtain ⟨T', h2, cA, X', e', E, A, st⟩ := newP X C.1 C.2.2.2.2.2.2.2.1 w e0 (g := mkF m pc L (.int n :: S)) rfl (hb C.2.1 hd) rfl q1 (cap := cap) (by rw [q2]; exact hcap) hb8 hc hs
  refine own_st st (g T' h2 _ rfl ⟨_, X', N, e'⟩ (own_keep_ext E) hbig ⟨_, A, ?_, ?_, ?_⟩)
  · simp [newA, q2, hdef]
  · have := n.toInt_lt; simp only [List.length_replicate]; omega
  · intro x hx; obtain ⟨-, rfl⟩ := List.mem_replicate.mp hx; exact hfit
theorem own_newJ (C : own_Cx p s m meth c Z n0 own nm bytes ml ret) (X : own_St p l e R s m args below meth c n0 T h cells slots) {n : Int32} {k cap : Nat} (hd : decode bytes pc = .ok (.newarray .long, 2)) (w : (Jvm.Cond.arrayClass .long).before a0 Z = true) (hn : n.toInt = (k : Int)) (hcap : k ≤ cap) (hb8 : cap * 8 ≤ 536870912)
    (hc : cells + 1 ≤ R.cells) (hs : slots + cap ≤ R.slots) (hp : pc + 2 = pc')
    (g : ∀ T' h' a, a = h.size → own_St p l e R s m args below meth c n0 T' h' (cells + 1) (slots + cap) → Keep h h' [] → n0 ≤ a → own_JA Z h' a (List.replicate k 0) → own_Go p e below n0 F (T'.setTop (mkF m pc' L (.ref a :: S)))) : own_Go p e below n0 F (T.setTop (mkF m pc L (.int n :: S))) := by
  have hbig := own_big C X
  obtain ⟨locs, X, N, e0⟩ := X; subst hp
  obtain ⟨q1, q2⟩ := own_ix hn
  obtain ⟨T', h2, cA, X', e', E, A, st⟩ := newP (aty := .long) X C.1 C.2.2.2.2.2.2.2.1 w e0 (g := mkF m pc L (.int n :: S)) rfl (hb C.2.1 hd) rfl q1 (cap := cap) (by rw [q2]; exact hcap) hb8 hc hs
  refine own_st st (g T' h2 _ rfl ⟨_, X', N, e'⟩ (own_keep_ext E) hbig ⟨_, A, ?_, ?_⟩)
  · simp [newA, q2, defaultValue, newarray.typeOf]
  · have := n.toInt_lt; simp only [List.length_replicate]; omega
/-! objects by the list of their fields: name, descriptor, value -/
def own_Ob (Z : State) (a0 : Array Value) (h : Heap) (a : Addr) (K : String) (fs : List (String × String × Value)) : Prop :=
  Exa Z h a K ∧ (fs.map (·.1)).Nodup ∧ ∀ f ∈ fs, Fld Z h a K f.1 f.2.1 f.2.2 ∧ Laid Z a0 K K f.1 f.2.1 ∧ ∃ t, parseFieldDescriptor f.2.1 = some t
theorem own_Ob.keep {K : String} {fs : List (String × String × Value)} (O : own_Ob Z a0 h a K fs) (W : Keep h h' ws) (q : a ∉ ws) : own_Ob Z a0 h' a K fs :=
  ⟨O.1.keep W, O.2.1, fun f hf => ⟨(O.2.2 f hf).1.keep W q, (O.2.2 f hf).2⟩⟩
theorem own_Ob.lt {K : String} {fs : List (String × String × Value)} (O : own_Ob Z a0 h a K fs) : a < h.size := O.1.lt
theorem own_Ob.put {K n d : String} {fs : List (String × String × Value)} {v w : Value} {i : Nat} (O : own_Ob Z a0 h a K fs) (hi : fs[i]? = some (n, d, w)) (W : Wr h h' a (Jvm.RoadKit.slotOf Z K n d) v) : own_Ob Z a0 h' a K (fs.set i (n, d, v)) := by
  obtain ⟨hlt, hget⟩ := List.getElem?_eq_some_iff.mp hi
  have hmem : (n, d, w) ∈ fs := hget ▸ List.getElem_mem hlt
  have hnames : (fs.set i (n, d, v)).map (·.1) = fs.map (·.1) := by
    rw [List.map_set]
    apply List.ext_getElem? ; intro k
    by_cases hk : i = k
    · subst hk; rw [List.getElem?_set_self (by simpa using hlt), List.getElem?_map, hi]; rfl
    · rw [List.getElem?_set_ne hk]
  refine ⟨O.1.wr W, by rw [hnames]; exact O.2.1, fun f hf => ?_⟩
  obtain ⟨k, hk, hfk⟩ := List.getElem_of_mem hf
  have hk' : (fs.set i (n, d, v))[k]? = some f := List.getElem?_eq_some_iff.mpr ⟨hk, hfk⟩
  by_cases hik : i = k
  · subst hik
    rw [List.getElem?_set_self hlt] at hk'; cases hk'
    exact ⟨(O.2.2 _ hmem).1.same W, (O.2.2 _ hmem).2⟩
  · rw [List.getElem?_set_ne hik] at hk'
    obtain ⟨hlk, hgk⟩ := List.getElem?_eq_some_iff.mp hk'
    have hfm : f ∈ fs := hgk ▸ List.getElem_mem hlk
    obtain ⟨F, La, t, ht⟩ := O.2.2 f hfm
    obtain ⟨-, La', t', ht'⟩ := O.2.2 _ hmem
    refine ⟨F.other W (Or.inr (slot_ne La La' (fun hne => ?_) ht ht')), La, t, ht⟩
    have hnd := List.pairwise_iff_getElem.mp O.2.1
    rcases Nat.lt_or_gt_of_ne hik with q | q
    · exact hnd i k (by simpa using hlt) (by simpa using hlk) q (by simp [hget, hgk, hne])
    · exact hnd k i (by simpa using hlk) (by simpa using hlt) q (by simp [hget, hgk, hne])
theorem own_Ob.get {K n d : String} {fs : List (String × String × Value)} {v : Value} {i : Nat} (O : own_Ob Z a0 h a K fs) (hi : fs[i]? = some (n, d, v)) : Fld Z h a K n d v := by
  obtain ⟨hlt, hget⟩ := List.getElem?_eq_some_iff.mp hi
  exact (O.2.2 (n, d, v) (hget ▸ List.getElem_mem hlt)).1
theorem own_getfield (C : own_Cx p s m meth c Z n0 own nm bytes ml ret) (X : own_St p l e R s m args below meth c n0 T h cells slots) {K n d : String} {idx i : Nat} {fs : List (String × String × Value)} {v : Value} (hd : decode bytes pc = .ok (.getfield idx, 3)) (w : (Jvm.Cond.fieldLink own idx K n d).before a0 Z = true) (O : own_Ob Z a0 h a K fs) (hi : fs[i]? = some (n, d, v)) (hp : pc + 3 = pc')
    (g : ∀ T', own_St p l e R s m args below meth c n0 T' h cells slots → own_Go p e below n0 F (T'.setTop (mkF m pc' L (v :: S)))) : own_Go p e below n0 F (T.setTop (mkF m pc L (.ref a :: S))) := by
  obtain ⟨locs, X, N, e0⟩ := X; subst hp
  obtain ⟨T', X', e', st⟩ := getF X C.1 C.2.2.2.2.2.2.2.1 C.2.2.2.1 (host := "") (Or.inl w) Via.refl e0 (O.get hi) (g := mkF m pc L (.ref a :: S)) rfl rfl (hb C.2.1 hd)
  exact own_st st (g T' ⟨_, X', N, e'⟩)
theorem own_putfield (C : own_Cx p s m meth c Z n0 own nm bytes ml ret) (X : own_St p l e R s m args below meth c n0 T h cells slots) {K n d : String} {idx i kk : Nat} {fs : List (String × String × Value)} {v old : Value} (hd : decode bytes pc = .ok (.putfield idx, 3)) (w : (Jvm.Cond.fieldLink own idx K n d).before a0 Z = true)
    (lay : (Jvm.Cond.lays K K n d).before a0 Z = true ∨ ((Jvm.Cond.laysFinal K K n d).before a0 Z = true ∧ own = K ∧ nm = "<init>")) (wi : (Jvm.Cond.instantiable K kk).before a0 Z = true) (O : own_Ob Z a0 h a K fs) (hi : fs[i]? = some (n, d, old)) (hty : parseFieldDescriptor d = some ty) (hn : narrow ty v = v) (hf : fits ty v = true) (ha : n0 ≤ a) (hp : pc + 3 = pc')
    (g : ∀ T' h', own_St p l e R s m args below meth c n0 T' h' cells slots → Keep h h' [a] → own_Ob Z a0 h' a K (fs.set i (n, d, v)) → own_Go p e below n0 F (T'.setTop (mkF m pc' L S))) : own_Go p e below n0 F (T.setTop (mkF m pc L (v :: .ref a :: S))) := by
  obtain ⟨locs, X, N, e0⟩ := X; subst hp
  obtain ⟨T', h2, X', e', W, st⟩ := putF X C.1 C.2.2.2.2.2.2.2.1 C.2.2.2.1 (host := "") (Or.inl w) Via.refl e0 (O.get hi) O.1 (lay.imp id (fun q => ⟨q.1, q.2.1, C.2.2.2.2.1.trans q.2.2⟩)) wi hty hn hf (g := mkF m pc L (v :: .ref a :: S)) rfl rfl (hb C.2.1 hd)
  exact own_st st (g T' h2 ⟨_, X', Fr.snoc X' N ha, e'⟩ (Keep.of_wr W) (O.put hi W))
theorem own_new (C : own_Cx p s m meth c Z n0 own nm bytes ml ret) (X : own_St p l e R s m args below meth c n0 T h cells slots) {K : String} {idx k : Nat} (hd : decode bytes pc = .ok (.new idx, 3)) (w : (Jvm.Cond.classLink own idx K).before a0 Z = true) (wi : (Jvm.Cond.instantiable K k).before a0 Z = true) (wz : (Jvm.Cond.initialized K).before a0 Z = true)
    (hc : cells + 1 ≤ R.cells) (hs : slots + k ≤ R.slots) (fs : List (String × String × Value)) (hnd : (fs.map (·.1)).Nodup) (hfs : ∀ f ∈ fs, Laid Z a0 K K f.1 f.2.1 ∧ ∃ t, parseFieldDescriptor f.2.1 = some t ∧ defaultValue t = f.2.2) (hp : pc + 3 = pc')
    (g : ∀ T' h' a, a = h.size → own_St p l e R s m args below meth c n0 T' h' (cells + 1) (slots + k) → Keep h h' [] → n0 ≤ a → own_Ob Z a0 h' a K fs → own_Go p e below n0 F (T'.setTop (mkF m pc' L (.ref a :: S)))) : own_Go p e below n0 F (T.setTop (mkF m pc L S)) := by
  have hbig := own_big C X
  obtain ⟨locs, X, N, e0⟩ := X; subst hp
  obtain ⟨T', h2, X', e', E, A, D, -, st⟩ := newO X C.1 C.2.2.2.2.2.2.2.1 C.2.2.2.1 w wi wz e0 (g := mkF m pc L S) rfl (hb C.2.1 hd) hc hs
  refine own_st st (g T' h2 _ rfl ⟨_, X', N, e'⟩ (own_keep_ext E) hbig ⟨A, hnd, fun f hf => ?_⟩)
  obtain ⟨La, t, ht, hdv⟩ := hfs f hf
  exact ⟨hdv ▸ D La ht, La, t, ht⟩
theorem own_objinit (C : own_Cx p s m meth c Z n0 own nm bytes ml ret) (X : own_St p l e R s m args below meth c n0 T h cells slots) {idx : Nat} (hd : decode bytes pc = .ok (.invokespecial idx, 3)) (w1 : (Jvm.Cond.methodLink own idx Lib.objectInit).before a0 Z = true) (w2 : (Jvm.Cond.instanceMethod Lib.objectInit).before a0 Z = true) (w3 : (Jvm.Cond.code Lib.objectInit ⟨#[0xb1]⟩ 1 none).before a0 Z = true)
    (hL : L.size = ml) (hf : 1 ≤ R.frames) (hlo : (S.map fun v => v.category).sum + 12 ≤ R.locals) (hp : pc + 3 = pc')
    (g : ∀ T', own_St p l e R s m args below meth c n0 T' h cells slots → own_Go p e below n0 F (T'.setTop (mkF m pc' L S))) : own_Go p e below n0 F (T.setTop (mkF m pc L (.ref a :: S))) := by
  obtain ⟨locs, X, N, e0⟩ := X; subst hp
  obtain ⟨T', X', e', st⟩ := initO X C.1 C.2.2.2.2.2.2.2.1 C.2.2.2.1 w1 w2 w3 e0 (g := mkF m pc L (.ref a :: S)) rfl (by rw [C.2.2.1]; exact hL) rfl (hb C.2.1 hd) hf (W := (S.map fun v => v.category).sum) (by show 2 * 0 + _ ≤ _; omega) hlo
  exact own_st st (g T' ⟨_, X', N, e'⟩)
/-! calls -/
theorem own_callS (C : own_Cx p s m meth c Z n0 own nm bytes ml ret) (X : own_St p l e R s m args below meth c n0 T h cells slots) {y : MethodName} {by' : ByteArray} {ml' idx : Nat} {rt ret' : Option FieldType} {ps : List FieldType} {rm : Room} {av : List Value} {Qc : Option Value → Heap → Prop} (hd : decode bytes pc = .ok (.invokestatic idx, 3)) (M : own_Met l Z n0 y by' ml' ret' [] rm av.toArray h Qc)
    (w1 : (Jvm.Cond.methodLink own idx y).before a0 Z = true) (w2 : (Jvm.Cond.static y).before a0 Z = true) (w3 : (Jvm.Cond.initialized y.cls).before a0 Z = true) (w4 : (Jvm.Cond.code y by' ml' ret').before a0 Z = true) (hy : y.cls ≠ "java/lang/invoke/MethodHandle" ∧ y.cls ≠ "java/lang/invoke/VarHandle")
    (hde : parseMethodDescriptor y.desc = some ⟨ps, rt⟩) (hps : av.length = ps.length) (hL : L.size = ml) (hf : rm.frames + 1 ≤ R.frames) (hlo : (S.map fun v => v.category).sum + (ml' + 11) + rm.locals ≤ R.locals) (hc : cells + rm.cells ≤ R.cells) (hs : slots + rm.slots ≤ R.slots) {S0 : List Value} (hS : S0 = av.reverse ++ S) (hp : pc + 3 = pc')
    (g : ∀ T' h' v, own_St p l e R s m args below meth c n0 T' h' (cells + rm.cells) (slots + rm.slots) → Qc v h' → own_Go p e below n0 F (T'.setTop (mkF m pc' L (v.toList ++ S)))) : own_Go p e below n0 F (T.setTop (mkF m pc L S0)) := by
  obtain ⟨locs, X, N, e0⟩ := X; subst hp; subst hS
  have hZ := C.2.2.2.2.2.2.2.1
  obtain ⟨v, _, ⟨T2, L2, k2, n2⟩, -, X2, ⟨Lc, hQ, l2, y2, z2⟩, st⟩ := Jvm.LawKit.callS X C.1 (y := y) C.2.2.2.1 (mvT hZ w1) (mvT hZ w2) (mvT hZ w3) (mvT hZ w4) hy (backOf (W := (S.map fun v => v.category).sum) (Q := fun v h L => Qc v h ∧ Fr n0 L) M hZ w4 w3 hf hlo) (g := mkF m pc L (av.reverse ++ S)) rfl (by rw [C.2.2.1]; exact hL) (argsL := av) (rest := S) (lenOf hde hps) rfl (by show 2 * 0 + _ ≤ _; omega) (hb C.2.1 hd) (fun _ _ => ⟨rfl, e0, hc, hs⟩)
  dsimp only [Pt.U, Pt.locs, Pt.cells, Pt.slots] at X2 l2 y2 z2 st hQ
  subst l2 y2 z2
  exact own_st st (g T2 _ v ⟨_, X2, Fr.app N hQ.2, rfl⟩ hQ.1)
theorem own_callInit (C : own_Cx p s m meth c Z n0 own nm bytes ml ret) (X : own_St p l e R s m args below meth c n0 T h cells slots) {y : MethodName} {by' : ByteArray} {ml' idx : Nat} {rt : Option FieldType} {ps : List FieldType} {rm : Room} {av : List Value} {Qc : Option Value → Heap → Prop} (hd : decode bytes pc = .ok (.invokespecial idx, 3)) (M : own_Met l Z n0 y by' ml' none [] rm (.ref a :: av).toArray h Qc) (hy1 : y.name = "<init>")
    (w1 : (Jvm.Cond.methodLink own idx y).before a0 Z = true) (w2 : (Jvm.Cond.instanceMethod y).before a0 Z = true) (w3 : (Jvm.Cond.initialized y.cls).before a0 Z = true) (w4 : (Jvm.Cond.code y by' ml' none).before a0 Z = true) (hy : y.cls ≠ "java/lang/invoke/MethodHandle" ∧ y.cls ≠ "java/lang/invoke/VarHandle")
    (hde : parseMethodDescriptor y.desc = some ⟨ps, rt⟩) (hps : av.length = ps.length) (hL : L.size = ml) (hf : rm.frames + 1 ≤ R.frames) (hlo : (S.map fun v => v.category).sum + (ml' + 11) + rm.locals ≤ R.locals) (hc : cells + rm.cells ≤ R.cells) (hs : slots + rm.slots ≤ R.slots) {S0 : List Value} (hS : S0 = av.reverse ++ .ref a :: S) (hp : pc + 3 = pc')
    (g : ∀ T' h' v, own_St p l e R s m args below meth c n0 T' h' (cells + rm.cells) (slots + rm.slots) → Qc v h' → own_Go p e below n0 F (T'.setTop (mkF m pc' L (v.toList ++ S)))) : own_Go p e below n0 F (T.setTop (mkF m pc L S0)) := by
  obtain ⟨locs, X, N, e0⟩ := X; subst hp; subst hS
  have hZ := C.2.2.2.2.2.2.2.1
  obtain ⟨v, _, ⟨T2, L2, k2, n2⟩, -, X2, ⟨Lc, hQ, l2, y2, z2⟩, st⟩ := X.specialBack C.1 (y := y) hy1 C.2.2.2.1 (mvT hZ w1) (mvT hZ w2) (mvT hZ w4) hy (backOf (W := (S.map fun v => v.category).sum) (Q := fun v h L => Qc v h ∧ Fr n0 L) M hZ w4 w3 hf hlo) (g := mkF m pc L (av.reverse ++ .ref a :: S)) rfl (by rw [C.2.2.1]; exact hL) (Steps.refl _) (a := a) (argsL := av) (rest := S) (lenOf hde hps) rfl (by show 2 * 0 + _ ≤ _; omega) (hb C.2.1 hd) (fun _ _ => ⟨rfl, e0, hc, hs⟩)
  dsimp only [Pt.U, Pt.locs, Pt.cells, Pt.slots] at X2 l2 y2 z2 st hQ
  subst l2 y2 z2
  exact own_st (fun t k => st.trans k) (g T2 _ v ⟨_, X2, Fr.app N hQ.2, rfl⟩ hQ.1)
theorem own_callV (C : own_Cx p s m meth c Z n0 own nm bytes ml ret) (X : own_St p l e R s m args below meth c n0 T h cells slots) {y : MethodName} {by' : ByteArray} {ml' idx : Nat} {rt ret' : Option FieldType} {ps : List FieldType} {rm : Room} {av : List Value} {Qc : Option Value → Heap → Prop} (hd : decode bytes pc = .ok (.invokevirtual idx, 3)) (M : own_Met l Z n0 y by' ml' ret' [] rm (.ref a :: av).toArray h Qc)
    (E : Exa Z h a y.cls) (w1 : (Jvm.Cond.methodLink own idx y).before a0 Z = true) (wd : (Jvm.Cond.declares y).before a0 Z = true) (ws : (Jvm.Cond.selects y.cls y y).before a0 Z = true) (w2 : (Jvm.Cond.instanceMethod y).before a0 Z = true) (w3 : (Jvm.Cond.initialized y.cls).before a0 Z = true) (w4 : (Jvm.Cond.code y by' ml' ret').before a0 Z = true) (hy : y.cls ≠ "java/lang/invoke/MethodHandle" ∧ y.cls ≠ "java/lang/invoke/VarHandle")
    (hde : parseMethodDescriptor y.desc = some ⟨ps, rt⟩) (hps : av.length = ps.length) (hL : L.size = ml) (hf : rm.frames + 1 ≤ R.frames) (hlo : (S.map fun v => v.category).sum + (ml' + 11) + rm.locals ≤ R.locals) (hc : cells + rm.cells ≤ R.cells) (hs : slots + rm.slots ≤ R.slots) {S0 : List Value} (hS : S0 = av.reverse ++ .ref a :: S) (hp : pc + 3 = pc')
    (g : ∀ T' h' v, own_St p l e R s m args below meth c n0 T' h' (cells + rm.cells) (slots + rm.slots) → Qc v h' → own_Go p e below n0 F (T'.setTop (mkF m pc' L (v.toList ++ S)))) : own_Go p e below n0 F (T.setTop (mkF m pc L S0)) := by
  obtain ⟨locs, X, N, e0⟩ := X; subst hp; subst hS
  have hZ := C.2.2.2.2.2.2.2.1
  obtain ⟨cq, kq, qa, qb, qc⟩ := isOf hZ e0 E
  obtain ⟨v, _, ⟨T2, L2, k2, n2⟩, -, X2, ⟨Lc, hQ, l2, y2, z2⟩, st⟩ := X.virtualBack C.1 (y := y) (z := y) C.2.2.2.1 (mvT hZ w1) (mvT hZ wd) (notFace_of_selects (args := #[]) (mvT hZ ws)) (mvT hZ ws) (mvT hZ w2) hy (backOf (W := (S.map fun v => v.category).sum) (Q := fun v h L => Qc v h ∧ Fr n0 L) M hZ w4 w3 hf hlo) qa qc (g := mkF m pc L (av.reverse ++ .ref a :: S)) rfl (by rw [C.2.2.1]; exact hL) (Steps.refl _) (argsL := av) (rest := S) (lenOf hde hps) rfl (by show 2 * 0 + _ ≤ _; omega) (hb C.2.1 hd) (fun _ _ => ⟨rfl, e0, hc, hs⟩)
  dsimp only [Pt.U, Pt.locs, Pt.cells, Pt.slots] at X2 l2 y2 z2 st hQ
  subst l2 y2 z2
  exact own_st (fun t k => st.trans k) (g T2 _ v ⟨_, X2, Fr.app N hQ.2, rfl⟩ hQ.1)
/-- a private method selects itself (turned from the worked claim gauge-weight) -/
theorem own_selP {s : State} {args : Array Value} {n : Nat} {y : MethodName} (hy : y.cls ≠ "java/lang/invoke/MethodHandle" ∧ y.cls ≠ "java/lang/invoke/VarHandle") (hins : (Jvm.Cond.instantiable y.cls n).before args s = true) (hpriv : (Jvm.Cond.privateMethod y).before args s = true) (hinst : (Jvm.Cond.instanceMethod y).before args s = true) :
    (Jvm.Cond.selects y.cls y y).before args s = true := by
  obtain ⟨c, k, hc, hk, -, hniab, -, -⟩ := Cond.instantiable_spec hins
  have hni : k.isInterface = false := (Bool.or_eq_false_iff.mp hniab).1
  obtain ⟨mk, methM, hnamed, hmethM, -, -⟩ := Cond.instanceMethod_spec hinst
  have hfound : s.methodFound? y.cls y.name y.desc = some mk := State.methodFound?_of_named hnamed hy
  have hcls : mk.cls = c := Option.some.inj ((findClass_of_methodNamed hnamed).symm.trans hc)
  have hsel : selectMethod {} s.vm c mk = .method mk := selectMethod_private hmethM (Cond.privateMethod_at hpriv mk methM hnamed hmethM)
  simp only [Cond.before, Cond.holds, Cond.value, hc, hfound, hnamed, hsel, hcls, hk]
  simp; exact hni
theorem own_callP (C : own_Cx p s m meth c Z n0 own nm bytes ml ret) (X : own_St p l e R s m args below meth c n0 T h cells slots) {y : MethodName} {by' : ByteArray} {ml' idx : Nat} {rt ret' : Option FieldType} {ps : List FieldType} {rm : Room} {av : List Value} {Qc : Option Value → Heap → Prop} (hd : decode bytes pc = .ok (.invokevirtual idx, 3)) (M : own_Met l Z n0 y by' ml' ret' [] rm (.ref a :: av).toArray h Qc)
    (E : Exa Z h a y.cls) (w1 : (Jvm.Cond.methodLink own idx y).before a0 Z = true) {kk : Nat} (wi : (Jvm.Cond.instantiable y.cls kk).before a0 Z = true) (wp : (Jvm.Cond.privateMethod y).before a0 Z = true) (w2 : (Jvm.Cond.instanceMethod y).before a0 Z = true) (w3 : (Jvm.Cond.initialized y.cls).before a0 Z = true) (w4 : (Jvm.Cond.code y by' ml' ret').before a0 Z = true) (hy : y.cls ≠ "java/lang/invoke/MethodHandle" ∧ y.cls ≠ "java/lang/invoke/VarHandle")
    (hde : parseMethodDescriptor y.desc = some ⟨ps, rt⟩) (hps : av.length = ps.length) (hL : L.size = ml) (hf : rm.frames + 1 ≤ R.frames) (hlo : (S.map fun v => v.category).sum + (ml' + 11) + rm.locals ≤ R.locals) (hc : cells + rm.cells ≤ R.cells) (hs : slots + rm.slots ≤ R.slots) {S0 : List Value} (hS : S0 = av.reverse ++ .ref a :: S) (hp : pc + 3 = pc')
    (g : ∀ T' h' v, own_St p l e R s m args below meth c n0 T' h' (cells + rm.cells) (slots + rm.slots) → Qc v h' → own_Go p e below n0 F (T'.setTop (mkF m pc' L (v.toList ++ S)))) : own_Go p e below n0 F (T.setTop (mkF m pc L S0)) := by
  obtain ⟨locs, X, N, e0⟩ := X; subst hp; subst hS
  have hZ := C.2.2.2.2.2.2.2.1
  obtain ⟨cq, q1, q2⟩ := E.cell
  obtain ⟨v, _, ⟨T2, L2, k2, n2⟩, -, X2, ⟨Lc, hQ, l2, y2, z2⟩, st⟩ := X.privateBack C.1 (y := y) C.2.2.2.1 (mvT hZ w1) (mvT hZ w2) (mvT hZ (own_selP hy wi wp w2)) (Cond.privateMethod_at (mvP hZ wp (args := #[]))) (mvT hZ w4) hy (backOf (W := (S.map fun v => v.category).sum) (Q := fun v h L => Qc v h ∧ Fr n0 L) M hZ w4 w3 hf hlo) (g := mkF m pc L (av.reverse ++ .ref a :: S)) rfl (by rw [C.2.2.1]; exact hL) (Steps.refl _) (a := a) (by rw [e0]; exact q1) q2 (argsL := av) (rest := S) (lenOf hde hps) rfl (by show 2 * 0 + _ ≤ _; omega) (hb C.2.1 hd) (fun _ _ => ⟨rfl, e0, hc, hs⟩)
  dsimp only [Pt.U, Pt.locs, Pt.cells, Pt.slots] at X2 l2 y2 z2 st hQ
  subst l2 y2 z2
  exact own_st (fun t k => st.trans k) (g T2 _ v ⟨_, X2, Fr.app N hQ.2, rfl⟩ hQ.1)
end OwnKitTwo
end Jvm.Pilot.@@N@@
namespace Jvm.Pilot.@@N@@
open Jvm Jvm.ClassFile Sem Op Lib Jvm.Free Jvm.Stand Jvm.LawKit Jvm.RoadKit Bundle Jvm.Pilot.@@N@@.Jvm.D
section OwnKitThree
theorem own_i2b2 (x : Int32) : x.toInt8.toInt32.toInt8.toInt32 = x.toInt8.toInt32 := by simp
theorem own_i2bn {y t : Int32} (e : y.toInt8.toInt32 = t) : t.toInt8.toInt32 = t := by rw [← e]; simp
theorem own_ibd {Z : State} {h : Heap} {a : Addr} {ty : FieldType} {xs : List Int32} {i : Nat} {v : Int32} (A : own_IA Z h a ty xs) (e : xs[i]? = some v) : i < 2 ^ 31 := by
  obtain ⟨c, -, -, hl, -⟩ := A; exact Nat.lt_trans (own_lt_of e) hl
theorem own_ixadd {o d : Int32} {k n : Nat} (hk : o.toInt = (k : Int)) (hd : d.toInt = (n : Int)) (hb : k + n < 2 ^ 31) : (o + d).toInt = ((k + n : Nat) : Int) := by
  have := c_iadd o d; have := rng32 (o + d); omega
theorem own_orI (a b : Int32) (k : Nat) (hk : k ≤ 31) (P : Int) (hP : P = (2 ^ k : Nat)) (h1 : a.toInt % P = 0) (h2 : 0 ≤ b.toInt) (h3 : b.toInt < P) (h4 : 0 ≤ a.toInt) (h5 : a.toInt + b.toInt < 2147483648) : (a ||| b).toInt = a.toInt + b.toInt := by
  have := c_or a b k hk P hP h1 h2 h3; have := rng32 (a ||| b); omega
theorem own_addI (a b : Int32) (h1 : -2147483648 ≤ a.toInt + b.toInt) (h2 : a.toInt + b.toInt < 2147483648) : (a + b).toInt = a.toInt + b.toInt := by
  have := c_iadd a b; have := rng32 (a + b); omega
theorem own_subI (a b : Int32) (h1 : -2147483648 ≤ a.toInt - b.toInt) (h2 : a.toInt - b.toInt < 2147483648) : (a - b).toInt = a.toInt - b.toInt := by
  have := c_isub a b; have := rng32 (a - b); omega
theorem own_ba3 (y : Int32) : (y.toInt8.toInt32 &&& 7).toInt = y.toInt % 8 := by
  have e1 : (y.toInt8.toInt32 &&& 7).toInt = y.toInt8.toInt32.toInt % (2 ^ 3 : Nat) := c_mask _ 7 3 (by decide) (by decide)
  have e2 := c_i2b y
  omega
theorem own_ba4 (y : Int32) : (y.toInt8.toInt32 &&& 15).toInt = y.toInt % 16 := by
  have e1 : (y.toInt8.toInt32 &&& 15).toInt = y.toInt8.toInt32.toInt % (2 ^ 4 : Nat) := c_mask _ 15 4 (by decide) (by decide)
  have e2 := c_i2b y
  omega
theorem own_ba5 (y : Int32) : (y.toInt8.toInt32 &&& 31).toInt = y.toInt % 32 := by
  have e1 : (y.toInt8.toInt32 &&& 31).toInt = y.toInt8.toInt32.toInt % (2 ^ 5 : Nat) := c_mask _ 31 5 (by decide) (by decide)
  have e2 := c_i2b y
  omega
theorem own_ba6 (y : Int32) : (y.toInt8.toInt32 &&& 63).toInt = y.toInt % 64 := by
  have e1 : (y.toInt8.toInt32 &&& 63).toInt = y.toInt8.toInt32.toInt % (2 ^ 6 : Nat) := c_mask _ 63 6 (by decide) (by decide)
  have e2 := c_i2b y
  omega
theorem own_ba7 (y : Int32) : (y.toInt8.toInt32 &&& 127).toInt = y.toInt % 128 := by
  have e1 : (y.toInt8.toInt32 &&& 127).toInt = y.toInt8.toInt32.toInt % (2 ^ 7 : Nat) := c_mask _ 127 7 (by decide) (by decide)
  have e2 := c_i2b y
  omega
theorem own_ba8 (y : Int32) : (y.toInt8.toInt32 &&& 255).toInt = y.toInt % 256 := by
  have e1 : (y.toInt8.toInt32 &&& 255).toInt = y.toInt8.toInt32.toInt % (2 ^ 8 : Nat) := c_mask _ 255 8 (by decide) (by decide)
  have e2 := c_i2b y
  omega
theorem own_cont (q : Int32) : (((128 : Int32) ||| (q &&& 63)).toInt8.toInt32 &&& 63).toInt = q.toInt % 64 := by
  have e1 : (q &&& 63).toInt = q.toInt % (2 ^ 6 : Nat) := c_mask q 63 6 (by decide) (by decide)
  have z : (128 : Int32).toInt = 128 := rfl
  have e2 := own_orI 128 (q &&& 63) 7 (by decide) 128 (by decide) (by decide) (by omega) (by omega) (by decide) (by omega)
  rw [own_ba6, e2]; omega
theorem own_acc (x y : Int32) (h1 : 0 ≤ x.toInt) (h2 : x.toInt * 64 + 63 < 2147483648) (h3 : 0 ≤ y.toInt) (h4 : y.toInt < 64) : ((x <<< (6 &&& 31)) ||| y).toInt = x.toInt * 64 + y.toInt := by
  have e1 := c_ishl x 6 6 (by decide)
  have e2 := rng32 (x <<< (6 &&& 31))
  have e3 : (x <<< (6 &&& 31)).toInt = x.toInt * 64 := by omega
  rw [own_orI (x <<< (6 &&& 31)) y 6 (by decide) 64 (by decide) (by omega) h3 h4 (by omega) (by omega), e3]
end OwnKitThree
end Jvm.Pilot.@@N@@
namespace Jvm.Pilot.@@N@@
open Jvm Jvm.ClassFile Sem Op Lib Jvm.Free Jvm.Stand Jvm.LawKit Jvm.RoadKit Bundle Jvm.Pilot.@@N@@.Jvm.D
def own_ag (d mk : Int64) : Int32 := if d &&& mk = 0 then 1 else 0
theorem own_agx (a b mk : Int64) : (a ^^^ b) &&& mk = 0 ↔ a &&& mk = b &&& mk := by
  rw [← Int64.toBitVec_inj, ← Int64.toBitVec_inj]
  simp only [Int64.toBitVec_and, Int64.toBitVec_xor]
  generalize a.toBitVec = x; generalize b.toBitVec = y; generalize mk.toBitVec = z
  constructor
  · intro h
    apply BitVec.eq_of_getLsbD_eq; intro i hi
    have := congrArg (fun v => BitVec.getLsbD v i) h
    simp only [BitVec.getLsbD_and, BitVec.getLsbD_xor] at this ⊢
    have z0 : BitVec.getLsbD (0 : Int64).toBitVec i = false := by show BitVec.getLsbD (0#64) i = false; simp
    rw [z0] at this
    revert this; cases x.getLsbD i <;> cases y.getLsbD i <;> cases z.getLsbD i <;> simp
  · intro h
    apply BitVec.eq_of_getLsbD_eq; intro i hi
    have := congrArg (fun v => BitVec.getLsbD v i) h
    simp only [BitVec.getLsbD_and, BitVec.getLsbD_xor] at this ⊢
    have z0 : BitVec.getLsbD (0 : Int64).toBitVec i = false := by show BitVec.getLsbD (0#64) i = false; simp
    rw [z0]
    revert this; cases x.getLsbD i <;> cases y.getLsbD i <;> cases z.getLsbD i <;> simp
theorem own_ag1 (a b mk : Int64) (h : a &&& mk = b &&& mk) : own_ag (a ^^^ b) mk = 1 := by rw [own_ag, if_pos ((own_agx a b mk).mpr h)]
theorem own_ag0 (a b mk : Int64) (h : ¬ a &&& mk = b &&& mk) : own_ag (a ^^^ b) mk = 0 := by rw [own_ag, if_neg (fun q => h ((own_agx a b mk).mp q))]
theorem own_pn_com_example_twin64_twin64_search_BlockTable : plainName "com/example/twin64/twin64/search/BlockTable" = true := by first | (simp [plainName, overriddenIn]; done) | decide +kernel
theorem own_ef_init (o : Addr) (f : Addr) (mk : Int64) (od : Addr) (m : MethodId) : entryFrame m #[(.ref o), (.ref f), (.long mk), (.ref od)] 8 = mkF m 0 #[.val (.ref o), .val (.ref f), .val (.long mk), .second, .val (.ref od), .unset, .unset, .unset] [] := by first | (simp [entryFrame, mkF, argsToLocals, Value.category]; done) | rfl
theorem own_d1_0 : decode prog_33_method_3_code 0 = .ok (.aload_n 0, 1) := by decide +kernel
theorem own_d1_1 : decode prog_33_method_3_code 1 = .ok (.invokespecial 12, 3) := by decide +kernel
theorem own_d1_4 : decode prog_33_method_3_code 4 = .ok (.aload_n 0, 1) := by decide +kernel
theorem own_d1_5 : decode prog_33_method_3_code 5 = .ok (.lload_n 2, 1) := by decide +kernel
theorem own_d1_6 : decode prog_33_method_3_code 6 = .ok (.putfield 17, 3) := by decide +kernel
theorem own_d1_9 : decode prog_33_method_3_code 9 = .ok (.aload_n 1, 1) := by decide +kernel
theorem own_d1_10 : decode prog_33_method_3_code 10 = .ok (.arraylength, 1) := by decide +kernel
theorem own_d1_11 : decode prog_33_method_3_code 11 = .ok (.istore 5, 2) := by decide +kernel
theorem own_d1_13 : decode prog_33_method_3_code 13 = .ok (.aload_n 0, 1) := by decide +kernel
theorem own_d1_14 : decode prog_33_method_3_code 14 = .ok (.iload 5, 2) := by decide +kernel
theorem own_d1_16 : decode prog_33_method_3_code 16 = .ok (.newarray .long, 2) := by decide +kernel
theorem own_d1_18 : decode prog_33_method_3_code 18 = .ok (.putfield 60, 3) := by decide +kernel
theorem own_d1_21 : decode prog_33_method_3_code 21 = .ok (.aload_n 0, 1) := by decide +kernel
theorem own_d1_22 : decode prog_33_method_3_code 22 = .ok (.aload 4, 2) := by decide +kernel
theorem own_d1_24 : decode prog_33_method_3_code 24 = .ok (.putfield 63, 3) := by decide +kernel
theorem own_d1_27 : decode prog_33_method_3_code 27 = .ok (.iconst 0, 1) := by decide +kernel
theorem own_d1_28 : decode prog_33_method_3_code 28 = .ok (.istore 6, 2) := by decide +kernel
theorem own_d1_30 : decode prog_33_method_3_code 30 = .ok (.iload 6, 2) := by decide +kernel
theorem own_d1_32 : decode prog_33_method_3_code 32 = .ok (.iload 5, 2) := by decide +kernel
theorem own_d1_34 : decode prog_33_method_3_code 34 = .ok (.if_icmp .ge 78, 3) := by decide +kernel
theorem own_d1_112 : decode prog_33_method_3_code 112 = .ok (.return_, 1) := by decide +kernel
set_option maxRecDepth 65536 in
set_option maxHeartbeats 40000000 in
theorem own_m_init (l : Launch) (Z : State) (a0 : Array Value) (hw : ∀ d ∈ tables_1, d.before a0 Z = true) (o : Addr) (f : Addr) (mk : Int64) (od : Addr) (h0 : Heap) (n0 : Nat) (hn0 : n0 ≤ h0.size) (O : own_Ob Z a0 h0 o "com/example/twin64/twin64/search/BlockTable" [("keyMask", "J", (.long (0 : Int64))), ("sorted", "[J", .null), ("indices", "[I", .null)]) (A : own_JA Z h0 f []) (B : own_IA Z h0 od .int []) (no_f : o ≠ f) (no_od : o ≠ od) (ge_o : n0 ≤ o) : own_Met l Z n0 (⟨"com/example/twin64/twin64/search/BlockTable", "<init>", "([JJ[I)V"⟩ : MethodName) prog_33_method_3_code 8 none [] ({ frames := 1, cells := 1, slots := 0, locals := 20 } : Room) #[(.ref o), (.ref f), (.long mk), (.ref od)] h0 (fun v h => v = none ∧ ∃ b, Keep h0 h [o] ∧ own_Ob Z a0 h o "com/example/twin64/twin64/search/BlockTable" [("keyMask", "J", (.long mk)), ("sorted", "[J", (.ref b)), ("indices", "[I", (.ref od))]) := by
  refine own_body (plainFor_of_name own_pn_com_example_twin64_twin64_search_BlockTable) hn0 (own_ef_init o f mk od) ?_
  intro p e s m below meth c T C X
  have KK := Keep.refl h0 [o]
  refine own_aloadN C X own_d1_0 rfl rfl (pc' := 1) rfl ?_
  refine own_objinit C X own_d1_1 (hw _ (List.mem_of_getElem? (i := 8) rfl)) (hw _ (List.mem_of_getElem? (i := 9) rfl)) (hw _ (List.mem_of_getElem? (i := 10) rfl)) rfl (by decide) (Nat.le_of_ble_eq_true rfl) (pc' := 4) rfl ?_
  intro T X
  refine own_aloadN C X own_d1_4 rfl rfl (pc' := 5) rfl ?_
  refine own_lloadN C X own_d1_5 rfl (pc' := 6) rfl ?_
  refine own_putfield C X own_d1_6 (hw _ (List.mem_of_getElem? (i := 11) rfl)) (Or.inr ⟨(hw _ (List.mem_of_getElem? (i := 12) rfl)), rfl, rfl⟩) (hw _ (List.mem_of_getElem? (i := 1) rfl)) O (i := 0) rfl (ty := .long) (by decide) rfl rfl ge_o (pc' := 9) rfl ?_
  intro T h X K_ O_
  have O : own_Ob Z a0 h o "com/example/twin64/twin64/search/BlockTable" [("keyMask", "J", (.long mk)), ("sorted", "[J", .null), ("indices", "[I", .null)] := O_
  have A := A.keep K_ (ninS (Ne.symm no_f) nin0)
  have B := B.keep K_ (ninS (Ne.symm no_od) nin0)
  have KK := KK.trans K_ (allS (Or.inl (by simp)) all0)
  refine own_aloadN C X own_d1_9 rfl rfl (pc' := 10) rfl ?_
  refine own_alenJ C X own_d1_10 (n := 0) A rfl (pc' := 11) rfl ?_
  refine own_istore C X own_d1_11 (L' := #[.val (.ref o), .val (.ref f), .val (.long mk), .second, .val (.ref od), .val (.int (0 : Int32)), .unset, .unset]) rfl (pc' := 13) rfl ?_
  refine own_aloadN C X own_d1_13 rfl rfl (pc' := 14) rfl ?_
  refine own_iload C X own_d1_14 rfl (pc' := 16) rfl ?_
  refine own_newJ C X own_d1_16 (hw _ (List.mem_of_getElem? (i := 3) rfl)) (by decide) (k := 0) (cap := 0) (Nat.le_of_ble_eq_true rfl) (by decide) (Nat.le_of_ble_eq_true rfl) (Nat.le_of_ble_eq_true rfl) (pc' := 18) rfl ?_
  intro T h nb e_nb X K_ ge_nb A_nb_
  have gz_nb : h0.size ≤ nb := by rw [e_nb]; exact KK.1
  have ne_o_nb : o ≠ nb := by rw [e_nb]; exact Nat.ne_of_lt O.lt
  have ne_f_nb : f ≠ nb := by rw [e_nb]; exact Nat.ne_of_lt A.lt
  have ne_od_nb : od ≠ nb := by rw [e_nb]; exact Nat.ne_of_lt B.lt
  have A_nb : own_JA Z h nb [] := A_nb_
  have O := O.keep K_ nin0
  have A := A.keep K_ nin0
  have B := B.keep K_ nin0
  have KK := KK.trans K_ all0
  refine own_putfield C X own_d1_18 (hw _ (List.mem_of_getElem? (i := 13) rfl)) (Or.inr ⟨(hw _ (List.mem_of_getElem? (i := 14) rfl)), rfl, rfl⟩) (hw _ (List.mem_of_getElem? (i := 1) rfl)) O (i := 1) rfl (ty := (.array .long)) (by decide) rfl rfl ge_o (pc' := 21) rfl ?_
  intro T h X K_ O_
  have O : own_Ob Z a0 h o "com/example/twin64/twin64/search/BlockTable" [("keyMask", "J", (.long mk)), ("sorted", "[J", (.ref nb)), ("indices", "[I", .null)] := O_
  have A := A.keep K_ (ninS (Ne.symm no_f) nin0)
  have B := B.keep K_ (ninS (Ne.symm no_od) nin0)
  have A_nb := A_nb.keep K_ (ninS (Ne.symm ne_o_nb) nin0)
  have KK := KK.trans K_ (allS (Or.inl (by simp)) all0)
  refine own_aloadN C X own_d1_21 rfl rfl (pc' := 22) rfl ?_
  refine own_aload C X own_d1_22 rfl rfl (pc' := 24) rfl ?_
  refine own_putfield C X own_d1_24 (hw _ (List.mem_of_getElem? (i := 15) rfl)) (Or.inr ⟨(hw _ (List.mem_of_getElem? (i := 16) rfl)), rfl, rfl⟩) (hw _ (List.mem_of_getElem? (i := 1) rfl)) O (i := 2) rfl (ty := (.array .int)) (by decide) rfl rfl ge_o (pc' := 27) rfl ?_
  intro T h X K_ O_
  have O : own_Ob Z a0 h o "com/example/twin64/twin64/search/BlockTable" [("keyMask", "J", (.long mk)), ("sorted", "[J", (.ref nb)), ("indices", "[I", (.ref od))] := O_
  have A := A.keep K_ (ninS (Ne.symm no_f) nin0)
  have B := B.keep K_ (ninS (Ne.symm no_od) nin0)
  have A_nb := A_nb.keep K_ (ninS (Ne.symm ne_o_nb) nin0)
  have KK := KK.trans K_ (allS (Or.inl (by simp)) all0)
  refine own_iconst C X own_d1_27 (v := 0) (by decide) (pc' := 28) rfl ?_
  refine own_istore C X own_d1_28 (L' := #[.val (.ref o), .val (.ref f), .val (.long mk), .second, .val (.ref od), .val (.int (0 : Int32)), .val (.int (0 : Int32)), .unset]) rfl (pc' := 30) rfl ?_
  refine own_iload C X own_d1_30 rfl (pc' := 32) rfl ?_
  refine own_iload C X own_d1_32 rfl (pc' := 34) rfl ?_
  refine own_icmp_ge C X own_d1_34 (pcT := 112) (pc' := 37) (by decide) (by decide) rfl (fun hc34 => ?_) (fun hc34 => absurd hc34 (by decide))
  exact own_return C X own_d1_112 (Nat.le_of_ble_eq_true rfl) (Nat.le_of_ble_eq_true rfl) (⟨rfl, _, KK, O⟩)
theorem own_ef_agr (o : Addr) (d : Int64) (m : MethodId) : entryFrame m #[(.ref o), (.long d)] 3 = mkF m 0 #[.val (.ref o), .val (.long d), .second] [] := by first | (simp [entryFrame, mkF, argsToLocals, Value.category]; done) | rfl
theorem own_d3_0 : decode prog_33_method_9_code 0 = .ok (.lload_n 1, 1) := by decide +kernel
theorem own_d3_1 : decode prog_33_method_9_code 1 = .ok (.aload_n 0, 1) := by decide +kernel
theorem own_d3_2 : decode prog_33_method_9_code 2 = .ok (.getfield 17, 3) := by decide +kernel
theorem own_d3_5 : decode prog_33_method_9_code 5 = .ok (.land, 1) := by decide +kernel
theorem own_d3_6 : decode prog_33_method_9_code 6 = .ok (.lconst 0, 1) := by decide +kernel
theorem own_d3_7 : decode prog_33_method_9_code 7 = .ok (.lcmp, 1) := by decide +kernel
theorem own_d3_8 : decode prog_33_method_9_code 8 = .ok (.ifCond .ne 7, 3) := by decide +kernel
theorem own_d3_15 : decode prog_33_method_9_code 15 = .ok (.iconst 0, 1) := by decide +kernel
theorem own_d3_16 : decode prog_33_method_9_code 16 = .ok (.ireturn, 1) := by decide +kernel
theorem own_d3_11 : decode prog_33_method_9_code 11 = .ok (.iconst 1, 1) := by decide +kernel
theorem own_d3_12 : decode prog_33_method_9_code 12 = .ok (.goto 4, 3) := by decide +kernel
set_option maxRecDepth 65536 in
set_option maxHeartbeats 40000000 in
theorem own_m_agr (l : Launch) (Z : State) (a0 : Array Value) (hw : ∀ d ∈ tables_1, d.before a0 Z = true) (o : Addr) (d : Int64) (h0 : Heap) (n0 : Nat) (hn0 : n0 ≤ h0.size) (mk : Int64) (b od : Addr) (O : own_Ob Z a0 h0 o "com/example/twin64/twin64/search/BlockTable" [("keyMask", "J", (.long mk)), ("sorted", "[J", (.ref b)), ("indices", "[I", (.ref od))]) : own_Met l Z n0 (⟨"com/example/twin64/twin64/search/BlockTable", "agreesOn", "(J)Z"⟩ : MethodName) prog_33_method_9_code 3 (some .boolean) [] ({ frames := 0, cells := 0, slots := 0, locals := 0 } : Room) #[(.ref o), (.long d)] h0 (fun v h => v = some (.int (own_ag d mk)) ∧ h0 = h) := by
  refine own_body (plainFor_of_name own_pn_com_example_twin64_twin64_search_BlockTable) hn0 (own_ef_agr o d) ?_
  intro p e s m below meth c T C X
  refine own_lloadN C X own_d3_0 rfl (pc' := 1) rfl ?_
  refine own_aloadN C X own_d3_1 rfl rfl (pc' := 2) rfl ?_
  refine own_getfield C X own_d3_2 (hw _ (List.mem_of_getElem? (i := 11) rfl)) O (i := 0) rfl (pc' := 5) rfl ?_
  intro T X
  refine own_land C X own_d3_5 rfl (pc' := 6) rfl ?_
  refine own_lconst C X own_d3_6 (v := 0) (by decide) (pc' := 7) rfl ?_
  refine own_lcmp_ne C X own_d3_7 own_d3_8 (pcT := 15) (pc' := 11) (by decide) (by decide) rfl (fun hc7 => ?_) (fun hc7 => ?_)
  · refine own_iconst C X own_d3_15 (v := 0) (by decide) (pc' := 16) rfl ?_
    exact own_ireturn_z C X own_d3_16 (Nat.le_of_ble_eq_true rfl) (Nat.le_of_ble_eq_true rfl) (⟨by rw [own_ag]; simp only [hc7, if_true, if_false]; rfl, rfl⟩)
  · refine own_iconst C X own_d3_11 (v := 1) (by decide) (pc' := 12) rfl ?_
    refine own_goto C X own_d3_12 (pc' := 16) (by decide) (by decide) ?_
    exact own_ireturn_z C X own_d3_16 (Nat.le_of_ble_eq_true rfl) (Nat.le_of_ble_eq_true rfl) (⟨by rw [own_ag]; simp only [hc7, if_true, if_false]; rfl, rfl⟩)
theorem own_pn_com_example_twin64_twin64_search_BlockTableAgreesOnPinLaw : plainName "com/example/twin64/twin64/search/BlockTableAgreesOnPinLaw" = true := by first | (simp [plainName, overriddenIn]; done) | decide +kernel
theorem own_ef_law (q0 : Int64) (q1 : Int64) (q2 : Int64) (i3 : Int32) (m : MethodId) : entryFrame m #[(.long q0), (.long q1), (.long q2), (.int i3)] maxLocals = mkF m 0 #[.val (.long q0), .second, .val (.long q1), .second, .val (.long q2), .second, .val (.int i3), .unset, .unset, .unset, .unset] [] := by first | (simp [entryFrame, mkF, argsToLocals, Value.category, maxLocals]; done) | rfl
theorem own_pd_6028 : parseMethodDescriptor "([JJ[I)V" = some ⟨[(.array .long), .long, (.array .int)], none⟩ := by decide +kernel
theorem own_pd_2141 : parseMethodDescriptor "(J)Z" = some ⟨[.long], some .boolean⟩ := by decide +kernel
set_option maxRecDepth 65536 in
set_option maxHeartbeats 40000000 in
theorem own_m_law (l : Launch) (Z : State) (a0 : Array Value) (hw : ∀ d ∈ tables_1, d.before a0 Z = true) (ws : List Jvm.Cond) (q0 : Int64) (q1 : Int64) (q2 : Int64) (i3 : Int32) (h0 : Heap) (n0 : Nat) (hn0 : n0 ≤ h0.size)  : own_Met l Z n0 x code maxLocals ret ws room_1 #[(.long q0), (.long q1), (.long q2), (.int i3)] h0 (fun v h => v = some (.int 1)) := by
  refine own_body (plainFor_of_name own_pn_com_example_twin64_twin64_search_BlockTableAgreesOnPinLaw) hn0 (own_ef_law q0 q1 q2 i3) ?_
  intro p e s m below meth c T C X
  refine own_iload C X at_0 rfl (pc' := 2) rfl ?_
  refine own_iconst C X at_2 (v := 1) (by decide) (pc' := 3) rfl ?_
  refine own_iand C X at_3 rfl (pc' := 4) rfl ?_
  refine own_if_eq C X at_4 (pcT := 20) (pc' := 7) (by decide) (by decide) rfl (fun hc4 => ?_) (fun hc4 => ?_)
  · refine own_lload C X at_20 rfl (pc' := 22) rfl ?_
    refine own_lstore C X at_22 (L' := #[.val (.long q0), .second, .val (.long q1), .second, .val (.long q2), .second, .val (.int i3), .val (.long q2), .second, .unset, .unset]) rfl (pc' := 24) rfl ?_
    refine own_new C X at_24 (hw _ (List.mem_of_getElem? (i := 0) rfl)) (hw _ (List.mem_of_getElem? (i := 1) rfl)) (hw _ (List.mem_of_getElem? (i := 2) rfl)) (Nat.le_of_ble_eq_true rfl) (Nat.le_of_ble_eq_true rfl) [("keyMask", "J", (.long (0 : Int64))), ("sorted", "[J", .null), ("indices", "[I", .null)] (by decide) ?_ (pc' := 27) rfl ?_
    · intro f hf; simp only [List.mem_cons, List.not_mem_nil, or_false] at hf
      rcases hf with rfl | rfl | rfl
      · exact ⟨(Or.inr (hw _ (List.mem_of_getElem? (i := 12) rfl))), .long, by decide, rfl⟩
      · exact ⟨(Or.inr (hw _ (List.mem_of_getElem? (i := 14) rfl))), (.array .long), by decide, rfl⟩
      · exact ⟨(Or.inr (hw _ (List.mem_of_getElem? (i := 16) rfl))), (.array .int), by decide, rfl⟩
    intro T h ob e_ob X K_ ge_ob O_ob
    refine own_dup C X at_27 rfl (pc' := 28) rfl ?_
    refine own_iconst C X at_28 (v := 0) (by decide) (pc' := 29) rfl ?_
    refine own_newJ C X at_29 (hw _ (List.mem_of_getElem? (i := 3) rfl)) (by decide) (k := 0) (cap := 0) (Nat.le_of_ble_eq_true rfl) (by decide) (Nat.le_of_ble_eq_true rfl) (Nat.le_of_ble_eq_true rfl) (pc' := 31) rfl ?_
    intro T h fa e_fa X K_ ge_fa A_fa_
    have ne_ob_fa : ob ≠ fa := by rw [e_fa]; exact Nat.ne_of_lt O_ob.lt
    have A_fa : own_JA Z h fa [] := A_fa_
    have O_ob := O_ob.keep K_ nin0
    refine own_lloadN C X at_31 rfl (pc' := 32) rfl ?_
    refine own_iconst C X at_32 (v := 0) (by decide) (pc' := 33) rfl ?_
    refine own_newI C X at_33 (ty := .int) rfl (hw _ (List.mem_of_getElem? (i := 4) rfl)) (by decide) (k := 0) (cap := 0) (Nat.le_of_ble_eq_true rfl) (by decide) (Nat.le_of_ble_eq_true rfl) (Nat.le_of_ble_eq_true rfl) rfl rfl (pc' := 35) rfl ?_
    intro T h oa e_oa X K_ ge_oa A_oa_
    have ne_ob_oa : ob ≠ oa := by rw [e_oa]; exact Nat.ne_of_lt O_ob.lt
    have ne_fa_oa : fa ≠ oa := by rw [e_oa]; exact Nat.ne_of_lt A_fa.lt
    have A_oa : own_IA Z h oa .int [] := A_oa_
    have O_ob := O_ob.keep K_ nin0
    have A_fa := A_fa.keep K_ nin0
    refine own_callInit C X at_35 (own_m_init l Z a0 hw ob fa q0 oa _ n0 (own_big C X) O_ob A_fa A_oa ne_ob_fa ne_ob_oa ge_ob) rfl (hw _ (List.mem_of_getElem? (i := 5) rfl)) (hw _ (List.mem_of_getElem? (i := 6) rfl)) (hw _ (List.mem_of_getElem? (i := 2) rfl)) (hw _ (List.mem_of_getElem? (i := 7) rfl)) (by decide) own_pd_6028 rfl rfl (Nat.le_of_ble_eq_true rfl) (Nat.le_of_ble_eq_true rfl) (Nat.le_of_ble_eq_true rfl) (Nat.le_of_ble_eq_true rfl) (av := [(.ref fa), (.long q0), (.ref oa)]) (S := [(.ref ob)]) rfl (pc' := 38) rfl ?_
    intro T h v X hQ
    obtain ⟨rfl, nb, K_, O_ob⟩ := hQ
    have A_fa := A_fa.keep K_ (ninS (Ne.symm ne_ob_fa) nin0)
    have A_oa := A_oa.keep K_ (ninS (Ne.symm ne_ob_oa) nin0)
    show own_Go p e below n0 (own_Fin room_1 s (fun v h => v = some (.int 1))) (T.setTop (mkF m 38 #[.val (.long q0), .second, .val (.long q1), .second, .val (.long q2), .second, .val (.int i3), .val (.long q2), .second, .unset, .unset] [(.ref ob)]))
    refine own_astore C X at_38 rfl (L' := #[.val (.long q0), .second, .val (.long q1), .second, .val (.long q2), .second, .val (.int i3), .val (.long q2), .second, .val (.ref ob), .unset]) rfl (pc' := 40) rfl ?_
    refine own_lloadN C X at_40 rfl (pc' := 41) rfl ?_
    refine own_lloadN C X at_41 rfl (pc' := 42) rfl ?_
    refine own_land C X at_42 rfl (pc' := 43) rfl ?_
    refine own_lload C X at_43 rfl (pc' := 45) rfl ?_
    refine own_lloadN C X at_45 rfl (pc' := 46) rfl ?_
    refine own_land C X at_46 rfl (pc' := 47) rfl ?_
    refine own_lcmp_ne C X at_47 at_48 (pcT := 55) (pc' := 51) (by decide) (by decide) rfl (fun hc47 => ?_) (fun hc47 => ?_)
    · refine own_iconst C X at_55 (v := 0) (by decide) (pc' := 56) rfl ?_
      refine own_istore C X at_56 (L' := #[.val (.long q0), .second, .val (.long q1), .second, .val (.long q2), .second, .val (.int i3), .val (.long q2), .second, .val (.ref ob), .val (.int (0 : Int32))]) rfl (pc' := 58) rfl ?_
      refine own_aload C X at_58 rfl rfl (pc' := 60) rfl ?_
      refine own_lloadN C X at_60 rfl (pc' := 61) rfl ?_
      refine own_lload C X at_61 rfl (pc' := 63) rfl ?_
      refine own_lxor C X at_63 rfl (pc' := 64) rfl ?_
      refine own_callV C X at_64 (own_m_agr l Z a0 hw ob (q1 ^^^ q2) _ n0 (own_big C X) q0 _ _ O_ob) O_ob.1 (hw _ (List.mem_of_getElem? (i := 17) rfl)) (hw _ (List.mem_of_getElem? (i := 18) rfl)) (hw _ (List.mem_of_getElem? (i := 20) rfl)) (hw _ (List.mem_of_getElem? (i := 19) rfl)) (hw _ (List.mem_of_getElem? (i := 2) rfl)) (hw _ (List.mem_of_getElem? (i := 21) rfl)) (by decide) own_pd_2141 rfl rfl (Nat.le_of_ble_eq_true rfl) (Nat.le_of_ble_eq_true rfl) (Nat.le_of_ble_eq_true rfl) (Nat.le_of_ble_eq_true rfl) (av := [(.long (q1 ^^^ q2))]) (S := []) rfl (pc' := 67) rfl ?_
      intro T h v X hQ
      obtain ⟨rfl, rfl⟩ := hQ
      show own_Go p e below n0 (own_Fin room_1 s (fun v h => v = some (.int 1))) (T.setTop (mkF m 67 #[.val (.long q0), .second, .val (.long q1), .second, .val (.long q2), .second, .val (.int i3), .val (.long q2), .second, .val (.ref ob), .val (.int (0 : Int32))] [(.int (own_ag (q1 ^^^ q2) q0))]))
      refine own_iload C X at_67 rfl (pc' := 69) rfl ?_
      refine own_icmp_ne C X at_69 (pcT := 76) (pc' := 72) (by decide) (by decide) rfl (fun hc69 => absurd hc69 (not_not_intro (own_ag0 q1 q2 q0 hc47))) (fun hc69 => ?_)
      refine own_iconst C X at_72 (v := 1) (by decide) (pc' := 73) rfl ?_
      refine own_goto C X at_73 (pc' := 77) (by decide) (by decide) ?_
      exact own_ireturn_z C X at_77 (Nat.le_of_ble_eq_true rfl) (Nat.le_of_ble_eq_true rfl) (rfl)
    · refine own_iconst C X at_51 (v := 1) (by decide) (pc' := 52) rfl ?_
      refine own_goto C X at_52 (pc' := 56) (by decide) (by decide) ?_
      refine own_istore C X at_56 (L' := #[.val (.long q0), .second, .val (.long q1), .second, .val (.long q2), .second, .val (.int i3), .val (.long q2), .second, .val (.ref ob), .val (.int (1 : Int32))]) rfl (pc' := 58) rfl ?_
      refine own_aload C X at_58 rfl rfl (pc' := 60) rfl ?_
      refine own_lloadN C X at_60 rfl (pc' := 61) rfl ?_
      refine own_lload C X at_61 rfl (pc' := 63) rfl ?_
      refine own_lxor C X at_63 rfl (pc' := 64) rfl ?_
      refine own_callV C X at_64 (own_m_agr l Z a0 hw ob (q1 ^^^ q2) _ n0 (own_big C X) q0 _ _ O_ob) O_ob.1 (hw _ (List.mem_of_getElem? (i := 17) rfl)) (hw _ (List.mem_of_getElem? (i := 18) rfl)) (hw _ (List.mem_of_getElem? (i := 20) rfl)) (hw _ (List.mem_of_getElem? (i := 19) rfl)) (hw _ (List.mem_of_getElem? (i := 2) rfl)) (hw _ (List.mem_of_getElem? (i := 21) rfl)) (by decide) own_pd_2141 rfl rfl (Nat.le_of_ble_eq_true rfl) (Nat.le_of_ble_eq_true rfl) (Nat.le_of_ble_eq_true rfl) (Nat.le_of_ble_eq_true rfl) (av := [(.long (q1 ^^^ q2))]) (S := []) rfl (pc' := 67) rfl ?_
      intro T h v X hQ
      obtain ⟨rfl, rfl⟩ := hQ
      show own_Go p e below n0 (own_Fin room_1 s (fun v h => v = some (.int 1))) (T.setTop (mkF m 67 #[.val (.long q0), .second, .val (.long q1), .second, .val (.long q2), .second, .val (.int i3), .val (.long q2), .second, .val (.ref ob), .val (.int (1 : Int32))] [(.int (own_ag (q1 ^^^ q2) q0))]))
      refine own_iload C X at_67 rfl (pc' := 69) rfl ?_
      refine own_icmp_ne C X at_69 (pcT := 76) (pc' := 72) (by decide) (by decide) rfl (fun hc69 => absurd hc69 (not_not_intro (own_ag1 q1 q2 q0 hc47))) (fun hc69 => ?_)
      refine own_iconst C X at_72 (v := 1) (by decide) (pc' := 73) rfl ?_
      refine own_goto C X at_73 (pc' := 77) (by decide) (by decide) ?_
      exact own_ireturn_z C X at_77 (Nat.le_of_ble_eq_true rfl) (Nat.le_of_ble_eq_true rfl) (rfl)
  · refine own_lloadN C X at_7 rfl (pc' := 8) rfl ?_
    refine own_lload C X at_8 rfl (pc' := 10) rfl ?_
    refine own_lloadN C X at_10 rfl (pc' := 11) rfl ?_
    refine own_ldc2L C X at_11 (hw _ (List.mem_of_getElem? (i := 22) rfl)) (pc' := 14) rfl ?_
    refine own_lxor C X at_14 rfl (pc' := 15) rfl ?_
    refine own_land C X at_15 rfl (pc' := 16) rfl ?_
    refine own_lxor C X at_16 rfl (pc' := 17) rfl ?_
    refine own_goto C X at_17 (pc' := 22) (by decide) (by decide) ?_
    refine own_lstore C X at_22 (L' := #[.val (.long q0), .second, .val (.long q1), .second, .val (.long q2), .second, .val (.int i3), .val (.long (q1 ^^^ (q2 &&& (q0 ^^^ (-1 : Int64))))), .second, .unset, .unset]) rfl (pc' := 24) rfl ?_
    refine own_new C X at_24 (hw _ (List.mem_of_getElem? (i := 0) rfl)) (hw _ (List.mem_of_getElem? (i := 1) rfl)) (hw _ (List.mem_of_getElem? (i := 2) rfl)) (Nat.le_of_ble_eq_true rfl) (Nat.le_of_ble_eq_true rfl) [("keyMask", "J", (.long (0 : Int64))), ("sorted", "[J", .null), ("indices", "[I", .null)] (by decide) ?_ (pc' := 27) rfl ?_
    · intro f hf; simp only [List.mem_cons, List.not_mem_nil, or_false] at hf
      rcases hf with rfl | rfl | rfl
      · exact ⟨(Or.inr (hw _ (List.mem_of_getElem? (i := 12) rfl))), .long, by decide, rfl⟩
      · exact ⟨(Or.inr (hw _ (List.mem_of_getElem? (i := 14) rfl))), (.array .long), by decide, rfl⟩
      · exact ⟨(Or.inr (hw _ (List.mem_of_getElem? (i := 16) rfl))), (.array .int), by decide, rfl⟩
    intro T h ob e_ob X K_ ge_ob O_ob
    refine own_dup C X at_27 rfl (pc' := 28) rfl ?_
    refine own_iconst C X at_28 (v := 0) (by decide) (pc' := 29) rfl ?_
    refine own_newJ C X at_29 (hw _ (List.mem_of_getElem? (i := 3) rfl)) (by decide) (k := 0) (cap := 0) (Nat.le_of_ble_eq_true rfl) (by decide) (Nat.le_of_ble_eq_true rfl) (Nat.le_of_ble_eq_true rfl) (pc' := 31) rfl ?_
    intro T h fa e_fa X K_ ge_fa A_fa_
    have ne_ob_fa : ob ≠ fa := by rw [e_fa]; exact Nat.ne_of_lt O_ob.lt
    have A_fa : own_JA Z h fa [] := A_fa_
    have O_ob := O_ob.keep K_ nin0
    refine own_lloadN C X at_31 rfl (pc' := 32) rfl ?_
    refine own_iconst C X at_32 (v := 0) (by decide) (pc' := 33) rfl ?_
    refine own_newI C X at_33 (ty := .int) rfl (hw _ (List.mem_of_getElem? (i := 4) rfl)) (by decide) (k := 0) (cap := 0) (Nat.le_of_ble_eq_true rfl) (by decide) (Nat.le_of_ble_eq_true rfl) (Nat.le_of_ble_eq_true rfl) rfl rfl (pc' := 35) rfl ?_
    intro T h oa e_oa X K_ ge_oa A_oa_
    have ne_ob_oa : ob ≠ oa := by rw [e_oa]; exact Nat.ne_of_lt O_ob.lt
    have ne_fa_oa : fa ≠ oa := by rw [e_oa]; exact Nat.ne_of_lt A_fa.lt
    have A_oa : own_IA Z h oa .int [] := A_oa_
    have O_ob := O_ob.keep K_ nin0
    have A_fa := A_fa.keep K_ nin0
    refine own_callInit C X at_35 (own_m_init l Z a0 hw ob fa q0 oa _ n0 (own_big C X) O_ob A_fa A_oa ne_ob_fa ne_ob_oa ge_ob) rfl (hw _ (List.mem_of_getElem? (i := 5) rfl)) (hw _ (List.mem_of_getElem? (i := 6) rfl)) (hw _ (List.mem_of_getElem? (i := 2) rfl)) (hw _ (List.mem_of_getElem? (i := 7) rfl)) (by decide) own_pd_6028 rfl rfl (Nat.le_of_ble_eq_true rfl) (Nat.le_of_ble_eq_true rfl) (Nat.le_of_ble_eq_true rfl) (Nat.le_of_ble_eq_true rfl) (av := [(.ref fa), (.long q0), (.ref oa)]) (S := [(.ref ob)]) rfl (pc' := 38) rfl ?_
    intro T h v X hQ
    obtain ⟨rfl, nb, K_, O_ob⟩ := hQ
    have A_fa := A_fa.keep K_ (ninS (Ne.symm ne_ob_fa) nin0)
    have A_oa := A_oa.keep K_ (ninS (Ne.symm ne_ob_oa) nin0)
    show own_Go p e below n0 (own_Fin room_1 s (fun v h => v = some (.int 1))) (T.setTop (mkF m 38 #[.val (.long q0), .second, .val (.long q1), .second, .val (.long q2), .second, .val (.int i3), .val (.long (q1 ^^^ (q2 &&& (q0 ^^^ (-1 : Int64))))), .second, .unset, .unset] [(.ref ob)]))
    refine own_astore C X at_38 rfl (L' := #[.val (.long q0), .second, .val (.long q1), .second, .val (.long q2), .second, .val (.int i3), .val (.long (q1 ^^^ (q2 &&& (q0 ^^^ (-1 : Int64))))), .second, .val (.ref ob), .unset]) rfl (pc' := 40) rfl ?_
    refine own_lloadN C X at_40 rfl (pc' := 41) rfl ?_
    refine own_lloadN C X at_41 rfl (pc' := 42) rfl ?_
    refine own_land C X at_42 rfl (pc' := 43) rfl ?_
    refine own_lload C X at_43 rfl (pc' := 45) rfl ?_
    refine own_lloadN C X at_45 rfl (pc' := 46) rfl ?_
    refine own_land C X at_46 rfl (pc' := 47) rfl ?_
    refine own_lcmp_ne C X at_47 at_48 (pcT := 55) (pc' := 51) (by decide) (by decide) rfl (fun hc47 => ?_) (fun hc47 => ?_)
    · refine own_iconst C X at_55 (v := 0) (by decide) (pc' := 56) rfl ?_
      refine own_istore C X at_56 (L' := #[.val (.long q0), .second, .val (.long q1), .second, .val (.long q2), .second, .val (.int i3), .val (.long (q1 ^^^ (q2 &&& (q0 ^^^ (-1 : Int64))))), .second, .val (.ref ob), .val (.int (0 : Int32))]) rfl (pc' := 58) rfl ?_
      refine own_aload C X at_58 rfl rfl (pc' := 60) rfl ?_
      refine own_lloadN C X at_60 rfl (pc' := 61) rfl ?_
      refine own_lload C X at_61 rfl (pc' := 63) rfl ?_
      refine own_lxor C X at_63 rfl (pc' := 64) rfl ?_
      refine own_callV C X at_64 (own_m_agr l Z a0 hw ob (q1 ^^^ (q1 ^^^ (q2 &&& (q0 ^^^ (-1 : Int64))))) _ n0 (own_big C X) q0 _ _ O_ob) O_ob.1 (hw _ (List.mem_of_getElem? (i := 17) rfl)) (hw _ (List.mem_of_getElem? (i := 18) rfl)) (hw _ (List.mem_of_getElem? (i := 20) rfl)) (hw _ (List.mem_of_getElem? (i := 19) rfl)) (hw _ (List.mem_of_getElem? (i := 2) rfl)) (hw _ (List.mem_of_getElem? (i := 21) rfl)) (by decide) own_pd_2141 rfl rfl (Nat.le_of_ble_eq_true rfl) (Nat.le_of_ble_eq_true rfl) (Nat.le_of_ble_eq_true rfl) (Nat.le_of_ble_eq_true rfl) (av := [(.long (q1 ^^^ (q1 ^^^ (q2 &&& (q0 ^^^ (-1 : Int64))))))]) (S := []) rfl (pc' := 67) rfl ?_
      intro T h v X hQ
      obtain ⟨rfl, rfl⟩ := hQ
      show own_Go p e below n0 (own_Fin room_1 s (fun v h => v = some (.int 1))) (T.setTop (mkF m 67 #[.val (.long q0), .second, .val (.long q1), .second, .val (.long q2), .second, .val (.int i3), .val (.long (q1 ^^^ (q2 &&& (q0 ^^^ (-1 : Int64))))), .second, .val (.ref ob), .val (.int (0 : Int32))] [(.int (own_ag (q1 ^^^ (q1 ^^^ (q2 &&& (q0 ^^^ (-1 : Int64))))) q0))]))
      refine own_iload C X at_67 rfl (pc' := 69) rfl ?_
      refine own_icmp_ne C X at_69 (pcT := 76) (pc' := 72) (by decide) (by decide) rfl (fun hc69 => absurd hc69 (not_not_intro (own_ag0 q1 (q1 ^^^ (q2 &&& (q0 ^^^ (-1 : Int64)))) q0 hc47))) (fun hc69 => ?_)
      refine own_iconst C X at_72 (v := 1) (by decide) (pc' := 73) rfl ?_
      refine own_goto C X at_73 (pc' := 77) (by decide) (by decide) ?_
      exact own_ireturn_z C X at_77 (Nat.le_of_ble_eq_true rfl) (Nat.le_of_ble_eq_true rfl) (rfl)
    · refine own_iconst C X at_51 (v := 1) (by decide) (pc' := 52) rfl ?_
      refine own_goto C X at_52 (pc' := 56) (by decide) (by decide) ?_
      refine own_istore C X at_56 (L' := #[.val (.long q0), .second, .val (.long q1), .second, .val (.long q2), .second, .val (.int i3), .val (.long (q1 ^^^ (q2 &&& (q0 ^^^ (-1 : Int64))))), .second, .val (.ref ob), .val (.int (1 : Int32))]) rfl (pc' := 58) rfl ?_
      refine own_aload C X at_58 rfl rfl (pc' := 60) rfl ?_
      refine own_lloadN C X at_60 rfl (pc' := 61) rfl ?_
      refine own_lload C X at_61 rfl (pc' := 63) rfl ?_
      refine own_lxor C X at_63 rfl (pc' := 64) rfl ?_
      refine own_callV C X at_64 (own_m_agr l Z a0 hw ob (q1 ^^^ (q1 ^^^ (q2 &&& (q0 ^^^ (-1 : Int64))))) _ n0 (own_big C X) q0 _ _ O_ob) O_ob.1 (hw _ (List.mem_of_getElem? (i := 17) rfl)) (hw _ (List.mem_of_getElem? (i := 18) rfl)) (hw _ (List.mem_of_getElem? (i := 20) rfl)) (hw _ (List.mem_of_getElem? (i := 19) rfl)) (hw _ (List.mem_of_getElem? (i := 2) rfl)) (hw _ (List.mem_of_getElem? (i := 21) rfl)) (by decide) own_pd_2141 rfl rfl (Nat.le_of_ble_eq_true rfl) (Nat.le_of_ble_eq_true rfl) (Nat.le_of_ble_eq_true rfl) (Nat.le_of_ble_eq_true rfl) (av := [(.long (q1 ^^^ (q1 ^^^ (q2 &&& (q0 ^^^ (-1 : Int64))))))]) (S := []) rfl (pc' := 67) rfl ?_
      intro T h v X hQ
      obtain ⟨rfl, rfl⟩ := hQ
      show own_Go p e below n0 (own_Fin room_1 s (fun v h => v = some (.int 1))) (T.setTop (mkF m 67 #[.val (.long q0), .second, .val (.long q1), .second, .val (.long q2), .second, .val (.int i3), .val (.long (q1 ^^^ (q2 &&& (q0 ^^^ (-1 : Int64))))), .second, .val (.ref ob), .val (.int (1 : Int32))] [(.int (own_ag (q1 ^^^ (q1 ^^^ (q2 &&& (q0 ^^^ (-1 : Int64))))) q0))]))
      refine own_iload C X at_67 rfl (pc' := 69) rfl ?_
      refine own_icmp_ne C X at_69 (pcT := 76) (pc' := 72) (by decide) (by decide) rfl (fun hc69 => absurd hc69 (not_not_intro (own_ag1 q1 (q1 ^^^ (q2 &&& (q0 ^^^ (-1 : Int64)))) q0 hc47))) (fun hc69 => ?_)
      refine own_iconst C X at_72 (v := 1) (by decide) (pc' := 73) rfl ?_
      refine own_goto C X at_73 (pc' := 77) (by decide) (by decide) ?_
      exact own_ireturn_z C X at_77 (Nat.le_of_ble_eq_true rfl) (Nat.le_of_ble_eq_true rfl) (rfl)
set_option maxRecDepth 65536 in
set_option maxHeartbeats 40000000 in
theorem own_comes {Post : Tables → Env → Array Value → State → Outcome → State → Prop} (hpost : ∀ tb e args s v u, (limb_1_1.after args s (.returned v) u = true ∧ limb_1_2.after args s (.returned v) u = true ∧ True) → FrameEnd s (.returned v) u (Jvm.fieldLocs frame_1_writes args s ++ Jvm.arrayLocs frame_1_arrays args s ++ Jvm.staticLocs frame_1_statics s) 16 128 → Post tb e args s (.returned v) u) :
    ArmFor flags0 classFile x code maxLocals ret World_1 tables_1 room_1 Calls_1 rest_1 Pre_1 Post := by
  intro l hfl _ _ p e ha hc hk s m args below hf hA hF happ hP
  obtain ⟨hcalls, hrest, hpre⟩ := hP
  obtain ⟨-, -, -, hnamed, -, -, -, hat⟩ := (Spec.applies_iff hf).mp happ
  obtain ⟨hg, hn⟩ := and_e (Cond.before_iff.mp (show (Jvm.Cond.and given_1 narrow_1).before args s = true from hpre))
  obtain ⟨gc, g0⟩ := and_e hg
  obtain ⟨k0, g1⟩ := and_e g0
  obtain ⟨k1, g2⟩ := and_e g1
  obtain ⟨k2, g3⟩ := and_e g2
  obtain ⟨w0, w1, w2, w3, rfl⟩ : ∃ w0 w1 w2 w3 : Value, args = #[w0, w1, w2, w3] := by
    have hs : args.size = 4 := by simpa [Cond.value, given_1] using gc
    obtain ⟨L⟩ := args
    match L, hs with
    | [w0, w1, w2, w3], _ => exact ⟨w0, w1, w2, w3, rfl⟩
  have hw := fun d (hd : d ∈ tables_1) => atoms_spec (ws := Jvm.Cond.code x code maxLocals ret :: tables_1) hat d (List.mem_cons_of_mem _ hd)
  obtain ⟨i0, ei0⟩ := isL_v k0
  obtain rfl : w0 = (.long i0) := Option.some.inj ei0
  obtain ⟨i1, ei1⟩ := isL_v k1
  obtain rfl : w1 = (.long i1) := Option.some.inj ei1
  obtain ⟨i2, ei2⟩ := isL_v k2
  obtain rfl : w2 = (.long i2) := Option.some.inj ei2
  obtain ⟨i3, ei3⟩ := is_v g3
  obtain rfl : w3 = (.int i3) := Option.some.inj ei3
  obtain ⟨n, o, h1, h2, h3, _, L, rfl, ⟨rfl, N⟩, hq⟩ := own_m_law l s _ hw tables_1 i0 i1 i2 i3 s.heap s.heap.size (Nat.le_refl _)  p e ha hc hk s m _ below hf ((Spec.applies_iff_loose hf).mp happ).1 ⟨rfl, State.Warmed39.refl s, rfl⟩ trivial
  refine ⟨n, _, h1, h2, h3, hpost _ _ _ _ _ _ ⟨Cond.after_iff.mpr rfl, Cond.after_iff.mpr (eq_i res_at (Term.int_eval (1)) rfl), trivial⟩ ⟨hq.1, hq.2.1, (hq.2.2.sift fun y hy => Or.inr (N y hy)).mono (by decide) (by decide)⟩⟩
theorem main_1_1 : Claimed_1_1 := own_comes fun _ _ _ _ _ _ h hF => ⟨h.1, hF⟩
theorem main_1_2 : Claimed_1_2 := own_comes fun _ _ _ _ _ _ h hF => ⟨h.2.1, hF⟩
end Jvm.Pilot.@@N@@
namespace Jvm.Pilot.@@N@@
open Jvm Jvm.ClassFile Sem Op Lib Jvm.Free Jvm.Stand Jvm.Pilot.@@N@@.Jvm.D
/-! MADE BY PROGRAM (witnessworld.py) out of the Statement's table words and the real class files: 11 classes; the members and pool entries that the words name. The judged class is class 1, her method 1. -/
namespace start1
open Jvm.ClassFile
def u (s : String) : CpInfo := .utf8 (stringToUtf16 s)
/-- a pool by its gaps: so many unusable entries, then the entry; so many at the end -/
def gap : Nat → List CpInfo → List CpInfo
  | 0, r => r
  | n + 1, r => .unusable :: gap n r
def poolList (es : List (Nat × CpInfo)) (last : Nat) : List CpInfo := es.foldr (fun e r => gap e.1 (e.2 :: r)) (gap last [])
def pool (es : List (Nat × CpInfo)) (last : Nat) : Array CpInfo := ⟨poolList es last⟩
def fileOf (pool : Array CpInfo) (this : Nat) (attrs : Array Attribute := #[]) (ms : Array MethodInfo := #[]) (fl : Nat := 33) (sup : Nat := 0) (ifs : Array Nat := #[]) (fds : Array FieldInfo := #[]) : ClassFile where
  minorVersion := 0
  majorVersion := 65
  constantPool := pool
  accessFlags := fl
  thisClass := this
  superClass := sup
  interfaces := ifs
  fields := fds
  methods := ms
  attributes := attrs
def plain (name : String) (sup : Option ClassId) : Class where
  name := name
  kind := .ordinary
  loader := none
  accessFlags := 33
  super := sup
  interfaces := #[]
  cf := none
  fields := #[]
  methods := #[]
  instanceTypes := #[]
  staticTypes := #[]
  resolved := #[]
  callSites := []
  init := .initialized
  statics := none
  mirror := none

def pool0 : Array CpInfo := pool [(5, u "<init>"), (0, u "()V"), (1, .class_ 10), (1, u "java/lang/Object")] 113

def k0c0 : Code := { maxStack := 0, maxLocals := 1, code := object_method_1_code, exceptionTable := #[], attributes := #[] }
def k0m0 : Method := { name := "<init>", desc := "()V", sig := { parameters := [], returnType := none }, accessFlags := 1, code := some k0c0 }
/-- java/lang/Object -/
def k0 : Class := { plain "java/lang/Object" none with
  accessFlags := 33
  interfaces := #[]
  cf := some (fileOf pool0 8 #[] #[{ accessFlags := 1, nameIndex := 5, descriptorIndex := 6, attributes := #[] }] 33 0 #[] #[])
  fields := #[]
  methods := #[k0m0]
  instanceTypes := #[]
  staticTypes := #[]
  resolved := Array.replicate 124 none
  statics := none }

def pool1 : Array CpInfo := pool [(2, .class_ 4), (1, u "java/lang/Object"), (0, u "<init>"), (0, u "()V"), (0, .long 18446744073709551615), (1, .class_ 10), (0, u "com/example/twin64/twin64/search/BlockTable"), (0, .methodref 9 12), (0, .nameAndType 5 13), (0, u "([JJ[I)V"), (0, .methodref 9 15), (0, .nameAndType 16 17), (0, u "agreesOn"), (0, u "(J)Z"), (0, .class_ 19), (0, u "com/example/twin64/twin64/search/BlockTableAgreesOnPinLaw"), (2, u "law"), (0, u "(JJJI)Z")] 3

def k1m0 : Method := { name := "<init>", desc := "()V", sig := { parameters := [], returnType := none }, accessFlags := 1, code := none }
def k1c1 : Code := { maxStack := 8, maxLocals := 11, code := code, exceptionTable := #[], attributes := #[] }
def k1m1 : Method := { name := "law", desc := "(JJJI)Z", sig := { parameters := [.long, .long, .long, .int], returnType := some .boolean }, accessFlags := 9, code := some k1c1 }
/-- com/example/twin64/twin64/search/BlockTableAgreesOnPinLaw -/
def k1 : Class := { plain "com/example/twin64/twin64/search/BlockTableAgreesOnPinLaw" (some 0) with
  accessFlags := 49
  interfaces := #[]
  cf := some (fileOf pool1 18 #[] #[{ accessFlags := 1, nameIndex := 5, descriptorIndex := 6, attributes := #[] }, { accessFlags := 9, nameIndex := 22, descriptorIndex := 23, attributes := #[] }] 49 2 #[] #[])
  fields := #[]
  methods := #[k1m0, k1m1]
  instanceTypes := #[]
  staticTypes := #[]
  resolved := Array.replicate 27 none
  statics := none }

def pool2 : Array CpInfo := pool [(1, .class_ 2), (0, u "com/example/twin64/twin64/search/BlockTable$Room"), (2, u "<init>"), (2, .class_ 10), (1, u "com/example/twin64/twin64/search/BlockTable"), (1, .methodref 13 14), (0, .class_ 15), (0, .nameAndType 5 16), (0, u "java/lang/Object"), (0, u "()V"), (0, .fieldref 8 18), (0, .nameAndType 19 20), (0, u "keyMask"), (0, u "J"), (0, .class_ 22), (0, u "com/example/twin64/twin64/search/BlockTable$KeyBits"), (12, u "[J"), (9, u "[I"), (14, .fieldref 8 61), (0, .nameAndType 62 35), (0, u "sorted"), (0, .fieldref 8 64), (0, .nameAndType 65 45), (0, u "indices"), (19, u "MAX_DIGIT_BITS"), (0, u "I"), (7, u "([JJ[I)V"), (8, u "agreesOn"), (0, u "(J)Z")] 20

def k2c0 : Code := { maxStack := 4, maxLocals := 8, code := prog_33_method_3_code, exceptionTable := #[], attributes := #[] }
def k2m0 : Method := { name := "<init>", desc := "([JJ[I)V", sig := { parameters := [(.array .long), .long, (.array .int)], returnType := none }, accessFlags := 0, code := some k2c0 }
def k2c1 : Code := { maxStack := 4, maxLocals := 3, code := prog_33_method_9_code, exceptionTable := #[], attributes := #[] }
def k2m1 : Method := { name := "agreesOn", desc := "(J)Z", sig := { parameters := [.long], returnType := some .boolean }, accessFlags := 0, code := some k2c1 }
/-- com/example/twin64/twin64/search/BlockTable -/
def k2 : Class := { plain "com/example/twin64/twin64/search/BlockTable" (some 0) with
  accessFlags := 32
  interfaces := #[]
  cf := some (fileOf pool2 8 #[.nestMembers #[21, 1]] #[{ accessFlags := 0, nameIndex := 5, descriptorIndex := 94, attributes := #[] }, { accessFlags := 0, nameIndex := 103, descriptorIndex := 104, attributes := #[] }] 32 13 #[] #[{ accessFlags := 26, nameIndex := 85, descriptorIndex := 86, attributes := #[] }, { accessFlags := 18, nameIndex := 19, descriptorIndex := 20, attributes := #[] }, { accessFlags := 18, nameIndex := 62, descriptorIndex := 35, attributes := #[] }, { accessFlags := 18, nameIndex := 65, descriptorIndex := 45, attributes := #[] }])
  fields := #[{ name := "MAX_DIGIT_BITS", type := .int, accessFlags := 26, slot := 0, constantValue := 0 }, { name := "keyMask", type := .long, accessFlags := 18, slot := 0, constantValue := 0 }, { name := "sorted", type := (.array .long), accessFlags := 18, slot := 1, constantValue := 0 }, { name := "indices", type := (.array .int), accessFlags := 18, slot := 2, constantValue := 0 }]
  methods := #[k2m0, k2m1]
  instanceTypes := #[.long, (.array .long), (.array .int)]
  staticTypes := #[.int]
  resolved := Array.replicate 125 none
  statics := none }

def pool3 : Array CpInfo := pool [(1, u "java/lang/Cloneable"), (0, .class_ 1), (0, u "java/lang/Object"), (0, .class_ 3)] 3

/-- java/lang/Cloneable -/
def k3 : Class := { plain "java/lang/Cloneable" (some 0) with
  accessFlags := 1537
  interfaces := #[]
  cf := some (fileOf pool3 2 #[] #[] 1537 4 #[] #[])
  fields := #[]
  methods := #[]
  instanceTypes := #[]
  staticTypes := #[]
  resolved := Array.replicate 8 none
  statics := none }

def pool4 : Array CpInfo := pool [(1, u "java/io/Serializable"), (0, .class_ 1), (0, u "java/lang/Object"), (0, .class_ 3)] 3

/-- java/io/Serializable -/
def k4 : Class := { plain "java/io/Serializable" (some 0) with
  accessFlags := 1537
  interfaces := #[]
  cf := some (fileOf pool4 2 #[] #[] 1537 4 #[] #[])
  fields := #[]
  methods := #[]
  instanceTypes := #[]
  staticTypes := #[]
  resolved := Array.replicate 8 none
  statics := none }

/-- the primitive byte -/
def k5 : Class := { plain "byte" none with kind := .primitive 'B', accessFlags := 0x411 }
/-- [B -/
def k6 : Class := { plain "[B" (some 0) with kind := .array 5 .byte, interfaces := #[3, 4], accessFlags := 1041 }

/-- the primitive int -/
def k7 : Class := { plain "int" none with kind := .primitive 'I', accessFlags := 0x411 }
/-- [I -/
def k8 : Class := { plain "[I" (some 0) with kind := .array 7 .int, interfaces := #[3, 4], accessFlags := 1041 }

/-- the primitive long -/
def k9 : Class := { plain "long" none with kind := .primitive 'J', accessFlags := 0x411 }
/-- [J -/
def k10 : Class := { plain "[J" (some 0) with kind := .array 9 .long, interfaces := #[3, 4], accessFlags := 1041 }

def heap : Heap := #[]
def classes : Array Class := #[k0, k1, k2, k3, k4, k5, k6, k7, k8, k9, k10]
def interned : List (Array UInt16 × Addr) := []
def slotsUsed : Nat := 0
def theMethod : MethodId := ⟨1, 1⟩
def args0 : Array Value := #[.long 5, .long 6, .long 7, .int 8]
def aboutOver (below : List Frame) : State where
  vm := { classes := classes, interned := interned.toArray }
  heap := heap
  slotsUsed := slotsUsed
  threads := #[{ frames := .invoking theMethod args0 :: below }]
def below0 : List Frame := [.native { method := ⟨0, 0⟩, args := #[] }]
def about1 : State := aboutOver below0
def p0 : Program := .bare "" "" ""
def e0 : Env := launch0.env 0 0 0
theorem w_frames : about1.frames = Frame.invoking theMethod args0 :: below0 := rfl
set_option maxRecDepth 65536 in
theorem w_args : argsFit about1.vm theMethod args0 = true := by decide +kernel
set_option maxRecDepth 65536 in
theorem w_heap : heapFits about1 = true := by decide +kernel
set_option maxRecDepth 65536 in
theorem w_runnable : about1.curStatus? = some .runnable := by decide +kernel
set_option maxRecDepth 65536 in
theorem w_alone : about1.alone = true := by decide +kernel
set_option maxRecDepth 65536 in
theorem w_named : about1.methodNamed? x = some theMethod := by decide +kernel
set_option maxRecDepth 65536 in
theorem w_hears : about1.hears theMethod below0 = true := by decide +kernel
set_option maxRecDepth 65536 in
theorem w_ripe : about1.ripe theMethod args0 below0 = true := by decide +kernel
theorem w_running : about1.status = .running := rfl
set_option maxRecDepth 65536 in
theorem w_room : about1.hasRoom e0.platform room_1 = true :=
  launch0.hasRoom_least _ room_1 (by decide +kernel) (by decide +kernel) (by decide +kernel) (by decide +kernel) (by decide +kernel) (by decide +kernel)
theorem allAtoms_all (ts : List Jvm.Cond) (a : Array Jvm.Value) (st : Jvm.State) : (allAtoms ts).before a st = ts.all (fun c => c.before a st) := by
  induction ts with
  | nil => rfl
  | cons c t ih =>
    show (Jvm.Cond.and c (allAtoms t)).before a st = _
    rw [Jvm.Cond.before_and, ih, List.all_cons]
def words1 : List Jvm.Cond := Jvm.Cond.code x code maxLocals ret :: tables_1
/-- a 'code' word, met by the world's own term for the bytes: nothing is compared byte by byte -/
theorem code_word {y : MethodName} {bytes : ByteArray} {mx : Nat} {rt : Option FieldType} {a : Array Value} {s : State} {m : MethodId} {meth : Method} {c : Code} (h1 : s.methodNamed? y = some m) (h2 : s.vm.method? m = some meth) (h3 : meth.code = some c) (h4 : c.code = bytes)
    (h5 : (c.maxLocals == mx && c.exceptionTable.isEmpty && decide (c.maxStack ≤ mostOperands) && decide (meth.sig.returnType = rt) && !meth.locks && decide (parseMethodDescriptor y.desc = some meth.sig)) = true) : (Jvm.Cond.code y bytes mx rt).before a s = true := by
  simp only [Bool.and_eq_true, beq_iff_eq, Bool.not_eq_true', decide_eq_true_eq] at h5
  obtain ⟨⟨⟨⟨⟨g1, g2⟩, g3⟩, g4⟩, g5⟩, g6⟩ := h5
  simp [Cond.before, Cond.holds, Cond.value, h1, h2, h3, h4, g1, g2, g3, g4, g5, g6]
def isCode : Jvm.Cond → Bool
  | .code _ _ _ _ => true
  | _ => false
theorem all_split {L : List Jvm.Cond} {P : Jvm.Cond → Bool} (h1 : L.all (fun c => isCode c || P c) = true) (h2 : ∀ c ∈ L.filter isCode, P c = true) : L.all P = true := by
  refine List.all_eq_true.mpr fun c hc => ?_
  have h := List.all_eq_true.mp h1 c hc
  rcases Bool.eq_false_or_eq_true (isCode c) with hi | hi
  · exact h2 c (List.mem_filter.mpr ⟨hc, hi⟩)
  · simpa [hi] using h
set_option maxRecDepth 65536 in
theorem w_c0 : (Jvm.Cond.code x code maxLocals ret).before args0 about1 = true := code_word (m := ⟨1, 1⟩) (meth := k1m1) (c := k1c1) (by decide +kernel) rfl rfl rfl (by decide +kernel)
set_option maxRecDepth 65536 in
theorem w_c1 : (Jvm.Cond.code ({ cls := "com/example/twin64/twin64/search/BlockTable", name := "<init>", desc := "([JJ[I)V" } : Jvm.MethodName) prog_33_method_3_code (8 : Nat) (Option.none : Option Jvm.ClassFile.FieldType)).before args0 about1 = true := code_word (m := ⟨2, 0⟩) (meth := k2m0) (c := k2c0) (by decide +kernel) rfl rfl rfl (by decide +kernel)
set_option maxRecDepth 65536 in
theorem w_c2 : (Jvm.Cond.code ({ cls := "java/lang/Object", name := "<init>", desc := "()V" } : Jvm.MethodName) object_method_1_code (1 : Nat) (Option.none : Option Jvm.ClassFile.FieldType)).before args0 about1 = true := code_word (m := ⟨0, 0⟩) (meth := k0m0) (c := k0c0) (by decide +kernel) rfl rfl rfl (by decide +kernel)
set_option maxRecDepth 65536 in
theorem w_c3 : (Jvm.Cond.code ({ cls := "com/example/twin64/twin64/search/BlockTable", name := "agreesOn", desc := "(J)Z" } : Jvm.MethodName) prog_33_method_9_code (3 : Nat) (Option.some Jvm.ClassFile.FieldType.boolean)).before args0 about1 = true := code_word (m := ⟨2, 1⟩) (meth := k2m1) (c := k2c1) (by decide +kernel) rfl rfl rfl (by decide +kernel)
def codes1 : List Jvm.Cond := [Jvm.Cond.code x code maxLocals ret, Jvm.Cond.code ({ cls := "com/example/twin64/twin64/search/BlockTable", name := "<init>", desc := "([JJ[I)V" } : Jvm.MethodName) prog_33_method_3_code (8 : Nat) (Option.none : Option Jvm.ClassFile.FieldType), Jvm.Cond.code ({ cls := "java/lang/Object", name := "<init>", desc := "()V" } : Jvm.MethodName) object_method_1_code (1 : Nat) (Option.none : Option Jvm.ClassFile.FieldType), Jvm.Cond.code ({ cls := "com/example/twin64/twin64/search/BlockTable", name := "agreesOn", desc := "(J)Z" } : Jvm.MethodName) prog_33_method_9_code (3 : Nat) (Option.some Jvm.ClassFile.FieldType.boolean)]
set_option maxRecDepth 65536 in
theorem codes_eq : words1.filter isCode = codes1 := rfl
theorem w_codes : ∀ c ∈ words1.filter isCode, c.before args0 about1 = true := by
  rw [codes_eq]
  intro c hc
  simp only [codes1, List.mem_cons, List.not_mem_nil, or_false] at hc
  rcases hc with rfl | rfl | rfl | rfl
  · exact w_c0
  · exact w_c1
  · exact w_c2
  · exact w_c3
set_option maxRecDepth 65536 in
theorem w_t1 : words1.all (fun c => isCode c || c.before args0 about1) = true := by decide +kernel
theorem w_tables : (allAtoms (Jvm.Cond.code x code maxLocals ret :: tables_1)).before args0 about1 = true := by
  rw [allAtoms_all]
  show words1.all (fun c => c.before args0 about1) = true
  refine all_split ?_ w_codes
  rw [w_t1]
set_option maxRecDepth 65536 in
theorem w_case : (Jvm.Cond.and given_1 narrow_1).before args0 about1 = true := by decide +kernel
theorem w_applies : (headSpec (Jvm.Cond.code x code maxLocals ret :: tables_1) room_1).applies x e0.platform about1 = true :=
  (Spec.applies_iff w_frames).mpr ⟨w_running, w_runnable, w_alone, w_named, w_hears, w_ripe, w_room, w_tables⟩
theorem atStart : AtStart classFile x code maxLocals ret World_1 tables_1 room_1 Calls_1 rest_1 Pre_1 launch0 p0 e0 about1 theMethod args0 below0 :=
  ⟨lists_1, trivial, launch0.admits_env _ _ _, launch0.least_env, fairChoices_fair.cas, fairChoices_fair.clock, w_frames, w_args, w_heap, w_applies, trivial, trivial, w_case⟩
end start1
theorem witness_1 : WitnessClaimed_1 := ⟨start1.p0, start1.e0, start1.about1, start1.theMethod, start1.args0, start1.below0, start1.atStart⟩
end Jvm.Pilot.@@N@@

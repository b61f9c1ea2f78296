import JvmDerived
import JvmDerived.Pilot.@@N@@Statement
import JvmDerived.Pilot.@@N@@Code
set_option linter.unusedVariables false
set_option linter.unusedSimpArgs false
namespace Jvm.Pilot.@@N@@
open Jvm Jvm.ClassFile Sem Op Lib Jvm.Free Jvm.Stand Jvm.LawKit Jvm.RoadKit Bundle Jvm.Pilot.@@N@@.Jvm.D
section OwnKit
def own_Cx (p : Program) (s : State) (m : MethodId) (meth : Method) (c : Code) (Z : State) (n0 : Nat) (own nm : String) (bytes : ByteArray) (ml : Nat) (ret : Option FieldType) : Prop :=
  p.tables.exec = Jvm.exec ∧ c.code = bytes ∧ c.maxLocals = ml ∧ s.vm.findClass own = some m.cls ∧ meth.name = nm ∧ meth.sig.returnType = ret ∧ meth.locks = false ∧ Z.Warmed39 s.vm ∧ n0 ≤ s.heap.size
def own_St (p : Program) (l : Launch) (e : Env) (R : Room) (s : State) (m : MethodId) (args : Array Value) (below : List Frame) (meth : Method) (c : Code) (n0 : Nat) (T : State) (h : Heap) (cells slots : Nat) : Prop :=
  ∃ locs, Stand p l e R s m args below meth c T locs cells slots ∧ Fr n0 locs ∧ T.heap = h
def own_Go (p : Program) (e : Env) (below : List Frame) (n0 : Nat) (F : Option Value → State → List Loc → Prop) (S : State) : Prop :=
  ∃ t v L, Steps p.tables e below S t ∧ t.status = .running ∧ Ended t below (.returned v) ∧ Fr n0 L ∧ F v t L
def own_Fin (R : Room) (s : State) (Q : Option Value → Heap → Prop) : Option Value → State → List Loc → Prop := fun v t L => Q v t.heap ∧ FrameEnd s (.returned v) t L R.cells R.slots
abbrev own_Met (l : Launch) (Z : State) (n0 : Nat) (y : MethodName) (bytes : ByteArray) (ml : Nat) (ret : Option FieldType) (ws : List Jvm.Cond) (rm : Room) (as' : Array Value) (h0 : Heap) (Q : Option Value → Heap → Prop) : Prop :=
  MetFree l y (head1 (Jvm.Cond.code y bytes ml ret :: ws) rm) (fun a U => a = as' ∧ Z.Warmed39 U.vm ∧ U.heap = h0) (fun _ _ _ _ _ => True) (fun _ U o U' => ∃ v L, o = .returned v ∧ (Q v U'.heap ∧ Fr n0 L) ∧ FrameEnd U o U' L rm.cells rm.slots)
variable {p : Program} {l : Launch} {e : Env} {R : Room} {s : State} {m : MethodId} {args : Array Value} {below : List Frame} {meth : Method} {c : Code} {T : State} {cells slots : Nat} {Z : State} {a0 : Array Value} {h h' : Heap} {n0 : Nat} {own nm : String} {bytes : ByteArray} {ml : Nat} {ret : Option FieldType} {Q : Option Value → Heap → Prop} {F : Option Value → State → List Loc → Prop} {pc pc' pcT : Nat} {L L' : Array Slot} {S : List Value}
theorem own_st {A B : State} (k : ∀ t, Steps p.tables e below B t → Steps p.tables e below A t) (g : own_Go p e below n0 F B) : own_Go p e below n0 F A := by
  obtain ⟨t, v, L, h1, r⟩ := g; exact ⟨t, v, L, k t h1, r⟩
theorem own_big (C : own_Cx p s m meth c Z n0 own nm bytes ml ret) (X : own_St p l e R s m args below meth c n0 T h cells slots) : n0 ≤ h.size := by
  obtain ⟨locs, X, -, rfl⟩ := X; exact Nat.le_trans C.2.2.2.2.2.2.2.2 X.same.2.1
/-- a body's contract out of its run -/
theorem own_body {y : MethodName} {ws : List Jvm.Cond} {rm : Room} {as' : Array Value} {h0 : Heap} {Ls : Array Slot} (hpl : plainFor y = true) (hn : n0 ≤ h0.size) (hef : ∀ m, entryFrame m as' ml = mkF m 0 Ls [])
    (run : ∀ p e s m below meth c T, own_Cx p s m meth c Z n0 y.cls y.name bytes ml ret → own_St p l e rm s m as' below meth c n0 T h0 0 0 → own_Go p e below n0 (own_Fin rm s Q) (T.setTop (mkF m 0 Ls []))) :
    own_Met l Z n0 y bytes ml ret ws rm as' h0 Q := by
  refine MetFree.of_bodySF hpl hisR ?_
  intro p e s m args below meth c s₁ Bd hml0 hP hK
  obtain ⟨rfl, hZ, hh⟩ := hP
  have X0 : Stand p l e rm s m args below meth c s₁ [] 0 0 := Stand.of_body Bd
  have e0 : s₁.heap = h0 := by rw [← hh, Bd.state]; rfl
  obtain ⟨t, v, L, g1, g2, g3, g5, g4, g6⟩ := run p e s m below meth c s₁ ⟨Bd.exec, Bd.bytes, hml0, findClass_of_methodNamed Bd.named, (name_of_methodNamed Bd.named Bd.method).1, Bd.returns, Bd.notSynchronized, hZ, by rw [hh]; exact hn⟩ ⟨[], X0, Fr.nil n0, e0⟩
  exact ⟨t, .returned v, castTop (hef m) g1, g2, g3, v, L, rfl, ⟨g4, g5⟩, g6⟩

theorem own_iload (C : own_Cx p s m meth c Z n0 own nm bytes ml ret) (X : own_St p l e R s m args below meth c n0 T h cells slots) {k : Nat} {v : Int32} (hd : decode bytes pc = .ok (.iload k, 2)) (hl : L[k]? = some (.val (.int v))) (hp : pc + 2 = pc') (g : own_Go p e below n0 F (T.setTop (mkF m pc' L (.int v :: S)))) : own_Go p e below n0 F (T.setTop (mkF m pc L (S))) := by
  obtain ⟨locs, X, -, -⟩ := X; subst hp
  exact own_st (fun t k => XS.iload X.here C.1 rfl (hb C.2.1 hd) hl k) g
theorem own_iloadN (C : own_Cx p s m meth c Z n0 own nm bytes ml ret) (X : own_St p l e R s m args below meth c n0 T h cells slots) {k : Fin 4} {v : Int32} (hd : decode bytes pc = .ok (.iload_n k, 1)) (hl : L[k.val]? = some (.val (.int v))) (hp : pc + 1 = pc') (g : own_Go p e below n0 F (T.setTop (mkF m pc' L (.int v :: S)))) : own_Go p e below n0 F (T.setTop (mkF m pc L (S))) := by
  obtain ⟨locs, X, -, -⟩ := X; subst hp
  exact own_st (fun t k => XS.iloadN X.here C.1 rfl (hb C.2.1 hd) hl k) g
theorem own_istore (C : own_Cx p s m meth c Z n0 own nm bytes ml ret) (X : own_St p l e R s m args below meth c n0 T h cells slots) {k : Nat} {v : Int32} (hd : decode bytes pc = .ok (.istore k, 2)) (hl : storeLocals L k (.int v) = some L') (hp : pc + 2 = pc') (g : own_Go p e below n0 F (T.setTop (mkF m pc' L' (S)))) : own_Go p e below n0 F (T.setTop (mkF m pc L (.int v :: S))) := by
  obtain ⟨locs, X, -, -⟩ := X; subst hp
  exact own_st (fun t k => XS.istore X.here C.1 rfl (hb C.2.1 hd) rfl hl k) g
theorem own_istoreN (C : own_Cx p s m meth c Z n0 own nm bytes ml ret) (X : own_St p l e R s m args below meth c n0 T h cells slots) {k : Fin 4} {v : Int32} (hd : decode bytes pc = .ok (.istore_n k, 1)) (hl : storeLocals L k.val (.int v) = some L') (hp : pc + 1 = pc') (g : own_Go p e below n0 F (T.setTop (mkF m pc' L' (S)))) : own_Go p e below n0 F (T.setTop (mkF m pc L (.int v :: S))) := by
  obtain ⟨locs, X, -, -⟩ := X; subst hp
  exact own_st (fun t k => XS.istoreN X.here C.1 rfl (hb C.2.1 hd) rfl hl k) g
theorem own_lload (C : own_Cx p s m meth c Z n0 own nm bytes ml ret) (X : own_St p l e R s m args below meth c n0 T h cells slots) {k : Nat} {v : Int64} (hd : decode bytes pc = .ok (.lload k, 2)) (hl : L[k]? = some (.val (.long v))) (hp : pc + 2 = pc') (g : own_Go p e below n0 F (T.setTop (mkF m pc' L (.long v :: S)))) : own_Go p e below n0 F (T.setTop (mkF m pc L (S))) := by
  obtain ⟨locs, X, -, -⟩ := X; subst hp
  exact own_st (fun t k => XS.lload X.here C.1 rfl (hb C.2.1 hd) hl k) g
theorem own_lloadN (C : own_Cx p s m meth c Z n0 own nm bytes ml ret) (X : own_St p l e R s m args below meth c n0 T h cells slots) {k : Fin 4} {v : Int64} (hd : decode bytes pc = .ok (.lload_n k, 1)) (hl : L[k.val]? = some (.val (.long v))) (hp : pc + 1 = pc') (g : own_Go p e below n0 F (T.setTop (mkF m pc' L (.long v :: S)))) : own_Go p e below n0 F (T.setTop (mkF m pc L (S))) := by
  obtain ⟨locs, X, -, -⟩ := X; subst hp
  exact own_st (fun t k => XS.lloadN X.here C.1 rfl (hb C.2.1 hd) hl k) g
theorem own_lstore (C : own_Cx p s m meth c Z n0 own nm bytes ml ret) (X : own_St p l e R s m args below meth c n0 T h cells slots) {k : Nat} {v : Int64} (hd : decode bytes pc = .ok (.lstore k, 2)) (hl : storeLocals L k (.long v) = some L') (hp : pc + 2 = pc') (g : own_Go p e below n0 F (T.setTop (mkF m pc' L' (S)))) : own_Go p e below n0 F (T.setTop (mkF m pc L (.long v :: S))) := by
  obtain ⟨locs, X, -, -⟩ := X; subst hp
  exact own_st (fun t k => XS.lstore X.here C.1 rfl (hb C.2.1 hd) rfl hl k) g
theorem own_lstoreN (C : own_Cx p s m meth c Z n0 own nm bytes ml ret) (X : own_St p l e R s m args below meth c n0 T h cells slots) {k : Fin 4} {v : Int64} (hd : decode bytes pc = .ok (.lstore_n k, 1)) (hl : storeLocals L k.val (.long v) = some L') (hp : pc + 1 = pc') (g : own_Go p e below n0 F (T.setTop (mkF m pc' L' (S)))) : own_Go p e below n0 F (T.setTop (mkF m pc L (.long v :: S))) := by
  obtain ⟨locs, X, -, -⟩ := X; subst hp
  exact own_st (fun t k => XS.lstoreN X.here C.1 rfl (hb C.2.1 hd) rfl hl k) g
theorem own_aload (C : own_Cx p s m meth c Z n0 own nm bytes ml ret) (X : own_St p l e R s m args below meth c n0 T h cells slots) {k : Nat} {v : Value} (hd : decode bytes pc = .ok (.aload k, 2)) (hl : L[k]? = some (.val v)) (hv : v.isRef = true) (hp : pc + 2 = pc') (g : own_Go p e below n0 F (T.setTop (mkF m pc' L (v :: S)))) : own_Go p e below n0 F (T.setTop (mkF m pc L (S))) := by
  obtain ⟨locs, X, -, -⟩ := X; subst hp
  exact own_st (fun t k => XS.aload X.here C.1 rfl (hb C.2.1 hd) hl hv k) g
theorem own_aloadN (C : own_Cx p s m meth c Z n0 own nm bytes ml ret) (X : own_St p l e R s m args below meth c n0 T h cells slots) {k : Fin 4} {v : Value} (hd : decode bytes pc = .ok (.aload_n k, 1)) (hl : L[k.val]? = some (.val v)) (hv : v.isRef = true) (hp : pc + 1 = pc') (g : own_Go p e below n0 F (T.setTop (mkF m pc' L (v :: S)))) : own_Go p e below n0 F (T.setTop (mkF m pc L (S))) := by
  obtain ⟨locs, X, -, -⟩ := X; subst hp
  exact own_st (fun t k => XS.aloadN X.here C.1 rfl (hb C.2.1 hd) hl hv k) g
theorem own_astore (C : own_Cx p s m meth c Z n0 own nm bytes ml ret) (X : own_St p l e R s m args below meth c n0 T h cells slots) {k : Nat} {v : Value} (hd : decode bytes pc = .ok (.astore k, 2)) (hv : v.isRef = true) (hl : storeLocals L k v = some L') (hp : pc + 2 = pc') (g : own_Go p e below n0 F (T.setTop (mkF m pc' L' (S)))) : own_Go p e below n0 F (T.setTop (mkF m pc L (v :: S))) := by
  obtain ⟨locs, X, -, -⟩ := X; subst hp
  exact own_st (fun t k => XS.astore X.here C.1 rfl (hb C.2.1 hd) rfl hv hl k) g
theorem own_astoreN (C : own_Cx p s m meth c Z n0 own nm bytes ml ret) (X : own_St p l e R s m args below meth c n0 T h cells slots) {k : Fin 4} {v : Value} (hd : decode bytes pc = .ok (.astore_n k, 1)) (hv : v.isRef = true) (hl : storeLocals L k.val v = some L') (hp : pc + 1 = pc') (g : own_Go p e below n0 F (T.setTop (mkF m pc' L' (S)))) : own_Go p e below n0 F (T.setTop (mkF m pc L (v :: S))) := by
  obtain ⟨locs, X, -, -⟩ := X; subst hp
  exact own_st (fun t k => XS.astoreN X.here C.1 rfl (hb C.2.1 hd) rfl hv hl k) g
theorem own_iconst (C : own_Cx p s m meth c Z n0 own nm bytes ml ret) (X : own_St p l e R s m args below meth c n0 T h cells slots) {i : Int} {v : Int32} (hd : decode bytes pc = .ok (.iconst i, 1)) (hv : Int32.ofInt i = v) (hp : pc + 1 = pc') (g : own_Go p e below n0 F (T.setTop (mkF m pc' L (.int v :: S)))) : own_Go p e below n0 F (T.setTop (mkF m pc L (S))) := by
  obtain ⟨locs, X, -, -⟩ := X; subst hp hv
  exact own_st (fun t k => XS.iconst X.here C.1 rfl (hb C.2.1 hd) k) g
theorem own_bipush (C : own_Cx p s m meth c Z n0 own nm bytes ml ret) (X : own_St p l e R s m args below meth c n0 T h cells slots) {i : Int} {v : Int32} (hd : decode bytes pc = .ok (.bipush i, 2)) (hv : (Int8.ofInt i).toInt32 = v) (hp : pc + 2 = pc') (g : own_Go p e below n0 F (T.setTop (mkF m pc' L (.int v :: S)))) : own_Go p e below n0 F (T.setTop (mkF m pc L (S))) := by
  obtain ⟨locs, X, -, -⟩ := X; subst hp hv
  exact own_st (fun t k => XS.bipush X.here C.1 rfl (hb C.2.1 hd) k) g
theorem own_sipush (C : own_Cx p s m meth c Z n0 own nm bytes ml ret) (X : own_St p l e R s m args below meth c n0 T h cells slots) {i : Int} {v : Int32} (hd : decode bytes pc = .ok (.sipush i, 3)) (hv : (Int16.ofInt i).toInt32 = v) (hp : pc + 3 = pc') (g : own_Go p e below n0 F (T.setTop (mkF m pc' L (.int v :: S)))) : own_Go p e below n0 F (T.setTop (mkF m pc L (S))) := by
  obtain ⟨locs, X, -, -⟩ := X; subst hp hv
  exact own_st (fun t k => XS.sipush X.here C.1 rfl (hb C.2.1 hd) k) g
theorem own_lconst (C : own_Cx p s m meth c Z n0 own nm bytes ml ret) (X : own_St p l e R s m args below meth c n0 T h cells slots) {i : Fin 2} {v : Int64} (hd : decode bytes pc = .ok (.lconst i, 1)) (hv : Int64.ofNat i = v) (hp : pc + 1 = pc') (g : own_Go p e below n0 F (T.setTop (mkF m pc' L (.long v :: S)))) : own_Go p e below n0 F (T.setTop (mkF m pc L (S))) := by
  obtain ⟨locs, X, -, -⟩ := X; subst hp hv
  exact own_st (fun t k => XS.lconst X.here C.1 rfl (hb C.2.1 hd) k) g
theorem own_aconst_null (C : own_Cx p s m meth c Z n0 own nm bytes ml ret) (X : own_St p l e R s m args below meth c n0 T h cells slots)  (hd : decode bytes pc = .ok (.aconst_null, 1))  (hp : pc + 1 = pc') (g : own_Go p e below n0 F (T.setTop (mkF m pc' L (.null :: S)))) : own_Go p e below n0 F (T.setTop (mkF m pc L (S))) := by
  obtain ⟨locs, X, -, -⟩ := X; subst hp
  exact own_st (fun t k => XS.aconstNull X.here C.1 rfl (hb C.2.1 hd) k) g
theorem own_iadd (C : own_Cx p s m meth c Z n0 own nm bytes ml ret) (X : own_St p l e R s m args below meth c n0 T h cells slots) {x y z : Int32} (hd : decode bytes pc = .ok (.iadd, 1)) (hz : x + y = z) (hp : pc + 1 = pc') (g : own_Go p e below n0 F (T.setTop (mkF m pc' L (.int z :: S)))) : own_Go p e below n0 F (T.setTop (mkF m pc L (.int y :: .int x :: S))) := by
  obtain ⟨locs, X, -, -⟩ := X; subst hp hz
  exact own_st (fun t k => XS.iadd X.here C.1 rfl (hb C.2.1 hd) rfl k) g
theorem own_ladd (C : own_Cx p s m meth c Z n0 own nm bytes ml ret) (X : own_St p l e R s m args below meth c n0 T h cells slots) {x y z : Int64} (hd : decode bytes pc = .ok (.ladd, 1)) (hz : x + y = z) (hp : pc + 1 = pc') (g : own_Go p e below n0 F (T.setTop (mkF m pc' L (.long z :: S)))) : own_Go p e below n0 F (T.setTop (mkF m pc L (.long y :: .long x :: S))) := by
  obtain ⟨locs, X, -, -⟩ := X; subst hp hz
  exact own_st (fun t k => XS.ladd X.here C.1 rfl (hb C.2.1 hd) rfl k) g
theorem own_isub (C : own_Cx p s m meth c Z n0 own nm bytes ml ret) (X : own_St p l e R s m args below meth c n0 T h cells slots) {x y z : Int32} (hd : decode bytes pc = .ok (.isub, 1)) (hz : x - y = z) (hp : pc + 1 = pc') (g : own_Go p e below n0 F (T.setTop (mkF m pc' L (.int z :: S)))) : own_Go p e below n0 F (T.setTop (mkF m pc L (.int y :: .int x :: S))) := by
  obtain ⟨locs, X, -, -⟩ := X; subst hp hz
  exact own_st (fun t k => XS.isub X.here C.1 rfl (hb C.2.1 hd) rfl k) g
theorem own_lsub (C : own_Cx p s m meth c Z n0 own nm bytes ml ret) (X : own_St p l e R s m args below meth c n0 T h cells slots) {x y z : Int64} (hd : decode bytes pc = .ok (.lsub, 1)) (hz : x - y = z) (hp : pc + 1 = pc') (g : own_Go p e below n0 F (T.setTop (mkF m pc' L (.long z :: S)))) : own_Go p e below n0 F (T.setTop (mkF m pc L (.long y :: .long x :: S))) := by
  obtain ⟨locs, X, -, -⟩ := X; subst hp hz
  exact own_st (fun t k => XS.lsub X.here C.1 rfl (hb C.2.1 hd) rfl k) g
theorem own_imul (C : own_Cx p s m meth c Z n0 own nm bytes ml ret) (X : own_St p l e R s m args below meth c n0 T h cells slots) {x y z : Int32} (hd : decode bytes pc = .ok (.imul, 1)) (hz : x * y = z) (hp : pc + 1 = pc') (g : own_Go p e below n0 F (T.setTop (mkF m pc' L (.int z :: S)))) : own_Go p e below n0 F (T.setTop (mkF m pc L (.int y :: .int x :: S))) := by
  obtain ⟨locs, X, -, -⟩ := X; subst hp hz
  exact own_st (fun t k => XS.imul X.here C.1 rfl (hb C.2.1 hd) rfl k) g
theorem own_lmul (C : own_Cx p s m meth c Z n0 own nm bytes ml ret) (X : own_St p l e R s m args below meth c n0 T h cells slots) {x y z : Int64} (hd : decode bytes pc = .ok (.lmul, 1)) (hz : x * y = z) (hp : pc + 1 = pc') (g : own_Go p e below n0 F (T.setTop (mkF m pc' L (.long z :: S)))) : own_Go p e below n0 F (T.setTop (mkF m pc L (.long y :: .long x :: S))) := by
  obtain ⟨locs, X, -, -⟩ := X; subst hp hz
  exact own_st (fun t k => XS.lmul X.here C.1 rfl (hb C.2.1 hd) rfl k) g
theorem own_iand (C : own_Cx p s m meth c Z n0 own nm bytes ml ret) (X : own_St p l e R s m args below meth c n0 T h cells slots) {x y z : Int32} (hd : decode bytes pc = .ok (.iand, 1)) (hz : x &&& y = z) (hp : pc + 1 = pc') (g : own_Go p e below n0 F (T.setTop (mkF m pc' L (.int z :: S)))) : own_Go p e below n0 F (T.setTop (mkF m pc L (.int y :: .int x :: S))) := by
  obtain ⟨locs, X, -, -⟩ := X; subst hp hz
  exact own_st (fun t k => XS.iand X.here C.1 rfl (hb C.2.1 hd) rfl k) g
theorem own_land (C : own_Cx p s m meth c Z n0 own nm bytes ml ret) (X : own_St p l e R s m args below meth c n0 T h cells slots) {x y z : Int64} (hd : decode bytes pc = .ok (.land, 1)) (hz : x &&& y = z) (hp : pc + 1 = pc') (g : own_Go p e below n0 F (T.setTop (mkF m pc' L (.long z :: S)))) : own_Go p e below n0 F (T.setTop (mkF m pc L (.long y :: .long x :: S))) := by
  obtain ⟨locs, X, -, -⟩ := X; subst hp hz
  exact own_st (fun t k => XS.land X.here C.1 rfl (hb C.2.1 hd) rfl k) g
theorem own_ior (C : own_Cx p s m meth c Z n0 own nm bytes ml ret) (X : own_St p l e R s m args below meth c n0 T h cells slots) {x y z : Int32} (hd : decode bytes pc = .ok (.ior, 1)) (hz : x ||| y = z) (hp : pc + 1 = pc') (g : own_Go p e below n0 F (T.setTop (mkF m pc' L (.int z :: S)))) : own_Go p e below n0 F (T.setTop (mkF m pc L (.int y :: .int x :: S))) := by
  obtain ⟨locs, X, -, -⟩ := X; subst hp hz
  exact own_st (fun t k => XS.ior X.here C.1 rfl (hb C.2.1 hd) rfl k) g
theorem own_lor (C : own_Cx p s m meth c Z n0 own nm bytes ml ret) (X : own_St p l e R s m args below meth c n0 T h cells slots) {x y z : Int64} (hd : decode bytes pc = .ok (.lor, 1)) (hz : x ||| y = z) (hp : pc + 1 = pc') (g : own_Go p e below n0 F (T.setTop (mkF m pc' L (.long z :: S)))) : own_Go p e below n0 F (T.setTop (mkF m pc L (.long y :: .long x :: S))) := by
  obtain ⟨locs, X, -, -⟩ := X; subst hp hz
  exact own_st (fun t k => XS.lor X.here C.1 rfl (hb C.2.1 hd) rfl k) g
theorem own_ixor (C : own_Cx p s m meth c Z n0 own nm bytes ml ret) (X : own_St p l e R s m args below meth c n0 T h cells slots) {x y z : Int32} (hd : decode bytes pc = .ok (.ixor, 1)) (hz : x ^^^ y = z) (hp : pc + 1 = pc') (g : own_Go p e below n0 F (T.setTop (mkF m pc' L (.int z :: S)))) : own_Go p e below n0 F (T.setTop (mkF m pc L (.int y :: .int x :: S))) := by
  obtain ⟨locs, X, -, -⟩ := X; subst hp hz
  exact own_st (fun t k => XS.ixor X.here C.1 rfl (hb C.2.1 hd) rfl k) g
theorem own_lxor (C : own_Cx p s m meth c Z n0 own nm bytes ml ret) (X : own_St p l e R s m args below meth c n0 T h cells slots) {x y z : Int64} (hd : decode bytes pc = .ok (.lxor, 1)) (hz : x ^^^ y = z) (hp : pc + 1 = pc') (g : own_Go p e below n0 F (T.setTop (mkF m pc' L (.long z :: S)))) : own_Go p e below n0 F (T.setTop (mkF m pc L (.long y :: .long x :: S))) := by
  obtain ⟨locs, X, -, -⟩ := X; subst hp hz
  exact own_st (fun t k => XS.lxor X.here C.1 rfl (hb C.2.1 hd) rfl k) g
theorem own_ishl (C : own_Cx p s m meth c Z n0 own nm bytes ml ret) (X : own_St p l e R s m args below meth c n0 T h cells slots) {x y z : Int32} (hd : decode bytes pc = .ok (.ishl, 1)) (hz : x <<< (y &&& 31) = z) (hp : pc + 1 = pc') (g : own_Go p e below n0 F (T.setTop (mkF m pc' L (.int z :: S)))) : own_Go p e below n0 F (T.setTop (mkF m pc L (.int y :: .int x :: S))) := by
  obtain ⟨locs, X, -, -⟩ := X; subst hp hz
  exact own_st (fun t k => XS.ishl X.here C.1 rfl (hb C.2.1 hd) rfl k) g
theorem own_ishr (C : own_Cx p s m meth c Z n0 own nm bytes ml ret) (X : own_St p l e R s m args below meth c n0 T h cells slots) {x y z : Int32} (hd : decode bytes pc = .ok (.ishr, 1)) (hz : x >>> (y &&& 31) = z) (hp : pc + 1 = pc') (g : own_Go p e below n0 F (T.setTop (mkF m pc' L (.int z :: S)))) : own_Go p e below n0 F (T.setTop (mkF m pc L (.int y :: .int x :: S))) := by
  obtain ⟨locs, X, -, -⟩ := X; subst hp hz
  exact own_st (fun t k => XS.ishr X.here C.1 rfl (hb C.2.1 hd) rfl k) g
theorem own_iushr (C : own_Cx p s m meth c Z n0 own nm bytes ml ret) (X : own_St p l e R s m args below meth c n0 T h cells slots) {x y z : Int32} (hd : decode bytes pc = .ok (.iushr, 1)) (hz : (x.toUInt32 >>> (y &&& 31).toUInt32).toInt32 = z) (hp : pc + 1 = pc') (g : own_Go p e below n0 F (T.setTop (mkF m pc' L (.int z :: S)))) : own_Go p e below n0 F (T.setTop (mkF m pc L (.int y :: .int x :: S))) := by
  obtain ⟨locs, X, -, -⟩ := X; subst hp hz
  exact own_st (fun t k => XS.iushr X.here C.1 rfl (hb C.2.1 hd) rfl k) g
theorem own_lshl (C : own_Cx p s m meth c Z n0 own nm bytes ml ret) (X : own_St p l e R s m args below meth c n0 T h cells slots) {x z : Int64} {y : Int32} (hd : decode bytes pc = .ok (.lshl, 1)) (hz : x <<< (y &&& 0x3f).toInt64 = z) (hp : pc + 1 = pc') (g : own_Go p e below n0 F (T.setTop (mkF m pc' L (.long z :: S)))) : own_Go p e below n0 F (T.setTop (mkF m pc L (.int y :: .long x :: S))) := by
  obtain ⟨locs, X, -, -⟩ := X; subst hp hz
  exact own_st (fun t k => XS.lshl X.here C.1 rfl (hb C.2.1 hd) rfl k) g
theorem own_lshr (C : own_Cx p s m meth c Z n0 own nm bytes ml ret) (X : own_St p l e R s m args below meth c n0 T h cells slots) {x z : Int64} {y : Int32} (hd : decode bytes pc = .ok (.lshr, 1)) (hz : x >>> (y &&& 0x3f).toInt64 = z) (hp : pc + 1 = pc') (g : own_Go p e below n0 F (T.setTop (mkF m pc' L (.long z :: S)))) : own_Go p e below n0 F (T.setTop (mkF m pc L (.int y :: .long x :: S))) := by
  obtain ⟨locs, X, -, -⟩ := X; subst hp hz
  exact own_st (fun t k => XS.lshr X.here C.1 rfl (hb C.2.1 hd) rfl k) g
theorem own_lushr (C : own_Cx p s m meth c Z n0 own nm bytes ml ret) (X : own_St p l e R s m args below meth c n0 T h cells slots) {x z : Int64} {y : Int32} (hd : decode bytes pc = .ok (.lushr, 1)) (hz : (x.toUInt64 >>> (y &&& 0x3f).toInt64.toUInt64).toInt64 = z) (hp : pc + 1 = pc') (g : own_Go p e below n0 F (T.setTop (mkF m pc' L (.long z :: S)))) : own_Go p e below n0 F (T.setTop (mkF m pc L (.int y :: .long x :: S))) := by
  obtain ⟨locs, X, -, -⟩ := X; subst hp hz
  exact own_st (fun t k => XS.lushr X.here C.1 rfl (hb C.2.1 hd) rfl k) g
theorem own_idiv (C : own_Cx p s m meth c Z n0 own nm bytes ml ret) (X : own_St p l e R s m args below meth c n0 T h cells slots) {x y z : Int32} (hd : decode bytes pc = .ok (.idiv, 1)) (hy : y ≠ 0) (hz : x / y = z) (hp : pc + 1 = pc') (g : own_Go p e below n0 F (T.setTop (mkF m pc' L (.int z :: S)))) : own_Go p e below n0 F (T.setTop (mkF m pc L (.int y :: .int x :: S))) := by
  obtain ⟨locs, X, -, -⟩ := X; subst hp hz
  exact own_st (fun t k => XS.idiv X.here C.1 rfl (hb C.2.1 hd) rfl hy k) g
theorem own_irem (C : own_Cx p s m meth c Z n0 own nm bytes ml ret) (X : own_St p l e R s m args below meth c n0 T h cells slots) {x y z : Int32} (hd : decode bytes pc = .ok (.irem, 1)) (hy : y ≠ 0) (hz : x % y = z) (hp : pc + 1 = pc') (g : own_Go p e below n0 F (T.setTop (mkF m pc' L (.int z :: S)))) : own_Go p e below n0 F (T.setTop (mkF m pc L (.int y :: .int x :: S))) := by
  obtain ⟨locs, X, -, -⟩ := X; subst hp hz
  exact own_st (fun t k => iremM X C.1 rfl (hb C.2.1 hd) rfl hy k) g
theorem own_ldiv (C : own_Cx p s m meth c Z n0 own nm bytes ml ret) (X : own_St p l e R s m args below meth c n0 T h cells slots) {x y z : Int64} (hd : decode bytes pc = .ok (.ldiv, 1)) (hy : y ≠ 0) (hz : x / y = z) (hp : pc + 1 = pc') (g : own_Go p e below n0 F (T.setTop (mkF m pc' L (.long z :: S)))) : own_Go p e below n0 F (T.setTop (mkF m pc L (.long y :: .long x :: S))) := by
  obtain ⟨locs, X, -, -⟩ := X; subst hp hz
  exact own_st (fun t k => XS.ldiv X.here C.1 rfl (hb C.2.1 hd) rfl hy k) g
theorem own_lrem (C : own_Cx p s m meth c Z n0 own nm bytes ml ret) (X : own_St p l e R s m args below meth c n0 T h cells slots) {x y z : Int64} (hd : decode bytes pc = .ok (.lrem, 1)) (hy : y ≠ 0) (hz : x % y = z) (hp : pc + 1 = pc') (g : own_Go p e below n0 F (T.setTop (mkF m pc' L (.long z :: S)))) : own_Go p e below n0 F (T.setTop (mkF m pc L (.long y :: .long x :: S))) := by
  obtain ⟨locs, X, -, -⟩ := X; subst hp hz
  exact own_st (fun t k => XS.lrem X.here C.1 rfl (hb C.2.1 hd) rfl hy (by rw [lrem_mod]; exact k)) g
theorem own_ineg (C : own_Cx p s m meth c Z n0 own nm bytes ml ret) (X : own_St p l e R s m args below meth c n0 T h cells slots) {x : Int32} {z : Int32} (hd : decode bytes pc = .ok (.ineg, 1)) (hz : -x = z) (hp : pc + 1 = pc') (g : own_Go p e below n0 F (T.setTop (mkF m pc' L (.int z :: S)))) : own_Go p e below n0 F (T.setTop (mkF m pc L (.int x :: S))) := by
  obtain ⟨locs, X, -, -⟩ := X; subst hp hz
  exact own_st (fun t k => XS.ineg X.here C.1 rfl (hb C.2.1 hd) rfl k) g
theorem own_lneg (C : own_Cx p s m meth c Z n0 own nm bytes ml ret) (X : own_St p l e R s m args below meth c n0 T h cells slots) {x : Int64} {z : Int64} (hd : decode bytes pc = .ok (.lneg, 1)) (hz : -x = z) (hp : pc + 1 = pc') (g : own_Go p e below n0 F (T.setTop (mkF m pc' L (.long z :: S)))) : own_Go p e below n0 F (T.setTop (mkF m pc L (.long x :: S))) := by
  obtain ⟨locs, X, -, -⟩ := X; subst hp hz
  exact own_st (fun t k => XS.lneg X.here C.1 rfl (hb C.2.1 hd) rfl k) g
theorem own_i2l (C : own_Cx p s m meth c Z n0 own nm bytes ml ret) (X : own_St p l e R s m args below meth c n0 T h cells slots) {x : Int32} {z : Int64} (hd : decode bytes pc = .ok (.i2l, 1)) (hz : x.toInt64 = z) (hp : pc + 1 = pc') (g : own_Go p e below n0 F (T.setTop (mkF m pc' L (.long z :: S)))) : own_Go p e below n0 F (T.setTop (mkF m pc L (.int x :: S))) := by
  obtain ⟨locs, X, -, -⟩ := X; subst hp hz
  exact own_st (fun t k => XS.i2l X.here C.1 rfl (hb C.2.1 hd) rfl k) g
theorem own_l2i (C : own_Cx p s m meth c Z n0 own nm bytes ml ret) (X : own_St p l e R s m args below meth c n0 T h cells slots) {x : Int64} {z : Int32} (hd : decode bytes pc = .ok (.l2i, 1)) (hz : x.toInt32 = z) (hp : pc + 1 = pc') (g : own_Go p e below n0 F (T.setTop (mkF m pc' L (.int z :: S)))) : own_Go p e below n0 F (T.setTop (mkF m pc L (.long x :: S))) := by
  obtain ⟨locs, X, -, -⟩ := X; subst hp hz
  exact own_st (fun t k => XS.l2i X.here C.1 rfl (hb C.2.1 hd) rfl k) g
theorem own_i2b (C : own_Cx p s m meth c Z n0 own nm bytes ml ret) (X : own_St p l e R s m args below meth c n0 T h cells slots) {x : Int32} {z : Int32} (hd : decode bytes pc = .ok (.i2b, 1)) (hz : x.toInt8.toInt32 = z) (hp : pc + 1 = pc') (g : own_Go p e below n0 F (T.setTop (mkF m pc' L (.int z :: S)))) : own_Go p e below n0 F (T.setTop (mkF m pc L (.int x :: S))) := by
  obtain ⟨locs, X, -, -⟩ := X; subst hp hz
  exact own_st (fun t k => XS.i2b X.here C.1 rfl (hb C.2.1 hd) rfl k) g
theorem own_i2c (C : own_Cx p s m meth c Z n0 own nm bytes ml ret) (X : own_St p l e R s m args below meth c n0 T h cells slots) {x : Int32} {z : Int32} (hd : decode bytes pc = .ok (.i2c, 1)) (hz : x.toUInt32.toUInt16.toUInt32.toInt32 = z) (hp : pc + 1 = pc') (g : own_Go p e below n0 F (T.setTop (mkF m pc' L (.int z :: S)))) : own_Go p e below n0 F (T.setTop (mkF m pc L (.int x :: S))) := by
  obtain ⟨locs, X, -, -⟩ := X; subst hp hz
  exact own_st (fun t k => XS.i2c X.here C.1 rfl (hb C.2.1 hd) rfl k) g
theorem own_i2s (C : own_Cx p s m meth c Z n0 own nm bytes ml ret) (X : own_St p l e R s m args below meth c n0 T h cells slots) {x : Int32} {z : Int32} (hd : decode bytes pc = .ok (.i2s, 1)) (hz : x.toInt16.toInt32 = z) (hp : pc + 1 = pc') (g : own_Go p e below n0 F (T.setTop (mkF m pc' L (.int z :: S)))) : own_Go p e below n0 F (T.setTop (mkF m pc L (.int x :: S))) := by
  obtain ⟨locs, X, -, -⟩ := X; subst hp hz
  exact own_st (fun t k => XS.i2s X.here C.1 rfl (hb C.2.1 hd) rfl k) g
theorem own_iinc (C : own_Cx p s m meth c Z n0 own nm bytes ml ret) (X : own_St p l e R s m args below meth c n0 T h cells slots) {k : Nat} {i : Int} {x d z : Int32} (hd : decode bytes pc = .ok (.iinc k i, 3)) (hl : L[k]? = some (.val (.int x))) (hv : Int32.ofInt i = d) (hz : x + d = z) (hl' : storeLocals L k (.int z) = some L') (hp : pc + 3 = pc') (g : own_Go p e below n0 F (T.setTop (mkF m pc' L' (S)))) : own_Go p e below n0 F (T.setTop (mkF m pc L (S))) := by
  obtain ⟨locs, X, -, -⟩ := X; subst hp hv hz
  exact own_st (fun t k => XS.iinc X.here C.1 rfl (hb C.2.1 hd) hl hl' k) g
theorem own_dup (C : own_Cx p s m meth c Z n0 own nm bytes ml ret) (X : own_St p l e R s m args below meth c n0 T h cells slots) {v : Value} (hd : decode bytes pc = .ok (.dup, 1)) (hc : v.category = 1) (hp : pc + 1 = pc') (g : own_Go p e below n0 F (T.setTop (mkF m pc' L (v :: v :: S)))) : own_Go p e below n0 F (T.setTop (mkF m pc L (v :: S))) := by
  obtain ⟨locs, X, -, -⟩ := X; subst hp
  exact own_st (fun t k => XS.dup X.here C.1 rfl (hb C.2.1 hd) rfl hc k) g
theorem own_pop (C : own_Cx p s m meth c Z n0 own nm bytes ml ret) (X : own_St p l e R s m args below meth c n0 T h cells slots) {v : Value} (hd : decode bytes pc = .ok (.pop, 1)) (hc : v.category = 1) (hp : pc + 1 = pc') (g : own_Go p e below n0 F (T.setTop (mkF m pc' L (S)))) : own_Go p e below n0 F (T.setTop (mkF m pc L (v :: S))) := by
  obtain ⟨locs, X, -, -⟩ := X; subst hp
  exact own_st (fun t k => XS.pop X.here C.1 rfl (hb C.2.1 hd) rfl hc k) g
theorem own_dup_x1 (C : own_Cx p s m meth c Z n0 own nm bytes ml ret) (X : own_St p l e R s m args below meth c n0 T h cells slots) {v w : Value} (hd : decode bytes pc = .ok (.dup_x1, 1)) (hc : v.category = 1) (hc' : w.category = 1) (hp : pc + 1 = pc') (g : own_Go p e below n0 F (T.setTop (mkF m pc' L (v :: w :: v :: S)))) : own_Go p e below n0 F (T.setTop (mkF m pc L (v :: w :: S))) := by
  obtain ⟨locs, X, -, -⟩ := X; subst hp
  exact own_st (fun t k => XS.dupX1 X.here C.1 rfl (hb C.2.1 hd) rfl hc hc' k) g
theorem own_dup2 (C : own_Cx p s m meth c Z n0 own nm bytes ml ret) (X : own_St p l e R s m args below meth c n0 T h cells slots) {v w : Value} (hd : decode bytes pc = .ok (.dup2, 1)) (hc : v.category = 1) (hc' : w.category = 1) (hp : pc + 1 = pc') (g : own_Go p e below n0 F (T.setTop (mkF m pc' L (v :: w :: v :: w :: S)))) : own_Go p e below n0 F (T.setTop (mkF m pc L (v :: w :: S))) := by
  obtain ⟨locs, X, -, -⟩ := X; subst hp
  exact own_st (fun t k => XT.dup2 X.here C.1 rfl (hb C.2.1 hd) rfl hc hc' k) g
theorem own_dup2L (C : own_Cx p s m meth c Z n0 own nm bytes ml ret) (X : own_St p l e R s m args below meth c n0 T h cells slots) {v : Int64} (hd : decode bytes pc = .ok (.dup2, 1))  (hp : pc + 1 = pc') (g : own_Go p e below n0 F (T.setTop (mkF m pc' L (.long v :: .long v :: S)))) : own_Go p e below n0 F (T.setTop (mkF m pc L (.long v :: S))) := by
  obtain ⟨locs, X, -, -⟩ := X; subst hp
  exact own_st (fun t k => XT.dup2L X.here C.1 rfl (hb C.2.1 hd) rfl k) g
theorem own_pop2L (C : own_Cx p s m meth c Z n0 own nm bytes ml ret) (X : own_St p l e R s m args below meth c n0 T h cells slots) {v : Int64} (hd : decode bytes pc = .ok (.pop2, 1))  (hp : pc + 1 = pc') (g : own_Go p e below n0 F (T.setTop (mkF m pc' L (S)))) : own_Go p e below n0 F (T.setTop (mkF m pc L (.long v :: S))) := by
  obtain ⟨locs, X, -, -⟩ := X; subst hp
  exact own_st (fun t k => (by jvm_step X.here [X.here.top, C.1, hb C.2.1 hd, Value.category]; exact k)) g
theorem own_lcmp (C : own_Cx p s m meth c Z n0 own nm bytes ml ret) (X : own_St p l e R s m args below meth c n0 T h cells slots) {x y : Int64} {z : Int32} (hd : decode bytes pc = .ok (.lcmp, 1)) (hz : lcmpW x y = z) (hp : pc + 1 = pc') (g : own_Go p e below n0 F (T.setTop (mkF m pc' L (.int z :: S)))) : own_Go p e below n0 F (T.setTop (mkF m pc L (.long y :: .long x :: S))) := by
  obtain ⟨locs, X, -, -⟩ := X; subst hp hz
  exact own_st (fun t k => XS.lcmp X.here C.1 rfl (hb C.2.1 hd) rfl k) g
theorem own_ldcI (C : own_Cx p s m meth c Z n0 own nm bytes ml ret) (X : own_St p l e R s m args below meth c n0 T h cells slots) {i : Nat} {v : Int32} (hd : decode bytes pc = .ok (.ldc i, 2)) (w : (Jvm.Cond.constant own i v).before a0 Z = true) (hp : pc + 2 = pc') (g : own_Go p e below n0 F (T.setTop (mkF m pc' L (.int v :: S)))) : own_Go p e below n0 F (T.setTop (mkF m pc L (S))) := by
  obtain ⟨locs, X, -, -⟩ := X; subst hp
  exact own_st (fun t k => X.ldcInt C.1 C.2.2.2.1 (mvT C.2.2.2.2.2.2.2.1 w) (g := mkF m pc L S) rfl (hb C.2.1 hd) t k) g
theorem own_ldc2L (C : own_Cx p s m meth c Z n0 own nm bytes ml ret) (X : own_St p l e R s m args below meth c n0 T h cells slots) {i : Nat} {v : Int64} (hd : decode bytes pc = .ok (.ldc2_w i, 3)) (w : (Jvm.Cond.constantLong own i v).before a0 Z = true) (hp : pc + 3 = pc') (g : own_Go p e below n0 F (T.setTop (mkF m pc' L (.long v :: S)))) : own_Go p e below n0 F (T.setTop (mkF m pc L (S))) := by
  obtain ⟨locs, X, -, -⟩ := X; subst hp
  exact own_st (fun t k => X.ldc2Long C.1 C.2.2.2.1 (mvT C.2.2.2.2.2.2.2.1 w) (g := mkF m pc L S) rfl (hb C.2.1 hd) t k) g
theorem own_goto (C : own_Cx p s m meth c Z n0 own nm bytes ml ret) (X : own_St p l e R s m args below meth c n0 T h cells slots) {o : Int} (hd : decode bytes pc = .ok (.goto o, 3)) (ho : 0 ≤ (pc : Int) + o) (hp : ((pc : Int) + o).toNat = pc') (g : own_Go p e below n0 F (T.setTop (mkF m pc' L (S)))) : own_Go p e below n0 F (T.setTop (mkF m pc L (S))) := by
  obtain ⟨locs, X, -, -⟩ := X
  exact own_st (fun t k => XS.goto X.here C.1 rfl rfl (hb C.2.1 hd) ho hp k) g
theorem own_icmp_lt (C : own_Cx p s m meth c Z n0 own nm bytes ml ret) (X : own_St p l e R s m args below meth c n0 T h cells slots) {x y : Int32} {o : Int} (hd : decode bytes pc = .ok (.if_icmp .lt o, 3)) (ho : 0 ≤ (pc : Int) + o) (hq : ((pc : Int) + o).toNat = pcT) (hp : pc + 3 = pc') (gT : x < y → own_Go p e below n0 F (T.setTop (mkF m pcT L (S)))) (gF : ¬ x < y → own_Go p e below n0 F (T.setTop (mkF m pc' L (S)))) : own_Go p e below n0 F (T.setTop (mkF m pc L (.int y :: .int x :: S))) := by
  obtain ⟨locs, X, -, -⟩ := X; subst hp
  by_cases q : x < y
  · exact own_st (fun t k => XS.icmpYes X.here C.1 rfl rfl (hb C.2.1 hd) rfl (tlt q).1 ho hq k) (gT q)
  · exact own_st (fun t k => XS.icmpNo X.here C.1 rfl (hb C.2.1 hd) rfl (flt q).1 k) (gF q)
theorem own_if_lt (C : own_Cx p s m meth c Z n0 own nm bytes ml ret) (X : own_St p l e R s m args below meth c n0 T h cells slots) {x : Int32} {o : Int} (hd : decode bytes pc = .ok (.ifCond .lt o, 3)) (ho : 0 ≤ (pc : Int) + o) (hq : ((pc : Int) + o).toNat = pcT) (hp : pc + 3 = pc') (gT : x < 0 → own_Go p e below n0 F (T.setTop (mkF m pcT L (S)))) (gF : ¬ x < 0 → own_Go p e below n0 F (T.setTop (mkF m pc' L (S)))) : own_Go p e below n0 F (T.setTop (mkF m pc L (.int x :: S))) := by
  obtain ⟨locs, X, -, -⟩ := X; subst hp
  by_cases q : x < 0
  · exact own_st (fun t k => XS.ifYes X.here C.1 rfl rfl (hb C.2.1 hd) rfl ((if0 _ _).trans (tlt q).1) ho hq k) (gT q)
  · exact own_st (fun t k => XS.ifNo X.here C.1 rfl (hb C.2.1 hd) rfl ((if0 _ _).trans (flt q).1) k) (gF q)
theorem own_lcmp_lt (C : own_Cx p s m meth c Z n0 own nm bytes ml ret) (X : own_St p l e R s m args below meth c n0 T h cells slots) {x y : Int64} {o : Int} (hd1 : decode bytes pc = .ok (.lcmp, 1)) (hd : decode bytes (pc + 1) = .ok (.ifCond .lt o, 3)) (ho : 0 ≤ ((pc + 1 : Nat) : Int) + o) (hq : (((pc + 1 : Nat) : Int) + o).toNat = pcT) (hp : pc + 4 = pc') (gT : x < y → own_Go p e below n0 F (T.setTop (mkF m pcT L (S)))) (gF : ¬ x < y → own_Go p e below n0 F (T.setTop (mkF m pc' L (S)))) : own_Go p e below n0 F (T.setTop (mkF m pc L (.long y :: .long x :: S))) := by
  subst hp
  exact own_lcmp C X hd1 rfl rfl (own_if_lt C X hd ho hq rfl (fun q => gT ((lw_lt x y).mp q)) (fun q => gF (fun r => q ((lw_lt x y).mpr r))))
theorem own_icmp_ge (C : own_Cx p s m meth c Z n0 own nm bytes ml ret) (X : own_St p l e R s m args below meth c n0 T h cells slots) {x y : Int32} {o : Int} (hd : decode bytes pc = .ok (.if_icmp .ge o, 3)) (ho : 0 ≤ (pc : Int) + o) (hq : ((pc : Int) + o).toNat = pcT) (hp : pc + 3 = pc') (gT : ¬ x < y → own_Go p e below n0 F (T.setTop (mkF m pcT L (S)))) (gF : x < y → own_Go p e below n0 F (T.setTop (mkF m pc' L (S)))) : own_Go p e below n0 F (T.setTop (mkF m pc L (.int y :: .int x :: S))) := by
  obtain ⟨locs, X, -, -⟩ := X; subst hp
  by_cases q : x < y
  · exact own_st (fun t k => XS.icmpNo X.here C.1 rfl (hb C.2.1 hd) rfl (tlt q).2.1 k) (gF q)
  · exact own_st (fun t k => XS.icmpYes X.here C.1 rfl rfl (hb C.2.1 hd) rfl (flt q).2.1 ho hq k) (gT q)
theorem own_if_ge (C : own_Cx p s m meth c Z n0 own nm bytes ml ret) (X : own_St p l e R s m args below meth c n0 T h cells slots) {x : Int32} {o : Int} (hd : decode bytes pc = .ok (.ifCond .ge o, 3)) (ho : 0 ≤ (pc : Int) + o) (hq : ((pc : Int) + o).toNat = pcT) (hp : pc + 3 = pc') (gT : ¬ x < 0 → own_Go p e below n0 F (T.setTop (mkF m pcT L (S)))) (gF : x < 0 → own_Go p e below n0 F (T.setTop (mkF m pc' L (S)))) : own_Go p e below n0 F (T.setTop (mkF m pc L (.int x :: S))) := by
  obtain ⟨locs, X, -, -⟩ := X; subst hp
  by_cases q : x < 0
  · exact own_st (fun t k => XS.ifNo X.here C.1 rfl (hb C.2.1 hd) rfl ((if0 _ _).trans (tlt q).2.1) k) (gF q)
  · exact own_st (fun t k => XS.ifYes X.here C.1 rfl rfl (hb C.2.1 hd) rfl ((if0 _ _).trans (flt q).2.1) ho hq k) (gT q)
theorem own_lcmp_ge (C : own_Cx p s m meth c Z n0 own nm bytes ml ret) (X : own_St p l e R s m args below meth c n0 T h cells slots) {x y : Int64} {o : Int} (hd1 : decode bytes pc = .ok (.lcmp, 1)) (hd : decode bytes (pc + 1) = .ok (.ifCond .ge o, 3)) (ho : 0 ≤ ((pc + 1 : Nat) : Int) + o) (hq : (((pc + 1 : Nat) : Int) + o).toNat = pcT) (hp : pc + 4 = pc') (gT : ¬ x < y → own_Go p e below n0 F (T.setTop (mkF m pcT L (S)))) (gF : x < y → own_Go p e below n0 F (T.setTop (mkF m pc' L (S)))) : own_Go p e below n0 F (T.setTop (mkF m pc L (.long y :: .long x :: S))) := by
  subst hp
  exact own_lcmp C X hd1 rfl rfl (own_if_ge C X hd ho hq rfl (fun q => gT (fun r => q ((lw_lt x y).mpr r))) (fun q => gF ((lw_lt x y).mp q)))
theorem own_icmp_gt (C : own_Cx p s m meth c Z n0 own nm bytes ml ret) (X : own_St p l e R s m args below meth c n0 T h cells slots) {x y : Int32} {o : Int} (hd : decode bytes pc = .ok (.if_icmp .gt o, 3)) (ho : 0 ≤ (pc : Int) + o) (hq : ((pc : Int) + o).toNat = pcT) (hp : pc + 3 = pc') (gT : y < x → own_Go p e below n0 F (T.setTop (mkF m pcT L (S)))) (gF : ¬ y < x → own_Go p e below n0 F (T.setTop (mkF m pc' L (S)))) : own_Go p e below n0 F (T.setTop (mkF m pc L (.int y :: .int x :: S))) := by
  obtain ⟨locs, X, -, -⟩ := X; subst hp
  by_cases q : y < x
  · exact own_st (fun t k => XS.icmpYes X.here C.1 rfl rfl (hb C.2.1 hd) rfl (tlt q).2.2.1 ho hq k) (gT q)
  · exact own_st (fun t k => XS.icmpNo X.here C.1 rfl (hb C.2.1 hd) rfl (flt q).2.2.1 k) (gF q)
theorem own_if_gt (C : own_Cx p s m meth c Z n0 own nm bytes ml ret) (X : own_St p l e R s m args below meth c n0 T h cells slots) {x : Int32} {o : Int} (hd : decode bytes pc = .ok (.ifCond .gt o, 3)) (ho : 0 ≤ (pc : Int) + o) (hq : ((pc : Int) + o).toNat = pcT) (hp : pc + 3 = pc') (gT : 0 < x → own_Go p e below n0 F (T.setTop (mkF m pcT L (S)))) (gF : ¬ 0 < x → own_Go p e below n0 F (T.setTop (mkF m pc' L (S)))) : own_Go p e below n0 F (T.setTop (mkF m pc L (.int x :: S))) := by
  obtain ⟨locs, X, -, -⟩ := X; subst hp
  by_cases q : 0 < x
  · exact own_st (fun t k => XS.ifYes X.here C.1 rfl rfl (hb C.2.1 hd) rfl ((if0 _ _).trans (tlt q).2.2.1) ho hq k) (gT q)
  · exact own_st (fun t k => XS.ifNo X.here C.1 rfl (hb C.2.1 hd) rfl ((if0 _ _).trans (flt q).2.2.1) k) (gF q)
theorem own_lcmp_gt (C : own_Cx p s m meth c Z n0 own nm bytes ml ret) (X : own_St p l e R s m args below meth c n0 T h cells slots) {x y : Int64} {o : Int} (hd1 : decode bytes pc = .ok (.lcmp, 1)) (hd : decode bytes (pc + 1) = .ok (.ifCond .gt o, 3)) (ho : 0 ≤ ((pc + 1 : Nat) : Int) + o) (hq : (((pc + 1 : Nat) : Int) + o).toNat = pcT) (hp : pc + 4 = pc') (gT : y < x → own_Go p e below n0 F (T.setTop (mkF m pcT L (S)))) (gF : ¬ y < x → own_Go p e below n0 F (T.setTop (mkF m pc' L (S)))) : own_Go p e below n0 F (T.setTop (mkF m pc L (.long y :: .long x :: S))) := by
  subst hp
  exact own_lcmp C X hd1 rfl rfl (own_if_gt C X hd ho hq rfl (fun q => gT ((lw_gt x y).mp q)) (fun q => gF (fun r => q ((lw_gt x y).mpr r))))
theorem own_icmp_le (C : own_Cx p s m meth c Z n0 own nm bytes ml ret) (X : own_St p l e R s m args below meth c n0 T h cells slots) {x y : Int32} {o : Int} (hd : decode bytes pc = .ok (.if_icmp .le o, 3)) (ho : 0 ≤ (pc : Int) + o) (hq : ((pc : Int) + o).toNat = pcT) (hp : pc + 3 = pc') (gT : ¬ y < x → own_Go p e below n0 F (T.setTop (mkF m pcT L (S)))) (gF : y < x → own_Go p e below n0 F (T.setTop (mkF m pc' L (S)))) : own_Go p e below n0 F (T.setTop (mkF m pc L (.int y :: .int x :: S))) := by
  obtain ⟨locs, X, -, -⟩ := X; subst hp
  by_cases q : y < x
  · exact own_st (fun t k => XS.icmpNo X.here C.1 rfl (hb C.2.1 hd) rfl (tlt q).2.2.2 k) (gF q)
  · exact own_st (fun t k => XS.icmpYes X.here C.1 rfl rfl (hb C.2.1 hd) rfl (flt q).2.2.2 ho hq k) (gT q)
theorem own_if_le (C : own_Cx p s m meth c Z n0 own nm bytes ml ret) (X : own_St p l e R s m args below meth c n0 T h cells slots) {x : Int32} {o : Int} (hd : decode bytes pc = .ok (.ifCond .le o, 3)) (ho : 0 ≤ (pc : Int) + o) (hq : ((pc : Int) + o).toNat = pcT) (hp : pc + 3 = pc') (gT : ¬ 0 < x → own_Go p e below n0 F (T.setTop (mkF m pcT L (S)))) (gF : 0 < x → own_Go p e below n0 F (T.setTop (mkF m pc' L (S)))) : own_Go p e below n0 F (T.setTop (mkF m pc L (.int x :: S))) := by
  obtain ⟨locs, X, -, -⟩ := X; subst hp
  by_cases q : 0 < x
  · exact own_st (fun t k => XS.ifNo X.here C.1 rfl (hb C.2.1 hd) rfl ((if0 _ _).trans (tlt q).2.2.2) k) (gF q)
  · exact own_st (fun t k => XS.ifYes X.here C.1 rfl rfl (hb C.2.1 hd) rfl ((if0 _ _).trans (flt q).2.2.2) ho hq k) (gT q)
theorem own_lcmp_le (C : own_Cx p s m meth c Z n0 own nm bytes ml ret) (X : own_St p l e R s m args below meth c n0 T h cells slots) {x y : Int64} {o : Int} (hd1 : decode bytes pc = .ok (.lcmp, 1)) (hd : decode bytes (pc + 1) = .ok (.ifCond .le o, 3)) (ho : 0 ≤ ((pc + 1 : Nat) : Int) + o) (hq : (((pc + 1 : Nat) : Int) + o).toNat = pcT) (hp : pc + 4 = pc') (gT : ¬ y < x → own_Go p e below n0 F (T.setTop (mkF m pcT L (S)))) (gF : y < x → own_Go p e below n0 F (T.setTop (mkF m pc' L (S)))) : own_Go p e below n0 F (T.setTop (mkF m pc L (.long y :: .long x :: S))) := by
  subst hp
  exact own_lcmp C X hd1 rfl rfl (own_if_le C X hd ho hq rfl (fun q => gT (fun r => q ((lw_gt x y).mpr r))) (fun q => gF ((lw_gt x y).mp q)))
theorem own_icmp_eq (C : own_Cx p s m meth c Z n0 own nm bytes ml ret) (X : own_St p l e R s m args below meth c n0 T h cells slots) {x y : Int32} {o : Int} (hd : decode bytes pc = .ok (.if_icmp .eq o, 3)) (ho : 0 ≤ (pc : Int) + o) (hq : ((pc : Int) + o).toNat = pcT) (hp : pc + 3 = pc') (gT : x = y → own_Go p e below n0 F (T.setTop (mkF m pcT L (S)))) (gF : ¬ x = y → own_Go p e below n0 F (T.setTop (mkF m pc' L (S)))) : own_Go p e below n0 F (T.setTop (mkF m pc L (.int y :: .int x :: S))) := by
  obtain ⟨locs, X, -, -⟩ := X; subst hp
  by_cases q : x = y
  · exact own_st (fun t k => XS.icmpYes X.here C.1 rfl rfl (hb C.2.1 hd) rfl (teq q).1 ho hq k) (gT q)
  · exact own_st (fun t k => XS.icmpNo X.here C.1 rfl (hb C.2.1 hd) rfl (feq q).1 k) (gF q)
theorem own_if_eq (C : own_Cx p s m meth c Z n0 own nm bytes ml ret) (X : own_St p l e R s m args below meth c n0 T h cells slots) {x : Int32} {o : Int} (hd : decode bytes pc = .ok (.ifCond .eq o, 3)) (ho : 0 ≤ (pc : Int) + o) (hq : ((pc : Int) + o).toNat = pcT) (hp : pc + 3 = pc') (gT : x = 0 → own_Go p e below n0 F (T.setTop (mkF m pcT L (S)))) (gF : ¬ x = 0 → own_Go p e below n0 F (T.setTop (mkF m pc' L (S)))) : own_Go p e below n0 F (T.setTop (mkF m pc L (.int x :: S))) := by
  obtain ⟨locs, X, -, -⟩ := X; subst hp
  by_cases q : x = 0
  · exact own_st (fun t k => XS.ifYes X.here C.1 rfl rfl (hb C.2.1 hd) rfl ((if0 _ _).trans (teq q).1) ho hq k) (gT q)
  · exact own_st (fun t k => XS.ifNo X.here C.1 rfl (hb C.2.1 hd) rfl ((if0 _ _).trans (feq q).1) k) (gF q)
theorem own_lcmp_eq (C : own_Cx p s m meth c Z n0 own nm bytes ml ret) (X : own_St p l e R s m args below meth c n0 T h cells slots) {x y : Int64} {o : Int} (hd1 : decode bytes pc = .ok (.lcmp, 1)) (hd : decode bytes (pc + 1) = .ok (.ifCond .eq o, 3)) (ho : 0 ≤ ((pc + 1 : Nat) : Int) + o) (hq : (((pc + 1 : Nat) : Int) + o).toNat = pcT) (hp : pc + 4 = pc') (gT : x = y → own_Go p e below n0 F (T.setTop (mkF m pcT L (S)))) (gF : ¬ x = y → own_Go p e below n0 F (T.setTop (mkF m pc' L (S)))) : own_Go p e below n0 F (T.setTop (mkF m pc L (.long y :: .long x :: S))) := by
  subst hp
  exact own_lcmp C X hd1 rfl rfl (own_if_eq C X hd ho hq rfl (fun q => gT ((lw_eq x y).mp q)) (fun q => gF (fun r => q ((lw_eq x y).mpr r))))
theorem own_icmp_ne (C : own_Cx p s m meth c Z n0 own nm bytes ml ret) (X : own_St p l e R s m args below meth c n0 T h cells slots) {x y : Int32} {o : Int} (hd : decode bytes pc = .ok (.if_icmp .ne o, 3)) (ho : 0 ≤ (pc : Int) + o) (hq : ((pc : Int) + o).toNat = pcT) (hp : pc + 3 = pc') (gT : ¬ x = y → own_Go p e below n0 F (T.setTop (mkF m pcT L (S)))) (gF : x = y → own_Go p e below n0 F (T.setTop (mkF m pc' L (S)))) : own_Go p e below n0 F (T.setTop (mkF m pc L (.int y :: .int x :: S))) := by
  obtain ⟨locs, X, -, -⟩ := X; subst hp
  by_cases q : x = y
  · exact own_st (fun t k => XS.icmpNo X.here C.1 rfl (hb C.2.1 hd) rfl (teq q).2 k) (gF q)
  · exact own_st (fun t k => XS.icmpYes X.here C.1 rfl rfl (hb C.2.1 hd) rfl (feq q).2 ho hq k) (gT q)
theorem own_if_ne (C : own_Cx p s m meth c Z n0 own nm bytes ml ret) (X : own_St p l e R s m args below meth c n0 T h cells slots) {x : Int32} {o : Int} (hd : decode bytes pc = .ok (.ifCond .ne o, 3)) (ho : 0 ≤ (pc : Int) + o) (hq : ((pc : Int) + o).toNat = pcT) (hp : pc + 3 = pc') (gT : ¬ x = 0 → own_Go p e below n0 F (T.setTop (mkF m pcT L (S)))) (gF : x = 0 → own_Go p e below n0 F (T.setTop (mkF m pc' L (S)))) : own_Go p e below n0 F (T.setTop (mkF m pc L (.int x :: S))) := by
  obtain ⟨locs, X, -, -⟩ := X; subst hp
  by_cases q : x = 0
  · exact own_st (fun t k => XS.ifNo X.here C.1 rfl (hb C.2.1 hd) rfl ((if0 _ _).trans (teq q).2) k) (gF q)
  · exact own_st (fun t k => XS.ifYes X.here C.1 rfl rfl (hb C.2.1 hd) rfl ((if0 _ _).trans (feq q).2) ho hq k) (gT q)
theorem own_lcmp_ne (C : own_Cx p s m meth c Z n0 own nm bytes ml ret) (X : own_St p l e R s m args below meth c n0 T h cells slots) {x y : Int64} {o : Int} (hd1 : decode bytes pc = .ok (.lcmp, 1)) (hd : decode bytes (pc + 1) = .ok (.ifCond .ne o, 3)) (ho : 0 ≤ ((pc + 1 : Nat) : Int) + o) (hq : (((pc + 1 : Nat) : Int) + o).toNat = pcT) (hp : pc + 4 = pc') (gT : ¬ x = y → own_Go p e below n0 F (T.setTop (mkF m pcT L (S)))) (gF : x = y → own_Go p e below n0 F (T.setTop (mkF m pc' L (S)))) : own_Go p e below n0 F (T.setTop (mkF m pc L (.long y :: .long x :: S))) := by
  subst hp
  exact own_lcmp C X hd1 rfl rfl (own_if_ne C X hd ho hq rfl (fun q => gT (fun r => q ((lw_eq x y).mpr r))) (fun q => gF ((lw_eq x y).mp q)))
theorem own_acmp_eq (C : own_Cx p s m meth c Z n0 own nm bytes ml ret) (X : own_St p l e R s m args below meth c n0 T h cells slots) {v w : Value} {o : Int} (hd : decode bytes pc = .ok (.if_acmp .eq o, 3)) (hv : v.isRef = true) (hw : w.isRef = true) (ho : 0 ≤ (pc : Int) + o) (hq : ((pc : Int) + o).toNat = pcT) (hp : pc + 3 = pc') (gT : v = w → own_Go p e below n0 F (T.setTop (mkF m pcT L (S)))) (gF : ¬ v = w → own_Go p e below n0 F (T.setTop (mkF m pc' L (S)))) : own_Go p e below n0 F (T.setTop (mkF m pc L (w :: v :: S))) := by
  obtain ⟨locs, X, -, -⟩ := X; subst hp
  by_cases q : v = w
  · exact own_st (fun t k => XT.acmpYes X.here C.1 rfl rfl (hb C.2.1 hd) rfl hv hw (XT.aa_eq_t q) ho hq k) (gT q)
  · exact own_st (fun t k => XT.acmpNo X.here C.1 rfl (hb C.2.1 hd) rfl hv hw (XT.aa_eq_f q) k) (gF q)
theorem own_acmp_ne (C : own_Cx p s m meth c Z n0 own nm bytes ml ret) (X : own_St p l e R s m args below meth c n0 T h cells slots) {v w : Value} {o : Int} (hd : decode bytes pc = .ok (.if_acmp .ne o, 3)) (hv : v.isRef = true) (hw : w.isRef = true) (ho : 0 ≤ (pc : Int) + o) (hq : ((pc : Int) + o).toNat = pcT) (hp : pc + 3 = pc') (gT : ¬ v = w → own_Go p e below n0 F (T.setTop (mkF m pcT L (S)))) (gF : v = w → own_Go p e below n0 F (T.setTop (mkF m pc' L (S)))) : own_Go p e below n0 F (T.setTop (mkF m pc L (w :: v :: S))) := by
  obtain ⟨locs, X, -, -⟩ := X; subst hp
  by_cases q : v = w
  · exact own_st (fun t k => XT.acmpNo X.here C.1 rfl (hb C.2.1 hd) rfl hv hw (XT.aa_ne_f q) k) (gF q)
  · exact own_st (fun t k => XT.acmpYes X.here C.1 rfl rfl (hb C.2.1 hd) rfl hv hw (XT.aa_ne_t q) ho hq k) (gT q)
theorem own_ireturn {z : Int32} (C : own_Cx p s m meth c Z n0 own nm bytes ml (some .int)) (X : own_St p l e R s m args below meth c n0 T h cells slots) (hd : decode bytes pc = .ok (.ireturn, 1))  (hc : cells ≤ R.cells) (hs : slots ≤ R.slots) (hq : Q (some (.int z)) h) : own_Go p e below n0 (own_Fin R s Q) (T.setTop (mkF m pc L (.int z :: S))) := by
  obtain ⟨locs, X, N, rfl⟩ := X
  have hlk : meth.locks = false := C.2.2.2.2.2.2.1
  obtain ⟨fs, hr, hrun, hended, hW, hsame⟩ := X.leave (v := some (.int z)) (fun h => by rw [C.2.2.2.2.2.1] at h; cases h) hlk
  exact ⟨_, _, locs, retOut X C.1 C.2.2.2.2.2.1 rfl (Or.inl ⟨rfl, by simp, _, rfl⟩) (hb C.2.1 hd) hr, hrun, hended, N, hq, ⟨_, rfl⟩, hW, hsame.mono hc hs⟩
theorem own_ireturn_z {z : Int32} (C : own_Cx p s m meth c Z n0 own nm bytes ml (some .boolean)) (X : own_St p l e R s m args below meth c n0 T h cells slots) (hd : decode bytes pc = .ok (.ireturn, 1))  (hc : cells ≤ R.cells) (hs : slots ≤ R.slots) (hq : Q (some (.int (nar .boolean z))) h) : own_Go p e below n0 (own_Fin R s Q) (T.setTop (mkF m pc L (.int z :: S))) := by
  obtain ⟨locs, X, N, rfl⟩ := X
  have hlk : meth.locks = false := C.2.2.2.2.2.2.1
  obtain ⟨fs, hr, hrun, hended, hW, hsame⟩ := X.leave (v := some (.int (nar .boolean z))) (fun h => by rw [C.2.2.2.2.2.1] at h; cases h) hlk
  exact ⟨_, _, locs, retN X C.1 (t := .boolean) C.2.2.2.2.2.1 (by simp) (hb C.2.1 hd) hr, hrun, hended, N, hq, ⟨_, rfl⟩, hW, hsame.mono hc hs⟩
theorem own_ireturn_b {z : Int32} (C : own_Cx p s m meth c Z n0 own nm bytes ml (some .byte)) (X : own_St p l e R s m args below meth c n0 T h cells slots) (hd : decode bytes pc = .ok (.ireturn, 1))  (hc : cells ≤ R.cells) (hs : slots ≤ R.slots) (hq : Q (some (.int (nar .byte z))) h) : own_Go p e below n0 (own_Fin R s Q) (T.setTop (mkF m pc L (.int z :: S))) := by
  obtain ⟨locs, X, N, rfl⟩ := X
  have hlk : meth.locks = false := C.2.2.2.2.2.2.1
  obtain ⟨fs, hr, hrun, hended, hW, hsame⟩ := X.leave (v := some (.int (nar .byte z))) (fun h => by rw [C.2.2.2.2.2.1] at h; cases h) hlk
  exact ⟨_, _, locs, retN X C.1 (t := .byte) C.2.2.2.2.2.1 (by simp) (hb C.2.1 hd) hr, hrun, hended, N, hq, ⟨_, rfl⟩, hW, hsame.mono hc hs⟩
theorem own_ireturn_c {z : Int32} (C : own_Cx p s m meth c Z n0 own nm bytes ml (some .char)) (X : own_St p l e R s m args below meth c n0 T h cells slots) (hd : decode bytes pc = .ok (.ireturn, 1))  (hc : cells ≤ R.cells) (hs : slots ≤ R.slots) (hq : Q (some (.int (nar .char z))) h) : own_Go p e below n0 (own_Fin R s Q) (T.setTop (mkF m pc L (.int z :: S))) := by
  obtain ⟨locs, X, N, rfl⟩ := X
  have hlk : meth.locks = false := C.2.2.2.2.2.2.1
  obtain ⟨fs, hr, hrun, hended, hW, hsame⟩ := X.leave (v := some (.int (nar .char z))) (fun h => by rw [C.2.2.2.2.2.1] at h; cases h) hlk
  exact ⟨_, _, locs, retN X C.1 (t := .char) C.2.2.2.2.2.1 (by simp) (hb C.2.1 hd) hr, hrun, hended, N, hq, ⟨_, rfl⟩, hW, hsame.mono hc hs⟩
theorem own_lreturn {z : Int64} (C : own_Cx p s m meth c Z n0 own nm bytes ml (some .long)) (X : own_St p l e R s m args below meth c n0 T h cells slots) (hd : decode bytes pc = .ok (.lreturn, 1))  (hc : cells ≤ R.cells) (hs : slots ≤ R.slots) (hq : Q (some (.long z)) h) : own_Go p e below n0 (own_Fin R s Q) (T.setTop (mkF m pc L (.long z :: S))) := by
  obtain ⟨locs, X, N, rfl⟩ := X
  have hlk : meth.locks = false := C.2.2.2.2.2.2.1
  obtain ⟨fs, hr, hrun, hended, hW, hsame⟩ := X.leave (v := some (.long z)) (fun h => by rw [C.2.2.2.2.2.1] at h; cases h) hlk
  exact ⟨_, _, locs, retOut X C.1 C.2.2.2.2.2.1 rfl (Or.inr (Or.inl ⟨rfl, rfl, _, rfl⟩)) (hb C.2.1 hd) hr, hrun, hended, N, hq, ⟨_, rfl⟩, hW, hsame.mono hc hs⟩
theorem own_areturn {v : Value} {ty : FieldType} (C : own_Cx p s m meth c Z n0 own nm bytes ml (some ty)) (X : own_St p l e R s m args below meth c n0 T h cells slots) (hd : decode bytes pc = .ok (.areturn, 1)) (ht : ty.isReference = true) (hv : v.isRef = true) (hn : narrow ty v = v) (hc : cells ≤ R.cells) (hs : slots ≤ R.slots) (hq : Q (some v) h) : own_Go p e below n0 (own_Fin R s Q) (T.setTop (mkF m pc L (v :: S))) := by
  obtain ⟨locs, X, N, rfl⟩ := X
  have hlk : meth.locks = false := C.2.2.2.2.2.2.1
  obtain ⟨fs, hr, hrun, hended, hW, hsame⟩ := X.leave (v := some v) (fun h => by rw [C.2.2.2.2.2.1] at h; cases h) hlk
  exact ⟨_, _, locs, retOut X C.1 C.2.2.2.2.2.1 hn (Or.inr (Or.inr (Or.inr (Or.inr ⟨rfl, ht, hv⟩)))) (hb C.2.1 hd) hr, hrun, hended, N, hq, ⟨_, rfl⟩, hW, hsame.mono hc hs⟩
theorem own_return  (C : own_Cx p s m meth c Z n0 own nm bytes ml (none)) (X : own_St p l e R s m args below meth c n0 T h cells slots) (hd : decode bytes pc = .ok (.return_, 1))  (hc : cells ≤ R.cells) (hs : slots ≤ R.slots) (hq : Q (none) h) : own_Go p e below n0 (own_Fin R s Q) (T.setTop (mkF m pc L ([]))) := by
  obtain ⟨locs, X, N, rfl⟩ := X
  have hlk : meth.locks = false := C.2.2.2.2.2.2.1
  obtain ⟨fs, hr, hrun, hended, hW, hsame⟩ := X.leave (v := none) (fun _ => rfl) hlk
  exact ⟨_, _, locs, X.returnOut C.1 C.2.2.2.2.2.1 (hb C.2.1 hd) hr, hrun, hended, N, hq, ⟨_, rfl⟩, hW, hsame.mono hc hs⟩
end OwnKit
end Jvm.Pilot.@@N@@
namespace Jvm.Pilot.@@N@@
open Jvm Jvm.ClassFile Sem Op Lib Jvm.Free Jvm.Stand Jvm.LawKit Jvm.RoadKit Bundle Jvm.Pilot.@@N@@.Jvm.D
section OwnKitTwo
variable {p : Program} {l : Launch} {e : Env} {R : Room} {s : State} {m : MethodId} {args : Array Value} {below : List Frame} {meth : Method} {c : Code} {T : State} {cells slots : Nat} {Z : State} {a0 : Array Value} {h h' : Heap} {n0 : Nat} {own nm : String} {bytes : ByteArray} {ml : Nat} {ret : Option FieldType} {F : Option Value → State → List Loc → Prop} {pc pc' pcT : Nat} {L L' : Array Slot} {S : List Value} {a b : Addr} {ty : FieldType} {ws : List Addr}
/-! arrays by their lists -/
def own_IA (Z : State) (h : Heap) (a : Addr) (ty : FieldType) (xs : List Int32) : Prop := ∃ c : Cell, Arr Z h a c ty ∧ c.slots.toList = xs.map Value.int ∧ xs.length < 2 ^ 31 ∧ ∀ x ∈ xs, fits ty (.int x) = true
def own_JA (Z : State) (h : Heap) (a : Addr) (xs : List Int64) : Prop := ∃ c : Cell, Arr Z h a c .long ∧ c.slots.toList = xs.map Value.long ∧ xs.length < 2 ^ 31
theorem own_IA.keep {xs : List Int32} (A : own_IA Z h a ty xs) (K : Keep h h' ws) (q : a ∉ ws) : own_IA Z h' a ty xs := by
  obtain ⟨c, A, r⟩ := A; exact ⟨c, ⟨K.2.1 a c A.1 q, A.2⟩, r⟩
theorem own_JA.keep {xs : List Int64} (A : own_JA Z h a xs) (K : Keep h h' ws) (q : a ∉ ws) : own_JA Z h' a xs := by
  obtain ⟨c, A, r⟩ := A; exact ⟨c, ⟨K.2.1 a c A.1 q, A.2⟩, r⟩
theorem own_IA.lt {xs : List Int32} (A : own_IA Z h a ty xs) : a < h.size := by obtain ⟨c, A, r⟩ := A; exact A.lt
theorem own_JA.lt {xs : List Int64} (A : own_JA Z h a xs) : a < h.size := by obtain ⟨c, A, r⟩ := A; exact A.lt
theorem own_ix {j : Int32} {i : Nat} (hj : j.toInt = (i : Int)) : ¬ j < 0 ∧ j.toNatClampNeg = i := by
  refine ⟨?_, ?_⟩
  · rw [Int32.lt_iff_toInt_lt, hj]; show ¬ (i : Int) < 0; omega
  · simp only [Int32.toNatClampNeg, hj, Int.toNat_natCast]
theorem own_sz {α : Type} {f : α → Value} {c : Cell} {xs : List α} (e : c.slots.toList = xs.map f) : c.slots.size = xs.length := by
  have := congrArg List.length e; simpa using this
theorem own_in {α : Type} {f : α → Value} {c : Cell} {xs : List α} (e : c.slots.toList = xs.map f) {j : Int32} {i : Nat} (hj : j.toInt = (i : Int)) (hi : i < xs.length) : ¬ (j < 0 ∨ c.slots.size ≤ j.toNatClampNeg) := by
  obtain ⟨q1, q2⟩ := own_ix hj
  rw [own_sz e, q2]
  exact fun q => q.elim q1 (fun q => Nat.lt_irrefl _ (Nat.lt_of_lt_of_le hi q))
theorem own_at {α : Type} {f : α → Value} {c : Cell} {xs : List α} (e : c.slots.toList = xs.map f) {j : Int32} {i : Nat} (hj : j.toInt = (i : Int)) {v : α} (hv : xs[i]? = some v) : c.slots[j.toNatClampNeg]? = some (f v) := by
  rw [(own_ix hj).2, ← Array.getElem?_toList, e, List.getElem?_map, hv]; rfl
theorem own_lt_of {α : Type} {xs : List α} {i : Nat} {v : α} (hv : xs[i]? = some v) : i < xs.length := (List.getElem?_eq_some_iff.mp hv).1
theorem own_set {α : Type} {f : α → Value} {c : Cell} {xs : List α} (e : c.slots.toList = xs.map f) {j : Int32} {i : Nat} (hj : j.toInt = (i : Int)) {v : α} : (c.setSlot j.toNatClampNeg (f v)).slots.toList = (xs.set i v).map f := by
  rw [(own_ix hj).2]; simp only [Cell.setSlot, Array.toList_setIfInBounds, e, List.map_set]
theorem own_iaload (C : own_Cx p s m meth c Z n0 own nm bytes ml ret) (X : own_St p l e R s m args below meth c n0 T h cells slots) {j v : Int32} {i : Nat} {xs : List Int32} (hd : decode bytes pc = .ok (.iaload, 1)) (A : own_IA Z h a .int xs) (hj : j.toInt = (i : Int)) (hv : xs[i]? = some v) (hp : pc + 1 = pc')
    (g : own_Go p e below n0 F (T.setTop (mkF m pc' L (.int v :: S)))) : own_Go p e below n0 F (T.setTop (mkF m pc L (.int j :: .ref a :: S))) := by
  obtain ⟨locs, X, -, rfl⟩ := X; subst hp; obtain ⟨cl, A, ec, -⟩ := A
  exact own_st (fun t k => X.iaload C.1 A.1 (State.isArrayOf_alike C.2.2.2.2.2.2.2.1.alike A.2.1) A.2.2 (own_in ec hj (own_lt_of hv)) (own_at ec hj hv) (g := mkF m pc L (.int j :: .ref a :: S)) rfl rfl (hb C.2.1 hd) t k) g
theorem own_baload (C : own_Cx p s m meth c Z n0 own nm bytes ml ret) (X : own_St p l e R s m args below meth c n0 T h cells slots) {j v : Int32} {i : Nat} {xs : List Int32} (hd : decode bytes pc = .ok (.baload, 1)) (A : own_IA Z h a .byte xs) (hj : j.toInt = (i : Int)) (hv : xs[i]? = some v) (hp : pc + 1 = pc')
    (g : own_Go p e below n0 F (T.setTop (mkF m pc' L (.int v :: S)))) : own_Go p e below n0 F (T.setTop (mkF m pc L (.int j :: .ref a :: S))) := by
  obtain ⟨locs, X, -, rfl⟩ := X; subst hp; obtain ⟨cl, A, ec, -⟩ := A
  exact own_st (fun t k => X.baloadBytes C.1 A.1 (State.isArrayOf_alike C.2.2.2.2.2.2.2.1.alike A.2.1) A.2.2 (own_in ec hj (own_lt_of hv)) (own_at ec hj hv) (g := mkF m pc L (.int j :: .ref a :: S)) rfl rfl (hb C.2.1 hd) t k) g
theorem own_laload (C : own_Cx p s m meth c Z n0 own nm bytes ml ret) (X : own_St p l e R s m args below meth c n0 T h cells slots) {j : Int32} {v : Int64} {i : Nat} {xs : List Int64} (hd : decode bytes pc = .ok (.laload, 1)) (A : own_JA Z h a xs) (hj : j.toInt = (i : Int)) (hv : xs[i]? = some v) (hp : pc + 1 = pc')
    (g : own_Go p e below n0 F (T.setTop (mkF m pc' L (.long v :: S)))) : own_Go p e below n0 F (T.setTop (mkF m pc L (.int j :: .ref a :: S))) := by
  obtain ⟨locs, X, -, rfl⟩ := X; subst hp; obtain ⟨cl, A, ec, -⟩ := A
  exact own_st (fun t k => X.laload C.1 A.1 (State.isArrayOf_alike C.2.2.2.2.2.2.2.1.alike A.2.1) A.2.2 (own_in ec hj (own_lt_of hv)) (own_at ec hj hv) (g := mkF m pc L (.int j :: .ref a :: S)) rfl rfl (hb C.2.1 hd) t k) g
theorem own_len {α : Type} {f : α → Value} {c : Cell} {xs : List α} (e : c.slots.toList = xs.map f) (hb : xs.length < 2 ^ 31) {n : Int32} (hn : n.toInt = (xs.length : Int)) : c.slots.size.toInt32 = n := by
  rw [own_sz e]; exact Int32.toInt_inj.mp (by rw [len_toInt hb, hn])
theorem own_alenI (C : own_Cx p s m meth c Z n0 own nm bytes ml ret) (X : own_St p l e R s m args below meth c n0 T h cells slots) {n : Int32} {xs : List Int32} (hd : decode bytes pc = .ok (.arraylength, 1)) (A : own_IA Z h a ty xs) (hn : n.toInt = (xs.length : Int)) (hp : pc + 1 = pc')
    (g : own_Go p e below n0 F (T.setTop (mkF m pc' L (.int n :: S)))) : own_Go p e below n0 F (T.setTop (mkF m pc L (.ref a :: S))) := by
  obtain ⟨locs, X, -, rfl⟩ := X; subst hp; obtain ⟨cl, A, ec, hb1, -⟩ := A
  have := own_len ec hb1 hn; subst this
  exact own_st (fun t k => X.arraylength C.1 A.1 (State.isArrayOf_alike C.2.2.2.2.2.2.2.1.alike A.2.1) (g := mkF m pc L (.ref a :: S)) rfl rfl (hb C.2.1 hd) t k) g
theorem own_alenJ (C : own_Cx p s m meth c Z n0 own nm bytes ml ret) (X : own_St p l e R s m args below meth c n0 T h cells slots) {n : Int32} {xs : List Int64} (hd : decode bytes pc = .ok (.arraylength, 1)) (A : own_JA Z h a xs) (hn : n.toInt = (xs.length : Int)) (hp : pc + 1 = pc')
    (g : own_Go p e below n0 F (T.setTop (mkF m pc' L (.int n :: S)))) : own_Go p e below n0 F (T.setTop (mkF m pc L (.ref a :: S))) := by
  obtain ⟨locs, X, -, rfl⟩ := X; subst hp; obtain ⟨cl, A, ec, hb1⟩ := A
  have := own_len ec hb1 hn; subst this
  exact own_st (fun t k => X.arraylength C.1 A.1 (State.isArrayOf_alike C.2.2.2.2.2.2.2.1.alike A.2.1) (g := mkF m pc L (.ref a :: S)) rfl rfl (hb C.2.1 hd) t k) g
theorem own_fitset {xs : List Int32} {i : Nat} {v : Int32} (hf : ∀ x ∈ xs, fits ty (.int x) = true) (hv : fits ty (.int v) = true) : ∀ x ∈ xs.set i v, fits ty (.int x) = true := fun x hx =>
  (List.mem_or_eq_of_mem_set hx).elim (hf x) (fun q => q ▸ hv)
theorem own_bastore (C : own_Cx p s m meth c Z n0 own nm bytes ml ret) (X : own_St p l e R s m args below meth c n0 T h cells slots) {j x v : Int32} {i : Nat} {xs : List Int32} (hd : decode bytes pc = .ok (.bastore, 1)) (A : own_IA Z h a .byte xs) (hj : j.toInt = (i : Int)) (hi : i < xs.length) (hx : x.toInt8.toInt32 = v) (ha : n0 ≤ a) (hp : pc + 1 = pc')
    (g : ∀ T' h', own_St p l e R s m args below meth c n0 T' h' cells slots → Keep h h' [a] → own_IA Z h' a .byte (xs.set i v) → own_Go p e below n0 F (T'.setTop (mkF m pc' L S))) : own_Go p e below n0 F (T.setTop (mkF m pc L (.int x :: .int j :: .ref a :: S))) := by
  obtain ⟨locs, X, N, e0⟩ := X; subst hp; subst hx; obtain ⟨cl, A, ec, hl, hf⟩ := A
  obtain ⟨T', h2, X', e', W, st⟩ := stB X C.1 C.2.2.2.2.2.2.2.1 e0 A (own_in ec hj hi) (g := mkF m pc L (.int x :: .int j :: .ref a :: S)) rfl rfl (hb C.2.1 hd)
  exact own_st st (g T' h2 ⟨_, X', Fr.snoc X' N ha, e'⟩ (Keep.of_wr W) ⟨_, A.same W, own_set ec hj, by simpa using hl, own_fitset hf (fits_nar_byte x)⟩)
theorem own_iastore (C : own_Cx p s m meth c Z n0 own nm bytes ml ret) (X : own_St p l e R s m args below meth c n0 T h cells slots) {j x : Int32} {i : Nat} {xs : List Int32} (hd : decode bytes pc = .ok (.iastore, 1)) (A : own_IA Z h a .int xs) (hj : j.toInt = (i : Int)) (hi : i < xs.length) (ha : n0 ≤ a) (hp : pc + 1 = pc')
    (g : ∀ T' h', own_St p l e R s m args below meth c n0 T' h' cells slots → Keep h h' [a] → own_IA Z h' a .int (xs.set i x) → own_Go p e below n0 F (T'.setTop (mkF m pc' L S))) : own_Go p e below n0 F (T.setTop (mkF m pc L (.int x :: .int j :: .ref a :: S))) := by
  obtain ⟨locs, X, N, e0⟩ := X; subst hp; obtain ⟨cl, A, ec, hl, hf⟩ := A
  obtain ⟨T', h2, X', e', W, st⟩ := stI X C.1 C.2.2.2.2.2.2.2.1 e0 A (own_in ec hj hi) (g := mkF m pc L (.int x :: .int j :: .ref a :: S)) rfl rfl (hb C.2.1 hd)
  exact own_st st (g T' h2 ⟨_, X', Fr.snoc X' N ha, e'⟩ (Keep.of_wr W) ⟨_, A.same W, own_set ec hj, by simpa using hl, own_fitset hf rfl⟩)
theorem own_lastore (C : own_Cx p s m meth c Z n0 own nm bytes ml ret) (X : own_St p l e R s m args below meth c n0 T h cells slots) {j : Int32} {x : Int64} {i : Nat} {xs : List Int64} (hd : decode bytes pc = .ok (.lastore, 1)) (A : own_JA Z h a xs) (hj : j.toInt = (i : Int)) (hi : i < xs.length) (ha : n0 ≤ a) (hp : pc + 1 = pc')
    (g : ∀ T' h', own_St p l e R s m args below meth c n0 T' h' cells slots → Keep h h' [a] → own_JA Z h' a (xs.set i x) → own_Go p e below n0 F (T'.setTop (mkF m pc' L S))) : own_Go p e below n0 F (T.setTop (mkF m pc L (.long x :: .int j :: .ref a :: S))) := by
  obtain ⟨locs, X, N, e0⟩ := X; subst hp; obtain ⟨cl, A, ec, hl⟩ := A
  obtain ⟨T', h2, X', e', W, st⟩ := stJ X C.1 C.2.2.2.2.2.2.2.1 e0 A (own_in ec hj hi) (g := mkF m pc L (.long x :: .int j :: .ref a :: S)) rfl rfl (hb C.2.1 hd)
  exact own_st st (g T' h2 ⟨_, X', Fr.snoc X' N ha, e'⟩ (Keep.of_wr W) ⟨_, A.same W, own_set ec hj, by simpa using hl⟩)
theorem own_keep_ext (E : Ext h h') : Keep h h' [] := (Keep.refl h []).ext E
theorem own_newI (C : own_Cx p s m meth c Z n0 own nm bytes ml ret) (X : own_St p l e R s m args below meth c n0 T h cells slots) {aty : ArrayType} {n : Int32} {k cap : Nat} (hd : decode bytes pc = .ok (.newarray aty, 2)) (hty : newarray.typeOf aty = ty) (w : (Jvm.Cond.arrayClass ty).before a0 Z = true) (hn : n.toInt = (k : Int)) (hcap : k ≤ cap) (hb8 : cap * 8 ≤ 536870912)
    (hc : cells + 1 ≤ R.cells) (hs : slots + cap ≤ R.slots) (hdef : defaultValue ty = .int 0) (hfit : fits ty (.int 0) = true) (hp : pc + 2 = pc')
    (g : ∀ T' h' a, a = h.size → own_St p l e R s m args below meth c n0 T' h' (cells + 1) (slots + cap) → Keep h h' [] → n0 ≤ a → own_IA Z h' a ty (List.replicate k 0) → own_Go p e below n0 F (T'.setTop (mkF m pc' L (.ref a :: S)))) : own_Go p e below n0 F (T.setTop (mkF m pc L (.int n :: S))) := by
  have hbig := own_big C X
  obtain ⟨locs, X, N, e0⟩ := X; subst hp; subst hty
  obtain ⟨q1, q2⟩ := own_ix hn
  obtain ⟨T', h2, cA, X', e', E, A, st⟩ := newP X C.1 C.2.2.2.2.2.2.2.1 w e0 (g := mkF m pc L (.int n :: S)) rfl (hb C.2.1 hd) rfl q1 (cap := cap) (by rw [q2]; exact hcap) hb8 hc hs
  refine own_st st (g T' h2 _ rfl ⟨_, X', N, e'⟩ (own_keep_ext E) hbig ⟨_, A, ?_, ?_, ?_⟩)
  · simp [newA, q2, hdef]
  · have := n.toInt_lt; simp only [List.length_replicate]; omega
  · intro x hx; obtain ⟨-, rfl⟩ := List.mem_replicate.mp hx; exact hfit
theorem own_newJ (C : own_Cx p s m meth c Z n0 own nm bytes ml ret) (X : own_St p l e R s m args below meth c n0 T h cells slots) {n : Int32} {k cap : Nat} (hd : decode bytes pc = .ok (.newarray .long, 2)) (w : (Jvm.Cond.arrayClass .long).before a0 Z = true) (hn : n.toInt = (k : Int)) (hcap : k ≤ cap) (hb8 : cap * 8 ≤ 536870912)
    (hc : cells + 1 ≤ R.cells) (hs : slots + cap ≤ R.slots) (hp : pc + 2 = pc')
    (g : ∀ T' h' a, a = h.size → own_St p l e R s m args below meth c n0 T' h' (cells + 1) (slots + cap) → Keep h h' [] → n0 ≤ a → own_JA Z h' a (List.replicate k 0) → own_Go p e below n0 F (T'.setTop (mkF m pc' L (.ref a :: S)))) : own_Go p e below n0 F (T.setTop (mkF m pc L (.int n :: S))) := by
  have hbig := own_big C X
  obtain ⟨locs, X, N, e0⟩ := X; subst hp
  obtain ⟨q1, q2⟩ := own_ix hn
  obtain ⟨T', h2, cA, X', e', E, A, st⟩ := newP (aty := .long) X C.1 C.2.2.2.2.2.2.2.1 w e0 (g := mkF m pc L (.int n :: S)) rfl (hb C.2.1 hd) rfl q1 (cap := cap) (by rw [q2]; exact hcap) hb8 hc hs
  refine own_st st (g T' h2 _ rfl ⟨_, X', N, e'⟩ (own_keep_ext E) hbig ⟨_, A, ?_, ?_⟩)
  · simp [newA, q2, defaultValue, newarray.typeOf]
  · have := n.toInt_lt; simp only [List.length_replicate]; omega
/-! objects by the list of their fields: name, descriptor, value -/
def own_Ob (Z : State) (a0 : Array Value) (h : Heap) (a : Addr) (K : String) (fs : List (String × String × Value)) : Prop :=
  Exa Z h a K ∧ (fs.map (·.1)).Nodup ∧ ∀ f ∈ fs, Fld Z h a K f.1 f.2.1 f.2.2 ∧ Laid Z a0 K K f.1 f.2.1 ∧ ∃ t, parseFieldDescriptor f.2.1 = some t
theorem own_Ob.keep {K : String} {fs : List (String × String × Value)} (O : own_Ob Z a0 h a K fs) (W : Keep h h' ws) (q : a ∉ ws) : own_Ob Z a0 h' a K fs :=
  ⟨O.1.keep W, O.2.1, fun f hf => ⟨(O.2.2 f hf).1.keep W q, (O.2.2 f hf).2⟩⟩
theorem own_Ob.lt {K : String} {fs : List (String × String × Value)} (O : own_Ob Z a0 h a K fs) : a < h.size := O.1.lt
theorem own_Ob.put {K n d : String} {fs : List (String × String × Value)} {v w : Value} {i : Nat} (O : own_Ob Z a0 h a K fs) (hi : fs[i]? = some (n, d, w)) (W : Wr h h' a (Jvm.RoadKit.slotOf Z K n d) v) : own_Ob Z a0 h' a K (fs.set i (n, d, v)) := by
  obtain ⟨hlt, hget⟩ := List.getElem?_eq_some_iff.mp hi
  have hmem : (n, d, w) ∈ fs := hget ▸ List.getElem_mem hlt
  have hnames : (fs.set i (n, d, v)).map (·.1) = fs.map (·.1) := by
    rw [List.map_set]
    apply List.ext_getElem? ; intro k
    by_cases hk : i = k
    · subst hk; rw [List.getElem?_set_self (by simpa using hlt), List.getElem?_map, hi]; rfl
    · rw [List.getElem?_set_ne hk]
  refine ⟨O.1.wr W, by rw [hnames]; exact O.2.1, fun f hf => ?_⟩
  obtain ⟨k, hk, hfk⟩ := List.getElem_of_mem hf
  have hk' : (fs.set i (n, d, v))[k]? = some f := List.getElem?_eq_some_iff.mpr ⟨hk, hfk⟩
  by_cases hik : i = k
  · subst hik
    rw [List.getElem?_set_self hlt] at hk'; cases hk'
    exact ⟨(O.2.2 _ hmem).1.same W, (O.2.2 _ hmem).2⟩
  · rw [List.getElem?_set_ne hik] at hk'
    obtain ⟨hlk, hgk⟩ := List.getElem?_eq_some_iff.mp hk'
    have hfm : f ∈ fs := hgk ▸ List.getElem_mem hlk
    obtain ⟨F, La, t, ht⟩ := O.2.2 f hfm
    obtain ⟨-, La', t', ht'⟩ := O.2.2 _ hmem
    refine ⟨F.other W (Or.inr (slot_ne La La' (fun hne => ?_) ht ht')), La, t, ht⟩
    have hnd := List.pairwise_iff_getElem.mp O.2.1
    rcases Nat.lt_or_gt_of_ne hik with q | q
    · exact hnd i k (by simpa using hlt) (by simpa using hlk) q (by simp [hget, hgk, hne])
    · exact hnd k i (by simpa using hlk) (by simpa using hlt) q (by simp [hget, hgk, hne])
theorem own_Ob.get {K n d : String} {fs : List (String × String × Value)} {v : Value} {i : Nat} (O : own_Ob Z a0 h a K fs) (hi : fs[i]? = some (n, d, v)) : Fld Z h a K n d v := by
  obtain ⟨hlt, hget⟩ := List.getElem?_eq_some_iff.mp hi
  exact (O.2.2 (n, d, v) (hget ▸ List.getElem_mem hlt)).1
theorem own_getfield (C : own_Cx p s m meth c Z n0 own nm bytes ml ret) (X : own_St p l e R s m args below meth c n0 T h cells slots) {K n d : String} {idx i : Nat} {fs : List (String × String × Value)} {v : Value} (hd : decode bytes pc = .ok (.getfield idx, 3)) (w : (Jvm.Cond.fieldLink own idx K n d).before a0 Z = true) (O : own_Ob Z a0 h a K fs) (hi : fs[i]? = some (n, d, v)) (hp : pc + 3 = pc')
    (g : ∀ T', own_St p l e R s m args below meth c n0 T' h cells slots → own_Go p e below n0 F (T'.setTop (mkF m pc' L (v :: S)))) : own_Go p e below n0 F (T.setTop (mkF m pc L (.ref a :: S))) := by
  obtain ⟨locs, X, N, e0⟩ := X; subst hp
  obtain ⟨T', X', e', st⟩ := getF X C.1 C.2.2.2.2.2.2.2.1 C.2.2.2.1 (host := "") (Or.inl w) Via.refl e0 (O.get hi) (g := mkF m pc L (.ref a :: S)) rfl rfl (hb C.2.1 hd)
  exact own_st st (g T' ⟨_, X', N, e'⟩)
theorem own_putfield (C : own_Cx p s m meth c Z n0 own nm bytes ml ret) (X : own_St p l e R s m args below meth c n0 T h cells slots) {K n d : String} {idx i kk : Nat} {fs : List (String × String × Value)} {v old : Value} (hd : decode bytes pc = .ok (.putfield idx, 3)) (w : (Jvm.Cond.fieldLink own idx K n d).before a0 Z = true)
    (lay : (Jvm.Cond.lays K K n d).before a0 Z = true ∨ ((Jvm.Cond.laysFinal K K n d).before a0 Z = true ∧ own = K ∧ nm = "<init>")) (wi : (Jvm.Cond.instantiable K kk).before a0 Z = true) (O : own_Ob Z a0 h a K fs) (hi : fs[i]? = some (n, d, old)) (hty : parseFieldDescriptor d = some ty) (hn : narrow ty v = v) (hf : fits ty v = true) (ha : n0 ≤ a) (hp : pc + 3 = pc')
    (g : ∀ T' h', own_St p l e R s m args below meth c n0 T' h' cells slots → Keep h h' [a] → own_Ob Z a0 h' a K (fs.set i (n, d, v)) → own_Go p e below n0 F (T'.setTop (mkF m pc' L S))) : own_Go p e below n0 F (T.setTop (mkF m pc L (v :: .ref a :: S))) := by
  obtain ⟨locs, X, N, e0⟩ := X; subst hp
  obtain ⟨T', h2, X', e', W, st⟩ := putF X C.1 C.2.2.2.2.2.2.2.1 C.2.2.2.1 (host := "") (Or.inl w) Via.refl e0 (O.get hi) O.1 (lay.imp id (fun q => ⟨q.1, q.2.1, C.2.2.2.2.1.trans q.2.2⟩)) wi hty hn hf (g := mkF m pc L (v :: .ref a :: S)) rfl rfl (hb C.2.1 hd)
  exact own_st st (g T' h2 ⟨_, X', Fr.snoc X' N ha, e'⟩ (Keep.of_wr W) (O.put hi W))
theorem own_new (C : own_Cx p s m meth c Z n0 own nm bytes ml ret) (X : own_St p l e R s m args below meth c n0 T h cells slots) {K : String} {idx k : Nat} (hd : decode bytes pc = .ok (.new idx, 3)) (w : (Jvm.Cond.classLink own idx K).before a0 Z = true) (wi : (Jvm.Cond.instantiable K k).before a0 Z = true) (wz : (Jvm.Cond.initialized K).before a0 Z = true)
    (hc : cells + 1 ≤ R.cells) (hs : slots + k ≤ R.slots) (fs : List (String × String × Value)) (hnd : (fs.map (·.1)).Nodup) (hfs : ∀ f ∈ fs, Laid Z a0 K K f.1 f.2.1 ∧ ∃ t, parseFieldDescriptor f.2.1 = some t ∧ defaultValue t = f.2.2) (hp : pc + 3 = pc')
    (g : ∀ T' h' a, a = h.size → own_St p l e R s m args below meth c n0 T' h' (cells + 1) (slots + k) → Keep h h' [] → n0 ≤ a → own_Ob Z a0 h' a K fs → own_Go p e below n0 F (T'.setTop (mkF m pc' L (.ref a :: S)))) : own_Go p e below n0 F (T.setTop (mkF m pc L S)) := by
  have hbig := own_big C X
  obtain ⟨locs, X, N, e0⟩ := X; subst hp
  obtain ⟨T', h2, X', e', E, A, D, -, st⟩ := newO X C.1 C.2.2.2.2.2.2.2.1 C.2.2.2.1 w wi wz e0 (g := mkF m pc L S) rfl (hb C.2.1 hd) hc hs
  refine own_st st (g T' h2 _ rfl ⟨_, X', N, e'⟩ (own_keep_ext E) hbig ⟨A, hnd, fun f hf => ?_⟩)
  obtain ⟨La, t, ht, hdv⟩ := hfs f hf
  exact ⟨hdv ▸ D La ht, La, t, ht⟩
theorem own_objinit (C : own_Cx p s m meth c Z n0 own nm bytes ml ret) (X : own_St p l e R s m args below meth c n0 T h cells slots) {idx : Nat} (hd : decode bytes pc = .ok (.invokespecial idx, 3)) (w1 : (Jvm.Cond.methodLink own idx Lib.objectInit).before a0 Z = true) (w2 : (Jvm.Cond.instanceMethod Lib.objectInit).before a0 Z = true) (w3 : (Jvm.Cond.code Lib.objectInit ⟨#[0xb1]⟩ 1 none).before a0 Z = true)
    (hL : L.size = ml) (hf : 1 ≤ R.frames) (hlo : (S.map fun v => v.category).sum + 12 ≤ R.locals) (hp : pc + 3 = pc')
    (g : ∀ T', own_St p l e R s m args below meth c n0 T' h cells slots → own_Go p e below n0 F (T'.setTop (mkF m pc' L S))) : own_Go p e below n0 F (T.setTop (mkF m pc L (.ref a :: S))) := by
  obtain ⟨locs, X, N, e0⟩ := X; subst hp
  obtain ⟨T', X', e', st⟩ := initO X C.1 C.2.2.2.2.2.2.2.1 C.2.2.2.1 w1 w2 w3 e0 (g := mkF m pc L (.ref a :: S)) rfl (by rw [C.2.2.1]; exact hL) rfl (hb C.2.1 hd) hf (W := (S.map fun v => v.category).sum) (by show 2 * 0 + _ ≤ _; omega) hlo
  exact own_st st (g T' ⟨_, X', N, e'⟩)
/-! calls -/
theorem own_callS (C : own_Cx p s m meth c Z n0 own nm bytes ml ret) (X : own_St p l e R s m args below meth c n0 T h cells slots) {y : MethodName} {by' : ByteArray} {ml' idx : Nat} {rt ret' : Option FieldType} {ps : List FieldType} {rm : Room} {av : List Value} {Qc : Option Value → Heap → Prop} (hd : decode bytes pc = .ok (.invokestatic idx, 3)) (M : own_Met l Z n0 y by' ml' ret' [] rm av.toArray h Qc)
    (w1 : (Jvm.Cond.methodLink own idx y).before a0 Z = true) (w2 : (Jvm.Cond.static y).before a0 Z = true) (w3 : (Jvm.Cond.initialized y.cls).before a0 Z = true) (w4 : (Jvm.Cond.code y by' ml' ret').before a0 Z = true) (hy : y.cls ≠ "java/lang/invoke/MethodHandle" ∧ y.cls ≠ "java/lang/invoke/VarHandle")
    (hde : parseMethodDescriptor y.desc = some ⟨ps, rt⟩) (hps : av.length = ps.length) (hL : L.size = ml) (hf : rm.frames + 1 ≤ R.frames) (hlo : (S.map fun v => v.category).sum + (ml' + 11) + rm.locals ≤ R.locals) (hc : cells + rm.cells ≤ R.cells) (hs : slots + rm.slots ≤ R.slots) {S0 : List Value} (hS : S0 = av.reverse ++ S) (hp : pc + 3 = pc')
    (g : ∀ T' h' v, own_St p l e R s m args below meth c n0 T' h' (cells + rm.cells) (slots + rm.slots) → Qc v h' → own_Go p e below n0 F (T'.setTop (mkF m pc' L (v.toList ++ S)))) : own_Go p e below n0 F (T.setTop (mkF m pc L S0)) := by
  obtain ⟨locs, X, N, e0⟩ := X; subst hp; subst hS
  have hZ := C.2.2.2.2.2.2.2.1
  obtain ⟨v, _, ⟨T2, L2, k2, n2⟩, -, X2, ⟨Lc, hQ, l2, y2, z2⟩, st⟩ := Jvm.LawKit.callS X C.1 (y := y) C.2.2.2.1 (mvT hZ w1) (mvT hZ w2) (mvT hZ w3) (mvT hZ w4) hy (backOf (W := (S.map fun v => v.category).sum) (Q := fun v h L => Qc v h ∧ Fr n0 L) M hZ w4 w3 hf hlo) (g := mkF m pc L (av.reverse ++ S)) rfl (by rw [C.2.2.1]; exact hL) (argsL := av) (rest := S) (lenOf hde hps) rfl (by show 2 * 0 + _ ≤ _; omega) (hb C.2.1 hd) (fun _ _ => ⟨rfl, e0, hc, hs⟩)
  dsimp only [Pt.U, Pt.locs, Pt.cells, Pt.slots] at X2 l2 y2 z2 st hQ
  subst l2 y2 z2
  exact own_st st (g T2 _ v ⟨_, X2, Fr.app N hQ.2, rfl⟩ hQ.1)
theorem own_callInit (C : own_Cx p s m meth c Z n0 own nm bytes ml ret) (X : own_St p l e R s m args below meth c n0 T h cells slots) {y : MethodName} {by' : ByteArray} {ml' idx : Nat} {rt : Option FieldType} {ps : List FieldType} {rm : Room} {av : List Value} {Qc : Option Value → Heap → Prop} (hd : decode bytes pc = .ok (.invokespecial idx, 3)) (M : own_Met l Z n0 y by' ml' none [] rm (.ref a :: av).toArray h Qc) (hy1 : y.name = "<init>")
    (w1 : (Jvm.Cond.methodLink own idx y).before a0 Z = true) (w2 : (Jvm.Cond.instanceMethod y).before a0 Z = true) (w3 : (Jvm.Cond.initialized y.cls).before a0 Z = true) (w4 : (Jvm.Cond.code y by' ml' none).before a0 Z = true) (hy : y.cls ≠ "java/lang/invoke/MethodHandle" ∧ y.cls ≠ "java/lang/invoke/VarHandle")
    (hde : parseMethodDescriptor y.desc = some ⟨ps, rt⟩) (hps : av.length = ps.length) (hL : L.size = ml) (hf : rm.frames + 1 ≤ R.frames) (hlo : (S.map fun v => v.category).sum + (ml' + 11) + rm.locals ≤ R.locals) (hc : cells + rm.cells ≤ R.cells) (hs : slots + rm.slots ≤ R.slots) {S0 : List Value} (hS : S0 = av.reverse ++ .ref a :: S) (hp : pc + 3 = pc')
    (g : ∀ T' h' v, own_St p l e R s m args below meth c n0 T' h' (cells + rm.cells) (slots + rm.slots) → Qc v h' → own_Go p e below n0 F (T'.setTop (mkF m pc' L (v.toList ++ S)))) : own_Go p e below n0 F (T.setTop (mkF m pc L S0)) := by
  obtain ⟨locs, X, N, e0⟩ := X; subst hp; subst hS
  have hZ := C.2.2.2.2.2.2.2.1
  obtain ⟨v, _, ⟨T2, L2, k2, n2⟩, -, X2, ⟨Lc, hQ, l2, y2, z2⟩, st⟩ := X.specialBack C.1 (y := y) hy1 C.2.2.2.1 (mvT hZ w1) (mvT hZ w2) (mvT hZ w4) hy (backOf (W := (S.map fun v => v.category).sum) (Q := fun v h L => Qc v h ∧ Fr n0 L) M hZ w4 w3 hf hlo) (g := mkF m pc L (av.reverse ++ .ref a :: S)) rfl (by rw [C.2.2.1]; exact hL) (Steps.refl _) (a := a) (argsL := av) (rest := S) (lenOf hde hps) rfl (by show 2 * 0 + _ ≤ _; omega) (hb C.2.1 hd) (fun _ _ => ⟨rfl, e0, hc, hs⟩)
  dsimp only [Pt.U, Pt.locs, Pt.cells, Pt.slots] at X2 l2 y2 z2 st hQ
  subst l2 y2 z2
  exact own_st (fun t k => st.trans k) (g T2 _ v ⟨_, X2, Fr.app N hQ.2, rfl⟩ hQ.1)
theorem own_callV (C : own_Cx p s m meth c Z n0 own nm bytes ml ret) (X : own_St p l e R s m args below meth c n0 T h cells slots) {y : MethodName} {by' : ByteArray} {ml' idx : Nat} {rt ret' : Option FieldType} {ps : List FieldType} {rm : Room} {av : List Value} {Qc : Option Value → Heap → Prop} (hd : decode bytes pc = .ok (.invokevirtual idx, 3)) (M : own_Met l Z n0 y by' ml' ret' [] rm (.ref a :: av).toArray h Qc)
    (E : Exa Z h a y.cls) (w1 : (Jvm.Cond.methodLink own idx y).before a0 Z = true) (wd : (Jvm.Cond.declares y).before a0 Z = true) (ws : (Jvm.Cond.selects y.cls y y).before a0 Z = true) (w2 : (Jvm.Cond.instanceMethod y).before a0 Z = true) (w3 : (Jvm.Cond.initialized y.cls).before a0 Z = true) (w4 : (Jvm.Cond.code y by' ml' ret').before a0 Z = true) (hy : y.cls ≠ "java/lang/invoke/MethodHandle" ∧ y.cls ≠ "java/lang/invoke/VarHandle")
    (hde : parseMethodDescriptor y.desc = some ⟨ps, rt⟩) (hps : av.length = ps.length) (hL : L.size = ml) (hf : rm.frames + 1 ≤ R.frames) (hlo : (S.map fun v => v.category).sum + (ml' + 11) + rm.locals ≤ R.locals) (hc : cells + rm.cells ≤ R.cells) (hs : slots + rm.slots ≤ R.slots) {S0 : List Value} (hS : S0 = av.reverse ++ .ref a :: S) (hp : pc + 3 = pc')
    (g : ∀ T' h' v, own_St p l e R s m args below meth c n0 T' h' (cells + rm.cells) (slots + rm.slots) → Qc v h' → own_Go p e below n0 F (T'.setTop (mkF m pc' L (v.toList ++ S)))) : own_Go p e below n0 F (T.setTop (mkF m pc L S0)) := by
  obtain ⟨locs, X, N, e0⟩ := X; subst hp; subst hS
  have hZ := C.2.2.2.2.2.2.2.1
  obtain ⟨cq, kq, qa, qb, qc⟩ := isOf hZ e0 E
  obtain ⟨v, _, ⟨T2, L2, k2, n2⟩, -, X2, ⟨Lc, hQ, l2, y2, z2⟩, st⟩ := X.virtualBack C.1 (y := y) (z := y) C.2.2.2.1 (mvT hZ w1) (mvT hZ wd) (notFace_of_selects (args := #[]) (mvT hZ ws)) (mvT hZ ws) (mvT hZ w2) hy (backOf (W := (S.map fun v => v.category).sum) (Q := fun v h L => Qc v h ∧ Fr n0 L) M hZ w4 w3 hf hlo) qa qc (g := mkF m pc L (av.reverse ++ .ref a :: S)) rfl (by rw [C.2.2.1]; exact hL) (Steps.refl _) (argsL := av) (rest := S) (lenOf hde hps) rfl (by show 2 * 0 + _ ≤ _; omega) (hb C.2.1 hd) (fun _ _ => ⟨rfl, e0, hc, hs⟩)
  dsimp only [Pt.U, Pt.locs, Pt.cells, Pt.slots] at X2 l2 y2 z2 st hQ
  subst l2 y2 z2
  exact own_st (fun t k => st.trans k) (g T2 _ v ⟨_, X2, Fr.app N hQ.2, rfl⟩ hQ.1)
/-- a private method selects itself (turned from the worked claim gauge-weight) -/
theorem own_selP {s : State} {args : Array Value} {n : Nat} {y : MethodName} (hy : y.cls ≠ "java/lang/invoke/MethodHandle" ∧ y.cls ≠ "java/lang/invoke/VarHandle") (hins : (Jvm.Cond.instantiable y.cls n).before args s = true) (hpriv : (Jvm.Cond.privateMethod y).before args s = true) (hinst : (Jvm.Cond.instanceMethod y).before args s = true) :
    (Jvm.Cond.selects y.cls y y).before args s = true := by
  obtain ⟨c, k, hc, hk, -, hniab, -, -⟩ := Cond.instantiable_spec hins
  have hni : k.isInterface = false := (Bool.or_eq_false_iff.mp hniab).1
  obtain ⟨mk, methM, hnamed, hmethM, -, -⟩ := Cond.instanceMethod_spec hinst
  have hfound : s.methodFound? y.cls y.name y.desc = some mk := State.methodFound?_of_named hnamed hy
  have hcls : mk.cls = c := Option.some.inj ((findClass_of_methodNamed hnamed).symm.trans hc)
  have hsel : selectMethod {} s.vm c mk = .method mk := selectMethod_private hmethM (Cond.privateMethod_at hpriv mk methM hnamed hmethM)
  simp only [Cond.before, Cond.holds, Cond.value, hc, hfound, hnamed, hsel, hcls, hk]
  simp; exact hni
theorem own_callP (C : own_Cx p s m meth c Z n0 own nm bytes ml ret) (X : own_St p l e R s m args below meth c n0 T h cells slots) {y : MethodName} {by' : ByteArray} {ml' idx : Nat} {rt ret' : Option FieldType} {ps : List FieldType} {rm : Room} {av : List Value} {Qc : Option Value → Heap → Prop} (hd : decode bytes pc = .ok (.invokevirtual idx, 3)) (M : own_Met l Z n0 y by' ml' ret' [] rm (.ref a :: av).toArray h Qc)
    (E : Exa Z h a y.cls) (w1 : (Jvm.Cond.methodLink own idx y).before a0 Z = true) {kk : Nat} (wi : (Jvm.Cond.instantiable y.cls kk).before a0 Z = true) (wp : (Jvm.Cond.privateMethod y).before a0 Z = true) (w2 : (Jvm.Cond.instanceMethod y).before a0 Z = true) (w3 : (Jvm.Cond.initialized y.cls).before a0 Z = true) (w4 : (Jvm.Cond.code y by' ml' ret').before a0 Z = true) (hy : y.cls ≠ "java/lang/invoke/MethodHandle" ∧ y.cls ≠ "java/lang/invoke/VarHandle")
    (hde : parseMethodDescriptor y.desc = some ⟨ps, rt⟩) (hps : av.length = ps.length) (hL : L.size = ml) (hf : rm.frames + 1 ≤ R.frames) (hlo : (S.map fun v => v.category).sum + (ml' + 11) + rm.locals ≤ R.locals) (hc : cells + rm.cells ≤ R.cells) (hs : slots + rm.slots ≤ R.slots) {S0 : List Value} (hS : S0 = av.reverse ++ .ref a :: S) (hp : pc + 3 = pc')
    (g : ∀ T' h' v, own_St p l e R s m args below meth c n0 T' h' (cells + rm.cells) (slots + rm.slots) → Qc v h' → own_Go p e below n0 F (T'.setTop (mkF m pc' L (v.toList ++ S)))) : own_Go p e below n0 F (T.setTop (mkF m pc L S0)) := by
  obtain ⟨locs, X, N, e0⟩ := X; subst hp; subst hS
  have hZ := C.2.2.2.2.2.2.2.1
  obtain ⟨cq, q1, q2⟩ := E.cell
  obtain ⟨v, _, ⟨T2, L2, k2, n2⟩, -, X2, ⟨Lc, hQ, l2, y2, z2⟩, st⟩ := X.privateBack C.1 (y := y) C.2.2.2.1 (mvT hZ w1) (mvT hZ w2) (mvT hZ (own_selP hy wi wp w2)) (Cond.privateMethod_at (mvP hZ wp (args := #[]))) (mvT hZ w4) hy (backOf (W := (S.map fun v => v.category).sum) (Q := fun v h L => Qc v h ∧ Fr n0 L) M hZ w4 w3 hf hlo) (g := mkF m pc L (av.reverse ++ .ref a :: S)) rfl (by rw [C.2.2.1]; exact hL) (Steps.refl _) (a := a) (by rw [e0]; exact q1) q2 (argsL := av) (rest := S) (lenOf hde hps) rfl (by show 2 * 0 + _ ≤ _; omega) (hb C.2.1 hd) (fun _ _ => ⟨rfl, e0, hc, hs⟩)
  dsimp only [Pt.U, Pt.locs, Pt.cells, Pt.slots] at X2 l2 y2 z2 st hQ
  subst l2 y2 z2
  exact own_st (fun t k => st.trans k) (g T2 _ v ⟨_, X2, Fr.app N hQ.2, rfl⟩ hQ.1)
end OwnKitTwo
end Jvm.Pilot.@@N@@
namespace Jvm.Pilot.@@N@@
open Jvm Jvm.ClassFile Sem Op Lib Jvm.Free Jvm.Stand Jvm.LawKit Jvm.RoadKit Bundle Jvm.Pilot.@@N@@.Jvm.D
section OwnKitThree
theorem own_i2b2 (x : Int32) : x.toInt8.toInt32.toInt8.toInt32 = x.toInt8.toInt32 := by simp
theorem own_i2bn {y t : Int32} (e : y.toInt8.toInt32 = t) : t.toInt8.toInt32 = t := by rw [← e]; simp
theorem own_ibd {Z : State} {h : Heap} {a : Addr} {ty : FieldType} {xs : List Int32} {i : Nat} {v : Int32} (A : own_IA Z h a ty xs) (e : xs[i]? = some v) : i < 2 ^ 31 := by
  obtain ⟨c, -, -, hl, -⟩ := A; exact Nat.lt_trans (own_lt_of e) hl
theorem own_ixadd {o d : Int32} {k n : Nat} (hk : o.toInt = (k : Int)) (hd : d.toInt = (n : Int)) (hb : k + n < 2 ^ 31) : (o + d).toInt = ((k + n : Nat) : Int) := by
  have := c_iadd o d; have := rng32 (o + d); omega
theorem own_orI (a b : Int32) (k : Nat) (hk : k ≤ 31) (P : Int) (hP : P = (2 ^ k : Nat)) (h1 : a.toInt % P = 0) (h2 : 0 ≤ b.toInt) (h3 : b.toInt < P) (h4 : 0 ≤ a.toInt) (h5 : a.toInt + b.toInt < 2147483648) : (a ||| b).toInt = a.toInt + b.toInt := by
  have := c_or a b k hk P hP h1 h2 h3; have := rng32 (a ||| b); omega
theorem own_addI (a b : Int32) (h1 : -2147483648 ≤ a.toInt + b.toInt) (h2 : a.toInt + b.toInt < 2147483648) : (a + b).toInt = a.toInt + b.toInt := by
  have := c_iadd a b; have := rng32 (a + b); omega
theorem own_subI (a b : Int32) (h1 : -2147483648 ≤ a.toInt - b.toInt) (h2 : a.toInt - b.toInt < 2147483648) : (a - b).toInt = a.toInt - b.toInt := by
  have := c_isub a b; have := rng32 (a - b); omega
theorem own_ba3 (y : Int32) : (y.toInt8.toInt32 &&& 7).toInt = y.toInt % 8 := by
  have e1 : (y.toInt8.toInt32 &&& 7).toInt = y.toInt8.toInt32.toInt % (2 ^ 3 : Nat) := c_mask _ 7 3 (by decide) (by decide)
  have e2 := c_i2b y
  omega
theorem own_ba4 (y : Int32) : (y.toInt8.toInt32 &&& 15).toInt = y.toInt % 16 := by
  have e1 : (y.toInt8.toInt32 &&& 15).toInt = y.toInt8.toInt32.toInt % (2 ^ 4 : Nat) := c_mask _ 15 4 (by decide) (by decide)
  have e2 := c_i2b y
  omega
theorem own_ba5 (y : Int32) : (y.toInt8.toInt32 &&& 31).toInt = y.toInt % 32 := by
  have e1 : (y.toInt8.toInt32 &&& 31).toInt = y.toInt8.toInt32.toInt % (2 ^ 5 : Nat) := c_mask _ 31 5 (by decide) (by decide)
  have e2 := c_i2b y
  omega
theorem own_ba6 (y : Int32) : (y.toInt8.toInt32 &&& 63).toInt = y.toInt % 64 := by
  have e1 : (y.toInt8.toInt32 &&& 63).toInt = y.toInt8.toInt32.toInt % (2 ^ 6 : Nat) := c_mask _ 63 6 (by decide) (by decide)
  have e2 := c_i2b y
  omega
theorem own_ba7 (y : Int32) : (y.toInt8.toInt32 &&& 127).toInt = y.toInt % 128 := by
  have e1 : (y.toInt8.toInt32 &&& 127).toInt = y.toInt8.toInt32.toInt % (2 ^ 7 : Nat) := c_mask _ 127 7 (by decide) (by decide)
  have e2 := c_i2b y
  omega
theorem own_ba8 (y : Int32) : (y.toInt8.toInt32 &&& 255).toInt = y.toInt % 256 := by
  have e1 : (y.toInt8.toInt32 &&& 255).toInt = y.toInt8.toInt32.toInt % (2 ^ 8 : Nat) := c_mask _ 255 8 (by decide) (by decide)
  have e2 := c_i2b y
  omega
theorem own_cont (q : Int32) : (((128 : Int32) ||| (q &&& 63)).toInt8.toInt32 &&& 63).toInt = q.toInt % 64 := by
  have e1 : (q &&& 63).toInt = q.toInt % (2 ^ 6 : Nat) := c_mask q 63 6 (by decide) (by decide)
  have z : (128 : Int32).toInt = 128 := rfl
  have e2 := own_orI 128 (q &&& 63) 7 (by decide) 128 (by decide) (by decide) (by omega) (by omega) (by decide) (by omega)
  rw [own_ba6, e2]; omega
theorem own_acc (x y : Int32) (h1 : 0 ≤ x.toInt) (h2 : x.toInt * 64 + 63 < 2147483648) (h3 : 0 ≤ y.toInt) (h4 : y.toInt < 64) : ((x <<< (6 &&& 31)) ||| y).toInt = x.toInt * 64 + y.toInt := by
  have e1 := c_ishl x 6 6 (by decide)
  have e2 := rng32 (x <<< (6 &&& 31))
  have e3 : (x <<< (6 &&& 31)).toInt = x.toInt * 64 := by omega
  rw [own_orI (x <<< (6 &&& 31)) y 6 (by decide) 64 (by decide) (by omega) h3 h4 (by omega) (by omega), e3]
end OwnKitThree
end Jvm.Pilot.@@N@@
namespace Jvm.Pilot.@@N@@
open Jvm Jvm.ClassFile Sem Op Lib Jvm.Free Jvm.Stand Jvm.LawKit Jvm.RoadKit Bundle Jvm.Pilot.@@N@@.Jvm.D
def own_mi (x y : Int32) : Int32 := if y < x then y else x
theorem own_miI (x y : Int32) : (own_mi x y).toInt = if y.toInt < x.toInt then y.toInt else x.toInt := by
  rw [own_mi]; by_cases q : y < x
  · rw [if_pos q, if_pos (Int32.lt_iff_toInt_lt.mp q)]
  · rw [if_neg q, if_neg (fun r => q (Int32.lt_iff_toInt_lt.mpr r))]
theorem own_N (lim : Int32) (h : 0 ≤ lim.toInt) : ∃ N : Nat, (own_mi 16 lim).toInt = (N : Int) ∧ N ≤ 16 ∧ ∀ k : Nat, k ≤ 5 → (k : Int) ≤ lim.toInt → k ≤ N := by
  have e := own_miI 16 lim
  have z : (16 : Int32).toInt = 16 := rfl
  rw [z] at e
  refine ⟨(own_mi 16 lim).toInt.toNat, ?_, ?_, ?_⟩
  · split at e <;> omega
  · split at e <;> omega
  · intro k h1 h2; split at e <;> omega
theorem own_JA.len {Z : State} {h : Heap} {a : Addr} {xs : List Int64} (A : own_JA Z h a xs) : ∃ n : Int32, n.toInt = (xs.length : Int) := by
  obtain ⟨_, _, _, q⟩ := A; exact ⟨Int32.ofNat xs.length, Int32.toInt_ofNat_of_lt q⟩
theorem own_nelen {sz nl : Int32} {i n : Nat} (hi : sz.toInt = (i : Int)) (hn : nl.toInt = (n : Int)) (h : i < n) : ¬ sz = nl := by rintro rfl; omega
theorem own_some {xs : List Int64} {i : Nat} (h : i < xs.length) : ∃ v, xs[i]? = some v := ⟨_, List.getElem?_eq_getElem h⟩
def own_fu (sz lim : Int32) : Int32 := if sz = lim then 1 else 0
theorem own_k6 (b lim z : Int32) (hl : 0 ≤ lim.toInt) (e : own_mi ((b &&& 2147483647) % 6) lim = z) : (z = 0 ∨ z = 1 ∨ z = 2 ∨ z = 3 ∨ z = 4 ∨ z = 5) ∧ z.toInt ≤ lim.toInt := by
  have e1 : (b &&& 2147483647).toInt = b.toInt % (2 ^ 31 : Nat) := c_mask b 2147483647 31 (by decide) (by decide)
  have e2 := (c_irem (b &&& 2147483647) 6 6 rfl).1 (by omega)
  have e3 := own_miI ((b &&& 2147483647) % 6) lim
  rw [e] at e3
  have hz : 0 ≤ z.toInt ∧ z.toInt ≤ 5 ∧ z.toInt ≤ lim.toInt := by split at e3 <;> omega
  refine ⟨?_, hz.2.2⟩
  have : z.toInt = 0 ∨ z.toInt = 1 ∨ z.toInt = 2 ∨ z.toInt = 3 ∨ z.toInt = 4 ∨ z.toInt = 5 := by omega
  rcases this with e | e | e | e | e | e
  · exact Or.inl (Int32.toInt_inj.mp e)
  · exact Or.inr (Or.inl (Int32.toInt_inj.mp e))
  · exact Or.inr (Or.inr (Or.inl (Int32.toInt_inj.mp e)))
  · exact Or.inr (Or.inr (Or.inr (Or.inl (Int32.toInt_inj.mp e))))
  · exact Or.inr (Or.inr (Or.inr (Or.inr (Or.inl (Int32.toInt_inj.mp e)))))
  · exact Or.inr (Or.inr (Or.inr (Or.inr (Or.inr (Int32.toInt_inj.mp e)))))
theorem own_lim1 (a : Int32) : 0 ≤ (a &&& 2147483647).toInt := by
  have e1 : (a &&& 2147483647).toInt = a.toInt % (2 ^ 31 : Nat) := c_mask a 2147483647 31 (by decide) (by decide)
  omega
theorem own_lim2 (a : Int32) : 0 ≤ ((a &&& 2147483647) % 6).toInt := by
  have e1 := own_lim1 a
  have e2 := (c_irem (a &&& 2147483647) 6 6 rfl).1 (by omega)
  omega
theorem own_ef_min (x : Int32) (y : Int32) (m : MethodId) : entryFrame m #[(.int x), (.int y)] 2 = mkF m 0 #[.val (.int x), .val (.int y)] [] := by first | (simp [entryFrame, mkF, argsToLocals, Value.category]; done) | rfl
theorem own_d1_0 : decode jdk_29_method_69_code 0 = .ok (.iload_n 0, 1) := by decide +kernel
theorem own_d1_1 : decode jdk_29_method_69_code 1 = .ok (.iload_n 1, 1) := by decide +kernel
theorem own_d1_2 : decode jdk_29_method_69_code 2 = .ok (.if_icmp .gt 7, 3) := by decide +kernel
theorem own_d1_9 : decode jdk_29_method_69_code 9 = .ok (.iload_n 1, 1) := by decide +kernel
theorem own_d1_10 : decode jdk_29_method_69_code 10 = .ok (.ireturn, 1) := by decide +kernel
theorem own_d1_5 : decode jdk_29_method_69_code 5 = .ok (.iload_n 0, 1) := by decide +kernel
theorem own_d1_6 : decode jdk_29_method_69_code 6 = .ok (.goto 4, 3) := by decide +kernel
set_option maxRecDepth 65536 in
set_option maxHeartbeats 40000000 in
theorem own_m_min (l : Launch) (Z : State) (a0 : Array Value) (hw : ∀ d ∈ tables_1, d.before a0 Z = true) (x : Int32) (y : Int32) (h0 : Heap) (n0 : Nat) (hn0 : n0 ≤ h0.size)  : own_Met l Z n0 (⟨"java/lang/Math", "min", "(II)I"⟩ : MethodName) jdk_29_method_69_code 2 (some .int) [] ({ frames := 0, cells := 0, slots := 0, locals := 0 } : Room) #[(.int x), (.int y)] h0 (fun v h => v = some (.int (own_mi x y)) ∧ h0 = h) := by
  refine own_body (Jvm.Free.JP.mathPlain rfl (by decide +kernel)) hn0 (own_ef_min x y) ?_
  intro p e s m below meth c T C X
  refine own_iloadN C X own_d1_0 rfl (pc' := 1) rfl ?_
  refine own_iloadN C X own_d1_1 rfl (pc' := 2) rfl ?_
  refine own_icmp_gt C X own_d1_2 (pcT := 9) (pc' := 5) (by decide) (by decide) rfl (fun hc2 => ?_) (fun hc2 => ?_)
  · refine own_iloadN C X own_d1_9 rfl (pc' := 10) rfl ?_
    exact own_ireturn C X own_d1_10 (Nat.le_of_ble_eq_true rfl) (Nat.le_of_ble_eq_true rfl) (⟨by rw [own_mi]; simp only [hc2, if_true, if_false], rfl⟩)
  · refine own_iloadN C X own_d1_5 rfl (pc' := 6) rfl ?_
    refine own_goto C X own_d1_6 (pc' := 10) (by decide) (by decide) ?_
    exact own_ireturn C X own_d1_10 (Nat.le_of_ble_eq_true rfl) (Nat.le_of_ble_eq_true rfl) (⟨by rw [own_mi]; simp only [hc2, if_true, if_false], rfl⟩)
theorem own_pn_com_example_twin64_twin64_search_IntPairs : plainName "com/example/twin64/twin64/search/IntPairs" = true := by first | (simp [plainName, overriddenIn]; done) | decide +kernel
theorem own_ef_init (o : Addr) (lim : Int32) (m : MethodId) : entryFrame m #[(.ref o), (.int lim)] 2 = mkF m 0 #[.val (.ref o), .val (.int lim)] [] := by first | (simp [entryFrame, mkF, argsToLocals, Value.category]; done) | rfl
theorem own_d2_0 : decode prog_43_method_1_code 0 = .ok (.aload_n 0, 1) := by decide +kernel
theorem own_d2_1 : decode prog_43_method_1_code 1 = .ok (.invokespecial 1, 3) := by decide +kernel
theorem own_d2_4 : decode prog_43_method_1_code 4 = .ok (.aload_n 0, 1) := by decide +kernel
theorem own_d2_5 : decode prog_43_method_1_code 5 = .ok (.iload_n 1, 1) := by decide +kernel
theorem own_d2_6 : decode prog_43_method_1_code 6 = .ok (.putfield 7, 3) := by decide +kernel
theorem own_d2_9 : decode prog_43_method_1_code 9 = .ok (.aload_n 0, 1) := by decide +kernel
theorem own_d2_10 : decode prog_43_method_1_code 10 = .ok (.bipush 16, 2) := by decide +kernel
theorem own_d2_12 : decode prog_43_method_1_code 12 = .ok (.iload_n 1, 1) := by decide +kernel
theorem own_pd_2734 : parseMethodDescriptor "(II)I" = some ⟨[.int, .int], some .int⟩ := by decide +kernel
theorem own_d2_13 : decode prog_43_method_1_code 13 = .ok (.invokestatic 13, 3) := by decide +kernel
theorem own_d2_16 : decode prog_43_method_1_code 16 = .ok (.newarray .long, 2) := by decide +kernel
theorem own_d2_18 : decode prog_43_method_1_code 18 = .ok (.putfield 19, 3) := by decide +kernel
theorem own_d2_21 : decode prog_43_method_1_code 21 = .ok (.return_, 1) := by decide +kernel
set_option maxRecDepth 65536 in
set_option maxHeartbeats 40000000 in
theorem own_m_init (l : Launch) (Z : State) (a0 : Array Value) (hw : ∀ d ∈ tables_1, d.before a0 Z = true) (o : Addr) (lim : Int32) (h0 : Heap) (n0 : Nat) (hn0 : n0 ≤ h0.size) (O : own_Ob Z a0 h0 o "com/example/twin64/twin64/search/IntPairs" [("limit", "I", (.int (0 : Int32))), ("packed", "[J", .null), ("size", "I", (.int (0 : Int32)))]) (ge_o : n0 ≤ o) (hlim : 0 ≤ lim.toInt) : own_Met l Z n0 (⟨"com/example/twin64/twin64/search/IntPairs", "<init>", "(I)V"⟩ : MethodName) prog_43_method_1_code 2 none [] ({ frames := 1, cells := 1, slots := 16, locals := 20 } : Room) #[(.ref o), (.int lim)] h0 (fun v h => v = none ∧ ∃ pk xs, h0.size ≤ pk ∧ Keep h0 h [o] ∧ own_Ob Z a0 h o "com/example/twin64/twin64/search/IntPairs" [("limit", "I", (.int lim)), ("packed", "[J", (.ref pk)), ("size", "I", (.int (0 : Int32)))] ∧ own_JA Z h pk xs ∧ ∀ k : Nat, k ≤ 5 → (k : Int) ≤ lim.toInt → k ≤ xs.length) := by
  refine own_body (plainFor_of_name own_pn_com_example_twin64_twin64_search_IntPairs) hn0 (own_ef_init o lim) ?_
  intro p e s m below meth c T C X
  have KK := Keep.refl h0 [o]
  refine own_aloadN C X own_d2_0 rfl rfl (pc' := 1) rfl ?_
  refine own_objinit C X own_d2_1 (hw _ (List.mem_of_getElem? (i := 11) rfl)) (hw _ (List.mem_of_getElem? (i := 12) rfl)) (hw _ (List.mem_of_getElem? (i := 13) rfl)) rfl (by decide) (Nat.le_of_ble_eq_true rfl) (pc' := 4) rfl ?_
  intro T X
  refine own_aloadN C X own_d2_4 rfl rfl (pc' := 5) rfl ?_
  refine own_iloadN C X own_d2_5 rfl (pc' := 6) rfl ?_
  refine own_putfield C X own_d2_6 (hw _ (List.mem_of_getElem? (i := 14) rfl)) (Or.inr ⟨(hw _ (List.mem_of_getElem? (i := 15) rfl)), rfl, rfl⟩) (hw _ (List.mem_of_getElem? (i := 6) rfl)) O (i := 0) rfl (ty := .int) (by decide) rfl rfl ge_o (pc' := 9) rfl ?_
  intro T h X K_ O_
  have O : own_Ob Z a0 h o "com/example/twin64/twin64/search/IntPairs" [("limit", "I", (.int lim)), ("packed", "[J", .null), ("size", "I", (.int (0 : Int32)))] := O_
  have KK := KK.trans K_ (allS (Or.inl (by simp)) all0)
  refine own_aloadN C X own_d2_9 rfl rfl (pc' := 10) rfl ?_
  refine own_bipush C X own_d2_10 (v := 16) (by decide) (pc' := 12) rfl ?_
  refine own_iloadN C X own_d2_12 rfl (pc' := 13) rfl ?_
  refine own_callS C X own_d2_13 (own_m_min l Z a0 hw (16 : Int32) lim _ n0 (own_big C X)) (hw _ (List.mem_of_getElem? (i := 16) rfl)) (hw _ (List.mem_of_getElem? (i := 2) rfl)) (hw _ (List.mem_of_getElem? (i := 3) rfl)) (hw _ (List.mem_of_getElem? (i := 4) rfl)) (by decide) own_pd_2734 rfl rfl (Nat.le_of_ble_eq_true rfl) (Nat.le_of_ble_eq_true rfl) (Nat.le_of_ble_eq_true rfl) (Nat.le_of_ble_eq_true rfl) (av := [(.int (16 : Int32)), (.int lim)]) (S := [(.ref o)]) rfl (pc' := 16) rfl ?_
  intro T h v X hQ
  obtain ⟨rfl, rfl⟩ := hQ
  show own_Go p e below n0 (own_Fin ({ frames := 1, cells := 1, slots := 16, locals := 20 } : Room) s (fun v h => v = none ∧ ∃ pk xs, h0.size ≤ pk ∧ Keep h0 h [o] ∧ own_Ob Z a0 h o "com/example/twin64/twin64/search/IntPairs" [("limit", "I", (.int lim)), ("packed", "[J", (.ref pk)), ("size", "I", (.int (0 : Int32)))] ∧ own_JA Z h pk xs ∧ ∀ k : Nat, k ≤ 5 → (k : Int) ≤ lim.toInt → k ≤ xs.length)) (T.setTop (mkF m 16 #[.val (.ref o), .val (.int lim)] [(.int (own_mi (16 : Int32) lim)), (.ref o)]))
  obtain ⟨N, hN, hN16, hNk⟩ := own_N lim hlim
  refine own_newJ C X own_d2_16 (hw _ (List.mem_of_getElem? (i := 17) rfl)) hN (k := N) (cap := 16) hN16 (by decide) (Nat.le_of_ble_eq_true rfl) (Nat.le_of_ble_eq_true rfl) (pc' := 18) rfl ?_
  intro T h pk e_pk X K_ ge_pk A_pk_
  have gz_pk : h0.size ≤ pk := by rw [e_pk]; exact KK.1
  have ne_o_pk : o ≠ pk := by rw [e_pk]; exact Nat.ne_of_lt O.lt
  have A_pk : own_JA Z h pk (List.replicate N 0) := A_pk_
  have O := O.keep K_ nin0
  have KK := KK.trans K_ all0
  refine own_putfield C X own_d2_18 (hw _ (List.mem_of_getElem? (i := 18) rfl)) (Or.inl (hw _ (List.mem_of_getElem? (i := 19) rfl))) (hw _ (List.mem_of_getElem? (i := 6) rfl)) O (i := 1) rfl (ty := (.array .long)) (by decide) rfl rfl ge_o (pc' := 21) rfl ?_
  intro T h X K_ O_
  have O : own_Ob Z a0 h o "com/example/twin64/twin64/search/IntPairs" [("limit", "I", (.int lim)), ("packed", "[J", (.ref pk)), ("size", "I", (.int (0 : Int32)))] := O_
  have A_pk := A_pk.keep K_ (ninS (Ne.symm ne_o_pk) nin0)
  have KK := KK.trans K_ (allS (Or.inl (by simp)) all0)
  exact own_return C X own_d2_21 (Nat.le_of_ble_eq_true rfl) (Nat.le_of_ble_eq_true rfl) (⟨rfl, _, _, gz_pk, KK, O, A_pk, by simpa using hNk⟩)
theorem own_ef_add (o : Addr) (p1 : Int32) (p2 : Int32) (m : MethodId) : entryFrame m #[(.ref o), (.int p1), (.int p2)] 3 = mkF m 0 #[.val (.ref o), .val (.int p1), .val (.int p2)] [] := by first | (simp [entryFrame, mkF, argsToLocals, Value.category]; done) | rfl
theorem own_d8_0 : decode prog_43_method_2_code 0 = .ok (.aload_n 0, 1) := by decide +kernel
theorem own_d8_1 : decode prog_43_method_2_code 1 = .ok (.getfield 23, 3) := by decide +kernel
theorem own_d8_4 : decode prog_43_method_2_code 4 = .ok (.aload_n 0, 1) := by decide +kernel
theorem own_d8_5 : decode prog_43_method_2_code 5 = .ok (.getfield 19, 3) := by decide +kernel
theorem own_d8_8 : decode prog_43_method_2_code 8 = .ok (.arraylength, 1) := by decide +kernel
theorem own_d8_9 : decode prog_43_method_2_code 9 = .ok (.if_icmp .ne 32, 3) := by decide +kernel
theorem own_d8_41 : decode prog_43_method_2_code 41 = .ok (.aload_n 0, 1) := by decide +kernel
theorem own_d8_42 : decode prog_43_method_2_code 42 = .ok (.getfield 19, 3) := by decide +kernel
theorem own_d8_45 : decode prog_43_method_2_code 45 = .ok (.aload_n 0, 1) := by decide +kernel
theorem own_d8_46 : decode prog_43_method_2_code 46 = .ok (.dup, 1) := by decide +kernel
theorem own_d8_47 : decode prog_43_method_2_code 47 = .ok (.getfield 23, 3) := by decide +kernel
theorem own_d8_50 : decode prog_43_method_2_code 50 = .ok (.dup_x1, 1) := by decide +kernel
theorem own_d8_51 : decode prog_43_method_2_code 51 = .ok (.iconst 1, 1) := by decide +kernel
theorem own_d8_52 : decode prog_43_method_2_code 52 = .ok (.iadd, 1) := by decide +kernel
theorem own_d8_53 : decode prog_43_method_2_code 53 = .ok (.putfield 23, 3) := by decide +kernel
theorem own_d8_56 : decode prog_43_method_2_code 56 = .ok (.iload_n 1, 1) := by decide +kernel
theorem own_d8_57 : decode prog_43_method_2_code 57 = .ok (.i2l, 1) := by decide +kernel
theorem own_d8_58 : decode prog_43_method_2_code 58 = .ok (.bipush 32, 2) := by decide +kernel
theorem own_d8_60 : decode prog_43_method_2_code 60 = .ok (.lshl, 1) := by decide +kernel
theorem own_d8_61 : decode prog_43_method_2_code 61 = .ok (.iload_n 2, 1) := by decide +kernel
theorem own_d8_62 : decode prog_43_method_2_code 62 = .ok (.i2l, 1) := by decide +kernel
theorem own_d8_63 : decode prog_43_method_2_code 63 = .ok (.lor, 1) := by decide +kernel
theorem own_d8_64 : decode prog_43_method_2_code 64 = .ok (.lastore, 1) := by decide +kernel
theorem own_d8_65 : decode prog_43_method_2_code 65 = .ok (.return_, 1) := by decide +kernel
set_option maxRecDepth 65536 in
set_option maxHeartbeats 40000000 in
theorem own_m_add (l : Launch) (Z : State) (a0 : Array Value) (hw : ∀ d ∈ tables_1, d.before a0 Z = true) (o : Addr) (p1 : Int32) (p2 : Int32) (h0 : Heap) (n0 : Nat) (hn0 : n0 ≤ h0.size) (lim : Int32) (pk : Addr) (xs : List Int64) (nl : Int32) (hnl : nl.toInt = (xs.length : Int)) (sz sz1 : Int32) (i : Nat) (hi : sz.toInt = (i : Int)) (hlt : i < xs.length) (hs1 : sz + 1 = sz1) (O : own_Ob Z a0 h0 o "com/example/twin64/twin64/search/IntPairs" [("limit", "I", (.int lim)), ("packed", "[J", (.ref pk)), ("size", "I", (.int sz))]) (A : own_JA Z h0 pk xs) (ne_o : o ≠ pk) (ge_o : n0 ≤ o) (ge_pk : n0 ≤ pk) : own_Met l Z n0 (⟨"com/example/twin64/twin64/search/IntPairs", "add", "(II)V"⟩ : MethodName) prog_43_method_2_code 3 none [] ({ frames := 0, cells := 0, slots := 0, locals := 0 } : Room) #[(.ref o), (.int p1), (.int p2)] h0 (fun v h => v = none ∧ Keep h0 h [o, pk] ∧ own_Ob Z a0 h o "com/example/twin64/twin64/search/IntPairs" [("limit", "I", (.int lim)), ("packed", "[J", (.ref pk)), ("size", "I", (.int sz1))] ∧ ∃ ys, own_JA Z h pk ys ∧ ys.length = xs.length) := by
  refine own_body (plainFor_of_name own_pn_com_example_twin64_twin64_search_IntPairs) hn0 (own_ef_add o p1 p2) ?_
  intro p e s m below meth c T C X
  have KK := Keep.refl h0 [o, pk]
  refine own_aloadN C X own_d8_0 rfl rfl (pc' := 1) rfl ?_
  refine own_getfield C X own_d8_1 (hw _ (List.mem_of_getElem? (i := 29) rfl)) O (i := 2) rfl (pc' := 4) rfl ?_
  intro T X
  refine own_aloadN C X own_d8_4 rfl rfl (pc' := 5) rfl ?_
  refine own_getfield C X own_d8_5 (hw _ (List.mem_of_getElem? (i := 18) rfl)) O (i := 1) rfl (pc' := 8) rfl ?_
  intro T X
  refine own_alenJ C X own_d8_8 (n := nl) A hnl (pc' := 9) rfl ?_
  refine own_icmp_ne C X own_d8_9 (pcT := 41) (pc' := 12) (by decide) (by decide) rfl (fun hc9 => ?_) (fun hc9 => absurd hc9 (own_nelen hi hnl hlt))
  refine own_aloadN C X own_d8_41 rfl rfl (pc' := 42) rfl ?_
  refine own_getfield C X own_d8_42 (hw _ (List.mem_of_getElem? (i := 18) rfl)) O (i := 1) rfl (pc' := 45) rfl ?_
  intro T X
  refine own_aloadN C X own_d8_45 rfl rfl (pc' := 46) rfl ?_
  refine own_dup C X own_d8_46 rfl (pc' := 47) rfl ?_
  refine own_getfield C X own_d8_47 (hw _ (List.mem_of_getElem? (i := 29) rfl)) O (i := 2) rfl (pc' := 50) rfl ?_
  intro T X
  refine own_dup_x1 C X own_d8_50 rfl rfl (pc' := 51) rfl ?_
  refine own_iconst C X own_d8_51 (v := 1) (by decide) (pc' := 52) rfl ?_
  refine own_iadd C X own_d8_52 hs1 (pc' := 53) rfl ?_
  refine own_putfield C X own_d8_53 (hw _ (List.mem_of_getElem? (i := 29) rfl)) (Or.inl (hw _ (List.mem_of_getElem? (i := 30) rfl))) (hw _ (List.mem_of_getElem? (i := 6) rfl)) O (i := 2) rfl (ty := .int) (by decide) rfl rfl ge_o (pc' := 56) rfl ?_
  intro T h X K_ O_
  have O : own_Ob Z a0 h o "com/example/twin64/twin64/search/IntPairs" [("limit", "I", (.int lim)), ("packed", "[J", (.ref pk)), ("size", "I", (.int sz1))] := O_
  have A := A.keep K_ (ninS (Ne.symm ne_o) nin0)
  have KK := KK.trans K_ (allS (Or.inl (by simp)) all0)
  refine own_iloadN C X own_d8_56 rfl (pc' := 57) rfl ?_
  refine own_i2l C X own_d8_57 rfl (pc' := 58) rfl ?_
  refine own_bipush C X own_d8_58 (v := 32) (by decide) (pc' := 60) rfl ?_
  refine own_lshl C X own_d8_60 rfl (pc' := 61) rfl ?_
  refine own_iloadN C X own_d8_61 rfl (pc' := 62) rfl ?_
  refine own_i2l C X own_d8_62 rfl (pc' := 63) rfl ?_
  refine own_lor C X own_d8_63 rfl (pc' := 64) rfl ?_
  refine own_lastore C X own_d8_64 A hi (i := i) hlt ge_pk (pc' := 65) rfl ?_
  intro T h X K_ A_
  have A : own_JA Z h pk (List.set xs i ((p1.toInt64 <<< ((32 : Int32) &&& 0x3f).toInt64) ||| p2.toInt64)) := A_
  have O := O.keep K_ (ninS ne_o nin0)
  have KK := KK.trans K_ (allS (Or.inl (by simp)) all0)
  exact own_return C X own_d8_65 (Nat.le_of_ble_eq_true rfl) (Nat.le_of_ble_eq_true rfl) (⟨rfl, KK, O, _, A, by simp⟩)
theorem own_pn_com_example_twin64_twin64_search_IntPairsIsFullPinLaw : plainName "com/example/twin64/twin64/search/IntPairsIsFullPinLaw" = true := by first | (simp [plainName, overriddenIn]; done) | decide +kernel
theorem own_ef_addN0 (o : Addr) (d : Int32) (s_ : Int32) (m : MethodId) : entryFrame m #[(.ref o), (.int (0 : Int32)), (.int d), (.int s_)] 4 = mkF m 0 #[.val (.ref o), .val (.int (0 : Int32)), .val (.int d), .val (.int s_)] [] := by first | (simp [entryFrame, mkF, argsToLocals, Value.category]; done) | rfl
theorem own_d4_0 : decode method_2_code 0 = .ok (.iload_n 1, 1) := by decide +kernel
theorem own_d4_1 : decode method_2_code 1 = .ok (.ifCond .le 15, 3) := by decide +kernel
theorem own_d4_16 : decode method_2_code 16 = .ok (.iload_n 1, 1) := by decide +kernel
theorem own_d4_17 : decode method_2_code 17 = .ok (.iconst 1, 1) := by decide +kernel
theorem own_d4_18 : decode method_2_code 18 = .ok (.if_icmp .le 19, 3) := by decide +kernel
theorem own_d4_37 : decode method_2_code 37 = .ok (.iload_n 1, 1) := by decide +kernel
theorem own_d4_38 : decode method_2_code 38 = .ok (.iconst 2, 1) := by decide +kernel
theorem own_d4_39 : decode method_2_code 39 = .ok (.if_icmp .le 20, 3) := by decide +kernel
theorem own_d4_59 : decode method_2_code 59 = .ok (.iload_n 1, 1) := by decide +kernel
theorem own_d4_60 : decode method_2_code 60 = .ok (.iconst 3, 1) := by decide +kernel
theorem own_d4_61 : decode method_2_code 61 = .ok (.if_icmp .le 20, 3) := by decide +kernel
theorem own_d4_81 : decode method_2_code 81 = .ok (.iload_n 1, 1) := by decide +kernel
theorem own_d4_82 : decode method_2_code 82 = .ok (.iconst 4, 1) := by decide +kernel
theorem own_d4_83 : decode method_2_code 83 = .ok (.if_icmp .le 20, 3) := by decide +kernel
theorem own_d4_103 : decode method_2_code 103 = .ok (.return_, 1) := by decide +kernel
set_option maxRecDepth 65536 in
set_option maxHeartbeats 40000000 in
theorem own_m_addN0 (l : Launch) (Z : State) (a0 : Array Value) (hw : ∀ d ∈ tables_1, d.before a0 Z = true) (o : Addr) (d : Int32) (s_ : Int32) (h0 : Heap) (n0 : Nat) (hn0 : n0 ≤ h0.size) (lim : Int32) (pk : Addr) (xs : List Int64) (nl : Int32) (hnl : nl.toInt = (xs.length : Int)) (hk : 0 ≤ xs.length) (O : own_Ob Z a0 h0 o "com/example/twin64/twin64/search/IntPairs" [("limit", "I", (.int lim)), ("packed", "[J", (.ref pk)), ("size", "I", (.int (0 : Int32)))]) (A : own_JA Z h0 pk xs) (ne_o : o ≠ pk) (ge_o : n0 ≤ o) (ge_pk : n0 ≤ pk) : own_Met l Z n0 (⟨"com/example/twin64/twin64/search/IntPairsIsFullPinLaw", "addN", "(Lcom/example/twin64/twin64/search/IntPairs;III)V"⟩ : MethodName) method_2_code 4 none [] ({ frames := 1, cells := 0, slots := 0, locals := 20 } : Room) #[(.ref o), (.int (0 : Int32)), (.int d), (.int s_)] h0 (fun v h => v = none ∧ Keep h0 h [o, pk] ∧ own_Ob Z a0 h o "com/example/twin64/twin64/search/IntPairs" [("limit", "I", (.int lim)), ("packed", "[J", (.ref pk)), ("size", "I", (.int (0 : Int32)))] ∧ ∃ ys, own_JA Z h pk ys ∧ 0 ≤ ys.length) := by
  refine own_body (plainFor_of_name own_pn_com_example_twin64_twin64_search_IntPairsIsFullPinLaw) hn0 (own_ef_addN0 o d s_) ?_
  intro p e s m below meth c T C X
  have KK := Keep.refl h0 [o, pk]
  refine own_iloadN C X own_d4_0 rfl (pc' := 1) rfl ?_
  refine own_if_le C X own_d4_1 (pcT := 16) (pc' := 4) (by decide) (by decide) rfl (fun hc1 => ?_) (fun hc1 => absurd hc1 (by decide))
  refine own_iloadN C X own_d4_16 rfl (pc' := 17) rfl ?_
  refine own_iconst C X own_d4_17 (v := 1) (by decide) (pc' := 18) rfl ?_
  refine own_icmp_le C X own_d4_18 (pcT := 37) (pc' := 21) (by decide) (by decide) rfl (fun hc18 => ?_) (fun hc18 => absurd hc18 (by decide))
  refine own_iloadN C X own_d4_37 rfl (pc' := 38) rfl ?_
  refine own_iconst C X own_d4_38 (v := 2) (by decide) (pc' := 39) rfl ?_
  refine own_icmp_le C X own_d4_39 (pcT := 59) (pc' := 42) (by decide) (by decide) rfl (fun hc39 => ?_) (fun hc39 => absurd hc39 (by decide))
  refine own_iloadN C X own_d4_59 rfl (pc' := 60) rfl ?_
  refine own_iconst C X own_d4_60 (v := 3) (by decide) (pc' := 61) rfl ?_
  refine own_icmp_le C X own_d4_61 (pcT := 81) (pc' := 64) (by decide) (by decide) rfl (fun hc61 => ?_) (fun hc61 => absurd hc61 (by decide))
  refine own_iloadN C X own_d4_81 rfl (pc' := 82) rfl ?_
  refine own_iconst C X own_d4_82 (v := 4) (by decide) (pc' := 83) rfl ?_
  refine own_icmp_le C X own_d4_83 (pcT := 103) (pc' := 86) (by decide) (by decide) rfl (fun hc83 => ?_) (fun hc83 => absurd hc83 (by decide))
  exact own_return C X own_d4_103 (Nat.le_of_ble_eq_true rfl) (Nat.le_of_ble_eq_true rfl) (⟨rfl, KK, O, _, A, hk⟩)
theorem own_ef_addN1 (o : Addr) (d : Int32) (s_ : Int32) (m : MethodId) : entryFrame m #[(.ref o), (.int (1 : Int32)), (.int d), (.int s_)] 4 = mkF m 0 #[.val (.ref o), .val (.int (1 : Int32)), .val (.int d), .val (.int s_)] [] := by first | (simp [entryFrame, mkF, argsToLocals, Value.category]; done) | rfl
theorem own_d4_4 : decode method_2_code 4 = .ok (.aload_n 0, 1) := by decide +kernel
theorem own_d4_5 : decode method_2_code 5 = .ok (.iload_n 2, 1) := by decide +kernel
theorem own_d4_6 : decode method_2_code 6 = .ok (.bipush 15, 2) := by decide +kernel
theorem own_d4_8 : decode method_2_code 8 = .ok (.iand, 1) := by decide +kernel
theorem own_d4_9 : decode method_2_code 9 = .ok (.iload_n 3, 1) := by decide +kernel
theorem own_d4_10 : decode method_2_code 10 = .ok (.ldc 7, 2) := by decide +kernel
theorem own_d4_12 : decode method_2_code 12 = .ok (.iand, 1) := by decide +kernel
theorem own_pd_2877 : parseMethodDescriptor "(II)V" = some ⟨[.int, .int], none⟩ := by decide +kernel
theorem own_d4_13 : decode method_2_code 13 = .ok (.invokevirtual 8, 3) := by decide +kernel
set_option maxRecDepth 65536 in
set_option maxHeartbeats 40000000 in
theorem own_m_addN1 (l : Launch) (Z : State) (a0 : Array Value) (hw : ∀ d ∈ tables_1, d.before a0 Z = true) (o : Addr) (d : Int32) (s_ : Int32) (h0 : Heap) (n0 : Nat) (hn0 : n0 ≤ h0.size) (lim : Int32) (pk : Addr) (xs : List Int64) (nl : Int32) (hnl : nl.toInt = (xs.length : Int)) (hk : 1 ≤ xs.length) (O : own_Ob Z a0 h0 o "com/example/twin64/twin64/search/IntPairs" [("limit", "I", (.int lim)), ("packed", "[J", (.ref pk)), ("size", "I", (.int (0 : Int32)))]) (A : own_JA Z h0 pk xs) (ne_o : o ≠ pk) (ge_o : n0 ≤ o) (ge_pk : n0 ≤ pk) : own_Met l Z n0 (⟨"com/example/twin64/twin64/search/IntPairsIsFullPinLaw", "addN", "(Lcom/example/twin64/twin64/search/IntPairs;III)V"⟩ : MethodName) method_2_code 4 none [] ({ frames := 1, cells := 0, slots := 0, locals := 20 } : Room) #[(.ref o), (.int (1 : Int32)), (.int d), (.int s_)] h0 (fun v h => v = none ∧ Keep h0 h [o, pk] ∧ own_Ob Z a0 h o "com/example/twin64/twin64/search/IntPairs" [("limit", "I", (.int lim)), ("packed", "[J", (.ref pk)), ("size", "I", (.int (1 : Int32)))] ∧ ∃ ys, own_JA Z h pk ys ∧ 1 ≤ ys.length) := by
  refine own_body (plainFor_of_name own_pn_com_example_twin64_twin64_search_IntPairsIsFullPinLaw) hn0 (own_ef_addN1 o d s_) ?_
  intro p e s m below meth c T C X
  have KK := Keep.refl h0 [o, pk]
  refine own_iloadN C X own_d4_0 rfl (pc' := 1) rfl ?_
  refine own_if_le C X own_d4_1 (pcT := 16) (pc' := 4) (by decide) (by decide) rfl (fun hc1 => absurd hc1 (by decide)) (fun hc1 => ?_)
  refine own_aloadN C X own_d4_4 rfl rfl (pc' := 5) rfl ?_
  refine own_iloadN C X own_d4_5 rfl (pc' := 6) rfl ?_
  refine own_bipush C X own_d4_6 (v := 15) (by decide) (pc' := 8) rfl ?_
  refine own_iand C X own_d4_8 rfl (pc' := 9) rfl ?_
  refine own_iloadN C X own_d4_9 rfl (pc' := 10) rfl ?_
  refine own_ldcI C X own_d4_10 (hw _ (List.mem_of_getElem? (i := 0) rfl)) (pc' := 12) rfl ?_
  refine own_iand C X own_d4_12 rfl (pc' := 13) rfl ?_
  refine own_callV C X own_d4_13 (own_m_add l Z a0 hw o (d &&& (15 : Int32)) (s_ &&& (2147483647 : Int32)) _ n0 (own_big C X) lim pk _ nl hnl (0 : Int32) (1 : Int32) 0 (by decide) (Nat.lt_of_lt_of_le (by decide) hk) (by decide) O A ne_o ge_o ge_pk) O.1 (hw _ (List.mem_of_getElem? (i := 41) rfl)) (hw _ (List.mem_of_getElem? (i := 42) rfl)) (hw _ (List.mem_of_getElem? (i := 44) rfl)) (hw _ (List.mem_of_getElem? (i := 43) rfl)) (hw _ (List.mem_of_getElem? (i := 7) rfl)) (hw _ (List.mem_of_getElem? (i := 45) rfl)) (by decide) own_pd_2877 rfl rfl (Nat.le_of_ble_eq_true rfl) (Nat.le_of_ble_eq_true rfl) (Nat.le_of_ble_eq_true rfl) (Nat.le_of_ble_eq_true rfl) (av := [(.int (d &&& (15 : Int32))), (.int (s_ &&& (2147483647 : Int32)))]) (S := []) rfl (pc' := 16) rfl ?_
  intro T h v X hQ
  obtain ⟨rfl, K_, O, ys, A, hl⟩ := hQ
  rw [← hl] at hnl hk
  have KK := KK.trans K_ (allS (Or.inl (by simp)) (allS (Or.inl (by simp)) all0))
  show own_Go p e below n0 (own_Fin ({ frames := 1, cells := 0, slots := 0, locals := 20 } : Room) s (fun v h => v = none ∧ Keep h0 h [o, pk] ∧ own_Ob Z a0 h o "com/example/twin64/twin64/search/IntPairs" [("limit", "I", (.int lim)), ("packed", "[J", (.ref pk)), ("size", "I", (.int (1 : Int32)))] ∧ ∃ ys, own_JA Z h pk ys ∧ 1 ≤ ys.length)) (T.setTop (mkF m 16 #[.val (.ref o), .val (.int (1 : Int32)), .val (.int d), .val (.int s_)] []))
  refine own_iloadN C X own_d4_16 rfl (pc' := 17) rfl ?_
  refine own_iconst C X own_d4_17 (v := 1) (by decide) (pc' := 18) rfl ?_
  refine own_icmp_le C X own_d4_18 (pcT := 37) (pc' := 21) (by decide) (by decide) rfl (fun hc18 => ?_) (fun hc18 => absurd hc18 (by decide))
  refine own_iloadN C X own_d4_37 rfl (pc' := 38) rfl ?_
  refine own_iconst C X own_d4_38 (v := 2) (by decide) (pc' := 39) rfl ?_
  refine own_icmp_le C X own_d4_39 (pcT := 59) (pc' := 42) (by decide) (by decide) rfl (fun hc39 => ?_) (fun hc39 => absurd hc39 (by decide))
  refine own_iloadN C X own_d4_59 rfl (pc' := 60) rfl ?_
  refine own_iconst C X own_d4_60 (v := 3) (by decide) (pc' := 61) rfl ?_
  refine own_icmp_le C X own_d4_61 (pcT := 81) (pc' := 64) (by decide) (by decide) rfl (fun hc61 => ?_) (fun hc61 => absurd hc61 (by decide))
  refine own_iloadN C X own_d4_81 rfl (pc' := 82) rfl ?_
  refine own_iconst C X own_d4_82 (v := 4) (by decide) (pc' := 83) rfl ?_
  refine own_icmp_le C X own_d4_83 (pcT := 103) (pc' := 86) (by decide) (by decide) rfl (fun hc83 => ?_) (fun hc83 => absurd hc83 (by decide))
  exact own_return C X own_d4_103 (Nat.le_of_ble_eq_true rfl) (Nat.le_of_ble_eq_true rfl) (⟨rfl, KK, O, _, A, hk⟩)
theorem own_ef_addN2 (o : Addr) (d : Int32) (s_ : Int32) (m : MethodId) : entryFrame m #[(.ref o), (.int (2 : Int32)), (.int d), (.int s_)] 4 = mkF m 0 #[.val (.ref o), .val (.int (2 : Int32)), .val (.int d), .val (.int s_)] [] := by first | (simp [entryFrame, mkF, argsToLocals, Value.category]; done) | rfl
theorem own_d4_21 : decode method_2_code 21 = .ok (.aload_n 0, 1) := by decide +kernel
theorem own_d4_22 : decode method_2_code 22 = .ok (.iload_n 2, 1) := by decide +kernel
theorem own_d4_23 : decode method_2_code 23 = .ok (.iconst 4, 1) := by decide +kernel
theorem own_d4_24 : decode method_2_code 24 = .ok (.iushr, 1) := by decide +kernel
theorem own_d4_25 : decode method_2_code 25 = .ok (.bipush 15, 2) := by decide +kernel
theorem own_d4_27 : decode method_2_code 27 = .ok (.iand, 1) := by decide +kernel
theorem own_d4_28 : decode method_2_code 28 = .ok (.iload_n 3, 1) := by decide +kernel
theorem own_d4_29 : decode method_2_code 29 = .ok (.iconst 1, 1) := by decide +kernel
theorem own_d4_30 : decode method_2_code 30 = .ok (.iushr, 1) := by decide +kernel
theorem own_d4_31 : decode method_2_code 31 = .ok (.ldc 7, 2) := by decide +kernel
theorem own_d4_33 : decode method_2_code 33 = .ok (.iand, 1) := by decide +kernel
theorem own_d4_34 : decode method_2_code 34 = .ok (.invokevirtual 8, 3) := by decide +kernel
set_option maxRecDepth 65536 in
set_option maxHeartbeats 40000000 in
theorem own_m_addN2 (l : Launch) (Z : State) (a0 : Array Value) (hw : ∀ d ∈ tables_1, d.before a0 Z = true) (o : Addr) (d : Int32) (s_ : Int32) (h0 : Heap) (n0 : Nat) (hn0 : n0 ≤ h0.size) (lim : Int32) (pk : Addr) (xs : List Int64) (nl : Int32) (hnl : nl.toInt = (xs.length : Int)) (hk : 2 ≤ xs.length) (O : own_Ob Z a0 h0 o "com/example/twin64/twin64/search/IntPairs" [("limit", "I", (.int lim)), ("packed", "[J", (.ref pk)), ("size", "I", (.int (0 : Int32)))]) (A : own_JA Z h0 pk xs) (ne_o : o ≠ pk) (ge_o : n0 ≤ o) (ge_pk : n0 ≤ pk) : own_Met l Z n0 (⟨"com/example/twin64/twin64/search/IntPairsIsFullPinLaw", "addN", "(Lcom/example/twin64/twin64/search/IntPairs;III)V"⟩ : MethodName) method_2_code 4 none [] ({ frames := 1, cells := 0, slots := 0, locals := 20 } : Room) #[(.ref o), (.int (2 : Int32)), (.int d), (.int s_)] h0 (fun v h => v = none ∧ Keep h0 h [o, pk] ∧ own_Ob Z a0 h o "com/example/twin64/twin64/search/IntPairs" [("limit", "I", (.int lim)), ("packed", "[J", (.ref pk)), ("size", "I", (.int (2 : Int32)))] ∧ ∃ ys, own_JA Z h pk ys ∧ 2 ≤ ys.length) := by
  refine own_body (plainFor_of_name own_pn_com_example_twin64_twin64_search_IntPairsIsFullPinLaw) hn0 (own_ef_addN2 o d s_) ?_
  intro p e s m below meth c T C X
  have KK := Keep.refl h0 [o, pk]
  refine own_iloadN C X own_d4_0 rfl (pc' := 1) rfl ?_
  refine own_if_le C X own_d4_1 (pcT := 16) (pc' := 4) (by decide) (by decide) rfl (fun hc1 => absurd hc1 (by decide)) (fun hc1 => ?_)
  refine own_aloadN C X own_d4_4 rfl rfl (pc' := 5) rfl ?_
  refine own_iloadN C X own_d4_5 rfl (pc' := 6) rfl ?_
  refine own_bipush C X own_d4_6 (v := 15) (by decide) (pc' := 8) rfl ?_
  refine own_iand C X own_d4_8 rfl (pc' := 9) rfl ?_
  refine own_iloadN C X own_d4_9 rfl (pc' := 10) rfl ?_
  refine own_ldcI C X own_d4_10 (hw _ (List.mem_of_getElem? (i := 0) rfl)) (pc' := 12) rfl ?_
  refine own_iand C X own_d4_12 rfl (pc' := 13) rfl ?_
  refine own_callV C X own_d4_13 (own_m_add l Z a0 hw o (d &&& (15 : Int32)) (s_ &&& (2147483647 : Int32)) _ n0 (own_big C X) lim pk _ nl hnl (0 : Int32) (1 : Int32) 0 (by decide) (Nat.lt_of_lt_of_le (by decide) hk) (by decide) O A ne_o ge_o ge_pk) O.1 (hw _ (List.mem_of_getElem? (i := 41) rfl)) (hw _ (List.mem_of_getElem? (i := 42) rfl)) (hw _ (List.mem_of_getElem? (i := 44) rfl)) (hw _ (List.mem_of_getElem? (i := 43) rfl)) (hw _ (List.mem_of_getElem? (i := 7) rfl)) (hw _ (List.mem_of_getElem? (i := 45) rfl)) (by decide) own_pd_2877 rfl rfl (Nat.le_of_ble_eq_true rfl) (Nat.le_of_ble_eq_true rfl) (Nat.le_of_ble_eq_true rfl) (Nat.le_of_ble_eq_true rfl) (av := [(.int (d &&& (15 : Int32))), (.int (s_ &&& (2147483647 : Int32)))]) (S := []) rfl (pc' := 16) rfl ?_
  intro T h v X hQ
  obtain ⟨rfl, K_, O, ys, A, hl⟩ := hQ
  rw [← hl] at hnl hk
  have KK := KK.trans K_ (allS (Or.inl (by simp)) (allS (Or.inl (by simp)) all0))
  show own_Go p e below n0 (own_Fin ({ frames := 1, cells := 0, slots := 0, locals := 20 } : Room) s (fun v h => v = none ∧ Keep h0 h [o, pk] ∧ own_Ob Z a0 h o "com/example/twin64/twin64/search/IntPairs" [("limit", "I", (.int lim)), ("packed", "[J", (.ref pk)), ("size", "I", (.int (2 : Int32)))] ∧ ∃ ys, own_JA Z h pk ys ∧ 2 ≤ ys.length)) (T.setTop (mkF m 16 #[.val (.ref o), .val (.int (2 : Int32)), .val (.int d), .val (.int s_)] []))
  refine own_iloadN C X own_d4_16 rfl (pc' := 17) rfl ?_
  refine own_iconst C X own_d4_17 (v := 1) (by decide) (pc' := 18) rfl ?_
  refine own_icmp_le C X own_d4_18 (pcT := 37) (pc' := 21) (by decide) (by decide) rfl (fun hc18 => absurd hc18 (by decide)) (fun hc18 => ?_)
  refine own_aloadN C X own_d4_21 rfl rfl (pc' := 22) rfl ?_
  refine own_iloadN C X own_d4_22 rfl (pc' := 23) rfl ?_
  refine own_iconst C X own_d4_23 (v := 4) (by decide) (pc' := 24) rfl ?_
  refine own_iushr C X own_d4_24 rfl (pc' := 25) rfl ?_
  refine own_bipush C X own_d4_25 (v := 15) (by decide) (pc' := 27) rfl ?_
  refine own_iand C X own_d4_27 rfl (pc' := 28) rfl ?_
  refine own_iloadN C X own_d4_28 rfl (pc' := 29) rfl ?_
  refine own_iconst C X own_d4_29 (v := 1) (by decide) (pc' := 30) rfl ?_
  refine own_iushr C X own_d4_30 rfl (pc' := 31) rfl ?_
  refine own_ldcI C X own_d4_31 (hw _ (List.mem_of_getElem? (i := 0) rfl)) (pc' := 33) rfl ?_
  refine own_iand C X own_d4_33 rfl (pc' := 34) rfl ?_
  refine own_callV C X own_d4_34 (own_m_add l Z a0 hw o (((d.toUInt32 >>> ((4 : Int32) &&& 31).toUInt32).toInt32) &&& (15 : Int32)) (((s_.toUInt32 >>> ((1 : Int32) &&& 31).toUInt32).toInt32) &&& (2147483647 : Int32)) _ n0 (own_big C X) lim pk _ nl hnl (1 : Int32) (2 : Int32) 1 (by decide) (Nat.lt_of_lt_of_le (by decide) hk) (by decide) O A ne_o ge_o ge_pk) O.1 (hw _ (List.mem_of_getElem? (i := 41) rfl)) (hw _ (List.mem_of_getElem? (i := 42) rfl)) (hw _ (List.mem_of_getElem? (i := 44) rfl)) (hw _ (List.mem_of_getElem? (i := 43) rfl)) (hw _ (List.mem_of_getElem? (i := 7) rfl)) (hw _ (List.mem_of_getElem? (i := 45) rfl)) (by decide) own_pd_2877 rfl rfl (Nat.le_of_ble_eq_true rfl) (Nat.le_of_ble_eq_true rfl) (Nat.le_of_ble_eq_true rfl) (Nat.le_of_ble_eq_true rfl) (av := [(.int (((d.toUInt32 >>> ((4 : Int32) &&& 31).toUInt32).toInt32) &&& (15 : Int32))), (.int (((s_.toUInt32 >>> ((1 : Int32) &&& 31).toUInt32).toInt32) &&& (2147483647 : Int32)))]) (S := []) rfl (pc' := 37) rfl ?_
  intro T h v X hQ
  obtain ⟨rfl, K_, O, ys, A, hl⟩ := hQ
  rw [← hl] at hnl hk
  have KK := KK.trans K_ (allS (Or.inl (by simp)) (allS (Or.inl (by simp)) all0))
  show own_Go p e below n0 (own_Fin ({ frames := 1, cells := 0, slots := 0, locals := 20 } : Room) s (fun v h => v = none ∧ Keep h0 h [o, pk] ∧ own_Ob Z a0 h o "com/example/twin64/twin64/search/IntPairs" [("limit", "I", (.int lim)), ("packed", "[J", (.ref pk)), ("size", "I", (.int (2 : Int32)))] ∧ ∃ ys, own_JA Z h pk ys ∧ 2 ≤ ys.length)) (T.setTop (mkF m 37 #[.val (.ref o), .val (.int (2 : Int32)), .val (.int d), .val (.int s_)] []))
  refine own_iloadN C X own_d4_37 rfl (pc' := 38) rfl ?_
  refine own_iconst C X own_d4_38 (v := 2) (by decide) (pc' := 39) rfl ?_
  refine own_icmp_le C X own_d4_39 (pcT := 59) (pc' := 42) (by decide) (by decide) rfl (fun hc39 => ?_) (fun hc39 => absurd hc39 (by decide))
  refine own_iloadN C X own_d4_59 rfl (pc' := 60) rfl ?_
  refine own_iconst C X own_d4_60 (v := 3) (by decide) (pc' := 61) rfl ?_
  refine own_icmp_le C X own_d4_61 (pcT := 81) (pc' := 64) (by decide) (by decide) rfl (fun hc61 => ?_) (fun hc61 => absurd hc61 (by decide))
  refine own_iloadN C X own_d4_81 rfl (pc' := 82) rfl ?_
  refine own_iconst C X own_d4_82 (v := 4) (by decide) (pc' := 83) rfl ?_
  refine own_icmp_le C X own_d4_83 (pcT := 103) (pc' := 86) (by decide) (by decide) rfl (fun hc83 => ?_) (fun hc83 => absurd hc83 (by decide))
  exact own_return C X own_d4_103 (Nat.le_of_ble_eq_true rfl) (Nat.le_of_ble_eq_true rfl) (⟨rfl, KK, O, _, A, hk⟩)
theorem own_ef_addN3 (o : Addr) (d : Int32) (s_ : Int32) (m : MethodId) : entryFrame m #[(.ref o), (.int (3 : Int32)), (.int d), (.int s_)] 4 = mkF m 0 #[.val (.ref o), .val (.int (3 : Int32)), .val (.int d), .val (.int s_)] [] := by first | (simp [entryFrame, mkF, argsToLocals, Value.category]; done) | rfl
theorem own_d4_42 : decode method_2_code 42 = .ok (.aload_n 0, 1) := by decide +kernel
theorem own_d4_43 : decode method_2_code 43 = .ok (.iload_n 2, 1) := by decide +kernel
theorem own_d4_44 : decode method_2_code 44 = .ok (.bipush 8, 2) := by decide +kernel
theorem own_d4_46 : decode method_2_code 46 = .ok (.iushr, 1) := by decide +kernel
theorem own_d4_47 : decode method_2_code 47 = .ok (.bipush 15, 2) := by decide +kernel
theorem own_d4_49 : decode method_2_code 49 = .ok (.iand, 1) := by decide +kernel
theorem own_d4_50 : decode method_2_code 50 = .ok (.iload_n 3, 1) := by decide +kernel
theorem own_d4_51 : decode method_2_code 51 = .ok (.iconst 2, 1) := by decide +kernel
theorem own_d4_52 : decode method_2_code 52 = .ok (.iushr, 1) := by decide +kernel
theorem own_d4_53 : decode method_2_code 53 = .ok (.ldc 7, 2) := by decide +kernel
theorem own_d4_55 : decode method_2_code 55 = .ok (.iand, 1) := by decide +kernel
theorem own_d4_56 : decode method_2_code 56 = .ok (.invokevirtual 8, 3) := by decide +kernel
set_option maxRecDepth 65536 in
set_option maxHeartbeats 40000000 in
theorem own_m_addN3 (l : Launch) (Z : State) (a0 : Array Value) (hw : ∀ d ∈ tables_1, d.before a0 Z = true) (o : Addr) (d : Int32) (s_ : Int32) (h0 : Heap) (n0 : Nat) (hn0 : n0 ≤ h0.size) (lim : Int32) (pk : Addr) (xs : List Int64) (nl : Int32) (hnl : nl.toInt = (xs.length : Int)) (hk : 3 ≤ xs.length) (O : own_Ob Z a0 h0 o "com/example/twin64/twin64/search/IntPairs" [("limit", "I", (.int lim)), ("packed", "[J", (.ref pk)), ("size", "I", (.int (0 : Int32)))]) (A : own_JA Z h0 pk xs) (ne_o : o ≠ pk) (ge_o : n0 ≤ o) (ge_pk : n0 ≤ pk) : own_Met l Z n0 (⟨"com/example/twin64/twin64/search/IntPairsIsFullPinLaw", "addN", "(Lcom/example/twin64/twin64/search/IntPairs;III)V"⟩ : MethodName) method_2_code 4 none [] ({ frames := 1, cells := 0, slots := 0, locals := 20 } : Room) #[(.ref o), (.int (3 : Int32)), (.int d), (.int s_)] h0 (fun v h => v = none ∧ Keep h0 h [o, pk] ∧ own_Ob Z a0 h o "com/example/twin64/twin64/search/IntPairs" [("limit", "I", (.int lim)), ("packed", "[J", (.ref pk)), ("size", "I", (.int (3 : Int32)))] ∧ ∃ ys, own_JA Z h pk ys ∧ 3 ≤ ys.length) := by
  refine own_body (plainFor_of_name own_pn_com_example_twin64_twin64_search_IntPairsIsFullPinLaw) hn0 (own_ef_addN3 o d s_) ?_
  intro p e s m below meth c T C X
  have KK := Keep.refl h0 [o, pk]
  refine own_iloadN C X own_d4_0 rfl (pc' := 1) rfl ?_
  refine own_if_le C X own_d4_1 (pcT := 16) (pc' := 4) (by decide) (by decide) rfl (fun hc1 => absurd hc1 (by decide)) (fun hc1 => ?_)
  refine own_aloadN C X own_d4_4 rfl rfl (pc' := 5) rfl ?_
  refine own_iloadN C X own_d4_5 rfl (pc' := 6) rfl ?_
  refine own_bipush C X own_d4_6 (v := 15) (by decide) (pc' := 8) rfl ?_
  refine own_iand C X own_d4_8 rfl (pc' := 9) rfl ?_
  refine own_iloadN C X own_d4_9 rfl (pc' := 10) rfl ?_
  refine own_ldcI C X own_d4_10 (hw _ (List.mem_of_getElem? (i := 0) rfl)) (pc' := 12) rfl ?_
  refine own_iand C X own_d4_12 rfl (pc' := 13) rfl ?_
  refine own_callV C X own_d4_13 (own_m_add l Z a0 hw o (d &&& (15 : Int32)) (s_ &&& (2147483647 : Int32)) _ n0 (own_big C X) lim pk _ nl hnl (0 : Int32) (1 : Int32) 0 (by decide) (Nat.lt_of_lt_of_le (by decide) hk) (by decide) O A ne_o ge_o ge_pk) O.1 (hw _ (List.mem_of_getElem? (i := 41) rfl)) (hw _ (List.mem_of_getElem? (i := 42) rfl)) (hw _ (List.mem_of_getElem? (i := 44) rfl)) (hw _ (List.mem_of_getElem? (i := 43) rfl)) (hw _ (List.mem_of_getElem? (i := 7) rfl)) (hw _ (List.mem_of_getElem? (i := 45) rfl)) (by decide) own_pd_2877 rfl rfl (Nat.le_of_ble_eq_true rfl) (Nat.le_of_ble_eq_true rfl) (Nat.le_of_ble_eq_true rfl) (Nat.le_of_ble_eq_true rfl) (av := [(.int (d &&& (15 : Int32))), (.int (s_ &&& (2147483647 : Int32)))]) (S := []) rfl (pc' := 16) rfl ?_
  intro T h v X hQ
  obtain ⟨rfl, K_, O, ys, A, hl⟩ := hQ
  rw [← hl] at hnl hk
  have KK := KK.trans K_ (allS (Or.inl (by simp)) (allS (Or.inl (by simp)) all0))
  show own_Go p e below n0 (own_Fin ({ frames := 1, cells := 0, slots := 0, locals := 20 } : Room) s (fun v h => v = none ∧ Keep h0 h [o, pk] ∧ own_Ob Z a0 h o "com/example/twin64/twin64/search/IntPairs" [("limit", "I", (.int lim)), ("packed", "[J", (.ref pk)), ("size", "I", (.int (3 : Int32)))] ∧ ∃ ys, own_JA Z h pk ys ∧ 3 ≤ ys.length)) (T.setTop (mkF m 16 #[.val (.ref o), .val (.int (3 : Int32)), .val (.int d), .val (.int s_)] []))
  refine own_iloadN C X own_d4_16 rfl (pc' := 17) rfl ?_
  refine own_iconst C X own_d4_17 (v := 1) (by decide) (pc' := 18) rfl ?_
  refine own_icmp_le C X own_d4_18 (pcT := 37) (pc' := 21) (by decide) (by decide) rfl (fun hc18 => absurd hc18 (by decide)) (fun hc18 => ?_)
  refine own_aloadN C X own_d4_21 rfl rfl (pc' := 22) rfl ?_
  refine own_iloadN C X own_d4_22 rfl (pc' := 23) rfl ?_
  refine own_iconst C X own_d4_23 (v := 4) (by decide) (pc' := 24) rfl ?_
  refine own_iushr C X own_d4_24 rfl (pc' := 25) rfl ?_
  refine own_bipush C X own_d4_25 (v := 15) (by decide) (pc' := 27) rfl ?_
  refine own_iand C X own_d4_27 rfl (pc' := 28) rfl ?_
  refine own_iloadN C X own_d4_28 rfl (pc' := 29) rfl ?_
  refine own_iconst C X own_d4_29 (v := 1) (by decide) (pc' := 30) rfl ?_
  refine own_iushr C X own_d4_30 rfl (pc' := 31) rfl ?_
  refine own_ldcI C X own_d4_31 (hw _ (List.mem_of_getElem? (i := 0) rfl)) (pc' := 33) rfl ?_
  refine own_iand C X own_d4_33 rfl (pc' := 34) rfl ?_
  refine own_callV C X own_d4_34 (own_m_add l Z a0 hw o (((d.toUInt32 >>> ((4 : Int32) &&& 31).toUInt32).toInt32) &&& (15 : Int32)) (((s_.toUInt32 >>> ((1 : Int32) &&& 31).toUInt32).toInt32) &&& (2147483647 : Int32)) _ n0 (own_big C X) lim pk _ nl hnl (1 : Int32) (2 : Int32) 1 (by decide) (Nat.lt_of_lt_of_le (by decide) hk) (by decide) O A ne_o ge_o ge_pk) O.1 (hw _ (List.mem_of_getElem? (i := 41) rfl)) (hw _ (List.mem_of_getElem? (i := 42) rfl)) (hw _ (List.mem_of_getElem? (i := 44) rfl)) (hw _ (List.mem_of_getElem? (i := 43) rfl)) (hw _ (List.mem_of_getElem? (i := 7) rfl)) (hw _ (List.mem_of_getElem? (i := 45) rfl)) (by decide) own_pd_2877 rfl rfl (Nat.le_of_ble_eq_true rfl) (Nat.le_of_ble_eq_true rfl) (Nat.le_of_ble_eq_true rfl) (Nat.le_of_ble_eq_true rfl) (av := [(.int (((d.toUInt32 >>> ((4 : Int32) &&& 31).toUInt32).toInt32) &&& (15 : Int32))), (.int (((s_.toUInt32 >>> ((1 : Int32) &&& 31).toUInt32).toInt32) &&& (2147483647 : Int32)))]) (S := []) rfl (pc' := 37) rfl ?_
  intro T h v X hQ
  obtain ⟨rfl, K_, O, ys, A, hl⟩ := hQ
  rw [← hl] at hnl hk
  have KK := KK.trans K_ (allS (Or.inl (by simp)) (allS (Or.inl (by simp)) all0))
  show own_Go p e below n0 (own_Fin ({ frames := 1, cells := 0, slots := 0, locals := 20 } : Room) s (fun v h => v = none ∧ Keep h0 h [o, pk] ∧ own_Ob Z a0 h o "com/example/twin64/twin64/search/IntPairs" [("limit", "I", (.int lim)), ("packed", "[J", (.ref pk)), ("size", "I", (.int (3 : Int32)))] ∧ ∃ ys, own_JA Z h pk ys ∧ 3 ≤ ys.length)) (T.setTop (mkF m 37 #[.val (.ref o), .val (.int (3 : Int32)), .val (.int d), .val (.int s_)] []))
  refine own_iloadN C X own_d4_37 rfl (pc' := 38) rfl ?_
  refine own_iconst C X own_d4_38 (v := 2) (by decide) (pc' := 39) rfl ?_
  refine own_icmp_le C X own_d4_39 (pcT := 59) (pc' := 42) (by decide) (by decide) rfl (fun hc39 => absurd hc39 (by decide)) (fun hc39 => ?_)
  refine own_aloadN C X own_d4_42 rfl rfl (pc' := 43) rfl ?_
  refine own_iloadN C X own_d4_43 rfl (pc' := 44) rfl ?_
  refine own_bipush C X own_d4_44 (v := 8) (by decide) (pc' := 46) rfl ?_
  refine own_iushr C X own_d4_46 rfl (pc' := 47) rfl ?_
  refine own_bipush C X own_d4_47 (v := 15) (by decide) (pc' := 49) rfl ?_
  refine own_iand C X own_d4_49 rfl (pc' := 50) rfl ?_
  refine own_iloadN C X own_d4_50 rfl (pc' := 51) rfl ?_
  refine own_iconst C X own_d4_51 (v := 2) (by decide) (pc' := 52) rfl ?_
  refine own_iushr C X own_d4_52 rfl (pc' := 53) rfl ?_
  refine own_ldcI C X own_d4_53 (hw _ (List.mem_of_getElem? (i := 0) rfl)) (pc' := 55) rfl ?_
  refine own_iand C X own_d4_55 rfl (pc' := 56) rfl ?_
  refine own_callV C X own_d4_56 (own_m_add l Z a0 hw o (((d.toUInt32 >>> ((8 : Int32) &&& 31).toUInt32).toInt32) &&& (15 : Int32)) (((s_.toUInt32 >>> ((2 : Int32) &&& 31).toUInt32).toInt32) &&& (2147483647 : Int32)) _ n0 (own_big C X) lim pk _ nl hnl (2 : Int32) (3 : Int32) 2 (by decide) (Nat.lt_of_lt_of_le (by decide) hk) (by decide) O A ne_o ge_o ge_pk) O.1 (hw _ (List.mem_of_getElem? (i := 41) rfl)) (hw _ (List.mem_of_getElem? (i := 42) rfl)) (hw _ (List.mem_of_getElem? (i := 44) rfl)) (hw _ (List.mem_of_getElem? (i := 43) rfl)) (hw _ (List.mem_of_getElem? (i := 7) rfl)) (hw _ (List.mem_of_getElem? (i := 45) rfl)) (by decide) own_pd_2877 rfl rfl (Nat.le_of_ble_eq_true rfl) (Nat.le_of_ble_eq_true rfl) (Nat.le_of_ble_eq_true rfl) (Nat.le_of_ble_eq_true rfl) (av := [(.int (((d.toUInt32 >>> ((8 : Int32) &&& 31).toUInt32).toInt32) &&& (15 : Int32))), (.int (((s_.toUInt32 >>> ((2 : Int32) &&& 31).toUInt32).toInt32) &&& (2147483647 : Int32)))]) (S := []) rfl (pc' := 59) rfl ?_
  intro T h v X hQ
  obtain ⟨rfl, K_, O, ys, A, hl⟩ := hQ
  rw [← hl] at hnl hk
  have KK := KK.trans K_ (allS (Or.inl (by simp)) (allS (Or.inl (by simp)) all0))
  show own_Go p e below n0 (own_Fin ({ frames := 1, cells := 0, slots := 0, locals := 20 } : Room) s (fun v h => v = none ∧ Keep h0 h [o, pk] ∧ own_Ob Z a0 h o "com/example/twin64/twin64/search/IntPairs" [("limit", "I", (.int lim)), ("packed", "[J", (.ref pk)), ("size", "I", (.int (3 : Int32)))] ∧ ∃ ys, own_JA Z h pk ys ∧ 3 ≤ ys.length)) (T.setTop (mkF m 59 #[.val (.ref o), .val (.int (3 : Int32)), .val (.int d), .val (.int s_)] []))
  refine own_iloadN C X own_d4_59 rfl (pc' := 60) rfl ?_
  refine own_iconst C X own_d4_60 (v := 3) (by decide) (pc' := 61) rfl ?_
  refine own_icmp_le C X own_d4_61 (pcT := 81) (pc' := 64) (by decide) (by decide) rfl (fun hc61 => ?_) (fun hc61 => absurd hc61 (by decide))
  refine own_iloadN C X own_d4_81 rfl (pc' := 82) rfl ?_
  refine own_iconst C X own_d4_82 (v := 4) (by decide) (pc' := 83) rfl ?_
  refine own_icmp_le C X own_d4_83 (pcT := 103) (pc' := 86) (by decide) (by decide) rfl (fun hc83 => ?_) (fun hc83 => absurd hc83 (by decide))
  exact own_return C X own_d4_103 (Nat.le_of_ble_eq_true rfl) (Nat.le_of_ble_eq_true rfl) (⟨rfl, KK, O, _, A, hk⟩)
theorem own_ef_addN4 (o : Addr) (d : Int32) (s_ : Int32) (m : MethodId) : entryFrame m #[(.ref o), (.int (4 : Int32)), (.int d), (.int s_)] 4 = mkF m 0 #[.val (.ref o), .val (.int (4 : Int32)), .val (.int d), .val (.int s_)] [] := by first | (simp [entryFrame, mkF, argsToLocals, Value.category]; done) | rfl
theorem own_d4_64 : decode method_2_code 64 = .ok (.aload_n 0, 1) := by decide +kernel
theorem own_d4_65 : decode method_2_code 65 = .ok (.iload_n 2, 1) := by decide +kernel
theorem own_d4_66 : decode method_2_code 66 = .ok (.bipush 12, 2) := by decide +kernel
theorem own_d4_68 : decode method_2_code 68 = .ok (.iushr, 1) := by decide +kernel
theorem own_d4_69 : decode method_2_code 69 = .ok (.bipush 15, 2) := by decide +kernel
theorem own_d4_71 : decode method_2_code 71 = .ok (.iand, 1) := by decide +kernel
theorem own_d4_72 : decode method_2_code 72 = .ok (.iload_n 3, 1) := by decide +kernel
theorem own_d4_73 : decode method_2_code 73 = .ok (.iconst 3, 1) := by decide +kernel
theorem own_d4_74 : decode method_2_code 74 = .ok (.iushr, 1) := by decide +kernel
theorem own_d4_75 : decode method_2_code 75 = .ok (.ldc 7, 2) := by decide +kernel
theorem own_d4_77 : decode method_2_code 77 = .ok (.iand, 1) := by decide +kernel
theorem own_d4_78 : decode method_2_code 78 = .ok (.invokevirtual 8, 3) := by decide +kernel
set_option maxRecDepth 65536 in
set_option maxHeartbeats 40000000 in
theorem own_m_addN4 (l : Launch) (Z : State) (a0 : Array Value) (hw : ∀ d ∈ tables_1, d.before a0 Z = true) (o : Addr) (d : Int32) (s_ : Int32) (h0 : Heap) (n0 : Nat) (hn0 : n0 ≤ h0.size) (lim : Int32) (pk : Addr) (xs : List Int64) (nl : Int32) (hnl : nl.toInt = (xs.length : Int)) (hk : 4 ≤ xs.length) (O : own_Ob Z a0 h0 o "com/example/twin64/twin64/search/IntPairs" [("limit", "I", (.int lim)), ("packed", "[J", (.ref pk)), ("size", "I", (.int (0 : Int32)))]) (A : own_JA Z h0 pk xs) (ne_o : o ≠ pk) (ge_o : n0 ≤ o) (ge_pk : n0 ≤ pk) : own_Met l Z n0 (⟨"com/example/twin64/twin64/search/IntPairsIsFullPinLaw", "addN", "(Lcom/example/twin64/twin64/search/IntPairs;III)V"⟩ : MethodName) method_2_code 4 none [] ({ frames := 1, cells := 0, slots := 0, locals := 20 } : Room) #[(.ref o), (.int (4 : Int32)), (.int d), (.int s_)] h0 (fun v h => v = none ∧ Keep h0 h [o, pk] ∧ own_Ob Z a0 h o "com/example/twin64/twin64/search/IntPairs" [("limit", "I", (.int lim)), ("packed", "[J", (.ref pk)), ("size", "I", (.int (4 : Int32)))] ∧ ∃ ys, own_JA Z h pk ys ∧ 4 ≤ ys.length) := by
  refine own_body (plainFor_of_name own_pn_com_example_twin64_twin64_search_IntPairsIsFullPinLaw) hn0 (own_ef_addN4 o d s_) ?_
  intro p e s m below meth c T C X
  have KK := Keep.refl h0 [o, pk]
  refine own_iloadN C X own_d4_0 rfl (pc' := 1) rfl ?_
  refine own_if_le C X own_d4_1 (pcT := 16) (pc' := 4) (by decide) (by decide) rfl (fun hc1 => absurd hc1 (by decide)) (fun hc1 => ?_)
  refine own_aloadN C X own_d4_4 rfl rfl (pc' := 5) rfl ?_
  refine own_iloadN C X own_d4_5 rfl (pc' := 6) rfl ?_
  refine own_bipush C X own_d4_6 (v := 15) (by decide) (pc' := 8) rfl ?_
  refine own_iand C X own_d4_8 rfl (pc' := 9) rfl ?_
  refine own_iloadN C X own_d4_9 rfl (pc' := 10) rfl ?_
  refine own_ldcI C X own_d4_10 (hw _ (List.mem_of_getElem? (i := 0) rfl)) (pc' := 12) rfl ?_
  refine own_iand C X own_d4_12 rfl (pc' := 13) rfl ?_
  refine own_callV C X own_d4_13 (own_m_add l Z a0 hw o (d &&& (15 : Int32)) (s_ &&& (2147483647 : Int32)) _ n0 (own_big C X) lim pk _ nl hnl (0 : Int32) (1 : Int32) 0 (by decide) (Nat.lt_of_lt_of_le (by decide) hk) (by decide) O A ne_o ge_o ge_pk) O.1 (hw _ (List.mem_of_getElem? (i := 41) rfl)) (hw _ (List.mem_of_getElem? (i := 42) rfl)) (hw _ (List.mem_of_getElem? (i := 44) rfl)) (hw _ (List.mem_of_getElem? (i := 43) rfl)) (hw _ (List.mem_of_getElem? (i := 7) rfl)) (hw _ (List.mem_of_getElem? (i := 45) rfl)) (by decide) own_pd_2877 rfl rfl (Nat.le_of_ble_eq_true rfl) (Nat.le_of_ble_eq_true rfl) (Nat.le_of_ble_eq_true rfl) (Nat.le_of_ble_eq_true rfl) (av := [(.int (d &&& (15 : Int32))), (.int (s_ &&& (2147483647 : Int32)))]) (S := []) rfl (pc' := 16) rfl ?_
  intro T h v X hQ
  obtain ⟨rfl, K_, O, ys, A, hl⟩ := hQ
  rw [← hl] at hnl hk
  have KK := KK.trans K_ (allS (Or.inl (by simp)) (allS (Or.inl (by simp)) all0))
  show own_Go p e below n0 (own_Fin ({ frames := 1, cells := 0, slots := 0, locals := 20 } : Room) s (fun v h => v = none ∧ Keep h0 h [o, pk] ∧ own_Ob Z a0 h o "com/example/twin64/twin64/search/IntPairs" [("limit", "I", (.int lim)), ("packed", "[J", (.ref pk)), ("size", "I", (.int (4 : Int32)))] ∧ ∃ ys, own_JA Z h pk ys ∧ 4 ≤ ys.length)) (T.setTop (mkF m 16 #[.val (.ref o), .val (.int (4 : Int32)), .val (.int d), .val (.int s_)] []))
  refine own_iloadN C X own_d4_16 rfl (pc' := 17) rfl ?_
  refine own_iconst C X own_d4_17 (v := 1) (by decide) (pc' := 18) rfl ?_
  refine own_icmp_le C X own_d4_18 (pcT := 37) (pc' := 21) (by decide) (by decide) rfl (fun hc18 => absurd hc18 (by decide)) (fun hc18 => ?_)
  refine own_aloadN C X own_d4_21 rfl rfl (pc' := 22) rfl ?_
  refine own_iloadN C X own_d4_22 rfl (pc' := 23) rfl ?_
  refine own_iconst C X own_d4_23 (v := 4) (by decide) (pc' := 24) rfl ?_
  refine own_iushr C X own_d4_24 rfl (pc' := 25) rfl ?_
  refine own_bipush C X own_d4_25 (v := 15) (by decide) (pc' := 27) rfl ?_
  refine own_iand C X own_d4_27 rfl (pc' := 28) rfl ?_
  refine own_iloadN C X own_d4_28 rfl (pc' := 29) rfl ?_
  refine own_iconst C X own_d4_29 (v := 1) (by decide) (pc' := 30) rfl ?_
  refine own_iushr C X own_d4_30 rfl (pc' := 31) rfl ?_
  refine own_ldcI C X own_d4_31 (hw _ (List.mem_of_getElem? (i := 0) rfl)) (pc' := 33) rfl ?_
  refine own_iand C X own_d4_33 rfl (pc' := 34) rfl ?_
  refine own_callV C X own_d4_34 (own_m_add l Z a0 hw o (((d.toUInt32 >>> ((4 : Int32) &&& 31).toUInt32).toInt32) &&& (15 : Int32)) (((s_.toUInt32 >>> ((1 : Int32) &&& 31).toUInt32).toInt32) &&& (2147483647 : Int32)) _ n0 (own_big C X) lim pk _ nl hnl (1 : Int32) (2 : Int32) 1 (by decide) (Nat.lt_of_lt_of_le (by decide) hk) (by decide) O A ne_o ge_o ge_pk) O.1 (hw _ (List.mem_of_getElem? (i := 41) rfl)) (hw _ (List.mem_of_getElem? (i := 42) rfl)) (hw _ (List.mem_of_getElem? (i := 44) rfl)) (hw _ (List.mem_of_getElem? (i := 43) rfl)) (hw _ (List.mem_of_getElem? (i := 7) rfl)) (hw _ (List.mem_of_getElem? (i := 45) rfl)) (by decide) own_pd_2877 rfl rfl (Nat.le_of_ble_eq_true rfl) (Nat.le_of_ble_eq_true rfl) (Nat.le_of_ble_eq_true rfl) (Nat.le_of_ble_eq_true rfl) (av := [(.int (((d.toUInt32 >>> ((4 : Int32) &&& 31).toUInt32).toInt32) &&& (15 : Int32))), (.int (((s_.toUInt32 >>> ((1 : Int32) &&& 31).toUInt32).toInt32) &&& (2147483647 : Int32)))]) (S := []) rfl (pc' := 37) rfl ?_
  intro T h v X hQ
  obtain ⟨rfl, K_, O, ys, A, hl⟩ := hQ
  rw [← hl] at hnl hk
  have KK := KK.trans K_ (allS (Or.inl (by simp)) (allS (Or.inl (by simp)) all0))
  show own_Go p e below n0 (own_Fin ({ frames := 1, cells := 0, slots := 0, locals := 20 } : Room) s (fun v h => v = none ∧ Keep h0 h [o, pk] ∧ own_Ob Z a0 h o "com/example/twin64/twin64/search/IntPairs" [("limit", "I", (.int lim)), ("packed", "[J", (.ref pk)), ("size", "I", (.int (4 : Int32)))] ∧ ∃ ys, own_JA Z h pk ys ∧ 4 ≤ ys.length)) (T.setTop (mkF m 37 #[.val (.ref o), .val (.int (4 : Int32)), .val (.int d), .val (.int s_)] []))
  refine own_iloadN C X own_d4_37 rfl (pc' := 38) rfl ?_
  refine own_iconst C X own_d4_38 (v := 2) (by decide) (pc' := 39) rfl ?_
  refine own_icmp_le C X own_d4_39 (pcT := 59) (pc' := 42) (by decide) (by decide) rfl (fun hc39 => absurd hc39 (by decide)) (fun hc39 => ?_)
  refine own_aloadN C X own_d4_42 rfl rfl (pc' := 43) rfl ?_
  refine own_iloadN C X own_d4_43 rfl (pc' := 44) rfl ?_
  refine own_bipush C X own_d4_44 (v := 8) (by decide) (pc' := 46) rfl ?_
  refine own_iushr C X own_d4_46 rfl (pc' := 47) rfl ?_
  refine own_bipush C X own_d4_47 (v := 15) (by decide) (pc' := 49) rfl ?_
  refine own_iand C X own_d4_49 rfl (pc' := 50) rfl ?_
  refine own_iloadN C X own_d4_50 rfl (pc' := 51) rfl ?_
  refine own_iconst C X own_d4_51 (v := 2) (by decide) (pc' := 52) rfl ?_
  refine own_iushr C X own_d4_52 rfl (pc' := 53) rfl ?_
  refine own_ldcI C X own_d4_53 (hw _ (List.mem_of_getElem? (i := 0) rfl)) (pc' := 55) rfl ?_
  refine own_iand C X own_d4_55 rfl (pc' := 56) rfl ?_
  refine own_callV C X own_d4_56 (own_m_add l Z a0 hw o (((d.toUInt32 >>> ((8 : Int32) &&& 31).toUInt32).toInt32) &&& (15 : Int32)) (((s_.toUInt32 >>> ((2 : Int32) &&& 31).toUInt32).toInt32) &&& (2147483647 : Int32)) _ n0 (own_big C X) lim pk _ nl hnl (2 : Int32) (3 : Int32) 2 (by decide) (Nat.lt_of_lt_of_le (by decide) hk) (by decide) O A ne_o ge_o ge_pk) O.1 (hw _ (List.mem_of_getElem? (i := 41) rfl)) (hw _ (List.mem_of_getElem? (i := 42) rfl)) (hw _ (List.mem_of_getElem? (i := 44) rfl)) (hw _ (List.mem_of_getElem? (i := 43) rfl)) (hw _ (List.mem_of_getElem? (i := 7) rfl)) (hw _ (List.mem_of_getElem? (i := 45) rfl)) (by decide) own_pd_2877 rfl rfl (Nat.le_of_ble_eq_true rfl) (Nat.le_of_ble_eq_true rfl) (Nat.le_of_ble_eq_true rfl) (Nat.le_of_ble_eq_true rfl) (av := [(.int (((d.toUInt32 >>> ((8 : Int32) &&& 31).toUInt32).toInt32) &&& (15 : Int32))), (.int (((s_.toUInt32 >>> ((2 : Int32) &&& 31).toUInt32).toInt32) &&& (2147483647 : Int32)))]) (S := []) rfl (pc' := 59) rfl ?_
  intro T h v X hQ
  obtain ⟨rfl, K_, O, ys, A, hl⟩ := hQ
  rw [← hl] at hnl hk
  have KK := KK.trans K_ (allS (Or.inl (by simp)) (allS (Or.inl (by simp)) all0))
  show own_Go p e below n0 (own_Fin ({ frames := 1, cells := 0, slots := 0, locals := 20 } : Room) s (fun v h => v = none ∧ Keep h0 h [o, pk] ∧ own_Ob Z a0 h o "com/example/twin64/twin64/search/IntPairs" [("limit", "I", (.int lim)), ("packed", "[J", (.ref pk)), ("size", "I", (.int (4 : Int32)))] ∧ ∃ ys, own_JA Z h pk ys ∧ 4 ≤ ys.length)) (T.setTop (mkF m 59 #[.val (.ref o), .val (.int (4 : Int32)), .val (.int d), .val (.int s_)] []))
  refine own_iloadN C X own_d4_59 rfl (pc' := 60) rfl ?_
  refine own_iconst C X own_d4_60 (v := 3) (by decide) (pc' := 61) rfl ?_
  refine own_icmp_le C X own_d4_61 (pcT := 81) (pc' := 64) (by decide) (by decide) rfl (fun hc61 => absurd hc61 (by decide)) (fun hc61 => ?_)
  refine own_aloadN C X own_d4_64 rfl rfl (pc' := 65) rfl ?_
  refine own_iloadN C X own_d4_65 rfl (pc' := 66) rfl ?_
  refine own_bipush C X own_d4_66 (v := 12) (by decide) (pc' := 68) rfl ?_
  refine own_iushr C X own_d4_68 rfl (pc' := 69) rfl ?_
  refine own_bipush C X own_d4_69 (v := 15) (by decide) (pc' := 71) rfl ?_
  refine own_iand C X own_d4_71 rfl (pc' := 72) rfl ?_
  refine own_iloadN C X own_d4_72 rfl (pc' := 73) rfl ?_
  refine own_iconst C X own_d4_73 (v := 3) (by decide) (pc' := 74) rfl ?_
  refine own_iushr C X own_d4_74 rfl (pc' := 75) rfl ?_
  refine own_ldcI C X own_d4_75 (hw _ (List.mem_of_getElem? (i := 0) rfl)) (pc' := 77) rfl ?_
  refine own_iand C X own_d4_77 rfl (pc' := 78) rfl ?_
  refine own_callV C X own_d4_78 (own_m_add l Z a0 hw o (((d.toUInt32 >>> ((12 : Int32) &&& 31).toUInt32).toInt32) &&& (15 : Int32)) (((s_.toUInt32 >>> ((3 : Int32) &&& 31).toUInt32).toInt32) &&& (2147483647 : Int32)) _ n0 (own_big C X) lim pk _ nl hnl (3 : Int32) (4 : Int32) 3 (by decide) (Nat.lt_of_lt_of_le (by decide) hk) (by decide) O A ne_o ge_o ge_pk) O.1 (hw _ (List.mem_of_getElem? (i := 41) rfl)) (hw _ (List.mem_of_getElem? (i := 42) rfl)) (hw _ (List.mem_of_getElem? (i := 44) rfl)) (hw _ (List.mem_of_getElem? (i := 43) rfl)) (hw _ (List.mem_of_getElem? (i := 7) rfl)) (hw _ (List.mem_of_getElem? (i := 45) rfl)) (by decide) own_pd_2877 rfl rfl (Nat.le_of_ble_eq_true rfl) (Nat.le_of_ble_eq_true rfl) (Nat.le_of_ble_eq_true rfl) (Nat.le_of_ble_eq_true rfl) (av := [(.int (((d.toUInt32 >>> ((12 : Int32) &&& 31).toUInt32).toInt32) &&& (15 : Int32))), (.int (((s_.toUInt32 >>> ((3 : Int32) &&& 31).toUInt32).toInt32) &&& (2147483647 : Int32)))]) (S := []) rfl (pc' := 81) rfl ?_
  intro T h v X hQ
  obtain ⟨rfl, K_, O, ys, A, hl⟩ := hQ
  rw [← hl] at hnl hk
  have KK := KK.trans K_ (allS (Or.inl (by simp)) (allS (Or.inl (by simp)) all0))
  show own_Go p e below n0 (own_Fin ({ frames := 1, cells := 0, slots := 0, locals := 20 } : Room) s (fun v h => v = none ∧ Keep h0 h [o, pk] ∧ own_Ob Z a0 h o "com/example/twin64/twin64/search/IntPairs" [("limit", "I", (.int lim)), ("packed", "[J", (.ref pk)), ("size", "I", (.int (4 : Int32)))] ∧ ∃ ys, own_JA Z h pk ys ∧ 4 ≤ ys.length)) (T.setTop (mkF m 81 #[.val (.ref o), .val (.int (4 : Int32)), .val (.int d), .val (.int s_)] []))
  refine own_iloadN C X own_d4_81 rfl (pc' := 82) rfl ?_
  refine own_iconst C X own_d4_82 (v := 4) (by decide) (pc' := 83) rfl ?_
  refine own_icmp_le C X own_d4_83 (pcT := 103) (pc' := 86) (by decide) (by decide) rfl (fun hc83 => ?_) (fun hc83 => absurd hc83 (by decide))
  exact own_return C X own_d4_103 (Nat.le_of_ble_eq_true rfl) (Nat.le_of_ble_eq_true rfl) (⟨rfl, KK, O, _, A, hk⟩)
theorem own_ef_addN5 (o : Addr) (d : Int32) (s_ : Int32) (m : MethodId) : entryFrame m #[(.ref o), (.int (5 : Int32)), (.int d), (.int s_)] 4 = mkF m 0 #[.val (.ref o), .val (.int (5 : Int32)), .val (.int d), .val (.int s_)] [] := by first | (simp [entryFrame, mkF, argsToLocals, Value.category]; done) | rfl
theorem own_d4_86 : decode method_2_code 86 = .ok (.aload_n 0, 1) := by decide +kernel
theorem own_d4_87 : decode method_2_code 87 = .ok (.iload_n 2, 1) := by decide +kernel
theorem own_d4_88 : decode method_2_code 88 = .ok (.bipush 16, 2) := by decide +kernel
theorem own_d4_90 : decode method_2_code 90 = .ok (.iushr, 1) := by decide +kernel
theorem own_d4_91 : decode method_2_code 91 = .ok (.bipush 15, 2) := by decide +kernel
theorem own_d4_93 : decode method_2_code 93 = .ok (.iand, 1) := by decide +kernel
theorem own_d4_94 : decode method_2_code 94 = .ok (.iload_n 3, 1) := by decide +kernel
theorem own_d4_95 : decode method_2_code 95 = .ok (.iconst 4, 1) := by decide +kernel
theorem own_d4_96 : decode method_2_code 96 = .ok (.iushr, 1) := by decide +kernel
theorem own_d4_97 : decode method_2_code 97 = .ok (.ldc 7, 2) := by decide +kernel
theorem own_d4_99 : decode method_2_code 99 = .ok (.iand, 1) := by decide +kernel
theorem own_d4_100 : decode method_2_code 100 = .ok (.invokevirtual 8, 3) := by decide +kernel
set_option maxRecDepth 65536 in
set_option maxHeartbeats 40000000 in
theorem own_m_addN5 (l : Launch) (Z : State) (a0 : Array Value) (hw : ∀ d ∈ tables_1, d.before a0 Z = true) (o : Addr) (d : Int32) (s_ : Int32) (h0 : Heap) (n0 : Nat) (hn0 : n0 ≤ h0.size) (lim : Int32) (pk : Addr) (xs : List Int64) (nl : Int32) (hnl : nl.toInt = (xs.length : Int)) (hk : 5 ≤ xs.length) (O : own_Ob Z a0 h0 o "com/example/twin64/twin64/search/IntPairs" [("limit", "I", (.int lim)), ("packed", "[J", (.ref pk)), ("size", "I", (.int (0 : Int32)))]) (A : own_JA Z h0 pk xs) (ne_o : o ≠ pk) (ge_o : n0 ≤ o) (ge_pk : n0 ≤ pk) : own_Met l Z n0 (⟨"com/example/twin64/twin64/search/IntPairsIsFullPinLaw", "addN", "(Lcom/example/twin64/twin64/search/IntPairs;III)V"⟩ : MethodName) method_2_code 4 none [] ({ frames := 1, cells := 0, slots := 0, locals := 20 } : Room) #[(.ref o), (.int (5 : Int32)), (.int d), (.int s_)] h0 (fun v h => v = none ∧ Keep h0 h [o, pk] ∧ own_Ob Z a0 h o "com/example/twin64/twin64/search/IntPairs" [("limit", "I", (.int lim)), ("packed", "[J", (.ref pk)), ("size", "I", (.int (5 : Int32)))] ∧ ∃ ys, own_JA Z h pk ys ∧ 5 ≤ ys.length) := by
  refine own_body (plainFor_of_name own_pn_com_example_twin64_twin64_search_IntPairsIsFullPinLaw) hn0 (own_ef_addN5 o d s_) ?_
  intro p e s m below meth c T C X
  have KK := Keep.refl h0 [o, pk]
  refine own_iloadN C X own_d4_0 rfl (pc' := 1) rfl ?_
  refine own_if_le C X own_d4_1 (pcT := 16) (pc' := 4) (by decide) (by decide) rfl (fun hc1 => absurd hc1 (by decide)) (fun hc1 => ?_)
  refine own_aloadN C X own_d4_4 rfl rfl (pc' := 5) rfl ?_
  refine own_iloadN C X own_d4_5 rfl (pc' := 6) rfl ?_
  refine own_bipush C X own_d4_6 (v := 15) (by decide) (pc' := 8) rfl ?_
  refine own_iand C X own_d4_8 rfl (pc' := 9) rfl ?_
  refine own_iloadN C X own_d4_9 rfl (pc' := 10) rfl ?_
  refine own_ldcI C X own_d4_10 (hw _ (List.mem_of_getElem? (i := 0) rfl)) (pc' := 12) rfl ?_
  refine own_iand C X own_d4_12 rfl (pc' := 13) rfl ?_
  refine own_callV C X own_d4_13 (own_m_add l Z a0 hw o (d &&& (15 : Int32)) (s_ &&& (2147483647 : Int32)) _ n0 (own_big C X) lim pk _ nl hnl (0 : Int32) (1 : Int32) 0 (by decide) (Nat.lt_of_lt_of_le (by decide) hk) (by decide) O A ne_o ge_o ge_pk) O.1 (hw _ (List.mem_of_getElem? (i := 41) rfl)) (hw _ (List.mem_of_getElem? (i := 42) rfl)) (hw _ (List.mem_of_getElem? (i := 44) rfl)) (hw _ (List.mem_of_getElem? (i := 43) rfl)) (hw _ (List.mem_of_getElem? (i := 7) rfl)) (hw _ (List.mem_of_getElem? (i := 45) rfl)) (by decide) own_pd_2877 rfl rfl (Nat.le_of_ble_eq_true rfl) (Nat.le_of_ble_eq_true rfl) (Nat.le_of_ble_eq_true rfl) (Nat.le_of_ble_eq_true rfl) (av := [(.int (d &&& (15 : Int32))), (.int (s_ &&& (2147483647 : Int32)))]) (S := []) rfl (pc' := 16) rfl ?_
  intro T h v X hQ
  obtain ⟨rfl, K_, O, ys, A, hl⟩ := hQ
  rw [← hl] at hnl hk
  have KK := KK.trans K_ (allS (Or.inl (by simp)) (allS (Or.inl (by simp)) all0))
  show own_Go p e below n0 (own_Fin ({ frames := 1, cells := 0, slots := 0, locals := 20 } : Room) s (fun v h => v = none ∧ Keep h0 h [o, pk] ∧ own_Ob Z a0 h o "com/example/twin64/twin64/search/IntPairs" [("limit", "I", (.int lim)), ("packed", "[J", (.ref pk)), ("size", "I", (.int (5 : Int32)))] ∧ ∃ ys, own_JA Z h pk ys ∧ 5 ≤ ys.length)) (T.setTop (mkF m 16 #[.val (.ref o), .val (.int (5 : Int32)), .val (.int d), .val (.int s_)] []))
  refine own_iloadN C X own_d4_16 rfl (pc' := 17) rfl ?_
  refine own_iconst C X own_d4_17 (v := 1) (by decide) (pc' := 18) rfl ?_
  refine own_icmp_le C X own_d4_18 (pcT := 37) (pc' := 21) (by decide) (by decide) rfl (fun hc18 => absurd hc18 (by decide)) (fun hc18 => ?_)
  refine own_aloadN C X own_d4_21 rfl rfl (pc' := 22) rfl ?_
  refine own_iloadN C X own_d4_22 rfl (pc' := 23) rfl ?_
  refine own_iconst C X own_d4_23 (v := 4) (by decide) (pc' := 24) rfl ?_
  refine own_iushr C X own_d4_24 rfl (pc' := 25) rfl ?_
  refine own_bipush C X own_d4_25 (v := 15) (by decide) (pc' := 27) rfl ?_
  refine own_iand C X own_d4_27 rfl (pc' := 28) rfl ?_
  refine own_iloadN C X own_d4_28 rfl (pc' := 29) rfl ?_
  refine own_iconst C X own_d4_29 (v := 1) (by decide) (pc' := 30) rfl ?_
  refine own_iushr C X own_d4_30 rfl (pc' := 31) rfl ?_
  refine own_ldcI C X own_d4_31 (hw _ (List.mem_of_getElem? (i := 0) rfl)) (pc' := 33) rfl ?_
  refine own_iand C X own_d4_33 rfl (pc' := 34) rfl ?_
  refine own_callV C X own_d4_34 (own_m_add l Z a0 hw o (((d.toUInt32 >>> ((4 : Int32) &&& 31).toUInt32).toInt32) &&& (15 : Int32)) (((s_.toUInt32 >>> ((1 : Int32) &&& 31).toUInt32).toInt32) &&& (2147483647 : Int32)) _ n0 (own_big C X) lim pk _ nl hnl (1 : Int32) (2 : Int32) 1 (by decide) (Nat.lt_of_lt_of_le (by decide) hk) (by decide) O A ne_o ge_o ge_pk) O.1 (hw _ (List.mem_of_getElem? (i := 41) rfl)) (hw _ (List.mem_of_getElem? (i := 42) rfl)) (hw _ (List.mem_of_getElem? (i := 44) rfl)) (hw _ (List.mem_of_getElem? (i := 43) rfl)) (hw _ (List.mem_of_getElem? (i := 7) rfl)) (hw _ (List.mem_of_getElem? (i := 45) rfl)) (by decide) own_pd_2877 rfl rfl (Nat.le_of_ble_eq_true rfl) (Nat.le_of_ble_eq_true rfl) (Nat.le_of_ble_eq_true rfl) (Nat.le_of_ble_eq_true rfl) (av := [(.int (((d.toUInt32 >>> ((4 : Int32) &&& 31).toUInt32).toInt32) &&& (15 : Int32))), (.int (((s_.toUInt32 >>> ((1 : Int32) &&& 31).toUInt32).toInt32) &&& (2147483647 : Int32)))]) (S := []) rfl (pc' := 37) rfl ?_
  intro T h v X hQ
  obtain ⟨rfl, K_, O, ys, A, hl⟩ := hQ
  rw [← hl] at hnl hk
  have KK := KK.trans K_ (allS (Or.inl (by simp)) (allS (Or.inl (by simp)) all0))
  show own_Go p e below n0 (own_Fin ({ frames := 1, cells := 0, slots := 0, locals := 20 } : Room) s (fun v h => v = none ∧ Keep h0 h [o, pk] ∧ own_Ob Z a0 h o "com/example/twin64/twin64/search/IntPairs" [("limit", "I", (.int lim)), ("packed", "[J", (.ref pk)), ("size", "I", (.int (5 : Int32)))] ∧ ∃ ys, own_JA Z h pk ys ∧ 5 ≤ ys.length)) (T.setTop (mkF m 37 #[.val (.ref o), .val (.int (5 : Int32)), .val (.int d), .val (.int s_)] []))
  refine own_iloadN C X own_d4_37 rfl (pc' := 38) rfl ?_
  refine own_iconst C X own_d4_38 (v := 2) (by decide) (pc' := 39) rfl ?_
  refine own_icmp_le C X own_d4_39 (pcT := 59) (pc' := 42) (by decide) (by decide) rfl (fun hc39 => absurd hc39 (by decide)) (fun hc39 => ?_)
  refine own_aloadN C X own_d4_42 rfl rfl (pc' := 43) rfl ?_
  refine own_iloadN C X own_d4_43 rfl (pc' := 44) rfl ?_
  refine own_bipush C X own_d4_44 (v := 8) (by decide) (pc' := 46) rfl ?_
  refine own_iushr C X own_d4_46 rfl (pc' := 47) rfl ?_
  refine own_bipush C X own_d4_47 (v := 15) (by decide) (pc' := 49) rfl ?_
  refine own_iand C X own_d4_49 rfl (pc' := 50) rfl ?_
  refine own_iloadN C X own_d4_50 rfl (pc' := 51) rfl ?_
  refine own_iconst C X own_d4_51 (v := 2) (by decide) (pc' := 52) rfl ?_
  refine own_iushr C X own_d4_52 rfl (pc' := 53) rfl ?_
  refine own_ldcI C X own_d4_53 (hw _ (List.mem_of_getElem? (i := 0) rfl)) (pc' := 55) rfl ?_
  refine own_iand C X own_d4_55 rfl (pc' := 56) rfl ?_
  refine own_callV C X own_d4_56 (own_m_add l Z a0 hw o (((d.toUInt32 >>> ((8 : Int32) &&& 31).toUInt32).toInt32) &&& (15 : Int32)) (((s_.toUInt32 >>> ((2 : Int32) &&& 31).toUInt32).toInt32) &&& (2147483647 : Int32)) _ n0 (own_big C X) lim pk _ nl hnl (2 : Int32) (3 : Int32) 2 (by decide) (Nat.lt_of_lt_of_le (by decide) hk) (by decide) O A ne_o ge_o ge_pk) O.1 (hw _ (List.mem_of_getElem? (i := 41) rfl)) (hw _ (List.mem_of_getElem? (i := 42) rfl)) (hw _ (List.mem_of_getElem? (i := 44) rfl)) (hw _ (List.mem_of_getElem? (i := 43) rfl)) (hw _ (List.mem_of_getElem? (i := 7) rfl)) (hw _ (List.mem_of_getElem? (i := 45) rfl)) (by decide) own_pd_2877 rfl rfl (Nat.le_of_ble_eq_true rfl) (Nat.le_of_ble_eq_true rfl) (Nat.le_of_ble_eq_true rfl) (Nat.le_of_ble_eq_true rfl) (av := [(.int (((d.toUInt32 >>> ((8 : Int32) &&& 31).toUInt32).toInt32) &&& (15 : Int32))), (.int (((s_.toUInt32 >>> ((2 : Int32) &&& 31).toUInt32).toInt32) &&& (2147483647 : Int32)))]) (S := []) rfl (pc' := 59) rfl ?_
  intro T h v X hQ
  obtain ⟨rfl, K_, O, ys, A, hl⟩ := hQ
  rw [← hl] at hnl hk
  have KK := KK.trans K_ (allS (Or.inl (by simp)) (allS (Or.inl (by simp)) all0))
  show own_Go p e below n0 (own_Fin ({ frames := 1, cells := 0, slots := 0, locals := 20 } : Room) s (fun v h => v = none ∧ Keep h0 h [o, pk] ∧ own_Ob Z a0 h o "com/example/twin64/twin64/search/IntPairs" [("limit", "I", (.int lim)), ("packed", "[J", (.ref pk)), ("size", "I", (.int (5 : Int32)))] ∧ ∃ ys, own_JA Z h pk ys ∧ 5 ≤ ys.length)) (T.setTop (mkF m 59 #[.val (.ref o), .val (.int (5 : Int32)), .val (.int d), .val (.int s_)] []))
  refine own_iloadN C X own_d4_59 rfl (pc' := 60) rfl ?_
  refine own_iconst C X own_d4_60 (v := 3) (by decide) (pc' := 61) rfl ?_
  refine own_icmp_le C X own_d4_61 (pcT := 81) (pc' := 64) (by decide) (by decide) rfl (fun hc61 => absurd hc61 (by decide)) (fun hc61 => ?_)
  refine own_aloadN C X own_d4_64 rfl rfl (pc' := 65) rfl ?_
  refine own_iloadN C X own_d4_65 rfl (pc' := 66) rfl ?_
  refine own_bipush C X own_d4_66 (v := 12) (by decide) (pc' := 68) rfl ?_
  refine own_iushr C X own_d4_68 rfl (pc' := 69) rfl ?_
  refine own_bipush C X own_d4_69 (v := 15) (by decide) (pc' := 71) rfl ?_
  refine own_iand C X own_d4_71 rfl (pc' := 72) rfl ?_
  refine own_iloadN C X own_d4_72 rfl (pc' := 73) rfl ?_
  refine own_iconst C X own_d4_73 (v := 3) (by decide) (pc' := 74) rfl ?_
  refine own_iushr C X own_d4_74 rfl (pc' := 75) rfl ?_
  refine own_ldcI C X own_d4_75 (hw _ (List.mem_of_getElem? (i := 0) rfl)) (pc' := 77) rfl ?_
  refine own_iand C X own_d4_77 rfl (pc' := 78) rfl ?_
  refine own_callV C X own_d4_78 (own_m_add l Z a0 hw o (((d.toUInt32 >>> ((12 : Int32) &&& 31).toUInt32).toInt32) &&& (15 : Int32)) (((s_.toUInt32 >>> ((3 : Int32) &&& 31).toUInt32).toInt32) &&& (2147483647 : Int32)) _ n0 (own_big C X) lim pk _ nl hnl (3 : Int32) (4 : Int32) 3 (by decide) (Nat.lt_of_lt_of_le (by decide) hk) (by decide) O A ne_o ge_o ge_pk) O.1 (hw _ (List.mem_of_getElem? (i := 41) rfl)) (hw _ (List.mem_of_getElem? (i := 42) rfl)) (hw _ (List.mem_of_getElem? (i := 44) rfl)) (hw _ (List.mem_of_getElem? (i := 43) rfl)) (hw _ (List.mem_of_getElem? (i := 7) rfl)) (hw _ (List.mem_of_getElem? (i := 45) rfl)) (by decide) own_pd_2877 rfl rfl (Nat.le_of_ble_eq_true rfl) (Nat.le_of_ble_eq_true rfl) (Nat.le_of_ble_eq_true rfl) (Nat.le_of_ble_eq_true rfl) (av := [(.int (((d.toUInt32 >>> ((12 : Int32) &&& 31).toUInt32).toInt32) &&& (15 : Int32))), (.int (((s_.toUInt32 >>> ((3 : Int32) &&& 31).toUInt32).toInt32) &&& (2147483647 : Int32)))]) (S := []) rfl (pc' := 81) rfl ?_
  intro T h v X hQ
  obtain ⟨rfl, K_, O, ys, A, hl⟩ := hQ
  rw [← hl] at hnl hk
  have KK := KK.trans K_ (allS (Or.inl (by simp)) (allS (Or.inl (by simp)) all0))
  show own_Go p e below n0 (own_Fin ({ frames := 1, cells := 0, slots := 0, locals := 20 } : Room) s (fun v h => v = none ∧ Keep h0 h [o, pk] ∧ own_Ob Z a0 h o "com/example/twin64/twin64/search/IntPairs" [("limit", "I", (.int lim)), ("packed", "[J", (.ref pk)), ("size", "I", (.int (5 : Int32)))] ∧ ∃ ys, own_JA Z h pk ys ∧ 5 ≤ ys.length)) (T.setTop (mkF m 81 #[.val (.ref o), .val (.int (5 : Int32)), .val (.int d), .val (.int s_)] []))
  refine own_iloadN C X own_d4_81 rfl (pc' := 82) rfl ?_
  refine own_iconst C X own_d4_82 (v := 4) (by decide) (pc' := 83) rfl ?_
  refine own_icmp_le C X own_d4_83 (pcT := 103) (pc' := 86) (by decide) (by decide) rfl (fun hc83 => absurd hc83 (by decide)) (fun hc83 => ?_)
  refine own_aloadN C X own_d4_86 rfl rfl (pc' := 87) rfl ?_
  refine own_iloadN C X own_d4_87 rfl (pc' := 88) rfl ?_
  refine own_bipush C X own_d4_88 (v := 16) (by decide) (pc' := 90) rfl ?_
  refine own_iushr C X own_d4_90 rfl (pc' := 91) rfl ?_
  refine own_bipush C X own_d4_91 (v := 15) (by decide) (pc' := 93) rfl ?_
  refine own_iand C X own_d4_93 rfl (pc' := 94) rfl ?_
  refine own_iloadN C X own_d4_94 rfl (pc' := 95) rfl ?_
  refine own_iconst C X own_d4_95 (v := 4) (by decide) (pc' := 96) rfl ?_
  refine own_iushr C X own_d4_96 rfl (pc' := 97) rfl ?_
  refine own_ldcI C X own_d4_97 (hw _ (List.mem_of_getElem? (i := 0) rfl)) (pc' := 99) rfl ?_
  refine own_iand C X own_d4_99 rfl (pc' := 100) rfl ?_
  refine own_callV C X own_d4_100 (own_m_add l Z a0 hw o (((d.toUInt32 >>> ((16 : Int32) &&& 31).toUInt32).toInt32) &&& (15 : Int32)) (((s_.toUInt32 >>> ((4 : Int32) &&& 31).toUInt32).toInt32) &&& (2147483647 : Int32)) _ n0 (own_big C X) lim pk _ nl hnl (4 : Int32) (5 : Int32) 4 (by decide) (Nat.lt_of_lt_of_le (by decide) hk) (by decide) O A ne_o ge_o ge_pk) O.1 (hw _ (List.mem_of_getElem? (i := 41) rfl)) (hw _ (List.mem_of_getElem? (i := 42) rfl)) (hw _ (List.mem_of_getElem? (i := 44) rfl)) (hw _ (List.mem_of_getElem? (i := 43) rfl)) (hw _ (List.mem_of_getElem? (i := 7) rfl)) (hw _ (List.mem_of_getElem? (i := 45) rfl)) (by decide) own_pd_2877 rfl rfl (Nat.le_of_ble_eq_true rfl) (Nat.le_of_ble_eq_true rfl) (Nat.le_of_ble_eq_true rfl) (Nat.le_of_ble_eq_true rfl) (av := [(.int (((d.toUInt32 >>> ((16 : Int32) &&& 31).toUInt32).toInt32) &&& (15 : Int32))), (.int (((s_.toUInt32 >>> ((4 : Int32) &&& 31).toUInt32).toInt32) &&& (2147483647 : Int32)))]) (S := []) rfl (pc' := 103) rfl ?_
  intro T h v X hQ
  obtain ⟨rfl, K_, O, ys, A, hl⟩ := hQ
  rw [← hl] at hnl hk
  have KK := KK.trans K_ (allS (Or.inl (by simp)) (allS (Or.inl (by simp)) all0))
  show own_Go p e below n0 (own_Fin ({ frames := 1, cells := 0, slots := 0, locals := 20 } : Room) s (fun v h => v = none ∧ Keep h0 h [o, pk] ∧ own_Ob Z a0 h o "com/example/twin64/twin64/search/IntPairs" [("limit", "I", (.int lim)), ("packed", "[J", (.ref pk)), ("size", "I", (.int (5 : Int32)))] ∧ ∃ ys, own_JA Z h pk ys ∧ 5 ≤ ys.length)) (T.setTop (mkF m 103 #[.val (.ref o), .val (.int (5 : Int32)), .val (.int d), .val (.int s_)] []))
  exact own_return C X own_d4_103 (Nat.le_of_ble_eq_true rfl) (Nat.le_of_ble_eq_true rfl) (⟨rfl, KK, O, _, A, hk⟩)
theorem own_ef_full (o : Addr) (m : MethodId) : entryFrame m #[(.ref o)] 1 = mkF m 0 #[.val (.ref o)] [] := by first | (simp [entryFrame, mkF, argsToLocals, Value.category]; done) | rfl
theorem own_d5_0 : decode prog_43_method_4_code 0 = .ok (.aload_n 0, 1) := by decide +kernel
theorem own_d5_1 : decode prog_43_method_4_code 1 = .ok (.getfield 23, 3) := by decide +kernel
theorem own_d5_4 : decode prog_43_method_4_code 4 = .ok (.aload_n 0, 1) := by decide +kernel
theorem own_d5_5 : decode prog_43_method_4_code 5 = .ok (.getfield 7, 3) := by decide +kernel
theorem own_d5_8 : decode prog_43_method_4_code 8 = .ok (.if_icmp .ne 7, 3) := by decide +kernel
theorem own_d5_15 : decode prog_43_method_4_code 15 = .ok (.iconst 0, 1) := by decide +kernel
theorem own_d5_16 : decode prog_43_method_4_code 16 = .ok (.ireturn, 1) := by decide +kernel
theorem own_d5_11 : decode prog_43_method_4_code 11 = .ok (.iconst 1, 1) := by decide +kernel
theorem own_d5_12 : decode prog_43_method_4_code 12 = .ok (.goto 4, 3) := by decide +kernel
set_option maxRecDepth 65536 in
set_option maxHeartbeats 40000000 in
theorem own_m_full (l : Launch) (Z : State) (a0 : Array Value) (hw : ∀ d ∈ tables_1, d.before a0 Z = true) (o : Addr) (h0 : Heap) (n0 : Nat) (hn0 : n0 ≤ h0.size) (lim : Int32) (pk : Addr) (sz : Int32) (O : own_Ob Z a0 h0 o "com/example/twin64/twin64/search/IntPairs" [("limit", "I", (.int lim)), ("packed", "[J", (.ref pk)), ("size", "I", (.int sz))]) : own_Met l Z n0 (⟨"com/example/twin64/twin64/search/IntPairs", "isFull", "()Z"⟩ : MethodName) prog_43_method_4_code 1 (some .boolean) [] ({ frames := 0, cells := 0, slots := 0, locals := 0 } : Room) #[(.ref o)] h0 (fun v h => v = some (.int (own_fu sz lim)) ∧ h0 = h) := by
  refine own_body (plainFor_of_name own_pn_com_example_twin64_twin64_search_IntPairs) hn0 (own_ef_full o) ?_
  intro p e s m below meth c T C X
  refine own_aloadN C X own_d5_0 rfl rfl (pc' := 1) rfl ?_
  refine own_getfield C X own_d5_1 (hw _ (List.mem_of_getElem? (i := 29) rfl)) O (i := 2) rfl (pc' := 4) rfl ?_
  intro T X
  refine own_aloadN C X own_d5_4 rfl rfl (pc' := 5) rfl ?_
  refine own_getfield C X own_d5_5 (hw _ (List.mem_of_getElem? (i := 14) rfl)) O (i := 0) rfl (pc' := 8) rfl ?_
  intro T X
  refine own_icmp_ne C X own_d5_8 (pcT := 15) (pc' := 11) (by decide) (by decide) rfl (fun hc8 => ?_) (fun hc8 => ?_)
  · refine own_iconst C X own_d5_15 (v := 0) (by decide) (pc' := 16) rfl ?_
    exact own_ireturn_z C X own_d5_16 (Nat.le_of_ble_eq_true rfl) (Nat.le_of_ble_eq_true rfl) (⟨by rw [own_fu]; simp only [hc8, if_true, if_false]; rfl, rfl⟩)
  · refine own_iconst C X own_d5_11 (v := 1) (by decide) (pc' := 12) rfl ?_
    refine own_goto C X own_d5_12 (pc' := 16) (by decide) (by decide) ?_
    exact own_ireturn_z C X own_d5_16 (Nat.le_of_ble_eq_true rfl) (Nat.le_of_ble_eq_true rfl) (⟨by rw [own_fu]; simp only [hc8, if_true, if_false]; rfl, rfl⟩)
theorem own_ef_size (o : Addr) (m : MethodId) : entryFrame m #[(.ref o)] 1 = mkF m 0 #[.val (.ref o)] [] := by first | (simp [entryFrame, mkF, argsToLocals, Value.category]; done) | rfl
theorem own_d6_0 : decode prog_43_method_6_code 0 = .ok (.aload_n 0, 1) := by decide +kernel
theorem own_d6_1 : decode prog_43_method_6_code 1 = .ok (.getfield 23, 3) := by decide +kernel
theorem own_d6_4 : decode prog_43_method_6_code 4 = .ok (.ireturn, 1) := by decide +kernel
set_option maxRecDepth 65536 in
set_option maxHeartbeats 40000000 in
theorem own_m_size (l : Launch) (Z : State) (a0 : Array Value) (hw : ∀ d ∈ tables_1, d.before a0 Z = true) (o : Addr) (h0 : Heap) (n0 : Nat) (hn0 : n0 ≤ h0.size) (lim : Int32) (pk : Addr) (sz : Int32) (O : own_Ob Z a0 h0 o "com/example/twin64/twin64/search/IntPairs" [("limit", "I", (.int lim)), ("packed", "[J", (.ref pk)), ("size", "I", (.int sz))]) : own_Met l Z n0 (⟨"com/example/twin64/twin64/search/IntPairs", "size", "()I"⟩ : MethodName) prog_43_method_6_code 1 (some .int) [] ({ frames := 0, cells := 0, slots := 0, locals := 0 } : Room) #[(.ref o)] h0 (fun v h => v = some (.int sz) ∧ h0 = h) := by
  refine own_body (plainFor_of_name own_pn_com_example_twin64_twin64_search_IntPairs) hn0 (own_ef_size o) ?_
  intro p e s m below meth c T C X
  refine own_aloadN C X own_d6_0 rfl rfl (pc' := 1) rfl ?_
  refine own_getfield C X own_d6_1 (hw _ (List.mem_of_getElem? (i := 29) rfl)) O (i := 2) rfl (pc' := 4) rfl ?_
  intro T X
  exact own_ireturn C X own_d6_4 (Nat.le_of_ble_eq_true rfl) (Nat.le_of_ble_eq_true rfl) (⟨rfl, rfl⟩)
theorem own_ef_fa (o : Addr) (i : Int32) (m : MethodId) : entryFrame m #[(.ref o), (.int i)] 2 = mkF m 0 #[.val (.ref o), .val (.int i)] [] := by first | (simp [entryFrame, mkF, argsToLocals, Value.category]; done) | rfl
theorem own_d9_0 : decode prog_43_method_7_code 0 = .ok (.aload_n 0, 1) := by decide +kernel
theorem own_d9_1 : decode prog_43_method_7_code 1 = .ok (.getfield 19, 3) := by decide +kernel
theorem own_d9_4 : decode prog_43_method_7_code 4 = .ok (.iload_n 1, 1) := by decide +kernel
theorem own_d9_5 : decode prog_43_method_7_code 5 = .ok (.laload, 1) := by decide +kernel
theorem own_d9_6 : decode prog_43_method_7_code 6 = .ok (.bipush 32, 2) := by decide +kernel
theorem own_d9_8 : decode prog_43_method_7_code 8 = .ok (.lushr, 1) := by decide +kernel
theorem own_d9_9 : decode prog_43_method_7_code 9 = .ok (.l2i, 1) := by decide +kernel
theorem own_d9_10 : decode prog_43_method_7_code 10 = .ok (.ireturn, 1) := by decide +kernel
set_option maxRecDepth 65536 in
set_option maxHeartbeats 40000000 in
theorem own_m_fa (l : Launch) (Z : State) (a0 : Array Value) (hw : ∀ d ∈ tables_1, d.before a0 Z = true) (o : Addr) (i : Int32) (h0 : Heap) (n0 : Nat) (hn0 : n0 ≤ h0.size) (lim : Int32) (pk : Addr) (xs : List Int64) (sz : Int32) (O : own_Ob Z a0 h0 o "com/example/twin64/twin64/search/IntPairs" [("limit", "I", (.int lim)), ("packed", "[J", (.ref pk)), ("size", "I", (.int sz))]) (A : own_JA Z h0 pk xs) (n : Nat) (u : Int64) (hi : i.toInt = (n : Int)) (hu : xs[n]? = some u) : own_Met l Z n0 (⟨"com/example/twin64/twin64/search/IntPairs", "firstAt", "(I)I"⟩ : MethodName) prog_43_method_7_code 2 (some .int) [] ({ frames := 0, cells := 0, slots := 0, locals := 0 } : Room) #[(.ref o), (.int i)] h0 (fun v h => v = some (.int ((u.toUInt64 >>> ((32 : Int32) &&& 0x3f).toInt64.toUInt64).toInt64).toInt32) ∧ h0 = h) := by
  refine own_body (plainFor_of_name own_pn_com_example_twin64_twin64_search_IntPairs) hn0 (own_ef_fa o i) ?_
  intro p e s m below meth c T C X
  refine own_aloadN C X own_d9_0 rfl rfl (pc' := 1) rfl ?_
  refine own_getfield C X own_d9_1 (hw _ (List.mem_of_getElem? (i := 18) rfl)) O (i := 1) rfl (pc' := 4) rfl ?_
  intro T X
  refine own_iloadN C X own_d9_4 rfl (pc' := 5) rfl ?_
  refine own_laload C X own_d9_5 A hi (i := n) hu (pc' := 6) rfl ?_
  refine own_bipush C X own_d9_6 (v := 32) (by decide) (pc' := 8) rfl ?_
  refine own_lushr C X own_d9_8 rfl (pc' := 9) rfl ?_
  refine own_l2i C X own_d9_9 rfl (pc' := 10) rfl ?_
  exact own_ireturn C X own_d9_10 (Nat.le_of_ble_eq_true rfl) (Nat.le_of_ble_eq_true rfl) (⟨rfl, rfl⟩)
theorem own_ef_keep0 (o : Addr) (bd : Int32) (m : MethodId) : entryFrame m #[(.ref o), (.int bd)] 2 = mkF m 0 #[.val (.ref o), .val (.int bd)] [] := by first | (simp [entryFrame, mkF, argsToLocals, Value.category]; done) | rfl
theorem own_d7_0 : decode prog_43_method_5_code 0 = .ok (.aload_n 0, 1) := by decide +kernel
theorem own_d7_1 : decode prog_43_method_5_code 1 = .ok (.getfield 23, 3) := by decide +kernel
theorem own_d7_4 : decode prog_43_method_5_code 4 = .ok (.ifCond .le 30, 3) := by decide +kernel
theorem own_d7_34 : decode prog_43_method_5_code 34 = .ok (.return_, 1) := by decide +kernel
set_option maxRecDepth 65536 in
set_option maxHeartbeats 40000000 in
theorem own_m_keep0 (l : Launch) (Z : State) (a0 : Array Value) (hw : ∀ d ∈ tables_1, d.before a0 Z = true) (o : Addr) (bd : Int32) (h0 : Heap) (n0 : Nat) (hn0 : n0 ≤ h0.size) (lim : Int32) (pk : Addr) (xs : List Int64) (hk : 0 ≤ xs.length) (O : own_Ob Z a0 h0 o "com/example/twin64/twin64/search/IntPairs" [("limit", "I", (.int lim)), ("packed", "[J", (.ref pk)), ("size", "I", (.int (0 : Int32)))]) (A : own_JA Z h0 pk xs) (ne_o : o ≠ pk) (ge_o : n0 ≤ o) : own_Met l Z n0 (⟨"com/example/twin64/twin64/search/IntPairs", "keepFirstsBelow", "(I)V"⟩ : MethodName) prog_43_method_5_code 2 none [] ({ frames := 1, cells := 0, slots := 0, locals := 20 } : Room) #[(.ref o), (.int bd)] h0 (fun v h => v = none ∧ ∃ n : Int32, 0 ≤ n.toInt ∧ n.toInt ≤ 0 ∧ Keep h0 h [o] ∧ own_Ob Z a0 h o "com/example/twin64/twin64/search/IntPairs" [("limit", "I", (.int lim)), ("packed", "[J", (.ref pk)), ("size", "I", (.int n))]) := by
  refine own_body (plainFor_of_name own_pn_com_example_twin64_twin64_search_IntPairs) hn0 (own_ef_keep0 o bd) ?_
  intro p e s m below meth c T C X
  have KK := Keep.refl h0 [o]
  refine own_aloadN C X own_d7_0 rfl rfl (pc' := 1) rfl ?_
  refine own_getfield C X own_d7_1 (hw _ (List.mem_of_getElem? (i := 29) rfl)) O (i := 2) rfl (pc' := 4) rfl ?_
  intro T X
  refine own_if_le C X own_d7_4 (pcT := 34) (pc' := 7) (by decide) (by decide) rfl (fun hc4 => ?_) (fun hc4 => absurd hc4 (by decide))
  exact own_return C X own_d7_34 (Nat.le_of_ble_eq_true rfl) (Nat.le_of_ble_eq_true rfl) (⟨rfl, (0 : Int32), by decide, by decide, KK, O⟩)
theorem own_ef_keep1 (o : Addr) (bd : Int32) (m : MethodId) : entryFrame m #[(.ref o), (.int bd)] 2 = mkF m 0 #[.val (.ref o), .val (.int bd)] [] := by first | (simp [entryFrame, mkF, argsToLocals, Value.category]; done) | rfl
theorem own_d7_7 : decode prog_43_method_5_code 7 = .ok (.aload_n 0, 1) := by decide +kernel
theorem own_d7_8 : decode prog_43_method_5_code 8 = .ok (.aload_n 0, 1) := by decide +kernel
theorem own_d7_9 : decode prog_43_method_5_code 9 = .ok (.getfield 23, 3) := by decide +kernel
theorem own_d7_12 : decode prog_43_method_5_code 12 = .ok (.iconst 1, 1) := by decide +kernel
theorem own_d7_13 : decode prog_43_method_5_code 13 = .ok (.isub, 1) := by decide +kernel
theorem own_pd_1963 : parseMethodDescriptor "(I)I" = some ⟨[.int], some .int⟩ := by decide +kernel
theorem own_d7_14 : decode prog_43_method_5_code 14 = .ok (.invokevirtual 43, 3) := by decide +kernel
theorem own_d7_17 : decode prog_43_method_5_code 17 = .ok (.iload_n 1, 1) := by decide +kernel
theorem own_d7_18 : decode prog_43_method_5_code 18 = .ok (.if_icmp .lt 16, 3) := by decide +kernel
theorem own_d7_21 : decode prog_43_method_5_code 21 = .ok (.aload_n 0, 1) := by decide +kernel
theorem own_d7_22 : decode prog_43_method_5_code 22 = .ok (.dup, 1) := by decide +kernel
theorem own_d7_23 : decode prog_43_method_5_code 23 = .ok (.getfield 23, 3) := by decide +kernel
theorem own_d7_26 : decode prog_43_method_5_code 26 = .ok (.iconst 1, 1) := by decide +kernel
theorem own_d7_27 : decode prog_43_method_5_code 27 = .ok (.isub, 1) := by decide +kernel
theorem own_d7_28 : decode prog_43_method_5_code 28 = .ok (.putfield 23, 3) := by decide +kernel
theorem own_d7_31 : decode prog_43_method_5_code 31 = .ok (.goto (-31), 3) := by decide +kernel
set_option maxRecDepth 65536 in
set_option maxHeartbeats 40000000 in
theorem own_m_keep1 (l : Launch) (Z : State) (a0 : Array Value) (hw : ∀ d ∈ tables_1, d.before a0 Z = true) (o : Addr) (bd : Int32) (h0 : Heap) (n0 : Nat) (hn0 : n0 ≤ h0.size) (lim : Int32) (pk : Addr) (xs : List Int64) (hk : 1 ≤ xs.length) (O : own_Ob Z a0 h0 o "com/example/twin64/twin64/search/IntPairs" [("limit", "I", (.int lim)), ("packed", "[J", (.ref pk)), ("size", "I", (.int (1 : Int32)))]) (A : own_JA Z h0 pk xs) (ne_o : o ≠ pk) (ge_o : n0 ≤ o) : own_Met l Z n0 (⟨"com/example/twin64/twin64/search/IntPairs", "keepFirstsBelow", "(I)V"⟩ : MethodName) prog_43_method_5_code 2 none [] ({ frames := 1, cells := 0, slots := 0, locals := 20 } : Room) #[(.ref o), (.int bd)] h0 (fun v h => v = none ∧ ∃ n : Int32, 0 ≤ n.toInt ∧ n.toInt ≤ 1 ∧ Keep h0 h [o] ∧ own_Ob Z a0 h o "com/example/twin64/twin64/search/IntPairs" [("limit", "I", (.int lim)), ("packed", "[J", (.ref pk)), ("size", "I", (.int n))]) := by
  refine own_body (plainFor_of_name own_pn_com_example_twin64_twin64_search_IntPairs) hn0 (own_ef_keep1 o bd) ?_
  intro p e s m below meth c T C X
  have KK := Keep.refl h0 [o]
  refine own_aloadN C X own_d7_0 rfl rfl (pc' := 1) rfl ?_
  refine own_getfield C X own_d7_1 (hw _ (List.mem_of_getElem? (i := 29) rfl)) O (i := 2) rfl (pc' := 4) rfl ?_
  intro T X
  refine own_if_le C X own_d7_4 (pcT := 34) (pc' := 7) (by decide) (by decide) rfl (fun hc4 => absurd hc4 (by decide)) (fun hc4 => ?_)
  refine own_aloadN C X own_d7_7 rfl rfl (pc' := 8) rfl ?_
  refine own_aloadN C X own_d7_8 rfl rfl (pc' := 9) rfl ?_
  refine own_getfield C X own_d7_9 (hw _ (List.mem_of_getElem? (i := 29) rfl)) O (i := 2) rfl (pc' := 12) rfl ?_
  intro T X
  refine own_iconst C X own_d7_12 (v := 1) (by decide) (pc' := 13) rfl ?_
  refine own_isub C X own_d7_13 (z := 0) (by decide) (pc' := 14) rfl ?_
  obtain ⟨u0, hu0⟩ := own_some (xs := xs) (i := 0) (Nat.lt_of_lt_of_le (by decide) hk)
  refine own_callV C X own_d7_14 (own_m_fa l Z a0 hw o (0 : Int32) _ n0 (own_big C X) lim pk xs (1 : Int32) O A 0 u0 (by decide) hu0) O.1 (hw _ (List.mem_of_getElem? (i := 46) rfl)) (hw _ (List.mem_of_getElem? (i := 47) rfl)) (hw _ (List.mem_of_getElem? (i := 49) rfl)) (hw _ (List.mem_of_getElem? (i := 48) rfl)) (hw _ (List.mem_of_getElem? (i := 7) rfl)) (hw _ (List.mem_of_getElem? (i := 50) rfl)) (by decide) own_pd_1963 rfl rfl (Nat.le_of_ble_eq_true rfl) (Nat.le_of_ble_eq_true rfl) (Nat.le_of_ble_eq_true rfl) (Nat.le_of_ble_eq_true rfl) (av := [(.int (0 : Int32))]) (S := []) rfl (pc' := 17) rfl ?_
  intro T h v X hQ
  obtain ⟨rfl, rfl⟩ := hQ
  show own_Go p e below n0 (own_Fin ({ frames := 1, cells := 0, slots := 0, locals := 20 } : Room) s (fun v h => v = none ∧ ∃ n : Int32, 0 ≤ n.toInt ∧ n.toInt ≤ 1 ∧ Keep h0 h [o] ∧ own_Ob Z a0 h o "com/example/twin64/twin64/search/IntPairs" [("limit", "I", (.int lim)), ("packed", "[J", (.ref pk)), ("size", "I", (.int n))])) (T.setTop (mkF m 17 #[.val (.ref o), .val (.int bd)] [(.int ((u0.toUInt64 >>> ((32 : Int32) &&& 0x3f).toInt64.toUInt64).toInt64).toInt32)]))
  refine own_iloadN C X own_d7_17 rfl (pc' := 18) rfl ?_
  refine own_icmp_lt C X own_d7_18 (pcT := 34) (pc' := 21) (by decide) (by decide) rfl (fun hc18 => ?_) (fun hc18 => ?_)
  · exact own_return C X own_d7_34 (Nat.le_of_ble_eq_true rfl) (Nat.le_of_ble_eq_true rfl) (⟨rfl, (1 : Int32), by decide, by decide, KK, O⟩)
  · refine own_aloadN C X own_d7_21 rfl rfl (pc' := 22) rfl ?_
    refine own_dup C X own_d7_22 rfl (pc' := 23) rfl ?_
    refine own_getfield C X own_d7_23 (hw _ (List.mem_of_getElem? (i := 29) rfl)) O (i := 2) rfl (pc' := 26) rfl ?_
    intro T X
    refine own_iconst C X own_d7_26 (v := 1) (by decide) (pc' := 27) rfl ?_
    refine own_isub C X own_d7_27 (z := 0) (by decide) (pc' := 28) rfl ?_
    refine own_putfield C X own_d7_28 (hw _ (List.mem_of_getElem? (i := 29) rfl)) (Or.inl (hw _ (List.mem_of_getElem? (i := 30) rfl))) (hw _ (List.mem_of_getElem? (i := 6) rfl)) O (i := 2) rfl (ty := .int) (by decide) rfl rfl ge_o (pc' := 31) rfl ?_
    intro T h X K_ O_
    have O : own_Ob Z a0 h o "com/example/twin64/twin64/search/IntPairs" [("limit", "I", (.int lim)), ("packed", "[J", (.ref pk)), ("size", "I", (.int (0 : Int32)))] := O_
    have A := A.keep K_ (ninS (Ne.symm ne_o) nin0)
    have KK := KK.trans K_ (allS (Or.inl (by simp)) all0)
    refine own_goto C X own_d7_31 (pc' := 0) (by decide) (by decide) ?_
    refine own_aloadN C X own_d7_0 rfl rfl (pc' := 1) rfl ?_
    refine own_getfield C X own_d7_1 (hw _ (List.mem_of_getElem? (i := 29) rfl)) O (i := 2) rfl (pc' := 4) rfl ?_
    intro T X
    refine own_if_le C X own_d7_4 (pcT := 34) (pc' := 7) (by decide) (by decide) rfl (fun hc4_2 => ?_) (fun hc4_2 => absurd hc4_2 (by decide))
    exact own_return C X own_d7_34 (Nat.le_of_ble_eq_true rfl) (Nat.le_of_ble_eq_true rfl) (⟨rfl, (0 : Int32), by decide, by decide, KK, O⟩)
theorem own_ef_keep2 (o : Addr) (bd : Int32) (m : MethodId) : entryFrame m #[(.ref o), (.int bd)] 2 = mkF m 0 #[.val (.ref o), .val (.int bd)] [] := by first | (simp [entryFrame, mkF, argsToLocals, Value.category]; done) | rfl
set_option maxRecDepth 65536 in
set_option maxHeartbeats 40000000 in
theorem own_m_keep2 (l : Launch) (Z : State) (a0 : Array Value) (hw : ∀ d ∈ tables_1, d.before a0 Z = true) (o : Addr) (bd : Int32) (h0 : Heap) (n0 : Nat) (hn0 : n0 ≤ h0.size) (lim : Int32) (pk : Addr) (xs : List Int64) (hk : 2 ≤ xs.length) (O : own_Ob Z a0 h0 o "com/example/twin64/twin64/search/IntPairs" [("limit", "I", (.int lim)), ("packed", "[J", (.ref pk)), ("size", "I", (.int (2 : Int32)))]) (A : own_JA Z h0 pk xs) (ne_o : o ≠ pk) (ge_o : n0 ≤ o) : own_Met l Z n0 (⟨"com/example/twin64/twin64/search/IntPairs", "keepFirstsBelow", "(I)V"⟩ : MethodName) prog_43_method_5_code 2 none [] ({ frames := 1, cells := 0, slots := 0, locals := 20 } : Room) #[(.ref o), (.int bd)] h0 (fun v h => v = none ∧ ∃ n : Int32, 0 ≤ n.toInt ∧ n.toInt ≤ 2 ∧ Keep h0 h [o] ∧ own_Ob Z a0 h o "com/example/twin64/twin64/search/IntPairs" [("limit", "I", (.int lim)), ("packed", "[J", (.ref pk)), ("size", "I", (.int n))]) := by
  refine own_body (plainFor_of_name own_pn_com_example_twin64_twin64_search_IntPairs) hn0 (own_ef_keep2 o bd) ?_
  intro p e s m below meth c T C X
  have KK := Keep.refl h0 [o]
  refine own_aloadN C X own_d7_0 rfl rfl (pc' := 1) rfl ?_
  refine own_getfield C X own_d7_1 (hw _ (List.mem_of_getElem? (i := 29) rfl)) O (i := 2) rfl (pc' := 4) rfl ?_
  intro T X
  refine own_if_le C X own_d7_4 (pcT := 34) (pc' := 7) (by decide) (by decide) rfl (fun hc4 => absurd hc4 (by decide)) (fun hc4 => ?_)
  refine own_aloadN C X own_d7_7 rfl rfl (pc' := 8) rfl ?_
  refine own_aloadN C X own_d7_8 rfl rfl (pc' := 9) rfl ?_
  refine own_getfield C X own_d7_9 (hw _ (List.mem_of_getElem? (i := 29) rfl)) O (i := 2) rfl (pc' := 12) rfl ?_
  intro T X
  refine own_iconst C X own_d7_12 (v := 1) (by decide) (pc' := 13) rfl ?_
  refine own_isub C X own_d7_13 (z := 1) (by decide) (pc' := 14) rfl ?_
  obtain ⟨u1, hu1⟩ := own_some (xs := xs) (i := 1) (Nat.lt_of_lt_of_le (by decide) hk)
  refine own_callV C X own_d7_14 (own_m_fa l Z a0 hw o (1 : Int32) _ n0 (own_big C X) lim pk xs (2 : Int32) O A 1 u1 (by decide) hu1) O.1 (hw _ (List.mem_of_getElem? (i := 46) rfl)) (hw _ (List.mem_of_getElem? (i := 47) rfl)) (hw _ (List.mem_of_getElem? (i := 49) rfl)) (hw _ (List.mem_of_getElem? (i := 48) rfl)) (hw _ (List.mem_of_getElem? (i := 7) rfl)) (hw _ (List.mem_of_getElem? (i := 50) rfl)) (by decide) own_pd_1963 rfl rfl (Nat.le_of_ble_eq_true rfl) (Nat.le_of_ble_eq_true rfl) (Nat.le_of_ble_eq_true rfl) (Nat.le_of_ble_eq_true rfl) (av := [(.int (1 : Int32))]) (S := []) rfl (pc' := 17) rfl ?_
  intro T h v X hQ
  obtain ⟨rfl, rfl⟩ := hQ
  show own_Go p e below n0 (own_Fin ({ frames := 1, cells := 0, slots := 0, locals := 20 } : Room) s (fun v h => v = none ∧ ∃ n : Int32, 0 ≤ n.toInt ∧ n.toInt ≤ 2 ∧ Keep h0 h [o] ∧ own_Ob Z a0 h o "com/example/twin64/twin64/search/IntPairs" [("limit", "I", (.int lim)), ("packed", "[J", (.ref pk)), ("size", "I", (.int n))])) (T.setTop (mkF m 17 #[.val (.ref o), .val (.int bd)] [(.int ((u1.toUInt64 >>> ((32 : Int32) &&& 0x3f).toInt64.toUInt64).toInt64).toInt32)]))
  refine own_iloadN C X own_d7_17 rfl (pc' := 18) rfl ?_
  refine own_icmp_lt C X own_d7_18 (pcT := 34) (pc' := 21) (by decide) (by decide) rfl (fun hc18 => ?_) (fun hc18 => ?_)
  · exact own_return C X own_d7_34 (Nat.le_of_ble_eq_true rfl) (Nat.le_of_ble_eq_true rfl) (⟨rfl, (2 : Int32), by decide, by decide, KK, O⟩)
  · refine own_aloadN C X own_d7_21 rfl rfl (pc' := 22) rfl ?_
    refine own_dup C X own_d7_22 rfl (pc' := 23) rfl ?_
    refine own_getfield C X own_d7_23 (hw _ (List.mem_of_getElem? (i := 29) rfl)) O (i := 2) rfl (pc' := 26) rfl ?_
    intro T X
    refine own_iconst C X own_d7_26 (v := 1) (by decide) (pc' := 27) rfl ?_
    refine own_isub C X own_d7_27 (z := 1) (by decide) (pc' := 28) rfl ?_
    refine own_putfield C X own_d7_28 (hw _ (List.mem_of_getElem? (i := 29) rfl)) (Or.inl (hw _ (List.mem_of_getElem? (i := 30) rfl))) (hw _ (List.mem_of_getElem? (i := 6) rfl)) O (i := 2) rfl (ty := .int) (by decide) rfl rfl ge_o (pc' := 31) rfl ?_
    intro T h X K_ O_
    have O : own_Ob Z a0 h o "com/example/twin64/twin64/search/IntPairs" [("limit", "I", (.int lim)), ("packed", "[J", (.ref pk)), ("size", "I", (.int (1 : Int32)))] := O_
    have A := A.keep K_ (ninS (Ne.symm ne_o) nin0)
    have KK := KK.trans K_ (allS (Or.inl (by simp)) all0)
    refine own_goto C X own_d7_31 (pc' := 0) (by decide) (by decide) ?_
    refine own_aloadN C X own_d7_0 rfl rfl (pc' := 1) rfl ?_
    refine own_getfield C X own_d7_1 (hw _ (List.mem_of_getElem? (i := 29) rfl)) O (i := 2) rfl (pc' := 4) rfl ?_
    intro T X
    refine own_if_le C X own_d7_4 (pcT := 34) (pc' := 7) (by decide) (by decide) rfl (fun hc4_2 => absurd hc4_2 (by decide)) (fun hc4_2 => ?_)
    refine own_aloadN C X own_d7_7 rfl rfl (pc' := 8) rfl ?_
    refine own_aloadN C X own_d7_8 rfl rfl (pc' := 9) rfl ?_
    refine own_getfield C X own_d7_9 (hw _ (List.mem_of_getElem? (i := 29) rfl)) O (i := 2) rfl (pc' := 12) rfl ?_
    intro T X
    refine own_iconst C X own_d7_12 (v := 1) (by decide) (pc' := 13) rfl ?_
    refine own_isub C X own_d7_13 (z := 0) (by decide) (pc' := 14) rfl ?_
    obtain ⟨u0, hu0⟩ := own_some (xs := xs) (i := 0) (Nat.lt_of_lt_of_le (by decide) hk)
    refine own_callV C X own_d7_14 (own_m_fa l Z a0 hw o (0 : Int32) _ n0 (own_big C X) lim pk xs (1 : Int32) O A 0 u0 (by decide) hu0) O.1 (hw _ (List.mem_of_getElem? (i := 46) rfl)) (hw _ (List.mem_of_getElem? (i := 47) rfl)) (hw _ (List.mem_of_getElem? (i := 49) rfl)) (hw _ (List.mem_of_getElem? (i := 48) rfl)) (hw _ (List.mem_of_getElem? (i := 7) rfl)) (hw _ (List.mem_of_getElem? (i := 50) rfl)) (by decide) own_pd_1963 rfl rfl (Nat.le_of_ble_eq_true rfl) (Nat.le_of_ble_eq_true rfl) (Nat.le_of_ble_eq_true rfl) (Nat.le_of_ble_eq_true rfl) (av := [(.int (0 : Int32))]) (S := []) rfl (pc' := 17) rfl ?_
    intro T h v X hQ
    obtain ⟨rfl, rfl⟩ := hQ
    show own_Go p e below n0 (own_Fin ({ frames := 1, cells := 0, slots := 0, locals := 20 } : Room) s (fun v h => v = none ∧ ∃ n : Int32, 0 ≤ n.toInt ∧ n.toInt ≤ 2 ∧ Keep h0 h [o] ∧ own_Ob Z a0 h o "com/example/twin64/twin64/search/IntPairs" [("limit", "I", (.int lim)), ("packed", "[J", (.ref pk)), ("size", "I", (.int n))])) (T.setTop (mkF m 17 #[.val (.ref o), .val (.int bd)] [(.int ((u0.toUInt64 >>> ((32 : Int32) &&& 0x3f).toInt64.toUInt64).toInt64).toInt32)]))
    refine own_iloadN C X own_d7_17 rfl (pc' := 18) rfl ?_
    refine own_icmp_lt C X own_d7_18 (pcT := 34) (pc' := 21) (by decide) (by decide) rfl (fun hc18_2 => ?_) (fun hc18_2 => ?_)
    · exact own_return C X own_d7_34 (Nat.le_of_ble_eq_true rfl) (Nat.le_of_ble_eq_true rfl) (⟨rfl, (1 : Int32), by decide, by decide, KK, O⟩)
    · refine own_aloadN C X own_d7_21 rfl rfl (pc' := 22) rfl ?_
      refine own_dup C X own_d7_22 rfl (pc' := 23) rfl ?_
      refine own_getfield C X own_d7_23 (hw _ (List.mem_of_getElem? (i := 29) rfl)) O (i := 2) rfl (pc' := 26) rfl ?_
      intro T X
      refine own_iconst C X own_d7_26 (v := 1) (by decide) (pc' := 27) rfl ?_
      refine own_isub C X own_d7_27 (z := 0) (by decide) (pc' := 28) rfl ?_
      refine own_putfield C X own_d7_28 (hw _ (List.mem_of_getElem? (i := 29) rfl)) (Or.inl (hw _ (List.mem_of_getElem? (i := 30) rfl))) (hw _ (List.mem_of_getElem? (i := 6) rfl)) O (i := 2) rfl (ty := .int) (by decide) rfl rfl ge_o (pc' := 31) rfl ?_
      intro T h X K_ O_
      have O : own_Ob Z a0 h o "com/example/twin64/twin64/search/IntPairs" [("limit", "I", (.int lim)), ("packed", "[J", (.ref pk)), ("size", "I", (.int (0 : Int32)))] := O_
      have A := A.keep K_ (ninS (Ne.symm ne_o) nin0)
      have KK := KK.trans K_ (allS (Or.inl (by simp)) all0)
      refine own_goto C X own_d7_31 (pc' := 0) (by decide) (by decide) ?_
      refine own_aloadN C X own_d7_0 rfl rfl (pc' := 1) rfl ?_
      refine own_getfield C X own_d7_1 (hw _ (List.mem_of_getElem? (i := 29) rfl)) O (i := 2) rfl (pc' := 4) rfl ?_
      intro T X
      refine own_if_le C X own_d7_4 (pcT := 34) (pc' := 7) (by decide) (by decide) rfl (fun hc4_3 => ?_) (fun hc4_3 => absurd hc4_3 (by decide))
      exact own_return C X own_d7_34 (Nat.le_of_ble_eq_true rfl) (Nat.le_of_ble_eq_true rfl) (⟨rfl, (0 : Int32), by decide, by decide, KK, O⟩)
theorem own_ef_keep3 (o : Addr) (bd : Int32) (m : MethodId) : entryFrame m #[(.ref o), (.int bd)] 2 = mkF m 0 #[.val (.ref o), .val (.int bd)] [] := by first | (simp [entryFrame, mkF, argsToLocals, Value.category]; done) | rfl
set_option maxRecDepth 65536 in
set_option maxHeartbeats 40000000 in
theorem own_m_keep3 (l : Launch) (Z : State) (a0 : Array Value) (hw : ∀ d ∈ tables_1, d.before a0 Z = true) (o : Addr) (bd : Int32) (h0 : Heap) (n0 : Nat) (hn0 : n0 ≤ h0.size) (lim : Int32) (pk : Addr) (xs : List Int64) (hk : 3 ≤ xs.length) (O : own_Ob Z a0 h0 o "com/example/twin64/twin64/search/IntPairs" [("limit", "I", (.int lim)), ("packed", "[J", (.ref pk)), ("size", "I", (.int (3 : Int32)))]) (A : own_JA Z h0 pk xs) (ne_o : o ≠ pk) (ge_o : n0 ≤ o) : own_Met l Z n0 (⟨"com/example/twin64/twin64/search/IntPairs", "keepFirstsBelow", "(I)V"⟩ : MethodName) prog_43_method_5_code 2 none [] ({ frames := 1, cells := 0, slots := 0, locals := 20 } : Room) #[(.ref o), (.int bd)] h0 (fun v h => v = none ∧ ∃ n : Int32, 0 ≤ n.toInt ∧ n.toInt ≤ 3 ∧ Keep h0 h [o] ∧ own_Ob Z a0 h o "com/example/twin64/twin64/search/IntPairs" [("limit", "I", (.int lim)), ("packed", "[J", (.ref pk)), ("size", "I", (.int n))]) := by
  refine own_body (plainFor_of_name own_pn_com_example_twin64_twin64_search_IntPairs) hn0 (own_ef_keep3 o bd) ?_
  intro p e s m below meth c T C X
  have KK := Keep.refl h0 [o]
  refine own_aloadN C X own_d7_0 rfl rfl (pc' := 1) rfl ?_
  refine own_getfield C X own_d7_1 (hw _ (List.mem_of_getElem? (i := 29) rfl)) O (i := 2) rfl (pc' := 4) rfl ?_
  intro T X
  refine own_if_le C X own_d7_4 (pcT := 34) (pc' := 7) (by decide) (by decide) rfl (fun hc4 => absurd hc4 (by decide)) (fun hc4 => ?_)
  refine own_aloadN C X own_d7_7 rfl rfl (pc' := 8) rfl ?_
  refine own_aloadN C X own_d7_8 rfl rfl (pc' := 9) rfl ?_
  refine own_getfield C X own_d7_9 (hw _ (List.mem_of_getElem? (i := 29) rfl)) O (i := 2) rfl (pc' := 12) rfl ?_
  intro T X
  refine own_iconst C X own_d7_12 (v := 1) (by decide) (pc' := 13) rfl ?_
  refine own_isub C X own_d7_13 (z := 2) (by decide) (pc' := 14) rfl ?_
  obtain ⟨u2, hu2⟩ := own_some (xs := xs) (i := 2) (Nat.lt_of_lt_of_le (by decide) hk)
  refine own_callV C X own_d7_14 (own_m_fa l Z a0 hw o (2 : Int32) _ n0 (own_big C X) lim pk xs (3 : Int32) O A 2 u2 (by decide) hu2) O.1 (hw _ (List.mem_of_getElem? (i := 46) rfl)) (hw _ (List.mem_of_getElem? (i := 47) rfl)) (hw _ (List.mem_of_getElem? (i := 49) rfl)) (hw _ (List.mem_of_getElem? (i := 48) rfl)) (hw _ (List.mem_of_getElem? (i := 7) rfl)) (hw _ (List.mem_of_getElem? (i := 50) rfl)) (by decide) own_pd_1963 rfl rfl (Nat.le_of_ble_eq_true rfl) (Nat.le_of_ble_eq_true rfl) (Nat.le_of_ble_eq_true rfl) (Nat.le_of_ble_eq_true rfl) (av := [(.int (2 : Int32))]) (S := []) rfl (pc' := 17) rfl ?_
  intro T h v X hQ
  obtain ⟨rfl, rfl⟩ := hQ
  show own_Go p e below n0 (own_Fin ({ frames := 1, cells := 0, slots := 0, locals := 20 } : Room) s (fun v h => v = none ∧ ∃ n : Int32, 0 ≤ n.toInt ∧ n.toInt ≤ 3 ∧ Keep h0 h [o] ∧ own_Ob Z a0 h o "com/example/twin64/twin64/search/IntPairs" [("limit", "I", (.int lim)), ("packed", "[J", (.ref pk)), ("size", "I", (.int n))])) (T.setTop (mkF m 17 #[.val (.ref o), .val (.int bd)] [(.int ((u2.toUInt64 >>> ((32 : Int32) &&& 0x3f).toInt64.toUInt64).toInt64).toInt32)]))
  refine own_iloadN C X own_d7_17 rfl (pc' := 18) rfl ?_
  refine own_icmp_lt C X own_d7_18 (pcT := 34) (pc' := 21) (by decide) (by decide) rfl (fun hc18 => ?_) (fun hc18 => ?_)
  · exact own_return C X own_d7_34 (Nat.le_of_ble_eq_true rfl) (Nat.le_of_ble_eq_true rfl) (⟨rfl, (3 : Int32), by decide, by decide, KK, O⟩)
  · refine own_aloadN C X own_d7_21 rfl rfl (pc' := 22) rfl ?_
    refine own_dup C X own_d7_22 rfl (pc' := 23) rfl ?_
    refine own_getfield C X own_d7_23 (hw _ (List.mem_of_getElem? (i := 29) rfl)) O (i := 2) rfl (pc' := 26) rfl ?_
    intro T X
    refine own_iconst C X own_d7_26 (v := 1) (by decide) (pc' := 27) rfl ?_
    refine own_isub C X own_d7_27 (z := 2) (by decide) (pc' := 28) rfl ?_
    refine own_putfield C X own_d7_28 (hw _ (List.mem_of_getElem? (i := 29) rfl)) (Or.inl (hw _ (List.mem_of_getElem? (i := 30) rfl))) (hw _ (List.mem_of_getElem? (i := 6) rfl)) O (i := 2) rfl (ty := .int) (by decide) rfl rfl ge_o (pc' := 31) rfl ?_
    intro T h X K_ O_
    have O : own_Ob Z a0 h o "com/example/twin64/twin64/search/IntPairs" [("limit", "I", (.int lim)), ("packed", "[J", (.ref pk)), ("size", "I", (.int (2 : Int32)))] := O_
    have A := A.keep K_ (ninS (Ne.symm ne_o) nin0)
    have KK := KK.trans K_ (allS (Or.inl (by simp)) all0)
    refine own_goto C X own_d7_31 (pc' := 0) (by decide) (by decide) ?_
    refine own_aloadN C X own_d7_0 rfl rfl (pc' := 1) rfl ?_
    refine own_getfield C X own_d7_1 (hw _ (List.mem_of_getElem? (i := 29) rfl)) O (i := 2) rfl (pc' := 4) rfl ?_
    intro T X
    refine own_if_le C X own_d7_4 (pcT := 34) (pc' := 7) (by decide) (by decide) rfl (fun hc4_2 => absurd hc4_2 (by decide)) (fun hc4_2 => ?_)
    refine own_aloadN C X own_d7_7 rfl rfl (pc' := 8) rfl ?_
    refine own_aloadN C X own_d7_8 rfl rfl (pc' := 9) rfl ?_
    refine own_getfield C X own_d7_9 (hw _ (List.mem_of_getElem? (i := 29) rfl)) O (i := 2) rfl (pc' := 12) rfl ?_
    intro T X
    refine own_iconst C X own_d7_12 (v := 1) (by decide) (pc' := 13) rfl ?_
    refine own_isub C X own_d7_13 (z := 1) (by decide) (pc' := 14) rfl ?_
    obtain ⟨u1, hu1⟩ := own_some (xs := xs) (i := 1) (Nat.lt_of_lt_of_le (by decide) hk)
    refine own_callV C X own_d7_14 (own_m_fa l Z a0 hw o (1 : Int32) _ n0 (own_big C X) lim pk xs (2 : Int32) O A 1 u1 (by decide) hu1) O.1 (hw _ (List.mem_of_getElem? (i := 46) rfl)) (hw _ (List.mem_of_getElem? (i := 47) rfl)) (hw _ (List.mem_of_getElem? (i := 49) rfl)) (hw _ (List.mem_of_getElem? (i := 48) rfl)) (hw _ (List.mem_of_getElem? (i := 7) rfl)) (hw _ (List.mem_of_getElem? (i := 50) rfl)) (by decide) own_pd_1963 rfl rfl (Nat.le_of_ble_eq_true rfl) (Nat.le_of_ble_eq_true rfl) (Nat.le_of_ble_eq_true rfl) (Nat.le_of_ble_eq_true rfl) (av := [(.int (1 : Int32))]) (S := []) rfl (pc' := 17) rfl ?_
    intro T h v X hQ
    obtain ⟨rfl, rfl⟩ := hQ
    show own_Go p e below n0 (own_Fin ({ frames := 1, cells := 0, slots := 0, locals := 20 } : Room) s (fun v h => v = none ∧ ∃ n : Int32, 0 ≤ n.toInt ∧ n.toInt ≤ 3 ∧ Keep h0 h [o] ∧ own_Ob Z a0 h o "com/example/twin64/twin64/search/IntPairs" [("limit", "I", (.int lim)), ("packed", "[J", (.ref pk)), ("size", "I", (.int n))])) (T.setTop (mkF m 17 #[.val (.ref o), .val (.int bd)] [(.int ((u1.toUInt64 >>> ((32 : Int32) &&& 0x3f).toInt64.toUInt64).toInt64).toInt32)]))
    refine own_iloadN C X own_d7_17 rfl (pc' := 18) rfl ?_
    refine own_icmp_lt C X own_d7_18 (pcT := 34) (pc' := 21) (by decide) (by decide) rfl (fun hc18_2 => ?_) (fun hc18_2 => ?_)
    · exact own_return C X own_d7_34 (Nat.le_of_ble_eq_true rfl) (Nat.le_of_ble_eq_true rfl) (⟨rfl, (2 : Int32), by decide, by decide, KK, O⟩)
    · refine own_aloadN C X own_d7_21 rfl rfl (pc' := 22) rfl ?_
      refine own_dup C X own_d7_22 rfl (pc' := 23) rfl ?_
      refine own_getfield C X own_d7_23 (hw _ (List.mem_of_getElem? (i := 29) rfl)) O (i := 2) rfl (pc' := 26) rfl ?_
      intro T X
      refine own_iconst C X own_d7_26 (v := 1) (by decide) (pc' := 27) rfl ?_
      refine own_isub C X own_d7_27 (z := 1) (by decide) (pc' := 28) rfl ?_
      refine own_putfield C X own_d7_28 (hw _ (List.mem_of_getElem? (i := 29) rfl)) (Or.inl (hw _ (List.mem_of_getElem? (i := 30) rfl))) (hw _ (List.mem_of_getElem? (i := 6) rfl)) O (i := 2) rfl (ty := .int) (by decide) rfl rfl ge_o (pc' := 31) rfl ?_
      intro T h X K_ O_
      have O : own_Ob Z a0 h o "com/example/twin64/twin64/search/IntPairs" [("limit", "I", (.int lim)), ("packed", "[J", (.ref pk)), ("size", "I", (.int (1 : Int32)))] := O_
      have A := A.keep K_ (ninS (Ne.symm ne_o) nin0)
      have KK := KK.trans K_ (allS (Or.inl (by simp)) all0)
      refine own_goto C X own_d7_31 (pc' := 0) (by decide) (by decide) ?_
      refine own_aloadN C X own_d7_0 rfl rfl (pc' := 1) rfl ?_
      refine own_getfield C X own_d7_1 (hw _ (List.mem_of_getElem? (i := 29) rfl)) O (i := 2) rfl (pc' := 4) rfl ?_
      intro T X
      refine own_if_le C X own_d7_4 (pcT := 34) (pc' := 7) (by decide) (by decide) rfl (fun hc4_3 => absurd hc4_3 (by decide)) (fun hc4_3 => ?_)
      refine own_aloadN C X own_d7_7 rfl rfl (pc' := 8) rfl ?_
      refine own_aloadN C X own_d7_8 rfl rfl (pc' := 9) rfl ?_
      refine own_getfield C X own_d7_9 (hw _ (List.mem_of_getElem? (i := 29) rfl)) O (i := 2) rfl (pc' := 12) rfl ?_
      intro T X
      refine own_iconst C X own_d7_12 (v := 1) (by decide) (pc' := 13) rfl ?_
      refine own_isub C X own_d7_13 (z := 0) (by decide) (pc' := 14) rfl ?_
      obtain ⟨u0, hu0⟩ := own_some (xs := xs) (i := 0) (Nat.lt_of_lt_of_le (by decide) hk)
      refine own_callV C X own_d7_14 (own_m_fa l Z a0 hw o (0 : Int32) _ n0 (own_big C X) lim pk xs (1 : Int32) O A 0 u0 (by decide) hu0) O.1 (hw _ (List.mem_of_getElem? (i := 46) rfl)) (hw _ (List.mem_of_getElem? (i := 47) rfl)) (hw _ (List.mem_of_getElem? (i := 49) rfl)) (hw _ (List.mem_of_getElem? (i := 48) rfl)) (hw _ (List.mem_of_getElem? (i := 7) rfl)) (hw _ (List.mem_of_getElem? (i := 50) rfl)) (by decide) own_pd_1963 rfl rfl (Nat.le_of_ble_eq_true rfl) (Nat.le_of_ble_eq_true rfl) (Nat.le_of_ble_eq_true rfl) (Nat.le_of_ble_eq_true rfl) (av := [(.int (0 : Int32))]) (S := []) rfl (pc' := 17) rfl ?_
      intro T h v X hQ
      obtain ⟨rfl, rfl⟩ := hQ
      show own_Go p e below n0 (own_Fin ({ frames := 1, cells := 0, slots := 0, locals := 20 } : Room) s (fun v h => v = none ∧ ∃ n : Int32, 0 ≤ n.toInt ∧ n.toInt ≤ 3 ∧ Keep h0 h [o] ∧ own_Ob Z a0 h o "com/example/twin64/twin64/search/IntPairs" [("limit", "I", (.int lim)), ("packed", "[J", (.ref pk)), ("size", "I", (.int n))])) (T.setTop (mkF m 17 #[.val (.ref o), .val (.int bd)] [(.int ((u0.toUInt64 >>> ((32 : Int32) &&& 0x3f).toInt64.toUInt64).toInt64).toInt32)]))
      refine own_iloadN C X own_d7_17 rfl (pc' := 18) rfl ?_
      refine own_icmp_lt C X own_d7_18 (pcT := 34) (pc' := 21) (by decide) (by decide) rfl (fun hc18_3 => ?_) (fun hc18_3 => ?_)
      · exact own_return C X own_d7_34 (Nat.le_of_ble_eq_true rfl) (Nat.le_of_ble_eq_true rfl) (⟨rfl, (1 : Int32), by decide, by decide, KK, O⟩)
      · refine own_aloadN C X own_d7_21 rfl rfl (pc' := 22) rfl ?_
        refine own_dup C X own_d7_22 rfl (pc' := 23) rfl ?_
        refine own_getfield C X own_d7_23 (hw _ (List.mem_of_getElem? (i := 29) rfl)) O (i := 2) rfl (pc' := 26) rfl ?_
        intro T X
        refine own_iconst C X own_d7_26 (v := 1) (by decide) (pc' := 27) rfl ?_
        refine own_isub C X own_d7_27 (z := 0) (by decide) (pc' := 28) rfl ?_
        refine own_putfield C X own_d7_28 (hw _ (List.mem_of_getElem? (i := 29) rfl)) (Or.inl (hw _ (List.mem_of_getElem? (i := 30) rfl))) (hw _ (List.mem_of_getElem? (i := 6) rfl)) O (i := 2) rfl (ty := .int) (by decide) rfl rfl ge_o (pc' := 31) rfl ?_
        intro T h X K_ O_
        have O : own_Ob Z a0 h o "com/example/twin64/twin64/search/IntPairs" [("limit", "I", (.int lim)), ("packed", "[J", (.ref pk)), ("size", "I", (.int (0 : Int32)))] := O_
        have A := A.keep K_ (ninS (Ne.symm ne_o) nin0)
        have KK := KK.trans K_ (allS (Or.inl (by simp)) all0)
        refine own_goto C X own_d7_31 (pc' := 0) (by decide) (by decide) ?_
        refine own_aloadN C X own_d7_0 rfl rfl (pc' := 1) rfl ?_
        refine own_getfield C X own_d7_1 (hw _ (List.mem_of_getElem? (i := 29) rfl)) O (i := 2) rfl (pc' := 4) rfl ?_
        intro T X
        refine own_if_le C X own_d7_4 (pcT := 34) (pc' := 7) (by decide) (by decide) rfl (fun hc4_4 => ?_) (fun hc4_4 => absurd hc4_4 (by decide))
        exact own_return C X own_d7_34 (Nat.le_of_ble_eq_true rfl) (Nat.le_of_ble_eq_true rfl) (⟨rfl, (0 : Int32), by decide, by decide, KK, O⟩)
theorem own_ef_keep4 (o : Addr) (bd : Int32) (m : MethodId) : entryFrame m #[(.ref o), (.int bd)] 2 = mkF m 0 #[.val (.ref o), .val (.int bd)] [] := by first | (simp [entryFrame, mkF, argsToLocals, Value.category]; done) | rfl
set_option maxRecDepth 65536 in
set_option maxHeartbeats 40000000 in
theorem own_m_keep4 (l : Launch) (Z : State) (a0 : Array Value) (hw : ∀ d ∈ tables_1, d.before a0 Z = true) (o : Addr) (bd : Int32) (h0 : Heap) (n0 : Nat) (hn0 : n0 ≤ h0.size) (lim : Int32) (pk : Addr) (xs : List Int64) (hk : 4 ≤ xs.length) (O : own_Ob Z a0 h0 o "com/example/twin64/twin64/search/IntPairs" [("limit", "I", (.int lim)), ("packed", "[J", (.ref pk)), ("size", "I", (.int (4 : Int32)))]) (A : own_JA Z h0 pk xs) (ne_o : o ≠ pk) (ge_o : n0 ≤ o) : own_Met l Z n0 (⟨"com/example/twin64/twin64/search/IntPairs", "keepFirstsBelow", "(I)V"⟩ : MethodName) prog_43_method_5_code 2 none [] ({ frames := 1, cells := 0, slots := 0, locals := 20 } : Room) #[(.ref o), (.int bd)] h0 (fun v h => v = none ∧ ∃ n : Int32, 0 ≤ n.toInt ∧ n.toInt ≤ 4 ∧ Keep h0 h [o] ∧ own_Ob Z a0 h o "com/example/twin64/twin64/search/IntPairs" [("limit", "I", (.int lim)), ("packed", "[J", (.ref pk)), ("size", "I", (.int n))]) := by
  refine own_body (plainFor_of_name own_pn_com_example_twin64_twin64_search_IntPairs) hn0 (own_ef_keep4 o bd) ?_
  intro p e s m below meth c T C X
  have KK := Keep.refl h0 [o]
  refine own_aloadN C X own_d7_0 rfl rfl (pc' := 1) rfl ?_
  refine own_getfield C X own_d7_1 (hw _ (List.mem_of_getElem? (i := 29) rfl)) O (i := 2) rfl (pc' := 4) rfl ?_
  intro T X
  refine own_if_le C X own_d7_4 (pcT := 34) (pc' := 7) (by decide) (by decide) rfl (fun hc4 => absurd hc4 (by decide)) (fun hc4 => ?_)
  refine own_aloadN C X own_d7_7 rfl rfl (pc' := 8) rfl ?_
  refine own_aloadN C X own_d7_8 rfl rfl (pc' := 9) rfl ?_
  refine own_getfield C X own_d7_9 (hw _ (List.mem_of_getElem? (i := 29) rfl)) O (i := 2) rfl (pc' := 12) rfl ?_
  intro T X
  refine own_iconst C X own_d7_12 (v := 1) (by decide) (pc' := 13) rfl ?_
  refine own_isub C X own_d7_13 (z := 3) (by decide) (pc' := 14) rfl ?_
  obtain ⟨u3, hu3⟩ := own_some (xs := xs) (i := 3) (Nat.lt_of_lt_of_le (by decide) hk)
  refine own_callV C X own_d7_14 (own_m_fa l Z a0 hw o (3 : Int32) _ n0 (own_big C X) lim pk xs (4 : Int32) O A 3 u3 (by decide) hu3) O.1 (hw _ (List.mem_of_getElem? (i := 46) rfl)) (hw _ (List.mem_of_getElem? (i := 47) rfl)) (hw _ (List.mem_of_getElem? (i := 49) rfl)) (hw _ (List.mem_of_getElem? (i := 48) rfl)) (hw _ (List.mem_of_getElem? (i := 7) rfl)) (hw _ (List.mem_of_getElem? (i := 50) rfl)) (by decide) own_pd_1963 rfl rfl (Nat.le_of_ble_eq_true rfl) (Nat.le_of_ble_eq_true rfl) (Nat.le_of_ble_eq_true rfl) (Nat.le_of_ble_eq_true rfl) (av := [(.int (3 : Int32))]) (S := []) rfl (pc' := 17) rfl ?_
  intro T h v X hQ
  obtain ⟨rfl, rfl⟩ := hQ
  show own_Go p e below n0 (own_Fin ({ frames := 1, cells := 0, slots := 0, locals := 20 } : Room) s (fun v h => v = none ∧ ∃ n : Int32, 0 ≤ n.toInt ∧ n.toInt ≤ 4 ∧ Keep h0 h [o] ∧ own_Ob Z a0 h o "com/example/twin64/twin64/search/IntPairs" [("limit", "I", (.int lim)), ("packed", "[J", (.ref pk)), ("size", "I", (.int n))])) (T.setTop (mkF m 17 #[.val (.ref o), .val (.int bd)] [(.int ((u3.toUInt64 >>> ((32 : Int32) &&& 0x3f).toInt64.toUInt64).toInt64).toInt32)]))
  refine own_iloadN C X own_d7_17 rfl (pc' := 18) rfl ?_
  refine own_icmp_lt C X own_d7_18 (pcT := 34) (pc' := 21) (by decide) (by decide) rfl (fun hc18 => ?_) (fun hc18 => ?_)
  · exact own_return C X own_d7_34 (Nat.le_of_ble_eq_true rfl) (Nat.le_of_ble_eq_true rfl) (⟨rfl, (4 : Int32), by decide, by decide, KK, O⟩)
  · refine own_aloadN C X own_d7_21 rfl rfl (pc' := 22) rfl ?_
    refine own_dup C X own_d7_22 rfl (pc' := 23) rfl ?_
    refine own_getfield C X own_d7_23 (hw _ (List.mem_of_getElem? (i := 29) rfl)) O (i := 2) rfl (pc' := 26) rfl ?_
    intro T X
    refine own_iconst C X own_d7_26 (v := 1) (by decide) (pc' := 27) rfl ?_
    refine own_isub C X own_d7_27 (z := 3) (by decide) (pc' := 28) rfl ?_
    refine own_putfield C X own_d7_28 (hw _ (List.mem_of_getElem? (i := 29) rfl)) (Or.inl (hw _ (List.mem_of_getElem? (i := 30) rfl))) (hw _ (List.mem_of_getElem? (i := 6) rfl)) O (i := 2) rfl (ty := .int) (by decide) rfl rfl ge_o (pc' := 31) rfl ?_
    intro T h X K_ O_
    have O : own_Ob Z a0 h o "com/example/twin64/twin64/search/IntPairs" [("limit", "I", (.int lim)), ("packed", "[J", (.ref pk)), ("size", "I", (.int (3 : Int32)))] := O_
    have A := A.keep K_ (ninS (Ne.symm ne_o) nin0)
    have KK := KK.trans K_ (allS (Or.inl (by simp)) all0)
    refine own_goto C X own_d7_31 (pc' := 0) (by decide) (by decide) ?_
    refine own_aloadN C X own_d7_0 rfl rfl (pc' := 1) rfl ?_
    refine own_getfield C X own_d7_1 (hw _ (List.mem_of_getElem? (i := 29) rfl)) O (i := 2) rfl (pc' := 4) rfl ?_
    intro T X
    refine own_if_le C X own_d7_4 (pcT := 34) (pc' := 7) (by decide) (by decide) rfl (fun hc4_2 => absurd hc4_2 (by decide)) (fun hc4_2 => ?_)
    refine own_aloadN C X own_d7_7 rfl rfl (pc' := 8) rfl ?_
    refine own_aloadN C X own_d7_8 rfl rfl (pc' := 9) rfl ?_
    refine own_getfield C X own_d7_9 (hw _ (List.mem_of_getElem? (i := 29) rfl)) O (i := 2) rfl (pc' := 12) rfl ?_
    intro T X
    refine own_iconst C X own_d7_12 (v := 1) (by decide) (pc' := 13) rfl ?_
    refine own_isub C X own_d7_13 (z := 2) (by decide) (pc' := 14) rfl ?_
    obtain ⟨u2, hu2⟩ := own_some (xs := xs) (i := 2) (Nat.lt_of_lt_of_le (by decide) hk)
    refine own_callV C X own_d7_14 (own_m_fa l Z a0 hw o (2 : Int32) _ n0 (own_big C X) lim pk xs (3 : Int32) O A 2 u2 (by decide) hu2) O.1 (hw _ (List.mem_of_getElem? (i := 46) rfl)) (hw _ (List.mem_of_getElem? (i := 47) rfl)) (hw _ (List.mem_of_getElem? (i := 49) rfl)) (hw _ (List.mem_of_getElem? (i := 48) rfl)) (hw _ (List.mem_of_getElem? (i := 7) rfl)) (hw _ (List.mem_of_getElem? (i := 50) rfl)) (by decide) own_pd_1963 rfl rfl (Nat.le_of_ble_eq_true rfl) (Nat.le_of_ble_eq_true rfl) (Nat.le_of_ble_eq_true rfl) (Nat.le_of_ble_eq_true rfl) (av := [(.int (2 : Int32))]) (S := []) rfl (pc' := 17) rfl ?_
    intro T h v X hQ
    obtain ⟨rfl, rfl⟩ := hQ
    show own_Go p e below n0 (own_Fin ({ frames := 1, cells := 0, slots := 0, locals := 20 } : Room) s (fun v h => v = none ∧ ∃ n : Int32, 0 ≤ n.toInt ∧ n.toInt ≤ 4 ∧ Keep h0 h [o] ∧ own_Ob Z a0 h o "com/example/twin64/twin64/search/IntPairs" [("limit", "I", (.int lim)), ("packed", "[J", (.ref pk)), ("size", "I", (.int n))])) (T.setTop (mkF m 17 #[.val (.ref o), .val (.int bd)] [(.int ((u2.toUInt64 >>> ((32 : Int32) &&& 0x3f).toInt64.toUInt64).toInt64).toInt32)]))
    refine own_iloadN C X own_d7_17 rfl (pc' := 18) rfl ?_
    refine own_icmp_lt C X own_d7_18 (pcT := 34) (pc' := 21) (by decide) (by decide) rfl (fun hc18_2 => ?_) (fun hc18_2 => ?_)
    · exact own_return C X own_d7_34 (Nat.le_of_ble_eq_true rfl) (Nat.le_of_ble_eq_true rfl) (⟨rfl, (3 : Int32), by decide, by decide, KK, O⟩)
    · refine own_aloadN C X own_d7_21 rfl rfl (pc' := 22) rfl ?_
      refine own_dup C X own_d7_22 rfl (pc' := 23) rfl ?_
      refine own_getfield C X own_d7_23 (hw _ (List.mem_of_getElem? (i := 29) rfl)) O (i := 2) rfl (pc' := 26) rfl ?_
      intro T X
      refine own_iconst C X own_d7_26 (v := 1) (by decide) (pc' := 27) rfl ?_
      refine own_isub C X own_d7_27 (z := 2) (by decide) (pc' := 28) rfl ?_
      refine own_putfield C X own_d7_28 (hw _ (List.mem_of_getElem? (i := 29) rfl)) (Or.inl (hw _ (List.mem_of_getElem? (i := 30) rfl))) (hw _ (List.mem_of_getElem? (i := 6) rfl)) O (i := 2) rfl (ty := .int) (by decide) rfl rfl ge_o (pc' := 31) rfl ?_
      intro T h X K_ O_
      have O : own_Ob Z a0 h o "com/example/twin64/twin64/search/IntPairs" [("limit", "I", (.int lim)), ("packed", "[J", (.ref pk)), ("size", "I", (.int (2 : Int32)))] := O_
      have A := A.keep K_ (ninS (Ne.symm ne_o) nin0)
      have KK := KK.trans K_ (allS (Or.inl (by simp)) all0)
      refine own_goto C X own_d7_31 (pc' := 0) (by decide) (by decide) ?_
      refine own_aloadN C X own_d7_0 rfl rfl (pc' := 1) rfl ?_
      refine own_getfield C X own_d7_1 (hw _ (List.mem_of_getElem? (i := 29) rfl)) O (i := 2) rfl (pc' := 4) rfl ?_
      intro T X
      refine own_if_le C X own_d7_4 (pcT := 34) (pc' := 7) (by decide) (by decide) rfl (fun hc4_3 => absurd hc4_3 (by decide)) (fun hc4_3 => ?_)
      refine own_aloadN C X own_d7_7 rfl rfl (pc' := 8) rfl ?_
      refine own_aloadN C X own_d7_8 rfl rfl (pc' := 9) rfl ?_
      refine own_getfield C X own_d7_9 (hw _ (List.mem_of_getElem? (i := 29) rfl)) O (i := 2) rfl (pc' := 12) rfl ?_
      intro T X
      refine own_iconst C X own_d7_12 (v := 1) (by decide) (pc' := 13) rfl ?_
      refine own_isub C X own_d7_13 (z := 1) (by decide) (pc' := 14) rfl ?_
      obtain ⟨u1, hu1⟩ := own_some (xs := xs) (i := 1) (Nat.lt_of_lt_of_le (by decide) hk)
      refine own_callV C X own_d7_14 (own_m_fa l Z a0 hw o (1 : Int32) _ n0 (own_big C X) lim pk xs (2 : Int32) O A 1 u1 (by decide) hu1) O.1 (hw _ (List.mem_of_getElem? (i := 46) rfl)) (hw _ (List.mem_of_getElem? (i := 47) rfl)) (hw _ (List.mem_of_getElem? (i := 49) rfl)) (hw _ (List.mem_of_getElem? (i := 48) rfl)) (hw _ (List.mem_of_getElem? (i := 7) rfl)) (hw _ (List.mem_of_getElem? (i := 50) rfl)) (by decide) own_pd_1963 rfl rfl (Nat.le_of_ble_eq_true rfl) (Nat.le_of_ble_eq_true rfl) (Nat.le_of_ble_eq_true rfl) (Nat.le_of_ble_eq_true rfl) (av := [(.int (1 : Int32))]) (S := []) rfl (pc' := 17) rfl ?_
      intro T h v X hQ
      obtain ⟨rfl, rfl⟩ := hQ
      show own_Go p e below n0 (own_Fin ({ frames := 1, cells := 0, slots := 0, locals := 20 } : Room) s (fun v h => v = none ∧ ∃ n : Int32, 0 ≤ n.toInt ∧ n.toInt ≤ 4 ∧ Keep h0 h [o] ∧ own_Ob Z a0 h o "com/example/twin64/twin64/search/IntPairs" [("limit", "I", (.int lim)), ("packed", "[J", (.ref pk)), ("size", "I", (.int n))])) (T.setTop (mkF m 17 #[.val (.ref o), .val (.int bd)] [(.int ((u1.toUInt64 >>> ((32 : Int32) &&& 0x3f).toInt64.toUInt64).toInt64).toInt32)]))
      refine own_iloadN C X own_d7_17 rfl (pc' := 18) rfl ?_
      refine own_icmp_lt C X own_d7_18 (pcT := 34) (pc' := 21) (by decide) (by decide) rfl (fun hc18_3 => ?_) (fun hc18_3 => ?_)
      · exact own_return C X own_d7_34 (Nat.le_of_ble_eq_true rfl) (Nat.le_of_ble_eq_true rfl) (⟨rfl, (2 : Int32), by decide, by decide, KK, O⟩)
      · refine own_aloadN C X own_d7_21 rfl rfl (pc' := 22) rfl ?_
        refine own_dup C X own_d7_22 rfl (pc' := 23) rfl ?_
        refine own_getfield C X own_d7_23 (hw _ (List.mem_of_getElem? (i := 29) rfl)) O (i := 2) rfl (pc' := 26) rfl ?_
        intro T X
        refine own_iconst C X own_d7_26 (v := 1) (by decide) (pc' := 27) rfl ?_
        refine own_isub C X own_d7_27 (z := 1) (by decide) (pc' := 28) rfl ?_
        refine own_putfield C X own_d7_28 (hw _ (List.mem_of_getElem? (i := 29) rfl)) (Or.inl (hw _ (List.mem_of_getElem? (i := 30) rfl))) (hw _ (List.mem_of_getElem? (i := 6) rfl)) O (i := 2) rfl (ty := .int) (by decide) rfl rfl ge_o (pc' := 31) rfl ?_
        intro T h X K_ O_
        have O : own_Ob Z a0 h o "com/example/twin64/twin64/search/IntPairs" [("limit", "I", (.int lim)), ("packed", "[J", (.ref pk)), ("size", "I", (.int (1 : Int32)))] := O_
        have A := A.keep K_ (ninS (Ne.symm ne_o) nin0)
        have KK := KK.trans K_ (allS (Or.inl (by simp)) all0)
        refine own_goto C X own_d7_31 (pc' := 0) (by decide) (by decide) ?_
        refine own_aloadN C X own_d7_0 rfl rfl (pc' := 1) rfl ?_
        refine own_getfield C X own_d7_1 (hw _ (List.mem_of_getElem? (i := 29) rfl)) O (i := 2) rfl (pc' := 4) rfl ?_
        intro T X
        refine own_if_le C X own_d7_4 (pcT := 34) (pc' := 7) (by decide) (by decide) rfl (fun hc4_4 => absurd hc4_4 (by decide)) (fun hc4_4 => ?_)
        refine own_aloadN C X own_d7_7 rfl rfl (pc' := 8) rfl ?_
        refine own_aloadN C X own_d7_8 rfl rfl (pc' := 9) rfl ?_
        refine own_getfield C X own_d7_9 (hw _ (List.mem_of_getElem? (i := 29) rfl)) O (i := 2) rfl (pc' := 12) rfl ?_
        intro T X
        refine own_iconst C X own_d7_12 (v := 1) (by decide) (pc' := 13) rfl ?_
        refine own_isub C X own_d7_13 (z := 0) (by decide) (pc' := 14) rfl ?_
        obtain ⟨u0, hu0⟩ := own_some (xs := xs) (i := 0) (Nat.lt_of_lt_of_le (by decide) hk)
        refine own_callV C X own_d7_14 (own_m_fa l Z a0 hw o (0 : Int32) _ n0 (own_big C X) lim pk xs (1 : Int32) O A 0 u0 (by decide) hu0) O.1 (hw _ (List.mem_of_getElem? (i := 46) rfl)) (hw _ (List.mem_of_getElem? (i := 47) rfl)) (hw _ (List.mem_of_getElem? (i := 49) rfl)) (hw _ (List.mem_of_getElem? (i := 48) rfl)) (hw _ (List.mem_of_getElem? (i := 7) rfl)) (hw _ (List.mem_of_getElem? (i := 50) rfl)) (by decide) own_pd_1963 rfl rfl (Nat.le_of_ble_eq_true rfl) (Nat.le_of_ble_eq_true rfl) (Nat.le_of_ble_eq_true rfl) (Nat.le_of_ble_eq_true rfl) (av := [(.int (0 : Int32))]) (S := []) rfl (pc' := 17) rfl ?_
        intro T h v X hQ
        obtain ⟨rfl, rfl⟩ := hQ
        show own_Go p e below n0 (own_Fin ({ frames := 1, cells := 0, slots := 0, locals := 20 } : Room) s (fun v h => v = none ∧ ∃ n : Int32, 0 ≤ n.toInt ∧ n.toInt ≤ 4 ∧ Keep h0 h [o] ∧ own_Ob Z a0 h o "com/example/twin64/twin64/search/IntPairs" [("limit", "I", (.int lim)), ("packed", "[J", (.ref pk)), ("size", "I", (.int n))])) (T.setTop (mkF m 17 #[.val (.ref o), .val (.int bd)] [(.int ((u0.toUInt64 >>> ((32 : Int32) &&& 0x3f).toInt64.toUInt64).toInt64).toInt32)]))
        refine own_iloadN C X own_d7_17 rfl (pc' := 18) rfl ?_
        refine own_icmp_lt C X own_d7_18 (pcT := 34) (pc' := 21) (by decide) (by decide) rfl (fun hc18_4 => ?_) (fun hc18_4 => ?_)
        · exact own_return C X own_d7_34 (Nat.le_of_ble_eq_true rfl) (Nat.le_of_ble_eq_true rfl) (⟨rfl, (1 : Int32), by decide, by decide, KK, O⟩)
        · refine own_aloadN C X own_d7_21 rfl rfl (pc' := 22) rfl ?_
          refine own_dup C X own_d7_22 rfl (pc' := 23) rfl ?_
          refine own_getfield C X own_d7_23 (hw _ (List.mem_of_getElem? (i := 29) rfl)) O (i := 2) rfl (pc' := 26) rfl ?_
          intro T X
          refine own_iconst C X own_d7_26 (v := 1) (by decide) (pc' := 27) rfl ?_
          refine own_isub C X own_d7_27 (z := 0) (by decide) (pc' := 28) rfl ?_
          refine own_putfield C X own_d7_28 (hw _ (List.mem_of_getElem? (i := 29) rfl)) (Or.inl (hw _ (List.mem_of_getElem? (i := 30) rfl))) (hw _ (List.mem_of_getElem? (i := 6) rfl)) O (i := 2) rfl (ty := .int) (by decide) rfl rfl ge_o (pc' := 31) rfl ?_
          intro T h X K_ O_
          have O : own_Ob Z a0 h o "com/example/twin64/twin64/search/IntPairs" [("limit", "I", (.int lim)), ("packed", "[J", (.ref pk)), ("size", "I", (.int (0 : Int32)))] := O_
          have A := A.keep K_ (ninS (Ne.symm ne_o) nin0)
          have KK := KK.trans K_ (allS (Or.inl (by simp)) all0)
          refine own_goto C X own_d7_31 (pc' := 0) (by decide) (by decide) ?_
          refine own_aloadN C X own_d7_0 rfl rfl (pc' := 1) rfl ?_
          refine own_getfield C X own_d7_1 (hw _ (List.mem_of_getElem? (i := 29) rfl)) O (i := 2) rfl (pc' := 4) rfl ?_
          intro T X
          refine own_if_le C X own_d7_4 (pcT := 34) (pc' := 7) (by decide) (by decide) rfl (fun hc4_5 => ?_) (fun hc4_5 => absurd hc4_5 (by decide))
          exact own_return C X own_d7_34 (Nat.le_of_ble_eq_true rfl) (Nat.le_of_ble_eq_true rfl) (⟨rfl, (0 : Int32), by decide, by decide, KK, O⟩)
theorem own_ef_keep5 (o : Addr) (bd : Int32) (m : MethodId) : entryFrame m #[(.ref o), (.int bd)] 2 = mkF m 0 #[.val (.ref o), .val (.int bd)] [] := by first | (simp [entryFrame, mkF, argsToLocals, Value.category]; done) | rfl
set_option maxRecDepth 65536 in
set_option maxHeartbeats 40000000 in
theorem own_m_keep5 (l : Launch) (Z : State) (a0 : Array Value) (hw : ∀ d ∈ tables_1, d.before a0 Z = true) (o : Addr) (bd : Int32) (h0 : Heap) (n0 : Nat) (hn0 : n0 ≤ h0.size) (lim : Int32) (pk : Addr) (xs : List Int64) (hk : 5 ≤ xs.length) (O : own_Ob Z a0 h0 o "com/example/twin64/twin64/search/IntPairs" [("limit", "I", (.int lim)), ("packed", "[J", (.ref pk)), ("size", "I", (.int (5 : Int32)))]) (A : own_JA Z h0 pk xs) (ne_o : o ≠ pk) (ge_o : n0 ≤ o) : own_Met l Z n0 (⟨"com/example/twin64/twin64/search/IntPairs", "keepFirstsBelow", "(I)V"⟩ : MethodName) prog_43_method_5_code 2 none [] ({ frames := 1, cells := 0, slots := 0, locals := 20 } : Room) #[(.ref o), (.int bd)] h0 (fun v h => v = none ∧ ∃ n : Int32, 0 ≤ n.toInt ∧ n.toInt ≤ 5 ∧ Keep h0 h [o] ∧ own_Ob Z a0 h o "com/example/twin64/twin64/search/IntPairs" [("limit", "I", (.int lim)), ("packed", "[J", (.ref pk)), ("size", "I", (.int n))]) := by
  refine own_body (plainFor_of_name own_pn_com_example_twin64_twin64_search_IntPairs) hn0 (own_ef_keep5 o bd) ?_
  intro p e s m below meth c T C X
  have KK := Keep.refl h0 [o]
  refine own_aloadN C X own_d7_0 rfl rfl (pc' := 1) rfl ?_
  refine own_getfield C X own_d7_1 (hw _ (List.mem_of_getElem? (i := 29) rfl)) O (i := 2) rfl (pc' := 4) rfl ?_
  intro T X
  refine own_if_le C X own_d7_4 (pcT := 34) (pc' := 7) (by decide) (by decide) rfl (fun hc4 => absurd hc4 (by decide)) (fun hc4 => ?_)
  refine own_aloadN C X own_d7_7 rfl rfl (pc' := 8) rfl ?_
  refine own_aloadN C X own_d7_8 rfl rfl (pc' := 9) rfl ?_
  refine own_getfield C X own_d7_9 (hw _ (List.mem_of_getElem? (i := 29) rfl)) O (i := 2) rfl (pc' := 12) rfl ?_
  intro T X
  refine own_iconst C X own_d7_12 (v := 1) (by decide) (pc' := 13) rfl ?_
  refine own_isub C X own_d7_13 (z := 4) (by decide) (pc' := 14) rfl ?_
  obtain ⟨u4, hu4⟩ := own_some (xs := xs) (i := 4) (Nat.lt_of_lt_of_le (by decide) hk)
  refine own_callV C X own_d7_14 (own_m_fa l Z a0 hw o (4 : Int32) _ n0 (own_big C X) lim pk xs (5 : Int32) O A 4 u4 (by decide) hu4) O.1 (hw _ (List.mem_of_getElem? (i := 46) rfl)) (hw _ (List.mem_of_getElem? (i := 47) rfl)) (hw _ (List.mem_of_getElem? (i := 49) rfl)) (hw _ (List.mem_of_getElem? (i := 48) rfl)) (hw _ (List.mem_of_getElem? (i := 7) rfl)) (hw _ (List.mem_of_getElem? (i := 50) rfl)) (by decide) own_pd_1963 rfl rfl (Nat.le_of_ble_eq_true rfl) (Nat.le_of_ble_eq_true rfl) (Nat.le_of_ble_eq_true rfl) (Nat.le_of_ble_eq_true rfl) (av := [(.int (4 : Int32))]) (S := []) rfl (pc' := 17) rfl ?_
  intro T h v X hQ
  obtain ⟨rfl, rfl⟩ := hQ
  show own_Go p e below n0 (own_Fin ({ frames := 1, cells := 0, slots := 0, locals := 20 } : Room) s (fun v h => v = none ∧ ∃ n : Int32, 0 ≤ n.toInt ∧ n.toInt ≤ 5 ∧ Keep h0 h [o] ∧ own_Ob Z a0 h o "com/example/twin64/twin64/search/IntPairs" [("limit", "I", (.int lim)), ("packed", "[J", (.ref pk)), ("size", "I", (.int n))])) (T.setTop (mkF m 17 #[.val (.ref o), .val (.int bd)] [(.int ((u4.toUInt64 >>> ((32 : Int32) &&& 0x3f).toInt64.toUInt64).toInt64).toInt32)]))
  refine own_iloadN C X own_d7_17 rfl (pc' := 18) rfl ?_
  refine own_icmp_lt C X own_d7_18 (pcT := 34) (pc' := 21) (by decide) (by decide) rfl (fun hc18 => ?_) (fun hc18 => ?_)
  · exact own_return C X own_d7_34 (Nat.le_of_ble_eq_true rfl) (Nat.le_of_ble_eq_true rfl) (⟨rfl, (5 : Int32), by decide, by decide, KK, O⟩)
  · refine own_aloadN C X own_d7_21 rfl rfl (pc' := 22) rfl ?_
    refine own_dup C X own_d7_22 rfl (pc' := 23) rfl ?_
    refine own_getfield C X own_d7_23 (hw _ (List.mem_of_getElem? (i := 29) rfl)) O (i := 2) rfl (pc' := 26) rfl ?_
    intro T X
    refine own_iconst C X own_d7_26 (v := 1) (by decide) (pc' := 27) rfl ?_
    refine own_isub C X own_d7_27 (z := 4) (by decide) (pc' := 28) rfl ?_
    refine own_putfield C X own_d7_28 (hw _ (List.mem_of_getElem? (i := 29) rfl)) (Or.inl (hw _ (List.mem_of_getElem? (i := 30) rfl))) (hw _ (List.mem_of_getElem? (i := 6) rfl)) O (i := 2) rfl (ty := .int) (by decide) rfl rfl ge_o (pc' := 31) rfl ?_
    intro T h X K_ O_
    have O : own_Ob Z a0 h o "com/example/twin64/twin64/search/IntPairs" [("limit", "I", (.int lim)), ("packed", "[J", (.ref pk)), ("size", "I", (.int (4 : Int32)))] := O_
    have A := A.keep K_ (ninS (Ne.symm ne_o) nin0)
    have KK := KK.trans K_ (allS (Or.inl (by simp)) all0)
    refine own_goto C X own_d7_31 (pc' := 0) (by decide) (by decide) ?_
    refine own_aloadN C X own_d7_0 rfl rfl (pc' := 1) rfl ?_
    refine own_getfield C X own_d7_1 (hw _ (List.mem_of_getElem? (i := 29) rfl)) O (i := 2) rfl (pc' := 4) rfl ?_
    intro T X
    refine own_if_le C X own_d7_4 (pcT := 34) (pc' := 7) (by decide) (by decide) rfl (fun hc4_2 => absurd hc4_2 (by decide)) (fun hc4_2 => ?_)
    refine own_aloadN C X own_d7_7 rfl rfl (pc' := 8) rfl ?_
    refine own_aloadN C X own_d7_8 rfl rfl (pc' := 9) rfl ?_
    refine own_getfield C X own_d7_9 (hw _ (List.mem_of_getElem? (i := 29) rfl)) O (i := 2) rfl (pc' := 12) rfl ?_
    intro T X
    refine own_iconst C X own_d7_12 (v := 1) (by decide) (pc' := 13) rfl ?_
    refine own_isub C X own_d7_13 (z := 3) (by decide) (pc' := 14) rfl ?_
    obtain ⟨u3, hu3⟩ := own_some (xs := xs) (i := 3) (Nat.lt_of_lt_of_le (by decide) hk)
    refine own_callV C X own_d7_14 (own_m_fa l Z a0 hw o (3 : Int32) _ n0 (own_big C X) lim pk xs (4 : Int32) O A 3 u3 (by decide) hu3) O.1 (hw _ (List.mem_of_getElem? (i := 46) rfl)) (hw _ (List.mem_of_getElem? (i := 47) rfl)) (hw _ (List.mem_of_getElem? (i := 49) rfl)) (hw _ (List.mem_of_getElem? (i := 48) rfl)) (hw _ (List.mem_of_getElem? (i := 7) rfl)) (hw _ (List.mem_of_getElem? (i := 50) rfl)) (by decide) own_pd_1963 rfl rfl (Nat.le_of_ble_eq_true rfl) (Nat.le_of_ble_eq_true rfl) (Nat.le_of_ble_eq_true rfl) (Nat.le_of_ble_eq_true rfl) (av := [(.int (3 : Int32))]) (S := []) rfl (pc' := 17) rfl ?_
    intro T h v X hQ
    obtain ⟨rfl, rfl⟩ := hQ
    show own_Go p e below n0 (own_Fin ({ frames := 1, cells := 0, slots := 0, locals := 20 } : Room) s (fun v h => v = none ∧ ∃ n : Int32, 0 ≤ n.toInt ∧ n.toInt ≤ 5 ∧ Keep h0 h [o] ∧ own_Ob Z a0 h o "com/example/twin64/twin64/search/IntPairs" [("limit", "I", (.int lim)), ("packed", "[J", (.ref pk)), ("size", "I", (.int n))])) (T.setTop (mkF m 17 #[.val (.ref o), .val (.int bd)] [(.int ((u3.toUInt64 >>> ((32 : Int32) &&& 0x3f).toInt64.toUInt64).toInt64).toInt32)]))
    refine own_iloadN C X own_d7_17 rfl (pc' := 18) rfl ?_
    refine own_icmp_lt C X own_d7_18 (pcT := 34) (pc' := 21) (by decide) (by decide) rfl (fun hc18_2 => ?_) (fun hc18_2 => ?_)
    · exact own_return C X own_d7_34 (Nat.le_of_ble_eq_true rfl) (Nat.le_of_ble_eq_true rfl) (⟨rfl, (4 : Int32), by decide, by decide, KK, O⟩)
    · refine own_aloadN C X own_d7_21 rfl rfl (pc' := 22) rfl ?_
      refine own_dup C X own_d7_22 rfl (pc' := 23) rfl ?_
      refine own_getfield C X own_d7_23 (hw _ (List.mem_of_getElem? (i := 29) rfl)) O (i := 2) rfl (pc' := 26) rfl ?_
      intro T X
      refine own_iconst C X own_d7_26 (v := 1) (by decide) (pc' := 27) rfl ?_
      refine own_isub C X own_d7_27 (z := 3) (by decide) (pc' := 28) rfl ?_
      refine own_putfield C X own_d7_28 (hw _ (List.mem_of_getElem? (i := 29) rfl)) (Or.inl (hw _ (List.mem_of_getElem? (i := 30) rfl))) (hw _ (List.mem_of_getElem? (i := 6) rfl)) O (i := 2) rfl (ty := .int) (by decide) rfl rfl ge_o (pc' := 31) rfl ?_
      intro T h X K_ O_
      have O : own_Ob Z a0 h o "com/example/twin64/twin64/search/IntPairs" [("limit", "I", (.int lim)), ("packed", "[J", (.ref pk)), ("size", "I", (.int (3 : Int32)))] := O_
      have A := A.keep K_ (ninS (Ne.symm ne_o) nin0)
      have KK := KK.trans K_ (allS (Or.inl (by simp)) all0)
      refine own_goto C X own_d7_31 (pc' := 0) (by decide) (by decide) ?_
      refine own_aloadN C X own_d7_0 rfl rfl (pc' := 1) rfl ?_
      refine own_getfield C X own_d7_1 (hw _ (List.mem_of_getElem? (i := 29) rfl)) O (i := 2) rfl (pc' := 4) rfl ?_
      intro T X
      refine own_if_le C X own_d7_4 (pcT := 34) (pc' := 7) (by decide) (by decide) rfl (fun hc4_3 => absurd hc4_3 (by decide)) (fun hc4_3 => ?_)
      refine own_aloadN C X own_d7_7 rfl rfl (pc' := 8) rfl ?_
      refine own_aloadN C X own_d7_8 rfl rfl (pc' := 9) rfl ?_
      refine own_getfield C X own_d7_9 (hw _ (List.mem_of_getElem? (i := 29) rfl)) O (i := 2) rfl (pc' := 12) rfl ?_
      intro T X
      refine own_iconst C X own_d7_12 (v := 1) (by decide) (pc' := 13) rfl ?_
      refine own_isub C X own_d7_13 (z := 2) (by decide) (pc' := 14) rfl ?_
      obtain ⟨u2, hu2⟩ := own_some (xs := xs) (i := 2) (Nat.lt_of_lt_of_le (by decide) hk)
      refine own_callV C X own_d7_14 (own_m_fa l Z a0 hw o (2 : Int32) _ n0 (own_big C X) lim pk xs (3 : Int32) O A 2 u2 (by decide) hu2) O.1 (hw _ (List.mem_of_getElem? (i := 46) rfl)) (hw _ (List.mem_of_getElem? (i := 47) rfl)) (hw _ (List.mem_of_getElem? (i := 49) rfl)) (hw _ (List.mem_of_getElem? (i := 48) rfl)) (hw _ (List.mem_of_getElem? (i := 7) rfl)) (hw _ (List.mem_of_getElem? (i := 50) rfl)) (by decide) own_pd_1963 rfl rfl (Nat.le_of_ble_eq_true rfl) (Nat.le_of_ble_eq_true rfl) (Nat.le_of_ble_eq_true rfl) (Nat.le_of_ble_eq_true rfl) (av := [(.int (2 : Int32))]) (S := []) rfl (pc' := 17) rfl ?_
      intro T h v X hQ
      obtain ⟨rfl, rfl⟩ := hQ
      show own_Go p e below n0 (own_Fin ({ frames := 1, cells := 0, slots := 0, locals := 20 } : Room) s (fun v h => v = none ∧ ∃ n : Int32, 0 ≤ n.toInt ∧ n.toInt ≤ 5 ∧ Keep h0 h [o] ∧ own_Ob Z a0 h o "com/example/twin64/twin64/search/IntPairs" [("limit", "I", (.int lim)), ("packed", "[J", (.ref pk)), ("size", "I", (.int n))])) (T.setTop (mkF m 17 #[.val (.ref o), .val (.int bd)] [(.int ((u2.toUInt64 >>> ((32 : Int32) &&& 0x3f).toInt64.toUInt64).toInt64).toInt32)]))
      refine own_iloadN C X own_d7_17 rfl (pc' := 18) rfl ?_
      refine own_icmp_lt C X own_d7_18 (pcT := 34) (pc' := 21) (by decide) (by decide) rfl (fun hc18_3 => ?_) (fun hc18_3 => ?_)
      · exact own_return C X own_d7_34 (Nat.le_of_ble_eq_true rfl) (Nat.le_of_ble_eq_true rfl) (⟨rfl, (3 : Int32), by decide, by decide, KK, O⟩)
      · refine own_aloadN C X own_d7_21 rfl rfl (pc' := 22) rfl ?_
        refine own_dup C X own_d7_22 rfl (pc' := 23) rfl ?_
        refine own_getfield C X own_d7_23 (hw _ (List.mem_of_getElem? (i := 29) rfl)) O (i := 2) rfl (pc' := 26) rfl ?_
        intro T X
        refine own_iconst C X own_d7_26 (v := 1) (by decide) (pc' := 27) rfl ?_
        refine own_isub C X own_d7_27 (z := 2) (by decide) (pc' := 28) rfl ?_
        refine own_putfield C X own_d7_28 (hw _ (List.mem_of_getElem? (i := 29) rfl)) (Or.inl (hw _ (List.mem_of_getElem? (i := 30) rfl))) (hw _ (List.mem_of_getElem? (i := 6) rfl)) O (i := 2) rfl (ty := .int) (by decide) rfl rfl ge_o (pc' := 31) rfl ?_
        intro T h X K_ O_
        have O : own_Ob Z a0 h o "com/example/twin64/twin64/search/IntPairs" [("limit", "I", (.int lim)), ("packed", "[J", (.ref pk)), ("size", "I", (.int (2 : Int32)))] := O_
        have A := A.keep K_ (ninS (Ne.symm ne_o) nin0)
        have KK := KK.trans K_ (allS (Or.inl (by simp)) all0)
        refine own_goto C X own_d7_31 (pc' := 0) (by decide) (by decide) ?_
        refine own_aloadN C X own_d7_0 rfl rfl (pc' := 1) rfl ?_
        refine own_getfield C X own_d7_1 (hw _ (List.mem_of_getElem? (i := 29) rfl)) O (i := 2) rfl (pc' := 4) rfl ?_
        intro T X
        refine own_if_le C X own_d7_4 (pcT := 34) (pc' := 7) (by decide) (by decide) rfl (fun hc4_4 => absurd hc4_4 (by decide)) (fun hc4_4 => ?_)
        refine own_aloadN C X own_d7_7 rfl rfl (pc' := 8) rfl ?_
        refine own_aloadN C X own_d7_8 rfl rfl (pc' := 9) rfl ?_
        refine own_getfield C X own_d7_9 (hw _ (List.mem_of_getElem? (i := 29) rfl)) O (i := 2) rfl (pc' := 12) rfl ?_
        intro T X
        refine own_iconst C X own_d7_12 (v := 1) (by decide) (pc' := 13) rfl ?_
        refine own_isub C X own_d7_13 (z := 1) (by decide) (pc' := 14) rfl ?_
        obtain ⟨u1, hu1⟩ := own_some (xs := xs) (i := 1) (Nat.lt_of_lt_of_le (by decide) hk)
        refine own_callV C X own_d7_14 (own_m_fa l Z a0 hw o (1 : Int32) _ n0 (own_big C X) lim pk xs (2 : Int32) O A 1 u1 (by decide) hu1) O.1 (hw _ (List.mem_of_getElem? (i := 46) rfl)) (hw _ (List.mem_of_getElem? (i := 47) rfl)) (hw _ (List.mem_of_getElem? (i := 49) rfl)) (hw _ (List.mem_of_getElem? (i := 48) rfl)) (hw _ (List.mem_of_getElem? (i := 7) rfl)) (hw _ (List.mem_of_getElem? (i := 50) rfl)) (by decide) own_pd_1963 rfl rfl (Nat.le_of_ble_eq_true rfl) (Nat.le_of_ble_eq_true rfl) (Nat.le_of_ble_eq_true rfl) (Nat.le_of_ble_eq_true rfl) (av := [(.int (1 : Int32))]) (S := []) rfl (pc' := 17) rfl ?_
        intro T h v X hQ
        obtain ⟨rfl, rfl⟩ := hQ
        show own_Go p e below n0 (own_Fin ({ frames := 1, cells := 0, slots := 0, locals := 20 } : Room) s (fun v h => v = none ∧ ∃ n : Int32, 0 ≤ n.toInt ∧ n.toInt ≤ 5 ∧ Keep h0 h [o] ∧ own_Ob Z a0 h o "com/example/twin64/twin64/search/IntPairs" [("limit", "I", (.int lim)), ("packed", "[J", (.ref pk)), ("size", "I", (.int n))])) (T.setTop (mkF m 17 #[.val (.ref o), .val (.int bd)] [(.int ((u1.toUInt64 >>> ((32 : Int32) &&& 0x3f).toInt64.toUInt64).toInt64).toInt32)]))
        refine own_iloadN C X own_d7_17 rfl (pc' := 18) rfl ?_
        refine own_icmp_lt C X own_d7_18 (pcT := 34) (pc' := 21) (by decide) (by decide) rfl (fun hc18_4 => ?_) (fun hc18_4 => ?_)
        · exact own_return C X own_d7_34 (Nat.le_of_ble_eq_true rfl) (Nat.le_of_ble_eq_true rfl) (⟨rfl, (2 : Int32), by decide, by decide, KK, O⟩)
        · refine own_aloadN C X own_d7_21 rfl rfl (pc' := 22) rfl ?_
          refine own_dup C X own_d7_22 rfl (pc' := 23) rfl ?_
          refine own_getfield C X own_d7_23 (hw _ (List.mem_of_getElem? (i := 29) rfl)) O (i := 2) rfl (pc' := 26) rfl ?_
          intro T X
          refine own_iconst C X own_d7_26 (v := 1) (by decide) (pc' := 27) rfl ?_
          refine own_isub C X own_d7_27 (z := 1) (by decide) (pc' := 28) rfl ?_
          refine own_putfield C X own_d7_28 (hw _ (List.mem_of_getElem? (i := 29) rfl)) (Or.inl (hw _ (List.mem_of_getElem? (i := 30) rfl))) (hw _ (List.mem_of_getElem? (i := 6) rfl)) O (i := 2) rfl (ty := .int) (by decide) rfl rfl ge_o (pc' := 31) rfl ?_
          intro T h X K_ O_
          have O : own_Ob Z a0 h o "com/example/twin64/twin64/search/IntPairs" [("limit", "I", (.int lim)), ("packed", "[J", (.ref pk)), ("size", "I", (.int (1 : Int32)))] := O_
          have A := A.keep K_ (ninS (Ne.symm ne_o) nin0)
          have KK := KK.trans K_ (allS (Or.inl (by simp)) all0)
          refine own_goto C X own_d7_31 (pc' := 0) (by decide) (by decide) ?_
          refine own_aloadN C X own_d7_0 rfl rfl (pc' := 1) rfl ?_
          refine own_getfield C X own_d7_1 (hw _ (List.mem_of_getElem? (i := 29) rfl)) O (i := 2) rfl (pc' := 4) rfl ?_
          intro T X
          refine own_if_le C X own_d7_4 (pcT := 34) (pc' := 7) (by decide) (by decide) rfl (fun hc4_5 => absurd hc4_5 (by decide)) (fun hc4_5 => ?_)
          refine own_aloadN C X own_d7_7 rfl rfl (pc' := 8) rfl ?_
          refine own_aloadN C X own_d7_8 rfl rfl (pc' := 9) rfl ?_
          refine own_getfield C X own_d7_9 (hw _ (List.mem_of_getElem? (i := 29) rfl)) O (i := 2) rfl (pc' := 12) rfl ?_
          intro T X
          refine own_iconst C X own_d7_12 (v := 1) (by decide) (pc' := 13) rfl ?_
          refine own_isub C X own_d7_13 (z := 0) (by decide) (pc' := 14) rfl ?_
          obtain ⟨u0, hu0⟩ := own_some (xs := xs) (i := 0) (Nat.lt_of_lt_of_le (by decide) hk)
          refine own_callV C X own_d7_14 (own_m_fa l Z a0 hw o (0 : Int32) _ n0 (own_big C X) lim pk xs (1 : Int32) O A 0 u0 (by decide) hu0) O.1 (hw _ (List.mem_of_getElem? (i := 46) rfl)) (hw _ (List.mem_of_getElem? (i := 47) rfl)) (hw _ (List.mem_of_getElem? (i := 49) rfl)) (hw _ (List.mem_of_getElem? (i := 48) rfl)) (hw _ (List.mem_of_getElem? (i := 7) rfl)) (hw _ (List.mem_of_getElem? (i := 50) rfl)) (by decide) own_pd_1963 rfl rfl (Nat.le_of_ble_eq_true rfl) (Nat.le_of_ble_eq_true rfl) (Nat.le_of_ble_eq_true rfl) (Nat.le_of_ble_eq_true rfl) (av := [(.int (0 : Int32))]) (S := []) rfl (pc' := 17) rfl ?_
          intro T h v X hQ
          obtain ⟨rfl, rfl⟩ := hQ
          show own_Go p e below n0 (own_Fin ({ frames := 1, cells := 0, slots := 0, locals := 20 } : Room) s (fun v h => v = none ∧ ∃ n : Int32, 0 ≤ n.toInt ∧ n.toInt ≤ 5 ∧ Keep h0 h [o] ∧ own_Ob Z a0 h o "com/example/twin64/twin64/search/IntPairs" [("limit", "I", (.int lim)), ("packed", "[J", (.ref pk)), ("size", "I", (.int n))])) (T.setTop (mkF m 17 #[.val (.ref o), .val (.int bd)] [(.int ((u0.toUInt64 >>> ((32 : Int32) &&& 0x3f).toInt64.toUInt64).toInt64).toInt32)]))
          refine own_iloadN C X own_d7_17 rfl (pc' := 18) rfl ?_
          refine own_icmp_lt C X own_d7_18 (pcT := 34) (pc' := 21) (by decide) (by decide) rfl (fun hc18_5 => ?_) (fun hc18_5 => ?_)
          · exact own_return C X own_d7_34 (Nat.le_of_ble_eq_true rfl) (Nat.le_of_ble_eq_true rfl) (⟨rfl, (1 : Int32), by decide, by decide, KK, O⟩)
          · refine own_aloadN C X own_d7_21 rfl rfl (pc' := 22) rfl ?_
            refine own_dup C X own_d7_22 rfl (pc' := 23) rfl ?_
            refine own_getfield C X own_d7_23 (hw _ (List.mem_of_getElem? (i := 29) rfl)) O (i := 2) rfl (pc' := 26) rfl ?_
            intro T X
            refine own_iconst C X own_d7_26 (v := 1) (by decide) (pc' := 27) rfl ?_
            refine own_isub C X own_d7_27 (z := 0) (by decide) (pc' := 28) rfl ?_
            refine own_putfield C X own_d7_28 (hw _ (List.mem_of_getElem? (i := 29) rfl)) (Or.inl (hw _ (List.mem_of_getElem? (i := 30) rfl))) (hw _ (List.mem_of_getElem? (i := 6) rfl)) O (i := 2) rfl (ty := .int) (by decide) rfl rfl ge_o (pc' := 31) rfl ?_
            intro T h X K_ O_
            have O : own_Ob Z a0 h o "com/example/twin64/twin64/search/IntPairs" [("limit", "I", (.int lim)), ("packed", "[J", (.ref pk)), ("size", "I", (.int (0 : Int32)))] := O_
            have A := A.keep K_ (ninS (Ne.symm ne_o) nin0)
            have KK := KK.trans K_ (allS (Or.inl (by simp)) all0)
            refine own_goto C X own_d7_31 (pc' := 0) (by decide) (by decide) ?_
            refine own_aloadN C X own_d7_0 rfl rfl (pc' := 1) rfl ?_
            refine own_getfield C X own_d7_1 (hw _ (List.mem_of_getElem? (i := 29) rfl)) O (i := 2) rfl (pc' := 4) rfl ?_
            intro T X
            refine own_if_le C X own_d7_4 (pcT := 34) (pc' := 7) (by decide) (by decide) rfl (fun hc4_6 => ?_) (fun hc4_6 => absurd hc4_6 (by decide))
            exact own_return C X own_d7_34 (Nat.le_of_ble_eq_true rfl) (Nat.le_of_ble_eq_true rfl) (⟨rfl, (0 : Int32), by decide, by decide, KK, O⟩)
theorem own_ef_law (i0 : Int32) (i1 : Int32) (i2 : Int32) (i3 : Int32) (i4 : Int32) (i5 : Int32) (m : MethodId) : entryFrame m #[(.int i0), (.int i1), (.int i2), (.int i3), (.int i4), (.int i5)] maxLocals = mkF m 0 #[.val (.int i0), .val (.int i1), .val (.int i2), .val (.int i3), .val (.int i4), .val (.int i5), .unset, .unset, .unset, .unset, .unset, .unset, .unset] [] := by first | (simp [entryFrame, mkF, argsToLocals, Value.category, maxLocals]; done) | rfl
theorem own_pd_2093 : parseMethodDescriptor "(I)V" = some ⟨[.int], none⟩ := by decide +kernel
theorem own_pd_133748 : parseMethodDescriptor "(Lcom/example/twin64/twin64/search/IntPairs;III)V" = some ⟨[(.object "com/example/twin64/twin64/search/IntPairs"), .int, .int, .int], none⟩ := by decide +kernel
theorem own_pd_1418 : parseMethodDescriptor "()Z" = some ⟨[], some .boolean⟩ := by decide +kernel
theorem own_pd_1265 : parseMethodDescriptor "()I" = some ⟨[], some .int⟩ := by decide +kernel
set_option maxRecDepth 65536 in
set_option maxHeartbeats 40000000 in
theorem own_m_law (l : Launch) (Z : State) (a0 : Array Value) (hw : ∀ d ∈ tables_1, d.before a0 Z = true) (ws : List Jvm.Cond) (i0 : Int32) (i1 : Int32) (i2 : Int32) (i3 : Int32) (i4 : Int32) (i5 : Int32) (h0 : Heap) (n0 : Nat) (hn0 : n0 ≤ h0.size)  : own_Met l Z n0 x code maxLocals ret ws room_1 #[(.int i0), (.int i1), (.int i2), (.int i3), (.int i4), (.int i5)] h0 (fun v h => v = some (.int 1)) := by
  refine own_body (plainFor_of_name own_pn_com_example_twin64_twin64_search_IntPairsIsFullPinLaw) hn0 (own_ef_law i0 i1 i2 i3 i4 i5) ?_
  intro p e s m below meth c T C X
  have J : ∀ (bg : Int32) (tr : Int32) (lim : Int32), 0 ≤ lim.toInt → own_Go p e below n0 (own_Fin room_1 s (fun v h => v = some (.int 1))) (T.setTop (mkF m 49 #[.val (.int i0), .val (.int i1), .val (.int i2), .val (.int i3), .val (.int i4), .val (.int i5), .val (.int bg), .val (.int tr), .val (.int lim), .unset, .unset, .unset, .unset] [])) := by
    intro bg tr lim hlim
    refine own_iloadN C X at_49 rfl (pc' := 50) rfl ?_
    refine own_ldcI C X at_50 (hw _ (List.mem_of_getElem? (i := 0) rfl)) (pc' := 52) rfl ?_
    refine own_iand C X at_52 rfl (pc' := 53) rfl ?_
    refine own_bipush C X at_53 (v := 6) (by decide) (pc' := 55) rfl ?_
    refine own_irem C X at_55 (by decide) rfl (pc' := 56) rfl ?_
    refine own_iload C X at_56 rfl (pc' := 58) rfl ?_
    refine own_callS C X at_58 (own_m_min l Z a0 hw ((i1 &&& (2147483647 : Int32)) % (6 : Int32)) lim _ n0 (own_big C X)) (hw _ (List.mem_of_getElem? (i := 1) rfl)) (hw _ (List.mem_of_getElem? (i := 2) rfl)) (hw _ (List.mem_of_getElem? (i := 3) rfl)) (hw _ (List.mem_of_getElem? (i := 4) rfl)) (by decide) own_pd_2734 rfl rfl (Nat.le_of_ble_eq_true rfl) (Nat.le_of_ble_eq_true rfl) (Nat.le_of_ble_eq_true rfl) (Nat.le_of_ble_eq_true rfl) (av := [(.int ((i1 &&& (2147483647 : Int32)) % (6 : Int32))), (.int lim)]) (S := []) rfl (pc' := 61) rfl ?_
    intro T h v X hQ
    obtain ⟨rfl, rfl⟩ := hQ
    show own_Go p e below n0 (own_Fin room_1 s (fun v h => v = some (.int 1))) (T.setTop (mkF m 61 #[.val (.int i0), .val (.int i1), .val (.int i2), .val (.int i3), .val (.int i4), .val (.int i5), .val (.int bg), .val (.int tr), .val (.int lim), .unset, .unset, .unset, .unset] [(.int (own_mi ((i1 &&& (2147483647 : Int32)) % (6 : Int32)) lim))]))
    obtain ⟨kk, e_kk⟩ : ∃ z : Int32, (own_mi ((i1 &&& (2147483647 : Int32)) % (6 : Int32)) lim) = z := ⟨_, rfl⟩
    rw [e_kk]
    show own_Go p e below n0 (own_Fin room_1 s (fun v h => v = some (.int 1))) (T.setTop (mkF m 61 #[.val (.int i0), .val (.int i1), .val (.int i2), .val (.int i3), .val (.int i4), .val (.int i5), .val (.int bg), .val (.int tr), .val (.int lim), .unset, .unset, .unset, .unset] [(.int kk)]))
    obtain ⟨hkk, hkl⟩ := own_k6 i1 lim kk hlim e_kk
    rcases hkk with rfl | rfl | rfl | rfl | rfl | rfl
    · refine own_istore C X at_61 (L' := #[.val (.int i0), .val (.int i1), .val (.int i2), .val (.int i3), .val (.int i4), .val (.int i5), .val (.int bg), .val (.int tr), .val (.int lim), .val (.int (0 : Int32)), .unset, .unset, .unset]) rfl (pc' := 63) rfl ?_
      refine own_new C X at_63 (hw _ (List.mem_of_getElem? (i := 5) rfl)) (hw _ (List.mem_of_getElem? (i := 6) rfl)) (hw _ (List.mem_of_getElem? (i := 7) rfl)) (Nat.le_of_ble_eq_true rfl) (Nat.le_of_ble_eq_true rfl) [("limit", "I", (.int (0 : Int32))), ("packed", "[J", .null), ("size", "I", (.int (0 : Int32)))] (by decide) ?_ (pc' := 66) rfl ?_
      · intro f hf; simp only [List.mem_cons, List.not_mem_nil, or_false] at hf
        rcases hf with rfl | rfl | rfl
        · exact ⟨(Or.inr (hw _ (List.mem_of_getElem? (i := 15) rfl))), .int, by decide, rfl⟩
        · exact ⟨(Or.inl (hw _ (List.mem_of_getElem? (i := 19) rfl))), (.array .long), by decide, rfl⟩
        · exact ⟨(Or.inl (hw _ (List.mem_of_getElem? (i := 30) rfl))), .int, by decide, rfl⟩
      intro T h ob e_ob X K_ ge_ob O_ob
      refine own_dup C X at_66 rfl (pc' := 67) rfl ?_
      refine own_iload C X at_67 rfl (pc' := 69) rfl ?_
      have hbg := own_big C X
      refine own_callInit C X at_69 (own_m_init l Z a0 hw ob lim _ n0 hbg O_ob ge_ob hlim) rfl (hw _ (List.mem_of_getElem? (i := 8) rfl)) (hw _ (List.mem_of_getElem? (i := 9) rfl)) (hw _ (List.mem_of_getElem? (i := 7) rfl)) (hw _ (List.mem_of_getElem? (i := 10) rfl)) (by decide) own_pd_2093 rfl rfl (Nat.le_of_ble_eq_true rfl) (Nat.le_of_ble_eq_true rfl) (Nat.le_of_ble_eq_true rfl) (Nat.le_of_ble_eq_true rfl) (av := [(.int lim)]) (S := [(.ref ob)]) rfl (pc' := 72) rfl ?_
      intro T h v X hQ
      obtain ⟨rfl, pk, xs, gq_pk, K_, O_n, A, hxs⟩ := hQ
      have ne_o : ob ≠ pk := Nat.ne_of_lt (Nat.lt_of_lt_of_le O_ob.lt gq_pk)
      have ge_pk : n0 ≤ pk := Nat.le_trans hbg gq_pk
      have O_ob := O_n
      obtain ⟨nl, hnl⟩ := A.len
      show own_Go p e below n0 (own_Fin room_1 s (fun v h => v = some (.int 1))) (T.setTop (mkF m 72 #[.val (.int i0), .val (.int i1), .val (.int i2), .val (.int i3), .val (.int i4), .val (.int i5), .val (.int bg), .val (.int tr), .val (.int lim), .val (.int (0 : Int32)), .unset, .unset, .unset] [(.ref ob)]))
      refine own_astore C X at_72 rfl (L' := #[.val (.int i0), .val (.int i1), .val (.int i2), .val (.int i3), .val (.int i4), .val (.int i5), .val (.int bg), .val (.int tr), .val (.int lim), .val (.int (0 : Int32)), .val (.ref ob), .unset, .unset]) rfl (pc' := 74) rfl ?_
      refine own_aload C X at_74 rfl rfl (pc' := 76) rfl ?_
      refine own_iload C X at_76 rfl (pc' := 78) rfl ?_
      refine own_iloadN C X at_78 rfl (pc' := 79) rfl ?_
      refine own_iloadN C X at_79 rfl (pc' := 80) rfl ?_
      refine own_callS C X at_80 (own_m_addN0 l Z a0 hw ob i3 i2 _ n0 (own_big C X) lim pk xs nl hnl (hxs 0 (by decide) hkl) O_ob A ne_o ge_ob ge_pk) (hw _ (List.mem_of_getElem? (i := 20) rfl)) (hw _ (List.mem_of_getElem? (i := 21) rfl)) (hw _ (List.mem_of_getElem? (i := 22) rfl)) (hw _ (List.mem_of_getElem? (i := 23) rfl)) (by decide) own_pd_133748 rfl rfl (Nat.le_of_ble_eq_true rfl) (Nat.le_of_ble_eq_true rfl) (Nat.le_of_ble_eq_true rfl) (Nat.le_of_ble_eq_true rfl) (av := [(.ref ob), (.int (0 : Int32)), (.int i3), (.int i2)]) (S := []) rfl (pc' := 83) rfl ?_
      intro T h v X hQ
      obtain ⟨rfl, K_, O_ob, ys, A, hk⟩ := hQ
      show own_Go p e below n0 (own_Fin room_1 s (fun v h => v = some (.int 1))) (T.setTop (mkF m 83 #[.val (.int i0), .val (.int i1), .val (.int i2), .val (.int i3), .val (.int i4), .val (.int i5), .val (.int bg), .val (.int tr), .val (.int lim), .val (.int (0 : Int32)), .val (.ref ob), .unset, .unset] []))
      refine own_aload C X at_83 rfl rfl (pc' := 85) rfl ?_
      refine own_callV C X at_85 (own_m_full l Z a0 hw ob _ n0 (own_big C X) lim pk (0 : Int32) O_ob) O_ob.1 (hw _ (List.mem_of_getElem? (i := 24) rfl)) (hw _ (List.mem_of_getElem? (i := 25) rfl)) (hw _ (List.mem_of_getElem? (i := 27) rfl)) (hw _ (List.mem_of_getElem? (i := 26) rfl)) (hw _ (List.mem_of_getElem? (i := 7) rfl)) (hw _ (List.mem_of_getElem? (i := 28) rfl)) (by decide) own_pd_1418 rfl rfl (Nat.le_of_ble_eq_true rfl) (Nat.le_of_ble_eq_true rfl) (Nat.le_of_ble_eq_true rfl) (Nat.le_of_ble_eq_true rfl) (av := []) (S := []) rfl (pc' := 88) rfl ?_
      intro T h v X hQ
      obtain ⟨rfl, rfl⟩ := hQ
      show own_Go p e below n0 (own_Fin room_1 s (fun v h => v = some (.int 1))) (T.setTop (mkF m 88 #[.val (.int i0), .val (.int i1), .val (.int i2), .val (.int i3), .val (.int i4), .val (.int i5), .val (.int bg), .val (.int tr), .val (.int lim), .val (.int (0 : Int32)), .val (.ref ob), .unset, .unset] [(.int (own_fu (0 : Int32) lim))]))
      refine own_istore C X at_88 (L' := #[.val (.int i0), .val (.int i1), .val (.int i2), .val (.int i3), .val (.int i4), .val (.int i5), .val (.int bg), .val (.int tr), .val (.int lim), .val (.int (0 : Int32)), .val (.ref ob), .val (.int (own_fu (0 : Int32) lim)), .unset]) rfl (pc' := 90) rfl ?_
      refine own_iload C X at_90 rfl (pc' := 92) rfl ?_
      refine own_iload C X at_92 rfl (pc' := 94) rfl ?_
      refine own_iload C X at_94 rfl (pc' := 96) rfl ?_
      refine own_icmp_ne C X at_96 (pcT := 103) (pc' := 99) (by decide) (by decide) rfl (fun hc96 => ?_) (fun hc96 => ?_)
      · refine own_iconst C X at_103 (v := 0) (by decide) (pc' := 104) rfl ?_
        refine own_icmp_eq C X at_104 (pcT := 109) (pc' := 107) (by decide) (by decide) rfl (fun hc104 => ?_) (fun hc104 => absurd hc104 (not_not_intro (by rw [own_fu]; simp only [hc96, if_true, if_false])))
        refine own_aload C X at_109 rfl rfl (pc' := 111) rfl ?_
        refine own_callV C X at_111 (own_m_size l Z a0 hw ob _ n0 (own_big C X) lim pk (0 : Int32) O_ob) O_ob.1 (hw _ (List.mem_of_getElem? (i := 31) rfl)) (hw _ (List.mem_of_getElem? (i := 32) rfl)) (hw _ (List.mem_of_getElem? (i := 34) rfl)) (hw _ (List.mem_of_getElem? (i := 33) rfl)) (hw _ (List.mem_of_getElem? (i := 7) rfl)) (hw _ (List.mem_of_getElem? (i := 35) rfl)) (by decide) own_pd_1265 rfl rfl (Nat.le_of_ble_eq_true rfl) (Nat.le_of_ble_eq_true rfl) (Nat.le_of_ble_eq_true rfl) (Nat.le_of_ble_eq_true rfl) (av := []) (S := []) rfl (pc' := 114) rfl ?_
        intro T h v X hQ
        obtain ⟨rfl, rfl⟩ := hQ
        show own_Go p e below n0 (own_Fin room_1 s (fun v h => v = some (.int 1))) (T.setTop (mkF m 114 #[.val (.int i0), .val (.int i1), .val (.int i2), .val (.int i3), .val (.int i4), .val (.int i5), .val (.int bg), .val (.int tr), .val (.int lim), .val (.int (0 : Int32)), .val (.ref ob), .val (.int (own_fu (0 : Int32) lim)), .unset] [(.int (0 : Int32))]))
        refine own_iload C X at_114 rfl (pc' := 116) rfl ?_
        refine own_icmp_eq C X at_116 (pcT := 121) (pc' := 119) (by decide) (by decide) rfl (fun hc116 => ?_) (fun hc116 => absurd hc116 (by decide))
        refine own_iload C X at_121 rfl (pc' := 123) rfl ?_
        refine own_if_eq C X at_123 (pcT := 179) (pc' := 126) (by decide) (by decide) rfl (fun hc123 => ?_) (fun hc123 => ?_)
        · refine own_iconst C X at_179 (v := 1) (by decide) (pc' := 180) rfl ?_
          exact own_ireturn_z C X at_180 (Nat.le_of_ble_eq_true rfl) (Nat.le_of_ble_eq_true rfl) (rfl)
        · refine own_aload C X at_126 rfl rfl (pc' := 128) rfl ?_
          refine own_iload C X at_128 rfl (pc' := 130) rfl ?_
          refine own_bipush C X at_130 (v := 31) (by decide) (pc' := 132) rfl ?_
          refine own_iand C X at_132 rfl (pc' := 133) rfl ?_
          refine own_callV C X at_133 (own_m_keep0 l Z a0 hw ob (i4 &&& (31 : Int32)) _ n0 (own_big C X) lim pk ys hk O_ob A ne_o ge_ob) O_ob.1 (hw _ (List.mem_of_getElem? (i := 36) rfl)) (hw _ (List.mem_of_getElem? (i := 37) rfl)) (hw _ (List.mem_of_getElem? (i := 39) rfl)) (hw _ (List.mem_of_getElem? (i := 38) rfl)) (hw _ (List.mem_of_getElem? (i := 7) rfl)) (hw _ (List.mem_of_getElem? (i := 40) rfl)) (by decide) own_pd_2093 rfl rfl (Nat.le_of_ble_eq_true rfl) (Nat.le_of_ble_eq_true rfl) (Nat.le_of_ble_eq_true rfl) (Nat.le_of_ble_eq_true rfl) (av := [(.int (i4 &&& (31 : Int32)))]) (S := []) rfl (pc' := 136) rfl ?_
          intro T h v X hQ
          obtain ⟨rfl, n, hn1, hn2, K_, O_ob⟩ := hQ
          have A := A.keep K_ (ninS (Ne.symm ne_o) nin0)
          show own_Go p e below n0 (own_Fin room_1 s (fun v h => v = some (.int 1))) (T.setTop (mkF m 136 #[.val (.int i0), .val (.int i1), .val (.int i2), .val (.int i3), .val (.int i4), .val (.int i5), .val (.int bg), .val (.int tr), .val (.int lim), .val (.int (0 : Int32)), .val (.ref ob), .val (.int (own_fu (0 : Int32) lim)), .unset] []))
          refine own_aload C X at_136 rfl rfl (pc' := 138) rfl ?_
          refine own_callV C X at_138 (own_m_size l Z a0 hw ob _ n0 (own_big C X) lim pk n O_ob) O_ob.1 (hw _ (List.mem_of_getElem? (i := 31) rfl)) (hw _ (List.mem_of_getElem? (i := 32) rfl)) (hw _ (List.mem_of_getElem? (i := 34) rfl)) (hw _ (List.mem_of_getElem? (i := 33) rfl)) (hw _ (List.mem_of_getElem? (i := 7) rfl)) (hw _ (List.mem_of_getElem? (i := 35) rfl)) (by decide) own_pd_1265 rfl rfl (Nat.le_of_ble_eq_true rfl) (Nat.le_of_ble_eq_true rfl) (Nat.le_of_ble_eq_true rfl) (Nat.le_of_ble_eq_true rfl) (av := []) (S := []) rfl (pc' := 141) rfl ?_
          intro T h v X hQ
          obtain ⟨rfl, rfl⟩ := hQ
          show own_Go p e below n0 (own_Fin room_1 s (fun v h => v = some (.int 1))) (T.setTop (mkF m 141 #[.val (.int i0), .val (.int i1), .val (.int i2), .val (.int i3), .val (.int i4), .val (.int i5), .val (.int bg), .val (.int tr), .val (.int lim), .val (.int (0 : Int32)), .val (.ref ob), .val (.int (own_fu (0 : Int32) lim)), .unset] [(.int n)]))
          refine own_istore C X at_141 (L' := #[.val (.int i0), .val (.int i1), .val (.int i2), .val (.int i3), .val (.int i4), .val (.int i5), .val (.int bg), .val (.int tr), .val (.int lim), .val (.int (0 : Int32)), .val (.ref ob), .val (.int (own_fu (0 : Int32) lim)), .val (.int n)]) rfl (pc' := 143) rfl ?_
          refine own_iload C X at_143 rfl (pc' := 145) rfl ?_
          refine own_if_lt C X at_145 (pcT := 155) (pc' := 148) (by decide) (by decide) rfl (fun hc145 => absurd hc145 (fun q => absurd (Int32.lt_iff_toInt_lt.mp q) (by show ¬ (n.toInt < (0 : Int)); omega))) (fun hc145 => ?_)
          refine own_iload C X at_148 rfl (pc' := 150) rfl ?_
          refine own_iload C X at_150 rfl (pc' := 152) rfl ?_
          refine own_icmp_le C X at_152 (pcT := 157) (pc' := 155) (by decide) (by decide) rfl (fun hc152 => ?_) (fun hc152 => absurd hc152 (fun q => absurd (Int32.lt_iff_toInt_lt.mp q) (by show ¬ ((0 : Int) < n.toInt); omega)))
          refine own_aload C X at_157 rfl rfl (pc' := 159) rfl ?_
          refine own_callV C X at_159 (own_m_full l Z a0 hw ob _ n0 (own_big C X) lim pk n O_ob) O_ob.1 (hw _ (List.mem_of_getElem? (i := 24) rfl)) (hw _ (List.mem_of_getElem? (i := 25) rfl)) (hw _ (List.mem_of_getElem? (i := 27) rfl)) (hw _ (List.mem_of_getElem? (i := 26) rfl)) (hw _ (List.mem_of_getElem? (i := 7) rfl)) (hw _ (List.mem_of_getElem? (i := 28) rfl)) (by decide) own_pd_1418 rfl rfl (Nat.le_of_ble_eq_true rfl) (Nat.le_of_ble_eq_true rfl) (Nat.le_of_ble_eq_true rfl) (Nat.le_of_ble_eq_true rfl) (av := []) (S := []) rfl (pc' := 162) rfl ?_
          intro T h v X hQ
          obtain ⟨rfl, rfl⟩ := hQ
          show own_Go p e below n0 (own_Fin room_1 s (fun v h => v = some (.int 1))) (T.setTop (mkF m 162 #[.val (.int i0), .val (.int i1), .val (.int i2), .val (.int i3), .val (.int i4), .val (.int i5), .val (.int bg), .val (.int tr), .val (.int lim), .val (.int (0 : Int32)), .val (.ref ob), .val (.int (own_fu (0 : Int32) lim)), .val (.int n)] [(.int (own_fu n lim))]))
          refine own_iload C X at_162 rfl (pc' := 164) rfl ?_
          refine own_iload C X at_164 rfl (pc' := 166) rfl ?_
          refine own_icmp_ne C X at_166 (pcT := 173) (pc' := 169) (by decide) (by decide) rfl (fun hc166 => ?_) (fun hc166 => ?_)
          · refine own_iconst C X at_173 (v := 0) (by decide) (pc' := 174) rfl ?_
            refine own_icmp_eq C X at_174 (pcT := 179) (pc' := 177) (by decide) (by decide) rfl (fun hc174 => ?_) (fun hc174 => absurd hc174 (not_not_intro (by rw [own_fu]; simp only [hc166, if_true, if_false])))
            refine own_iconst C X at_179 (v := 1) (by decide) (pc' := 180) rfl ?_
            exact own_ireturn_z C X at_180 (Nat.le_of_ble_eq_true rfl) (Nat.le_of_ble_eq_true rfl) (rfl)
          · refine own_iconst C X at_169 (v := 1) (by decide) (pc' := 170) rfl ?_
            refine own_goto C X at_170 (pc' := 174) (by decide) (by decide) ?_
            refine own_icmp_eq C X at_174 (pcT := 179) (pc' := 177) (by decide) (by decide) rfl (fun hc174 => ?_) (fun hc174 => absurd hc174 (not_not_intro (by rw [own_fu]; simp only [hc166, if_true, if_false])))
            refine own_iconst C X at_179 (v := 1) (by decide) (pc' := 180) rfl ?_
            exact own_ireturn_z C X at_180 (Nat.le_of_ble_eq_true rfl) (Nat.le_of_ble_eq_true rfl) (rfl)
      · refine own_iconst C X at_99 (v := 1) (by decide) (pc' := 100) rfl ?_
        refine own_goto C X at_100 (pc' := 104) (by decide) (by decide) ?_
        refine own_icmp_eq C X at_104 (pcT := 109) (pc' := 107) (by decide) (by decide) rfl (fun hc104 => ?_) (fun hc104 => absurd hc104 (not_not_intro (by rw [own_fu]; simp only [hc96, if_true, if_false])))
        refine own_aload C X at_109 rfl rfl (pc' := 111) rfl ?_
        refine own_callV C X at_111 (own_m_size l Z a0 hw ob _ n0 (own_big C X) lim pk (0 : Int32) O_ob) O_ob.1 (hw _ (List.mem_of_getElem? (i := 31) rfl)) (hw _ (List.mem_of_getElem? (i := 32) rfl)) (hw _ (List.mem_of_getElem? (i := 34) rfl)) (hw _ (List.mem_of_getElem? (i := 33) rfl)) (hw _ (List.mem_of_getElem? (i := 7) rfl)) (hw _ (List.mem_of_getElem? (i := 35) rfl)) (by decide) own_pd_1265 rfl rfl (Nat.le_of_ble_eq_true rfl) (Nat.le_of_ble_eq_true rfl) (Nat.le_of_ble_eq_true rfl) (Nat.le_of_ble_eq_true rfl) (av := []) (S := []) rfl (pc' := 114) rfl ?_
        intro T h v X hQ
        obtain ⟨rfl, rfl⟩ := hQ
        show own_Go p e below n0 (own_Fin room_1 s (fun v h => v = some (.int 1))) (T.setTop (mkF m 114 #[.val (.int i0), .val (.int i1), .val (.int i2), .val (.int i3), .val (.int i4), .val (.int i5), .val (.int bg), .val (.int tr), .val (.int lim), .val (.int (0 : Int32)), .val (.ref ob), .val (.int (own_fu (0 : Int32) lim)), .unset] [(.int (0 : Int32))]))
        refine own_iload C X at_114 rfl (pc' := 116) rfl ?_
        refine own_icmp_eq C X at_116 (pcT := 121) (pc' := 119) (by decide) (by decide) rfl (fun hc116 => ?_) (fun hc116 => absurd hc116 (by decide))
        refine own_iload C X at_121 rfl (pc' := 123) rfl ?_
        refine own_if_eq C X at_123 (pcT := 179) (pc' := 126) (by decide) (by decide) rfl (fun hc123 => ?_) (fun hc123 => ?_)
        · refine own_iconst C X at_179 (v := 1) (by decide) (pc' := 180) rfl ?_
          exact own_ireturn_z C X at_180 (Nat.le_of_ble_eq_true rfl) (Nat.le_of_ble_eq_true rfl) (rfl)
        · refine own_aload C X at_126 rfl rfl (pc' := 128) rfl ?_
          refine own_iload C X at_128 rfl (pc' := 130) rfl ?_
          refine own_bipush C X at_130 (v := 31) (by decide) (pc' := 132) rfl ?_
          refine own_iand C X at_132 rfl (pc' := 133) rfl ?_
          refine own_callV C X at_133 (own_m_keep0 l Z a0 hw ob (i4 &&& (31 : Int32)) _ n0 (own_big C X) lim pk ys hk O_ob A ne_o ge_ob) O_ob.1 (hw _ (List.mem_of_getElem? (i := 36) rfl)) (hw _ (List.mem_of_getElem? (i := 37) rfl)) (hw _ (List.mem_of_getElem? (i := 39) rfl)) (hw _ (List.mem_of_getElem? (i := 38) rfl)) (hw _ (List.mem_of_getElem? (i := 7) rfl)) (hw _ (List.mem_of_getElem? (i := 40) rfl)) (by decide) own_pd_2093 rfl rfl (Nat.le_of_ble_eq_true rfl) (Nat.le_of_ble_eq_true rfl) (Nat.le_of_ble_eq_true rfl) (Nat.le_of_ble_eq_true rfl) (av := [(.int (i4 &&& (31 : Int32)))]) (S := []) rfl (pc' := 136) rfl ?_
          intro T h v X hQ
          obtain ⟨rfl, n, hn1, hn2, K_, O_ob⟩ := hQ
          have A := A.keep K_ (ninS (Ne.symm ne_o) nin0)
          show own_Go p e below n0 (own_Fin room_1 s (fun v h => v = some (.int 1))) (T.setTop (mkF m 136 #[.val (.int i0), .val (.int i1), .val (.int i2), .val (.int i3), .val (.int i4), .val (.int i5), .val (.int bg), .val (.int tr), .val (.int lim), .val (.int (0 : Int32)), .val (.ref ob), .val (.int (own_fu (0 : Int32) lim)), .unset] []))
          refine own_aload C X at_136 rfl rfl (pc' := 138) rfl ?_
          refine own_callV C X at_138 (own_m_size l Z a0 hw ob _ n0 (own_big C X) lim pk n O_ob) O_ob.1 (hw _ (List.mem_of_getElem? (i := 31) rfl)) (hw _ (List.mem_of_getElem? (i := 32) rfl)) (hw _ (List.mem_of_getElem? (i := 34) rfl)) (hw _ (List.mem_of_getElem? (i := 33) rfl)) (hw _ (List.mem_of_getElem? (i := 7) rfl)) (hw _ (List.mem_of_getElem? (i := 35) rfl)) (by decide) own_pd_1265 rfl rfl (Nat.le_of_ble_eq_true rfl) (Nat.le_of_ble_eq_true rfl) (Nat.le_of_ble_eq_true rfl) (Nat.le_of_ble_eq_true rfl) (av := []) (S := []) rfl (pc' := 141) rfl ?_
          intro T h v X hQ
          obtain ⟨rfl, rfl⟩ := hQ
          show own_Go p e below n0 (own_Fin room_1 s (fun v h => v = some (.int 1))) (T.setTop (mkF m 141 #[.val (.int i0), .val (.int i1), .val (.int i2), .val (.int i3), .val (.int i4), .val (.int i5), .val (.int bg), .val (.int tr), .val (.int lim), .val (.int (0 : Int32)), .val (.ref ob), .val (.int (own_fu (0 : Int32) lim)), .unset] [(.int n)]))
          refine own_istore C X at_141 (L' := #[.val (.int i0), .val (.int i1), .val (.int i2), .val (.int i3), .val (.int i4), .val (.int i5), .val (.int bg), .val (.int tr), .val (.int lim), .val (.int (0 : Int32)), .val (.ref ob), .val (.int (own_fu (0 : Int32) lim)), .val (.int n)]) rfl (pc' := 143) rfl ?_
          refine own_iload C X at_143 rfl (pc' := 145) rfl ?_
          refine own_if_lt C X at_145 (pcT := 155) (pc' := 148) (by decide) (by decide) rfl (fun hc145 => absurd hc145 (fun q => absurd (Int32.lt_iff_toInt_lt.mp q) (by show ¬ (n.toInt < (0 : Int)); omega))) (fun hc145 => ?_)
          refine own_iload C X at_148 rfl (pc' := 150) rfl ?_
          refine own_iload C X at_150 rfl (pc' := 152) rfl ?_
          refine own_icmp_le C X at_152 (pcT := 157) (pc' := 155) (by decide) (by decide) rfl (fun hc152 => ?_) (fun hc152 => absurd hc152 (fun q => absurd (Int32.lt_iff_toInt_lt.mp q) (by show ¬ ((0 : Int) < n.toInt); omega)))
          refine own_aload C X at_157 rfl rfl (pc' := 159) rfl ?_
          refine own_callV C X at_159 (own_m_full l Z a0 hw ob _ n0 (own_big C X) lim pk n O_ob) O_ob.1 (hw _ (List.mem_of_getElem? (i := 24) rfl)) (hw _ (List.mem_of_getElem? (i := 25) rfl)) (hw _ (List.mem_of_getElem? (i := 27) rfl)) (hw _ (List.mem_of_getElem? (i := 26) rfl)) (hw _ (List.mem_of_getElem? (i := 7) rfl)) (hw _ (List.mem_of_getElem? (i := 28) rfl)) (by decide) own_pd_1418 rfl rfl (Nat.le_of_ble_eq_true rfl) (Nat.le_of_ble_eq_true rfl) (Nat.le_of_ble_eq_true rfl) (Nat.le_of_ble_eq_true rfl) (av := []) (S := []) rfl (pc' := 162) rfl ?_
          intro T h v X hQ
          obtain ⟨rfl, rfl⟩ := hQ
          show own_Go p e below n0 (own_Fin room_1 s (fun v h => v = some (.int 1))) (T.setTop (mkF m 162 #[.val (.int i0), .val (.int i1), .val (.int i2), .val (.int i3), .val (.int i4), .val (.int i5), .val (.int bg), .val (.int tr), .val (.int lim), .val (.int (0 : Int32)), .val (.ref ob), .val (.int (own_fu (0 : Int32) lim)), .val (.int n)] [(.int (own_fu n lim))]))
          refine own_iload C X at_162 rfl (pc' := 164) rfl ?_
          refine own_iload C X at_164 rfl (pc' := 166) rfl ?_
          refine own_icmp_ne C X at_166 (pcT := 173) (pc' := 169) (by decide) (by decide) rfl (fun hc166 => ?_) (fun hc166 => ?_)
          · refine own_iconst C X at_173 (v := 0) (by decide) (pc' := 174) rfl ?_
            refine own_icmp_eq C X at_174 (pcT := 179) (pc' := 177) (by decide) (by decide) rfl (fun hc174 => ?_) (fun hc174 => absurd hc174 (not_not_intro (by rw [own_fu]; simp only [hc166, if_true, if_false])))
            refine own_iconst C X at_179 (v := 1) (by decide) (pc' := 180) rfl ?_
            exact own_ireturn_z C X at_180 (Nat.le_of_ble_eq_true rfl) (Nat.le_of_ble_eq_true rfl) (rfl)
          · refine own_iconst C X at_169 (v := 1) (by decide) (pc' := 170) rfl ?_
            refine own_goto C X at_170 (pc' := 174) (by decide) (by decide) ?_
            refine own_icmp_eq C X at_174 (pcT := 179) (pc' := 177) (by decide) (by decide) rfl (fun hc174 => ?_) (fun hc174 => absurd hc174 (not_not_intro (by rw [own_fu]; simp only [hc166, if_true, if_false])))
            refine own_iconst C X at_179 (v := 1) (by decide) (pc' := 180) rfl ?_
            exact own_ireturn_z C X at_180 (Nat.le_of_ble_eq_true rfl) (Nat.le_of_ble_eq_true rfl) (rfl)
    · refine own_istore C X at_61 (L' := #[.val (.int i0), .val (.int i1), .val (.int i2), .val (.int i3), .val (.int i4), .val (.int i5), .val (.int bg), .val (.int tr), .val (.int lim), .val (.int (1 : Int32)), .unset, .unset, .unset]) rfl (pc' := 63) rfl ?_
      refine own_new C X at_63 (hw _ (List.mem_of_getElem? (i := 5) rfl)) (hw _ (List.mem_of_getElem? (i := 6) rfl)) (hw _ (List.mem_of_getElem? (i := 7) rfl)) (Nat.le_of_ble_eq_true rfl) (Nat.le_of_ble_eq_true rfl) [("limit", "I", (.int (0 : Int32))), ("packed", "[J", .null), ("size", "I", (.int (0 : Int32)))] (by decide) ?_ (pc' := 66) rfl ?_
      · intro f hf; simp only [List.mem_cons, List.not_mem_nil, or_false] at hf
        rcases hf with rfl | rfl | rfl
        · exact ⟨(Or.inr (hw _ (List.mem_of_getElem? (i := 15) rfl))), .int, by decide, rfl⟩
        · exact ⟨(Or.inl (hw _ (List.mem_of_getElem? (i := 19) rfl))), (.array .long), by decide, rfl⟩
        · exact ⟨(Or.inl (hw _ (List.mem_of_getElem? (i := 30) rfl))), .int, by decide, rfl⟩
      intro T h ob e_ob X K_ ge_ob O_ob
      refine own_dup C X at_66 rfl (pc' := 67) rfl ?_
      refine own_iload C X at_67 rfl (pc' := 69) rfl ?_
      have hbg := own_big C X
      refine own_callInit C X at_69 (own_m_init l Z a0 hw ob lim _ n0 hbg O_ob ge_ob hlim) rfl (hw _ (List.mem_of_getElem? (i := 8) rfl)) (hw _ (List.mem_of_getElem? (i := 9) rfl)) (hw _ (List.mem_of_getElem? (i := 7) rfl)) (hw _ (List.mem_of_getElem? (i := 10) rfl)) (by decide) own_pd_2093 rfl rfl (Nat.le_of_ble_eq_true rfl) (Nat.le_of_ble_eq_true rfl) (Nat.le_of_ble_eq_true rfl) (Nat.le_of_ble_eq_true rfl) (av := [(.int lim)]) (S := [(.ref ob)]) rfl (pc' := 72) rfl ?_
      intro T h v X hQ
      obtain ⟨rfl, pk, xs, gq_pk, K_, O_n, A, hxs⟩ := hQ
      have ne_o : ob ≠ pk := Nat.ne_of_lt (Nat.lt_of_lt_of_le O_ob.lt gq_pk)
      have ge_pk : n0 ≤ pk := Nat.le_trans hbg gq_pk
      have O_ob := O_n
      obtain ⟨nl, hnl⟩ := A.len
      show own_Go p e below n0 (own_Fin room_1 s (fun v h => v = some (.int 1))) (T.setTop (mkF m 72 #[.val (.int i0), .val (.int i1), .val (.int i2), .val (.int i3), .val (.int i4), .val (.int i5), .val (.int bg), .val (.int tr), .val (.int lim), .val (.int (1 : Int32)), .unset, .unset, .unset] [(.ref ob)]))
      refine own_astore C X at_72 rfl (L' := #[.val (.int i0), .val (.int i1), .val (.int i2), .val (.int i3), .val (.int i4), .val (.int i5), .val (.int bg), .val (.int tr), .val (.int lim), .val (.int (1 : Int32)), .val (.ref ob), .unset, .unset]) rfl (pc' := 74) rfl ?_
      refine own_aload C X at_74 rfl rfl (pc' := 76) rfl ?_
      refine own_iload C X at_76 rfl (pc' := 78) rfl ?_
      refine own_iloadN C X at_78 rfl (pc' := 79) rfl ?_
      refine own_iloadN C X at_79 rfl (pc' := 80) rfl ?_
      refine own_callS C X at_80 (own_m_addN1 l Z a0 hw ob i3 i2 _ n0 (own_big C X) lim pk xs nl hnl (hxs 1 (by decide) hkl) O_ob A ne_o ge_ob ge_pk) (hw _ (List.mem_of_getElem? (i := 20) rfl)) (hw _ (List.mem_of_getElem? (i := 21) rfl)) (hw _ (List.mem_of_getElem? (i := 22) rfl)) (hw _ (List.mem_of_getElem? (i := 23) rfl)) (by decide) own_pd_133748 rfl rfl (Nat.le_of_ble_eq_true rfl) (Nat.le_of_ble_eq_true rfl) (Nat.le_of_ble_eq_true rfl) (Nat.le_of_ble_eq_true rfl) (av := [(.ref ob), (.int (1 : Int32)), (.int i3), (.int i2)]) (S := []) rfl (pc' := 83) rfl ?_
      intro T h v X hQ
      obtain ⟨rfl, K_, O_ob, ys, A, hk⟩ := hQ
      show own_Go p e below n0 (own_Fin room_1 s (fun v h => v = some (.int 1))) (T.setTop (mkF m 83 #[.val (.int i0), .val (.int i1), .val (.int i2), .val (.int i3), .val (.int i4), .val (.int i5), .val (.int bg), .val (.int tr), .val (.int lim), .val (.int (1 : Int32)), .val (.ref ob), .unset, .unset] []))
      refine own_aload C X at_83 rfl rfl (pc' := 85) rfl ?_
      refine own_callV C X at_85 (own_m_full l Z a0 hw ob _ n0 (own_big C X) lim pk (1 : Int32) O_ob) O_ob.1 (hw _ (List.mem_of_getElem? (i := 24) rfl)) (hw _ (List.mem_of_getElem? (i := 25) rfl)) (hw _ (List.mem_of_getElem? (i := 27) rfl)) (hw _ (List.mem_of_getElem? (i := 26) rfl)) (hw _ (List.mem_of_getElem? (i := 7) rfl)) (hw _ (List.mem_of_getElem? (i := 28) rfl)) (by decide) own_pd_1418 rfl rfl (Nat.le_of_ble_eq_true rfl) (Nat.le_of_ble_eq_true rfl) (Nat.le_of_ble_eq_true rfl) (Nat.le_of_ble_eq_true rfl) (av := []) (S := []) rfl (pc' := 88) rfl ?_
      intro T h v X hQ
      obtain ⟨rfl, rfl⟩ := hQ
      show own_Go p e below n0 (own_Fin room_1 s (fun v h => v = some (.int 1))) (T.setTop (mkF m 88 #[.val (.int i0), .val (.int i1), .val (.int i2), .val (.int i3), .val (.int i4), .val (.int i5), .val (.int bg), .val (.int tr), .val (.int lim), .val (.int (1 : Int32)), .val (.ref ob), .unset, .unset] [(.int (own_fu (1 : Int32) lim))]))
      refine own_istore C X at_88 (L' := #[.val (.int i0), .val (.int i1), .val (.int i2), .val (.int i3), .val (.int i4), .val (.int i5), .val (.int bg), .val (.int tr), .val (.int lim), .val (.int (1 : Int32)), .val (.ref ob), .val (.int (own_fu (1 : Int32) lim)), .unset]) rfl (pc' := 90) rfl ?_
      refine own_iload C X at_90 rfl (pc' := 92) rfl ?_
      refine own_iload C X at_92 rfl (pc' := 94) rfl ?_
      refine own_iload C X at_94 rfl (pc' := 96) rfl ?_
      refine own_icmp_ne C X at_96 (pcT := 103) (pc' := 99) (by decide) (by decide) rfl (fun hc96 => ?_) (fun hc96 => ?_)
      · refine own_iconst C X at_103 (v := 0) (by decide) (pc' := 104) rfl ?_
        refine own_icmp_eq C X at_104 (pcT := 109) (pc' := 107) (by decide) (by decide) rfl (fun hc104 => ?_) (fun hc104 => absurd hc104 (not_not_intro (by rw [own_fu]; simp only [hc96, if_true, if_false])))
        refine own_aload C X at_109 rfl rfl (pc' := 111) rfl ?_
        refine own_callV C X at_111 (own_m_size l Z a0 hw ob _ n0 (own_big C X) lim pk (1 : Int32) O_ob) O_ob.1 (hw _ (List.mem_of_getElem? (i := 31) rfl)) (hw _ (List.mem_of_getElem? (i := 32) rfl)) (hw _ (List.mem_of_getElem? (i := 34) rfl)) (hw _ (List.mem_of_getElem? (i := 33) rfl)) (hw _ (List.mem_of_getElem? (i := 7) rfl)) (hw _ (List.mem_of_getElem? (i := 35) rfl)) (by decide) own_pd_1265 rfl rfl (Nat.le_of_ble_eq_true rfl) (Nat.le_of_ble_eq_true rfl) (Nat.le_of_ble_eq_true rfl) (Nat.le_of_ble_eq_true rfl) (av := []) (S := []) rfl (pc' := 114) rfl ?_
        intro T h v X hQ
        obtain ⟨rfl, rfl⟩ := hQ
        show own_Go p e below n0 (own_Fin room_1 s (fun v h => v = some (.int 1))) (T.setTop (mkF m 114 #[.val (.int i0), .val (.int i1), .val (.int i2), .val (.int i3), .val (.int i4), .val (.int i5), .val (.int bg), .val (.int tr), .val (.int lim), .val (.int (1 : Int32)), .val (.ref ob), .val (.int (own_fu (1 : Int32) lim)), .unset] [(.int (1 : Int32))]))
        refine own_iload C X at_114 rfl (pc' := 116) rfl ?_
        refine own_icmp_eq C X at_116 (pcT := 121) (pc' := 119) (by decide) (by decide) rfl (fun hc116 => ?_) (fun hc116 => absurd hc116 (by decide))
        refine own_iload C X at_121 rfl (pc' := 123) rfl ?_
        refine own_if_eq C X at_123 (pcT := 179) (pc' := 126) (by decide) (by decide) rfl (fun hc123 => ?_) (fun hc123 => ?_)
        · refine own_iconst C X at_179 (v := 1) (by decide) (pc' := 180) rfl ?_
          exact own_ireturn_z C X at_180 (Nat.le_of_ble_eq_true rfl) (Nat.le_of_ble_eq_true rfl) (rfl)
        · refine own_aload C X at_126 rfl rfl (pc' := 128) rfl ?_
          refine own_iload C X at_128 rfl (pc' := 130) rfl ?_
          refine own_bipush C X at_130 (v := 31) (by decide) (pc' := 132) rfl ?_
          refine own_iand C X at_132 rfl (pc' := 133) rfl ?_
          refine own_callV C X at_133 (own_m_keep1 l Z a0 hw ob (i4 &&& (31 : Int32)) _ n0 (own_big C X) lim pk ys hk O_ob A ne_o ge_ob) O_ob.1 (hw _ (List.mem_of_getElem? (i := 36) rfl)) (hw _ (List.mem_of_getElem? (i := 37) rfl)) (hw _ (List.mem_of_getElem? (i := 39) rfl)) (hw _ (List.mem_of_getElem? (i := 38) rfl)) (hw _ (List.mem_of_getElem? (i := 7) rfl)) (hw _ (List.mem_of_getElem? (i := 40) rfl)) (by decide) own_pd_2093 rfl rfl (Nat.le_of_ble_eq_true rfl) (Nat.le_of_ble_eq_true rfl) (Nat.le_of_ble_eq_true rfl) (Nat.le_of_ble_eq_true rfl) (av := [(.int (i4 &&& (31 : Int32)))]) (S := []) rfl (pc' := 136) rfl ?_
          intro T h v X hQ
          obtain ⟨rfl, n, hn1, hn2, K_, O_ob⟩ := hQ
          have A := A.keep K_ (ninS (Ne.symm ne_o) nin0)
          show own_Go p e below n0 (own_Fin room_1 s (fun v h => v = some (.int 1))) (T.setTop (mkF m 136 #[.val (.int i0), .val (.int i1), .val (.int i2), .val (.int i3), .val (.int i4), .val (.int i5), .val (.int bg), .val (.int tr), .val (.int lim), .val (.int (1 : Int32)), .val (.ref ob), .val (.int (own_fu (1 : Int32) lim)), .unset] []))
          refine own_aload C X at_136 rfl rfl (pc' := 138) rfl ?_
          refine own_callV C X at_138 (own_m_size l Z a0 hw ob _ n0 (own_big C X) lim pk n O_ob) O_ob.1 (hw _ (List.mem_of_getElem? (i := 31) rfl)) (hw _ (List.mem_of_getElem? (i := 32) rfl)) (hw _ (List.mem_of_getElem? (i := 34) rfl)) (hw _ (List.mem_of_getElem? (i := 33) rfl)) (hw _ (List.mem_of_getElem? (i := 7) rfl)) (hw _ (List.mem_of_getElem? (i := 35) rfl)) (by decide) own_pd_1265 rfl rfl (Nat.le_of_ble_eq_true rfl) (Nat.le_of_ble_eq_true rfl) (Nat.le_of_ble_eq_true rfl) (Nat.le_of_ble_eq_true rfl) (av := []) (S := []) rfl (pc' := 141) rfl ?_
          intro T h v X hQ
          obtain ⟨rfl, rfl⟩ := hQ
          show own_Go p e below n0 (own_Fin room_1 s (fun v h => v = some (.int 1))) (T.setTop (mkF m 141 #[.val (.int i0), .val (.int i1), .val (.int i2), .val (.int i3), .val (.int i4), .val (.int i5), .val (.int bg), .val (.int tr), .val (.int lim), .val (.int (1 : Int32)), .val (.ref ob), .val (.int (own_fu (1 : Int32) lim)), .unset] [(.int n)]))
          refine own_istore C X at_141 (L' := #[.val (.int i0), .val (.int i1), .val (.int i2), .val (.int i3), .val (.int i4), .val (.int i5), .val (.int bg), .val (.int tr), .val (.int lim), .val (.int (1 : Int32)), .val (.ref ob), .val (.int (own_fu (1 : Int32) lim)), .val (.int n)]) rfl (pc' := 143) rfl ?_
          refine own_iload C X at_143 rfl (pc' := 145) rfl ?_
          refine own_if_lt C X at_145 (pcT := 155) (pc' := 148) (by decide) (by decide) rfl (fun hc145 => absurd hc145 (fun q => absurd (Int32.lt_iff_toInt_lt.mp q) (by show ¬ (n.toInt < (0 : Int)); omega))) (fun hc145 => ?_)
          refine own_iload C X at_148 rfl (pc' := 150) rfl ?_
          refine own_iload C X at_150 rfl (pc' := 152) rfl ?_
          refine own_icmp_le C X at_152 (pcT := 157) (pc' := 155) (by decide) (by decide) rfl (fun hc152 => ?_) (fun hc152 => absurd hc152 (fun q => absurd (Int32.lt_iff_toInt_lt.mp q) (by show ¬ ((1 : Int) < n.toInt); omega)))
          refine own_aload C X at_157 rfl rfl (pc' := 159) rfl ?_
          refine own_callV C X at_159 (own_m_full l Z a0 hw ob _ n0 (own_big C X) lim pk n O_ob) O_ob.1 (hw _ (List.mem_of_getElem? (i := 24) rfl)) (hw _ (List.mem_of_getElem? (i := 25) rfl)) (hw _ (List.mem_of_getElem? (i := 27) rfl)) (hw _ (List.mem_of_getElem? (i := 26) rfl)) (hw _ (List.mem_of_getElem? (i := 7) rfl)) (hw _ (List.mem_of_getElem? (i := 28) rfl)) (by decide) own_pd_1418 rfl rfl (Nat.le_of_ble_eq_true rfl) (Nat.le_of_ble_eq_true rfl) (Nat.le_of_ble_eq_true rfl) (Nat.le_of_ble_eq_true rfl) (av := []) (S := []) rfl (pc' := 162) rfl ?_
          intro T h v X hQ
          obtain ⟨rfl, rfl⟩ := hQ
          show own_Go p e below n0 (own_Fin room_1 s (fun v h => v = some (.int 1))) (T.setTop (mkF m 162 #[.val (.int i0), .val (.int i1), .val (.int i2), .val (.int i3), .val (.int i4), .val (.int i5), .val (.int bg), .val (.int tr), .val (.int lim), .val (.int (1 : Int32)), .val (.ref ob), .val (.int (own_fu (1 : Int32) lim)), .val (.int n)] [(.int (own_fu n lim))]))
          refine own_iload C X at_162 rfl (pc' := 164) rfl ?_
          refine own_iload C X at_164 rfl (pc' := 166) rfl ?_
          refine own_icmp_ne C X at_166 (pcT := 173) (pc' := 169) (by decide) (by decide) rfl (fun hc166 => ?_) (fun hc166 => ?_)
          · refine own_iconst C X at_173 (v := 0) (by decide) (pc' := 174) rfl ?_
            refine own_icmp_eq C X at_174 (pcT := 179) (pc' := 177) (by decide) (by decide) rfl (fun hc174 => ?_) (fun hc174 => absurd hc174 (not_not_intro (by rw [own_fu]; simp only [hc166, if_true, if_false])))
            refine own_iconst C X at_179 (v := 1) (by decide) (pc' := 180) rfl ?_
            exact own_ireturn_z C X at_180 (Nat.le_of_ble_eq_true rfl) (Nat.le_of_ble_eq_true rfl) (rfl)
          · refine own_iconst C X at_169 (v := 1) (by decide) (pc' := 170) rfl ?_
            refine own_goto C X at_170 (pc' := 174) (by decide) (by decide) ?_
            refine own_icmp_eq C X at_174 (pcT := 179) (pc' := 177) (by decide) (by decide) rfl (fun hc174 => ?_) (fun hc174 => absurd hc174 (not_not_intro (by rw [own_fu]; simp only [hc166, if_true, if_false])))
            refine own_iconst C X at_179 (v := 1) (by decide) (pc' := 180) rfl ?_
            exact own_ireturn_z C X at_180 (Nat.le_of_ble_eq_true rfl) (Nat.le_of_ble_eq_true rfl) (rfl)
      · refine own_iconst C X at_99 (v := 1) (by decide) (pc' := 100) rfl ?_
        refine own_goto C X at_100 (pc' := 104) (by decide) (by decide) ?_
        refine own_icmp_eq C X at_104 (pcT := 109) (pc' := 107) (by decide) (by decide) rfl (fun hc104 => ?_) (fun hc104 => absurd hc104 (not_not_intro (by rw [own_fu]; simp only [hc96, if_true, if_false])))
        refine own_aload C X at_109 rfl rfl (pc' := 111) rfl ?_
        refine own_callV C X at_111 (own_m_size l Z a0 hw ob _ n0 (own_big C X) lim pk (1 : Int32) O_ob) O_ob.1 (hw _ (List.mem_of_getElem? (i := 31) rfl)) (hw _ (List.mem_of_getElem? (i := 32) rfl)) (hw _ (List.mem_of_getElem? (i := 34) rfl)) (hw _ (List.mem_of_getElem? (i := 33) rfl)) (hw _ (List.mem_of_getElem? (i := 7) rfl)) (hw _ (List.mem_of_getElem? (i := 35) rfl)) (by decide) own_pd_1265 rfl rfl (Nat.le_of_ble_eq_true rfl) (Nat.le_of_ble_eq_true rfl) (Nat.le_of_ble_eq_true rfl) (Nat.le_of_ble_eq_true rfl) (av := []) (S := []) rfl (pc' := 114) rfl ?_
        intro T h v X hQ
        obtain ⟨rfl, rfl⟩ := hQ
        show own_Go p e below n0 (own_Fin room_1 s (fun v h => v = some (.int 1))) (T.setTop (mkF m 114 #[.val (.int i0), .val (.int i1), .val (.int i2), .val (.int i3), .val (.int i4), .val (.int i5), .val (.int bg), .val (.int tr), .val (.int lim), .val (.int (1 : Int32)), .val (.ref ob), .val (.int (own_fu (1 : Int32) lim)), .unset] [(.int (1 : Int32))]))
        refine own_iload C X at_114 rfl (pc' := 116) rfl ?_
        refine own_icmp_eq C X at_116 (pcT := 121) (pc' := 119) (by decide) (by decide) rfl (fun hc116 => ?_) (fun hc116 => absurd hc116 (by decide))
        refine own_iload C X at_121 rfl (pc' := 123) rfl ?_
        refine own_if_eq C X at_123 (pcT := 179) (pc' := 126) (by decide) (by decide) rfl (fun hc123 => ?_) (fun hc123 => ?_)
        · refine own_iconst C X at_179 (v := 1) (by decide) (pc' := 180) rfl ?_
          exact own_ireturn_z C X at_180 (Nat.le_of_ble_eq_true rfl) (Nat.le_of_ble_eq_true rfl) (rfl)
        · refine own_aload C X at_126 rfl rfl (pc' := 128) rfl ?_
          refine own_iload C X at_128 rfl (pc' := 130) rfl ?_
          refine own_bipush C X at_130 (v := 31) (by decide) (pc' := 132) rfl ?_
          refine own_iand C X at_132 rfl (pc' := 133) rfl ?_
          refine own_callV C X at_133 (own_m_keep1 l Z a0 hw ob (i4 &&& (31 : Int32)) _ n0 (own_big C X) lim pk ys hk O_ob A ne_o ge_ob) O_ob.1 (hw _ (List.mem_of_getElem? (i := 36) rfl)) (hw _ (List.mem_of_getElem? (i := 37) rfl)) (hw _ (List.mem_of_getElem? (i := 39) rfl)) (hw _ (List.mem_of_getElem? (i := 38) rfl)) (hw _ (List.mem_of_getElem? (i := 7) rfl)) (hw _ (List.mem_of_getElem? (i := 40) rfl)) (by decide) own_pd_2093 rfl rfl (Nat.le_of_ble_eq_true rfl) (Nat.le_of_ble_eq_true rfl) (Nat.le_of_ble_eq_true rfl) (Nat.le_of_ble_eq_true rfl) (av := [(.int (i4 &&& (31 : Int32)))]) (S := []) rfl (pc' := 136) rfl ?_
          intro T h v X hQ
          obtain ⟨rfl, n, hn1, hn2, K_, O_ob⟩ := hQ
          have A := A.keep K_ (ninS (Ne.symm ne_o) nin0)
          show own_Go p e below n0 (own_Fin room_1 s (fun v h => v = some (.int 1))) (T.setTop (mkF m 136 #[.val (.int i0), .val (.int i1), .val (.int i2), .val (.int i3), .val (.int i4), .val (.int i5), .val (.int bg), .val (.int tr), .val (.int lim), .val (.int (1 : Int32)), .val (.ref ob), .val (.int (own_fu (1 : Int32) lim)), .unset] []))
          refine own_aload C X at_136 rfl rfl (pc' := 138) rfl ?_
          refine own_callV C X at_138 (own_m_size l Z a0 hw ob _ n0 (own_big C X) lim pk n O_ob) O_ob.1 (hw _ (List.mem_of_getElem? (i := 31) rfl)) (hw _ (List.mem_of_getElem? (i := 32) rfl)) (hw _ (List.mem_of_getElem? (i := 34) rfl)) (hw _ (List.mem_of_getElem? (i := 33) rfl)) (hw _ (List.mem_of_getElem? (i := 7) rfl)) (hw _ (List.mem_of_getElem? (i := 35) rfl)) (by decide) own_pd_1265 rfl rfl (Nat.le_of_ble_eq_true rfl) (Nat.le_of_ble_eq_true rfl) (Nat.le_of_ble_eq_true rfl) (Nat.le_of_ble_eq_true rfl) (av := []) (S := []) rfl (pc' := 141) rfl ?_
          intro T h v X hQ
          obtain ⟨rfl, rfl⟩ := hQ
          show own_Go p e below n0 (own_Fin room_1 s (fun v h => v = some (.int 1))) (T.setTop (mkF m 141 #[.val (.int i0), .val (.int i1), .val (.int i2), .val (.int i3), .val (.int i4), .val (.int i5), .val (.int bg), .val (.int tr), .val (.int lim), .val (.int (1 : Int32)), .val (.ref ob), .val (.int (own_fu (1 : Int32) lim)), .unset] [(.int n)]))
          refine own_istore C X at_141 (L' := #[.val (.int i0), .val (.int i1), .val (.int i2), .val (.int i3), .val (.int i4), .val (.int i5), .val (.int bg), .val (.int tr), .val (.int lim), .val (.int (1 : Int32)), .val (.ref ob), .val (.int (own_fu (1 : Int32) lim)), .val (.int n)]) rfl (pc' := 143) rfl ?_
          refine own_iload C X at_143 rfl (pc' := 145) rfl ?_
          refine own_if_lt C X at_145 (pcT := 155) (pc' := 148) (by decide) (by decide) rfl (fun hc145 => absurd hc145 (fun q => absurd (Int32.lt_iff_toInt_lt.mp q) (by show ¬ (n.toInt < (0 : Int)); omega))) (fun hc145 => ?_)
          refine own_iload C X at_148 rfl (pc' := 150) rfl ?_
          refine own_iload C X at_150 rfl (pc' := 152) rfl ?_
          refine own_icmp_le C X at_152 (pcT := 157) (pc' := 155) (by decide) (by decide) rfl (fun hc152 => ?_) (fun hc152 => absurd hc152 (fun q => absurd (Int32.lt_iff_toInt_lt.mp q) (by show ¬ ((1 : Int) < n.toInt); omega)))
          refine own_aload C X at_157 rfl rfl (pc' := 159) rfl ?_
          refine own_callV C X at_159 (own_m_full l Z a0 hw ob _ n0 (own_big C X) lim pk n O_ob) O_ob.1 (hw _ (List.mem_of_getElem? (i := 24) rfl)) (hw _ (List.mem_of_getElem? (i := 25) rfl)) (hw _ (List.mem_of_getElem? (i := 27) rfl)) (hw _ (List.mem_of_getElem? (i := 26) rfl)) (hw _ (List.mem_of_getElem? (i := 7) rfl)) (hw _ (List.mem_of_getElem? (i := 28) rfl)) (by decide) own_pd_1418 rfl rfl (Nat.le_of_ble_eq_true rfl) (Nat.le_of_ble_eq_true rfl) (Nat.le_of_ble_eq_true rfl) (Nat.le_of_ble_eq_true rfl) (av := []) (S := []) rfl (pc' := 162) rfl ?_
          intro T h v X hQ
          obtain ⟨rfl, rfl⟩ := hQ
          show own_Go p e below n0 (own_Fin room_1 s (fun v h => v = some (.int 1))) (T.setTop (mkF m 162 #[.val (.int i0), .val (.int i1), .val (.int i2), .val (.int i3), .val (.int i4), .val (.int i5), .val (.int bg), .val (.int tr), .val (.int lim), .val (.int (1 : Int32)), .val (.ref ob), .val (.int (own_fu (1 : Int32) lim)), .val (.int n)] [(.int (own_fu n lim))]))
          refine own_iload C X at_162 rfl (pc' := 164) rfl ?_
          refine own_iload C X at_164 rfl (pc' := 166) rfl ?_
          refine own_icmp_ne C X at_166 (pcT := 173) (pc' := 169) (by decide) (by decide) rfl (fun hc166 => ?_) (fun hc166 => ?_)
          · refine own_iconst C X at_173 (v := 0) (by decide) (pc' := 174) rfl ?_
            refine own_icmp_eq C X at_174 (pcT := 179) (pc' := 177) (by decide) (by decide) rfl (fun hc174 => ?_) (fun hc174 => absurd hc174 (not_not_intro (by rw [own_fu]; simp only [hc166, if_true, if_false])))
            refine own_iconst C X at_179 (v := 1) (by decide) (pc' := 180) rfl ?_
            exact own_ireturn_z C X at_180 (Nat.le_of_ble_eq_true rfl) (Nat.le_of_ble_eq_true rfl) (rfl)
          · refine own_iconst C X at_169 (v := 1) (by decide) (pc' := 170) rfl ?_
            refine own_goto C X at_170 (pc' := 174) (by decide) (by decide) ?_
            refine own_icmp_eq C X at_174 (pcT := 179) (pc' := 177) (by decide) (by decide) rfl (fun hc174 => ?_) (fun hc174 => absurd hc174 (not_not_intro (by rw [own_fu]; simp only [hc166, if_true, if_false])))
            refine own_iconst C X at_179 (v := 1) (by decide) (pc' := 180) rfl ?_
            exact own_ireturn_z C X at_180 (Nat.le_of_ble_eq_true rfl) (Nat.le_of_ble_eq_true rfl) (rfl)
    · refine own_istore C X at_61 (L' := #[.val (.int i0), .val (.int i1), .val (.int i2), .val (.int i3), .val (.int i4), .val (.int i5), .val (.int bg), .val (.int tr), .val (.int lim), .val (.int (2 : Int32)), .unset, .unset, .unset]) rfl (pc' := 63) rfl ?_
      refine own_new C X at_63 (hw _ (List.mem_of_getElem? (i := 5) rfl)) (hw _ (List.mem_of_getElem? (i := 6) rfl)) (hw _ (List.mem_of_getElem? (i := 7) rfl)) (Nat.le_of_ble_eq_true rfl) (Nat.le_of_ble_eq_true rfl) [("limit", "I", (.int (0 : Int32))), ("packed", "[J", .null), ("size", "I", (.int (0 : Int32)))] (by decide) ?_ (pc' := 66) rfl ?_
      · intro f hf; simp only [List.mem_cons, List.not_mem_nil, or_false] at hf
        rcases hf with rfl | rfl | rfl
        · exact ⟨(Or.inr (hw _ (List.mem_of_getElem? (i := 15) rfl))), .int, by decide, rfl⟩
        · exact ⟨(Or.inl (hw _ (List.mem_of_getElem? (i := 19) rfl))), (.array .long), by decide, rfl⟩
        · exact ⟨(Or.inl (hw _ (List.mem_of_getElem? (i := 30) rfl))), .int, by decide, rfl⟩
      intro T h ob e_ob X K_ ge_ob O_ob
      refine own_dup C X at_66 rfl (pc' := 67) rfl ?_
      refine own_iload C X at_67 rfl (pc' := 69) rfl ?_
      have hbg := own_big C X
      refine own_callInit C X at_69 (own_m_init l Z a0 hw ob lim _ n0 hbg O_ob ge_ob hlim) rfl (hw _ (List.mem_of_getElem? (i := 8) rfl)) (hw _ (List.mem_of_getElem? (i := 9) rfl)) (hw _ (List.mem_of_getElem? (i := 7) rfl)) (hw _ (List.mem_of_getElem? (i := 10) rfl)) (by decide) own_pd_2093 rfl rfl (Nat.le_of_ble_eq_true rfl) (Nat.le_of_ble_eq_true rfl) (Nat.le_of_ble_eq_true rfl) (Nat.le_of_ble_eq_true rfl) (av := [(.int lim)]) (S := [(.ref ob)]) rfl (pc' := 72) rfl ?_
      intro T h v X hQ
      obtain ⟨rfl, pk, xs, gq_pk, K_, O_n, A, hxs⟩ := hQ
      have ne_o : ob ≠ pk := Nat.ne_of_lt (Nat.lt_of_lt_of_le O_ob.lt gq_pk)
      have ge_pk : n0 ≤ pk := Nat.le_trans hbg gq_pk
      have O_ob := O_n
      obtain ⟨nl, hnl⟩ := A.len
      show own_Go p e below n0 (own_Fin room_1 s (fun v h => v = some (.int 1))) (T.setTop (mkF m 72 #[.val (.int i0), .val (.int i1), .val (.int i2), .val (.int i3), .val (.int i4), .val (.int i5), .val (.int bg), .val (.int tr), .val (.int lim), .val (.int (2 : Int32)), .unset, .unset, .unset] [(.ref ob)]))
      refine own_astore C X at_72 rfl (L' := #[.val (.int i0), .val (.int i1), .val (.int i2), .val (.int i3), .val (.int i4), .val (.int i5), .val (.int bg), .val (.int tr), .val (.int lim), .val (.int (2 : Int32)), .val (.ref ob), .unset, .unset]) rfl (pc' := 74) rfl ?_
      refine own_aload C X at_74 rfl rfl (pc' := 76) rfl ?_
      refine own_iload C X at_76 rfl (pc' := 78) rfl ?_
      refine own_iloadN C X at_78 rfl (pc' := 79) rfl ?_
      refine own_iloadN C X at_79 rfl (pc' := 80) rfl ?_
      refine own_callS C X at_80 (own_m_addN2 l Z a0 hw ob i3 i2 _ n0 (own_big C X) lim pk xs nl hnl (hxs 2 (by decide) hkl) O_ob A ne_o ge_ob ge_pk) (hw _ (List.mem_of_getElem? (i := 20) rfl)) (hw _ (List.mem_of_getElem? (i := 21) rfl)) (hw _ (List.mem_of_getElem? (i := 22) rfl)) (hw _ (List.mem_of_getElem? (i := 23) rfl)) (by decide) own_pd_133748 rfl rfl (Nat.le_of_ble_eq_true rfl) (Nat.le_of_ble_eq_true rfl) (Nat.le_of_ble_eq_true rfl) (Nat.le_of_ble_eq_true rfl) (av := [(.ref ob), (.int (2 : Int32)), (.int i3), (.int i2)]) (S := []) rfl (pc' := 83) rfl ?_
      intro T h v X hQ
      obtain ⟨rfl, K_, O_ob, ys, A, hk⟩ := hQ
      show own_Go p e below n0 (own_Fin room_1 s (fun v h => v = some (.int 1))) (T.setTop (mkF m 83 #[.val (.int i0), .val (.int i1), .val (.int i2), .val (.int i3), .val (.int i4), .val (.int i5), .val (.int bg), .val (.int tr), .val (.int lim), .val (.int (2 : Int32)), .val (.ref ob), .unset, .unset] []))
      refine own_aload C X at_83 rfl rfl (pc' := 85) rfl ?_
      refine own_callV C X at_85 (own_m_full l Z a0 hw ob _ n0 (own_big C X) lim pk (2 : Int32) O_ob) O_ob.1 (hw _ (List.mem_of_getElem? (i := 24) rfl)) (hw _ (List.mem_of_getElem? (i := 25) rfl)) (hw _ (List.mem_of_getElem? (i := 27) rfl)) (hw _ (List.mem_of_getElem? (i := 26) rfl)) (hw _ (List.mem_of_getElem? (i := 7) rfl)) (hw _ (List.mem_of_getElem? (i := 28) rfl)) (by decide) own_pd_1418 rfl rfl (Nat.le_of_ble_eq_true rfl) (Nat.le_of_ble_eq_true rfl) (Nat.le_of_ble_eq_true rfl) (Nat.le_of_ble_eq_true rfl) (av := []) (S := []) rfl (pc' := 88) rfl ?_
      intro T h v X hQ
      obtain ⟨rfl, rfl⟩ := hQ
      show own_Go p e below n0 (own_Fin room_1 s (fun v h => v = some (.int 1))) (T.setTop (mkF m 88 #[.val (.int i0), .val (.int i1), .val (.int i2), .val (.int i3), .val (.int i4), .val (.int i5), .val (.int bg), .val (.int tr), .val (.int lim), .val (.int (2 : Int32)), .val (.ref ob), .unset, .unset] [(.int (own_fu (2 : Int32) lim))]))
      refine own_istore C X at_88 (L' := #[.val (.int i0), .val (.int i1), .val (.int i2), .val (.int i3), .val (.int i4), .val (.int i5), .val (.int bg), .val (.int tr), .val (.int lim), .val (.int (2 : Int32)), .val (.ref ob), .val (.int (own_fu (2 : Int32) lim)), .unset]) rfl (pc' := 90) rfl ?_
      refine own_iload C X at_90 rfl (pc' := 92) rfl ?_
      refine own_iload C X at_92 rfl (pc' := 94) rfl ?_
      refine own_iload C X at_94 rfl (pc' := 96) rfl ?_
      refine own_icmp_ne C X at_96 (pcT := 103) (pc' := 99) (by decide) (by decide) rfl (fun hc96 => ?_) (fun hc96 => ?_)
      · refine own_iconst C X at_103 (v := 0) (by decide) (pc' := 104) rfl ?_
        refine own_icmp_eq C X at_104 (pcT := 109) (pc' := 107) (by decide) (by decide) rfl (fun hc104 => ?_) (fun hc104 => absurd hc104 (not_not_intro (by rw [own_fu]; simp only [hc96, if_true, if_false])))
        refine own_aload C X at_109 rfl rfl (pc' := 111) rfl ?_
        refine own_callV C X at_111 (own_m_size l Z a0 hw ob _ n0 (own_big C X) lim pk (2 : Int32) O_ob) O_ob.1 (hw _ (List.mem_of_getElem? (i := 31) rfl)) (hw _ (List.mem_of_getElem? (i := 32) rfl)) (hw _ (List.mem_of_getElem? (i := 34) rfl)) (hw _ (List.mem_of_getElem? (i := 33) rfl)) (hw _ (List.mem_of_getElem? (i := 7) rfl)) (hw _ (List.mem_of_getElem? (i := 35) rfl)) (by decide) own_pd_1265 rfl rfl (Nat.le_of_ble_eq_true rfl) (Nat.le_of_ble_eq_true rfl) (Nat.le_of_ble_eq_true rfl) (Nat.le_of_ble_eq_true rfl) (av := []) (S := []) rfl (pc' := 114) rfl ?_
        intro T h v X hQ
        obtain ⟨rfl, rfl⟩ := hQ
        show own_Go p e below n0 (own_Fin room_1 s (fun v h => v = some (.int 1))) (T.setTop (mkF m 114 #[.val (.int i0), .val (.int i1), .val (.int i2), .val (.int i3), .val (.int i4), .val (.int i5), .val (.int bg), .val (.int tr), .val (.int lim), .val (.int (2 : Int32)), .val (.ref ob), .val (.int (own_fu (2 : Int32) lim)), .unset] [(.int (2 : Int32))]))
        refine own_iload C X at_114 rfl (pc' := 116) rfl ?_
        refine own_icmp_eq C X at_116 (pcT := 121) (pc' := 119) (by decide) (by decide) rfl (fun hc116 => ?_) (fun hc116 => absurd hc116 (by decide))
        refine own_iload C X at_121 rfl (pc' := 123) rfl ?_
        refine own_if_eq C X at_123 (pcT := 179) (pc' := 126) (by decide) (by decide) rfl (fun hc123 => ?_) (fun hc123 => ?_)
        · refine own_iconst C X at_179 (v := 1) (by decide) (pc' := 180) rfl ?_
          exact own_ireturn_z C X at_180 (Nat.le_of_ble_eq_true rfl) (Nat.le_of_ble_eq_true rfl) (rfl)
        · refine own_aload C X at_126 rfl rfl (pc' := 128) rfl ?_
          refine own_iload C X at_128 rfl (pc' := 130) rfl ?_
          refine own_bipush C X at_130 (v := 31) (by decide) (pc' := 132) rfl ?_
          refine own_iand C X at_132 rfl (pc' := 133) rfl ?_
          refine own_callV C X at_133 (own_m_keep2 l Z a0 hw ob (i4 &&& (31 : Int32)) _ n0 (own_big C X) lim pk ys hk O_ob A ne_o ge_ob) O_ob.1 (hw _ (List.mem_of_getElem? (i := 36) rfl)) (hw _ (List.mem_of_getElem? (i := 37) rfl)) (hw _ (List.mem_of_getElem? (i := 39) rfl)) (hw _ (List.mem_of_getElem? (i := 38) rfl)) (hw _ (List.mem_of_getElem? (i := 7) rfl)) (hw _ (List.mem_of_getElem? (i := 40) rfl)) (by decide) own_pd_2093 rfl rfl (Nat.le_of_ble_eq_true rfl) (Nat.le_of_ble_eq_true rfl) (Nat.le_of_ble_eq_true rfl) (Nat.le_of_ble_eq_true rfl) (av := [(.int (i4 &&& (31 : Int32)))]) (S := []) rfl (pc' := 136) rfl ?_
          intro T h v X hQ
          obtain ⟨rfl, n, hn1, hn2, K_, O_ob⟩ := hQ
          have A := A.keep K_ (ninS (Ne.symm ne_o) nin0)
          show own_Go p e below n0 (own_Fin room_1 s (fun v h => v = some (.int 1))) (T.setTop (mkF m 136 #[.val (.int i0), .val (.int i1), .val (.int i2), .val (.int i3), .val (.int i4), .val (.int i5), .val (.int bg), .val (.int tr), .val (.int lim), .val (.int (2 : Int32)), .val (.ref ob), .val (.int (own_fu (2 : Int32) lim)), .unset] []))
          refine own_aload C X at_136 rfl rfl (pc' := 138) rfl ?_
          refine own_callV C X at_138 (own_m_size l Z a0 hw ob _ n0 (own_big C X) lim pk n O_ob) O_ob.1 (hw _ (List.mem_of_getElem? (i := 31) rfl)) (hw _ (List.mem_of_getElem? (i := 32) rfl)) (hw _ (List.mem_of_getElem? (i := 34) rfl)) (hw _ (List.mem_of_getElem? (i := 33) rfl)) (hw _ (List.mem_of_getElem? (i := 7) rfl)) (hw _ (List.mem_of_getElem? (i := 35) rfl)) (by decide) own_pd_1265 rfl rfl (Nat.le_of_ble_eq_true rfl) (Nat.le_of_ble_eq_true rfl) (Nat.le_of_ble_eq_true rfl) (Nat.le_of_ble_eq_true rfl) (av := []) (S := []) rfl (pc' := 141) rfl ?_
          intro T h v X hQ
          obtain ⟨rfl, rfl⟩ := hQ
          show own_Go p e below n0 (own_Fin room_1 s (fun v h => v = some (.int 1))) (T.setTop (mkF m 141 #[.val (.int i0), .val (.int i1), .val (.int i2), .val (.int i3), .val (.int i4), .val (.int i5), .val (.int bg), .val (.int tr), .val (.int lim), .val (.int (2 : Int32)), .val (.ref ob), .val (.int (own_fu (2 : Int32) lim)), .unset] [(.int n)]))
          refine own_istore C X at_141 (L' := #[.val (.int i0), .val (.int i1), .val (.int i2), .val (.int i3), .val (.int i4), .val (.int i5), .val (.int bg), .val (.int tr), .val (.int lim), .val (.int (2 : Int32)), .val (.ref ob), .val (.int (own_fu (2 : Int32) lim)), .val (.int n)]) rfl (pc' := 143) rfl ?_
          refine own_iload C X at_143 rfl (pc' := 145) rfl ?_
          refine own_if_lt C X at_145 (pcT := 155) (pc' := 148) (by decide) (by decide) rfl (fun hc145 => absurd hc145 (fun q => absurd (Int32.lt_iff_toInt_lt.mp q) (by show ¬ (n.toInt < (0 : Int)); omega))) (fun hc145 => ?_)
          refine own_iload C X at_148 rfl (pc' := 150) rfl ?_
          refine own_iload C X at_150 rfl (pc' := 152) rfl ?_
          refine own_icmp_le C X at_152 (pcT := 157) (pc' := 155) (by decide) (by decide) rfl (fun hc152 => ?_) (fun hc152 => absurd hc152 (fun q => absurd (Int32.lt_iff_toInt_lt.mp q) (by show ¬ ((2 : Int) < n.toInt); omega)))
          refine own_aload C X at_157 rfl rfl (pc' := 159) rfl ?_
          refine own_callV C X at_159 (own_m_full l Z a0 hw ob _ n0 (own_big C X) lim pk n O_ob) O_ob.1 (hw _ (List.mem_of_getElem? (i := 24) rfl)) (hw _ (List.mem_of_getElem? (i := 25) rfl)) (hw _ (List.mem_of_getElem? (i := 27) rfl)) (hw _ (List.mem_of_getElem? (i := 26) rfl)) (hw _ (List.mem_of_getElem? (i := 7) rfl)) (hw _ (List.mem_of_getElem? (i := 28) rfl)) (by decide) own_pd_1418 rfl rfl (Nat.le_of_ble_eq_true rfl) (Nat.le_of_ble_eq_true rfl) (Nat.le_of_ble_eq_true rfl) (Nat.le_of_ble_eq_true rfl) (av := []) (S := []) rfl (pc' := 162) rfl ?_
          intro T h v X hQ
          obtain ⟨rfl, rfl⟩ := hQ
          show own_Go p e below n0 (own_Fin room_1 s (fun v h => v = some (.int 1))) (T.setTop (mkF m 162 #[.val (.int i0), .val (.int i1), .val (.int i2), .val (.int i3), .val (.int i4), .val (.int i5), .val (.int bg), .val (.int tr), .val (.int lim), .val (.int (2 : Int32)), .val (.ref ob), .val (.int (own_fu (2 : Int32) lim)), .val (.int n)] [(.int (own_fu n lim))]))
          refine own_iload C X at_162 rfl (pc' := 164) rfl ?_
          refine own_iload C X at_164 rfl (pc' := 166) rfl ?_
          refine own_icmp_ne C X at_166 (pcT := 173) (pc' := 169) (by decide) (by decide) rfl (fun hc166 => ?_) (fun hc166 => ?_)
          · refine own_iconst C X at_173 (v := 0) (by decide) (pc' := 174) rfl ?_
            refine own_icmp_eq C X at_174 (pcT := 179) (pc' := 177) (by decide) (by decide) rfl (fun hc174 => ?_) (fun hc174 => absurd hc174 (not_not_intro (by rw [own_fu]; simp only [hc166, if_true, if_false])))
            refine own_iconst C X at_179 (v := 1) (by decide) (pc' := 180) rfl ?_
            exact own_ireturn_z C X at_180 (Nat.le_of_ble_eq_true rfl) (Nat.le_of_ble_eq_true rfl) (rfl)
          · refine own_iconst C X at_169 (v := 1) (by decide) (pc' := 170) rfl ?_
            refine own_goto C X at_170 (pc' := 174) (by decide) (by decide) ?_
            refine own_icmp_eq C X at_174 (pcT := 179) (pc' := 177) (by decide) (by decide) rfl (fun hc174 => ?_) (fun hc174 => absurd hc174 (not_not_intro (by rw [own_fu]; simp only [hc166, if_true, if_false])))
            refine own_iconst C X at_179 (v := 1) (by decide) (pc' := 180) rfl ?_
            exact own_ireturn_z C X at_180 (Nat.le_of_ble_eq_true rfl) (Nat.le_of_ble_eq_true rfl) (rfl)
      · refine own_iconst C X at_99 (v := 1) (by decide) (pc' := 100) rfl ?_
        refine own_goto C X at_100 (pc' := 104) (by decide) (by decide) ?_
        refine own_icmp_eq C X at_104 (pcT := 109) (pc' := 107) (by decide) (by decide) rfl (fun hc104 => ?_) (fun hc104 => absurd hc104 (not_not_intro (by rw [own_fu]; simp only [hc96, if_true, if_false])))
        refine own_aload C X at_109 rfl rfl (pc' := 111) rfl ?_
        refine own_callV C X at_111 (own_m_size l Z a0 hw ob _ n0 (own_big C X) lim pk (2 : Int32) O_ob) O_ob.1 (hw _ (List.mem_of_getElem? (i := 31) rfl)) (hw _ (List.mem_of_getElem? (i := 32) rfl)) (hw _ (List.mem_of_getElem? (i := 34) rfl)) (hw _ (List.mem_of_getElem? (i := 33) rfl)) (hw _ (List.mem_of_getElem? (i := 7) rfl)) (hw _ (List.mem_of_getElem? (i := 35) rfl)) (by decide) own_pd_1265 rfl rfl (Nat.le_of_ble_eq_true rfl) (Nat.le_of_ble_eq_true rfl) (Nat.le_of_ble_eq_true rfl) (Nat.le_of_ble_eq_true rfl) (av := []) (S := []) rfl (pc' := 114) rfl ?_
        intro T h v X hQ
        obtain ⟨rfl, rfl⟩ := hQ
        show own_Go p e below n0 (own_Fin room_1 s (fun v h => v = some (.int 1))) (T.setTop (mkF m 114 #[.val (.int i0), .val (.int i1), .val (.int i2), .val (.int i3), .val (.int i4), .val (.int i5), .val (.int bg), .val (.int tr), .val (.int lim), .val (.int (2 : Int32)), .val (.ref ob), .val (.int (own_fu (2 : Int32) lim)), .unset] [(.int (2 : Int32))]))
        refine own_iload C X at_114 rfl (pc' := 116) rfl ?_
        refine own_icmp_eq C X at_116 (pcT := 121) (pc' := 119) (by decide) (by decide) rfl (fun hc116 => ?_) (fun hc116 => absurd hc116 (by decide))
        refine own_iload C X at_121 rfl (pc' := 123) rfl ?_
        refine own_if_eq C X at_123 (pcT := 179) (pc' := 126) (by decide) (by decide) rfl (fun hc123 => ?_) (fun hc123 => ?_)
        · refine own_iconst C X at_179 (v := 1) (by decide) (pc' := 180) rfl ?_
          exact own_ireturn_z C X at_180 (Nat.le_of_ble_eq_true rfl) (Nat.le_of_ble_eq_true rfl) (rfl)
        · refine own_aload C X at_126 rfl rfl (pc' := 128) rfl ?_
          refine own_iload C X at_128 rfl (pc' := 130) rfl ?_
          refine own_bipush C X at_130 (v := 31) (by decide) (pc' := 132) rfl ?_
          refine own_iand C X at_132 rfl (pc' := 133) rfl ?_
          refine own_callV C X at_133 (own_m_keep2 l Z a0 hw ob (i4 &&& (31 : Int32)) _ n0 (own_big C X) lim pk ys hk O_ob A ne_o ge_ob) O_ob.1 (hw _ (List.mem_of_getElem? (i := 36) rfl)) (hw _ (List.mem_of_getElem? (i := 37) rfl)) (hw _ (List.mem_of_getElem? (i := 39) rfl)) (hw _ (List.mem_of_getElem? (i := 38) rfl)) (hw _ (List.mem_of_getElem? (i := 7) rfl)) (hw _ (List.mem_of_getElem? (i := 40) rfl)) (by decide) own_pd_2093 rfl rfl (Nat.le_of_ble_eq_true rfl) (Nat.le_of_ble_eq_true rfl) (Nat.le_of_ble_eq_true rfl) (Nat.le_of_ble_eq_true rfl) (av := [(.int (i4 &&& (31 : Int32)))]) (S := []) rfl (pc' := 136) rfl ?_
          intro T h v X hQ
          obtain ⟨rfl, n, hn1, hn2, K_, O_ob⟩ := hQ
          have A := A.keep K_ (ninS (Ne.symm ne_o) nin0)
          show own_Go p e below n0 (own_Fin room_1 s (fun v h => v = some (.int 1))) (T.setTop (mkF m 136 #[.val (.int i0), .val (.int i1), .val (.int i2), .val (.int i3), .val (.int i4), .val (.int i5), .val (.int bg), .val (.int tr), .val (.int lim), .val (.int (2 : Int32)), .val (.ref ob), .val (.int (own_fu (2 : Int32) lim)), .unset] []))
          refine own_aload C X at_136 rfl rfl (pc' := 138) rfl ?_
          refine own_callV C X at_138 (own_m_size l Z a0 hw ob _ n0 (own_big C X) lim pk n O_ob) O_ob.1 (hw _ (List.mem_of_getElem? (i := 31) rfl)) (hw _ (List.mem_of_getElem? (i := 32) rfl)) (hw _ (List.mem_of_getElem? (i := 34) rfl)) (hw _ (List.mem_of_getElem? (i := 33) rfl)) (hw _ (List.mem_of_getElem? (i := 7) rfl)) (hw _ (List.mem_of_getElem? (i := 35) rfl)) (by decide) own_pd_1265 rfl rfl (Nat.le_of_ble_eq_true rfl) (Nat.le_of_ble_eq_true rfl) (Nat.le_of_ble_eq_true rfl) (Nat.le_of_ble_eq_true rfl) (av := []) (S := []) rfl (pc' := 141) rfl ?_
          intro T h v X hQ
          obtain ⟨rfl, rfl⟩ := hQ
          show own_Go p e below n0 (own_Fin room_1 s (fun v h => v = some (.int 1))) (T.setTop (mkF m 141 #[.val (.int i0), .val (.int i1), .val (.int i2), .val (.int i3), .val (.int i4), .val (.int i5), .val (.int bg), .val (.int tr), .val (.int lim), .val (.int (2 : Int32)), .val (.ref ob), .val (.int (own_fu (2 : Int32) lim)), .unset] [(.int n)]))
          refine own_istore C X at_141 (L' := #[.val (.int i0), .val (.int i1), .val (.int i2), .val (.int i3), .val (.int i4), .val (.int i5), .val (.int bg), .val (.int tr), .val (.int lim), .val (.int (2 : Int32)), .val (.ref ob), .val (.int (own_fu (2 : Int32) lim)), .val (.int n)]) rfl (pc' := 143) rfl ?_
          refine own_iload C X at_143 rfl (pc' := 145) rfl ?_
          refine own_if_lt C X at_145 (pcT := 155) (pc' := 148) (by decide) (by decide) rfl (fun hc145 => absurd hc145 (fun q => absurd (Int32.lt_iff_toInt_lt.mp q) (by show ¬ (n.toInt < (0 : Int)); omega))) (fun hc145 => ?_)
          refine own_iload C X at_148 rfl (pc' := 150) rfl ?_
          refine own_iload C X at_150 rfl (pc' := 152) rfl ?_
          refine own_icmp_le C X at_152 (pcT := 157) (pc' := 155) (by decide) (by decide) rfl (fun hc152 => ?_) (fun hc152 => absurd hc152 (fun q => absurd (Int32.lt_iff_toInt_lt.mp q) (by show ¬ ((2 : Int) < n.toInt); omega)))
          refine own_aload C X at_157 rfl rfl (pc' := 159) rfl ?_
          refine own_callV C X at_159 (own_m_full l Z a0 hw ob _ n0 (own_big C X) lim pk n O_ob) O_ob.1 (hw _ (List.mem_of_getElem? (i := 24) rfl)) (hw _ (List.mem_of_getElem? (i := 25) rfl)) (hw _ (List.mem_of_getElem? (i := 27) rfl)) (hw _ (List.mem_of_getElem? (i := 26) rfl)) (hw _ (List.mem_of_getElem? (i := 7) rfl)) (hw _ (List.mem_of_getElem? (i := 28) rfl)) (by decide) own_pd_1418 rfl rfl (Nat.le_of_ble_eq_true rfl) (Nat.le_of_ble_eq_true rfl) (Nat.le_of_ble_eq_true rfl) (Nat.le_of_ble_eq_true rfl) (av := []) (S := []) rfl (pc' := 162) rfl ?_
          intro T h v X hQ
          obtain ⟨rfl, rfl⟩ := hQ
          show own_Go p e below n0 (own_Fin room_1 s (fun v h => v = some (.int 1))) (T.setTop (mkF m 162 #[.val (.int i0), .val (.int i1), .val (.int i2), .val (.int i3), .val (.int i4), .val (.int i5), .val (.int bg), .val (.int tr), .val (.int lim), .val (.int (2 : Int32)), .val (.ref ob), .val (.int (own_fu (2 : Int32) lim)), .val (.int n)] [(.int (own_fu n lim))]))
          refine own_iload C X at_162 rfl (pc' := 164) rfl ?_
          refine own_iload C X at_164 rfl (pc' := 166) rfl ?_
          refine own_icmp_ne C X at_166 (pcT := 173) (pc' := 169) (by decide) (by decide) rfl (fun hc166 => ?_) (fun hc166 => ?_)
          · refine own_iconst C X at_173 (v := 0) (by decide) (pc' := 174) rfl ?_
            refine own_icmp_eq C X at_174 (pcT := 179) (pc' := 177) (by decide) (by decide) rfl (fun hc174 => ?_) (fun hc174 => absurd hc174 (not_not_intro (by rw [own_fu]; simp only [hc166, if_true, if_false])))
            refine own_iconst C X at_179 (v := 1) (by decide) (pc' := 180) rfl ?_
            exact own_ireturn_z C X at_180 (Nat.le_of_ble_eq_true rfl) (Nat.le_of_ble_eq_true rfl) (rfl)
          · refine own_iconst C X at_169 (v := 1) (by decide) (pc' := 170) rfl ?_
            refine own_goto C X at_170 (pc' := 174) (by decide) (by decide) ?_
            refine own_icmp_eq C X at_174 (pcT := 179) (pc' := 177) (by decide) (by decide) rfl (fun hc174 => ?_) (fun hc174 => absurd hc174 (not_not_intro (by rw [own_fu]; simp only [hc166, if_true, if_false])))
            refine own_iconst C X at_179 (v := 1) (by decide) (pc' := 180) rfl ?_
            exact own_ireturn_z C X at_180 (Nat.le_of_ble_eq_true rfl) (Nat.le_of_ble_eq_true rfl) (rfl)
    · refine own_istore C X at_61 (L' := #[.val (.int i0), .val (.int i1), .val (.int i2), .val (.int i3), .val (.int i4), .val (.int i5), .val (.int bg), .val (.int tr), .val (.int lim), .val (.int (3 : Int32)), .unset, .unset, .unset]) rfl (pc' := 63) rfl ?_
      refine own_new C X at_63 (hw _ (List.mem_of_getElem? (i := 5) rfl)) (hw _ (List.mem_of_getElem? (i := 6) rfl)) (hw _ (List.mem_of_getElem? (i := 7) rfl)) (Nat.le_of_ble_eq_true rfl) (Nat.le_of_ble_eq_true rfl) [("limit", "I", (.int (0 : Int32))), ("packed", "[J", .null), ("size", "I", (.int (0 : Int32)))] (by decide) ?_ (pc' := 66) rfl ?_
      · intro f hf; simp only [List.mem_cons, List.not_mem_nil, or_false] at hf
        rcases hf with rfl | rfl | rfl
        · exact ⟨(Or.inr (hw _ (List.mem_of_getElem? (i := 15) rfl))), .int, by decide, rfl⟩
        · exact ⟨(Or.inl (hw _ (List.mem_of_getElem? (i := 19) rfl))), (.array .long), by decide, rfl⟩
        · exact ⟨(Or.inl (hw _ (List.mem_of_getElem? (i := 30) rfl))), .int, by decide, rfl⟩
      intro T h ob e_ob X K_ ge_ob O_ob
      refine own_dup C X at_66 rfl (pc' := 67) rfl ?_
      refine own_iload C X at_67 rfl (pc' := 69) rfl ?_
      have hbg := own_big C X
      refine own_callInit C X at_69 (own_m_init l Z a0 hw ob lim _ n0 hbg O_ob ge_ob hlim) rfl (hw _ (List.mem_of_getElem? (i := 8) rfl)) (hw _ (List.mem_of_getElem? (i := 9) rfl)) (hw _ (List.mem_of_getElem? (i := 7) rfl)) (hw _ (List.mem_of_getElem? (i := 10) rfl)) (by decide) own_pd_2093 rfl rfl (Nat.le_of_ble_eq_true rfl) (Nat.le_of_ble_eq_true rfl) (Nat.le_of_ble_eq_true rfl) (Nat.le_of_ble_eq_true rfl) (av := [(.int lim)]) (S := [(.ref ob)]) rfl (pc' := 72) rfl ?_
      intro T h v X hQ
      obtain ⟨rfl, pk, xs, gq_pk, K_, O_n, A, hxs⟩ := hQ
      have ne_o : ob ≠ pk := Nat.ne_of_lt (Nat.lt_of_lt_of_le O_ob.lt gq_pk)
      have ge_pk : n0 ≤ pk := Nat.le_trans hbg gq_pk
      have O_ob := O_n
      obtain ⟨nl, hnl⟩ := A.len
      show own_Go p e below n0 (own_Fin room_1 s (fun v h => v = some (.int 1))) (T.setTop (mkF m 72 #[.val (.int i0), .val (.int i1), .val (.int i2), .val (.int i3), .val (.int i4), .val (.int i5), .val (.int bg), .val (.int tr), .val (.int lim), .val (.int (3 : Int32)), .unset, .unset, .unset] [(.ref ob)]))
      refine own_astore C X at_72 rfl (L' := #[.val (.int i0), .val (.int i1), .val (.int i2), .val (.int i3), .val (.int i4), .val (.int i5), .val (.int bg), .val (.int tr), .val (.int lim), .val (.int (3 : Int32)), .val (.ref ob), .unset, .unset]) rfl (pc' := 74) rfl ?_
      refine own_aload C X at_74 rfl rfl (pc' := 76) rfl ?_
      refine own_iload C X at_76 rfl (pc' := 78) rfl ?_
      refine own_iloadN C X at_78 rfl (pc' := 79) rfl ?_
      refine own_iloadN C X at_79 rfl (pc' := 80) rfl ?_
      refine own_callS C X at_80 (own_m_addN3 l Z a0 hw ob i3 i2 _ n0 (own_big C X) lim pk xs nl hnl (hxs 3 (by decide) hkl) O_ob A ne_o ge_ob ge_pk) (hw _ (List.mem_of_getElem? (i := 20) rfl)) (hw _ (List.mem_of_getElem? (i := 21) rfl)) (hw _ (List.mem_of_getElem? (i := 22) rfl)) (hw _ (List.mem_of_getElem? (i := 23) rfl)) (by decide) own_pd_133748 rfl rfl (Nat.le_of_ble_eq_true rfl) (Nat.le_of_ble_eq_true rfl) (Nat.le_of_ble_eq_true rfl) (Nat.le_of_ble_eq_true rfl) (av := [(.ref ob), (.int (3 : Int32)), (.int i3), (.int i2)]) (S := []) rfl (pc' := 83) rfl ?_
      intro T h v X hQ
      obtain ⟨rfl, K_, O_ob, ys, A, hk⟩ := hQ
      show own_Go p e below n0 (own_Fin room_1 s (fun v h => v = some (.int 1))) (T.setTop (mkF m 83 #[.val (.int i0), .val (.int i1), .val (.int i2), .val (.int i3), .val (.int i4), .val (.int i5), .val (.int bg), .val (.int tr), .val (.int lim), .val (.int (3 : Int32)), .val (.ref ob), .unset, .unset] []))
      refine own_aload C X at_83 rfl rfl (pc' := 85) rfl ?_
      refine own_callV C X at_85 (own_m_full l Z a0 hw ob _ n0 (own_big C X) lim pk (3 : Int32) O_ob) O_ob.1 (hw _ (List.mem_of_getElem? (i := 24) rfl)) (hw _ (List.mem_of_getElem? (i := 25) rfl)) (hw _ (List.mem_of_getElem? (i := 27) rfl)) (hw _ (List.mem_of_getElem? (i := 26) rfl)) (hw _ (List.mem_of_getElem? (i := 7) rfl)) (hw _ (List.mem_of_getElem? (i := 28) rfl)) (by decide) own_pd_1418 rfl rfl (Nat.le_of_ble_eq_true rfl) (Nat.le_of_ble_eq_true rfl) (Nat.le_of_ble_eq_true rfl) (Nat.le_of_ble_eq_true rfl) (av := []) (S := []) rfl (pc' := 88) rfl ?_
      intro T h v X hQ
      obtain ⟨rfl, rfl⟩ := hQ
      show own_Go p e below n0 (own_Fin room_1 s (fun v h => v = some (.int 1))) (T.setTop (mkF m 88 #[.val (.int i0), .val (.int i1), .val (.int i2), .val (.int i3), .val (.int i4), .val (.int i5), .val (.int bg), .val (.int tr), .val (.int lim), .val (.int (3 : Int32)), .val (.ref ob), .unset, .unset] [(.int (own_fu (3 : Int32) lim))]))
      refine own_istore C X at_88 (L' := #[.val (.int i0), .val (.int i1), .val (.int i2), .val (.int i3), .val (.int i4), .val (.int i5), .val (.int bg), .val (.int tr), .val (.int lim), .val (.int (3 : Int32)), .val (.ref ob), .val (.int (own_fu (3 : Int32) lim)), .unset]) rfl (pc' := 90) rfl ?_
      refine own_iload C X at_90 rfl (pc' := 92) rfl ?_
      refine own_iload C X at_92 rfl (pc' := 94) rfl ?_
      refine own_iload C X at_94 rfl (pc' := 96) rfl ?_
      refine own_icmp_ne C X at_96 (pcT := 103) (pc' := 99) (by decide) (by decide) rfl (fun hc96 => ?_) (fun hc96 => ?_)
      · refine own_iconst C X at_103 (v := 0) (by decide) (pc' := 104) rfl ?_
        refine own_icmp_eq C X at_104 (pcT := 109) (pc' := 107) (by decide) (by decide) rfl (fun hc104 => ?_) (fun hc104 => absurd hc104 (not_not_intro (by rw [own_fu]; simp only [hc96, if_true, if_false])))
        refine own_aload C X at_109 rfl rfl (pc' := 111) rfl ?_
        refine own_callV C X at_111 (own_m_size l Z a0 hw ob _ n0 (own_big C X) lim pk (3 : Int32) O_ob) O_ob.1 (hw _ (List.mem_of_getElem? (i := 31) rfl)) (hw _ (List.mem_of_getElem? (i := 32) rfl)) (hw _ (List.mem_of_getElem? (i := 34) rfl)) (hw _ (List.mem_of_getElem? (i := 33) rfl)) (hw _ (List.mem_of_getElem? (i := 7) rfl)) (hw _ (List.mem_of_getElem? (i := 35) rfl)) (by decide) own_pd_1265 rfl rfl (Nat.le_of_ble_eq_true rfl) (Nat.le_of_ble_eq_true rfl) (Nat.le_of_ble_eq_true rfl) (Nat.le_of_ble_eq_true rfl) (av := []) (S := []) rfl (pc' := 114) rfl ?_
        intro T h v X hQ
        obtain ⟨rfl, rfl⟩ := hQ
        show own_Go p e below n0 (own_Fin room_1 s (fun v h => v = some (.int 1))) (T.setTop (mkF m 114 #[.val (.int i0), .val (.int i1), .val (.int i2), .val (.int i3), .val (.int i4), .val (.int i5), .val (.int bg), .val (.int tr), .val (.int lim), .val (.int (3 : Int32)), .val (.ref ob), .val (.int (own_fu (3 : Int32) lim)), .unset] [(.int (3 : Int32))]))
        refine own_iload C X at_114 rfl (pc' := 116) rfl ?_
        refine own_icmp_eq C X at_116 (pcT := 121) (pc' := 119) (by decide) (by decide) rfl (fun hc116 => ?_) (fun hc116 => absurd hc116 (by decide))
        refine own_iload C X at_121 rfl (pc' := 123) rfl ?_
        refine own_if_eq C X at_123 (pcT := 179) (pc' := 126) (by decide) (by decide) rfl (fun hc123 => ?_) (fun hc123 => ?_)
        · refine own_iconst C X at_179 (v := 1) (by decide) (pc' := 180) rfl ?_
          exact own_ireturn_z C X at_180 (Nat.le_of_ble_eq_true rfl) (Nat.le_of_ble_eq_true rfl) (rfl)
        · refine own_aload C X at_126 rfl rfl (pc' := 128) rfl ?_
          refine own_iload C X at_128 rfl (pc' := 130) rfl ?_
          refine own_bipush C X at_130 (v := 31) (by decide) (pc' := 132) rfl ?_
          refine own_iand C X at_132 rfl (pc' := 133) rfl ?_
          refine own_callV C X at_133 (own_m_keep3 l Z a0 hw ob (i4 &&& (31 : Int32)) _ n0 (own_big C X) lim pk ys hk O_ob A ne_o ge_ob) O_ob.1 (hw _ (List.mem_of_getElem? (i := 36) rfl)) (hw _ (List.mem_of_getElem? (i := 37) rfl)) (hw _ (List.mem_of_getElem? (i := 39) rfl)) (hw _ (List.mem_of_getElem? (i := 38) rfl)) (hw _ (List.mem_of_getElem? (i := 7) rfl)) (hw _ (List.mem_of_getElem? (i := 40) rfl)) (by decide) own_pd_2093 rfl rfl (Nat.le_of_ble_eq_true rfl) (Nat.le_of_ble_eq_true rfl) (Nat.le_of_ble_eq_true rfl) (Nat.le_of_ble_eq_true rfl) (av := [(.int (i4 &&& (31 : Int32)))]) (S := []) rfl (pc' := 136) rfl ?_
          intro T h v X hQ
          obtain ⟨rfl, n, hn1, hn2, K_, O_ob⟩ := hQ
          have A := A.keep K_ (ninS (Ne.symm ne_o) nin0)
          show own_Go p e below n0 (own_Fin room_1 s (fun v h => v = some (.int 1))) (T.setTop (mkF m 136 #[.val (.int i0), .val (.int i1), .val (.int i2), .val (.int i3), .val (.int i4), .val (.int i5), .val (.int bg), .val (.int tr), .val (.int lim), .val (.int (3 : Int32)), .val (.ref ob), .val (.int (own_fu (3 : Int32) lim)), .unset] []))
          refine own_aload C X at_136 rfl rfl (pc' := 138) rfl ?_
          refine own_callV C X at_138 (own_m_size l Z a0 hw ob _ n0 (own_big C X) lim pk n O_ob) O_ob.1 (hw _ (List.mem_of_getElem? (i := 31) rfl)) (hw _ (List.mem_of_getElem? (i := 32) rfl)) (hw _ (List.mem_of_getElem? (i := 34) rfl)) (hw _ (List.mem_of_getElem? (i := 33) rfl)) (hw _ (List.mem_of_getElem? (i := 7) rfl)) (hw _ (List.mem_of_getElem? (i := 35) rfl)) (by decide) own_pd_1265 rfl rfl (Nat.le_of_ble_eq_true rfl) (Nat.le_of_ble_eq_true rfl) (Nat.le_of_ble_eq_true rfl) (Nat.le_of_ble_eq_true rfl) (av := []) (S := []) rfl (pc' := 141) rfl ?_
          intro T h v X hQ
          obtain ⟨rfl, rfl⟩ := hQ
          show own_Go p e below n0 (own_Fin room_1 s (fun v h => v = some (.int 1))) (T.setTop (mkF m 141 #[.val (.int i0), .val (.int i1), .val (.int i2), .val (.int i3), .val (.int i4), .val (.int i5), .val (.int bg), .val (.int tr), .val (.int lim), .val (.int (3 : Int32)), .val (.ref ob), .val (.int (own_fu (3 : Int32) lim)), .unset] [(.int n)]))
          refine own_istore C X at_141 (L' := #[.val (.int i0), .val (.int i1), .val (.int i2), .val (.int i3), .val (.int i4), .val (.int i5), .val (.int bg), .val (.int tr), .val (.int lim), .val (.int (3 : Int32)), .val (.ref ob), .val (.int (own_fu (3 : Int32) lim)), .val (.int n)]) rfl (pc' := 143) rfl ?_
          refine own_iload C X at_143 rfl (pc' := 145) rfl ?_
          refine own_if_lt C X at_145 (pcT := 155) (pc' := 148) (by decide) (by decide) rfl (fun hc145 => absurd hc145 (fun q => absurd (Int32.lt_iff_toInt_lt.mp q) (by show ¬ (n.toInt < (0 : Int)); omega))) (fun hc145 => ?_)
          refine own_iload C X at_148 rfl (pc' := 150) rfl ?_
          refine own_iload C X at_150 rfl (pc' := 152) rfl ?_
          refine own_icmp_le C X at_152 (pcT := 157) (pc' := 155) (by decide) (by decide) rfl (fun hc152 => ?_) (fun hc152 => absurd hc152 (fun q => absurd (Int32.lt_iff_toInt_lt.mp q) (by show ¬ ((3 : Int) < n.toInt); omega)))
          refine own_aload C X at_157 rfl rfl (pc' := 159) rfl ?_
          refine own_callV C X at_159 (own_m_full l Z a0 hw ob _ n0 (own_big C X) lim pk n O_ob) O_ob.1 (hw _ (List.mem_of_getElem? (i := 24) rfl)) (hw _ (List.mem_of_getElem? (i := 25) rfl)) (hw _ (List.mem_of_getElem? (i := 27) rfl)) (hw _ (List.mem_of_getElem? (i := 26) rfl)) (hw _ (List.mem_of_getElem? (i := 7) rfl)) (hw _ (List.mem_of_getElem? (i := 28) rfl)) (by decide) own_pd_1418 rfl rfl (Nat.le_of_ble_eq_true rfl) (Nat.le_of_ble_eq_true rfl) (Nat.le_of_ble_eq_true rfl) (Nat.le_of_ble_eq_true rfl) (av := []) (S := []) rfl (pc' := 162) rfl ?_
          intro T h v X hQ
          obtain ⟨rfl, rfl⟩ := hQ
          show own_Go p e below n0 (own_Fin room_1 s (fun v h => v = some (.int 1))) (T.setTop (mkF m 162 #[.val (.int i0), .val (.int i1), .val (.int i2), .val (.int i3), .val (.int i4), .val (.int i5), .val (.int bg), .val (.int tr), .val (.int lim), .val (.int (3 : Int32)), .val (.ref ob), .val (.int (own_fu (3 : Int32) lim)), .val (.int n)] [(.int (own_fu n lim))]))
          refine own_iload C X at_162 rfl (pc' := 164) rfl ?_
          refine own_iload C X at_164 rfl (pc' := 166) rfl ?_
          refine own_icmp_ne C X at_166 (pcT := 173) (pc' := 169) (by decide) (by decide) rfl (fun hc166 => ?_) (fun hc166 => ?_)
          · refine own_iconst C X at_173 (v := 0) (by decide) (pc' := 174) rfl ?_
            refine own_icmp_eq C X at_174 (pcT := 179) (pc' := 177) (by decide) (by decide) rfl (fun hc174 => ?_) (fun hc174 => absurd hc174 (not_not_intro (by rw [own_fu]; simp only [hc166, if_true, if_false])))
            refine own_iconst C X at_179 (v := 1) (by decide) (pc' := 180) rfl ?_
            exact own_ireturn_z C X at_180 (Nat.le_of_ble_eq_true rfl) (Nat.le_of_ble_eq_true rfl) (rfl)
          · refine own_iconst C X at_169 (v := 1) (by decide) (pc' := 170) rfl ?_
            refine own_goto C X at_170 (pc' := 174) (by decide) (by decide) ?_
            refine own_icmp_eq C X at_174 (pcT := 179) (pc' := 177) (by decide) (by decide) rfl (fun hc174 => ?_) (fun hc174 => absurd hc174 (not_not_intro (by rw [own_fu]; simp only [hc166, if_true, if_false])))
            refine own_iconst C X at_179 (v := 1) (by decide) (pc' := 180) rfl ?_
            exact own_ireturn_z C X at_180 (Nat.le_of_ble_eq_true rfl) (Nat.le_of_ble_eq_true rfl) (rfl)
      · refine own_iconst C X at_99 (v := 1) (by decide) (pc' := 100) rfl ?_
        refine own_goto C X at_100 (pc' := 104) (by decide) (by decide) ?_
        refine own_icmp_eq C X at_104 (pcT := 109) (pc' := 107) (by decide) (by decide) rfl (fun hc104 => ?_) (fun hc104 => absurd hc104 (not_not_intro (by rw [own_fu]; simp only [hc96, if_true, if_false])))
        refine own_aload C X at_109 rfl rfl (pc' := 111) rfl ?_
        refine own_callV C X at_111 (own_m_size l Z a0 hw ob _ n0 (own_big C X) lim pk (3 : Int32) O_ob) O_ob.1 (hw _ (List.mem_of_getElem? (i := 31) rfl)) (hw _ (List.mem_of_getElem? (i := 32) rfl)) (hw _ (List.mem_of_getElem? (i := 34) rfl)) (hw _ (List.mem_of_getElem? (i := 33) rfl)) (hw _ (List.mem_of_getElem? (i := 7) rfl)) (hw _ (List.mem_of_getElem? (i := 35) rfl)) (by decide) own_pd_1265 rfl rfl (Nat.le_of_ble_eq_true rfl) (Nat.le_of_ble_eq_true rfl) (Nat.le_of_ble_eq_true rfl) (Nat.le_of_ble_eq_true rfl) (av := []) (S := []) rfl (pc' := 114) rfl ?_
        intro T h v X hQ
        obtain ⟨rfl, rfl⟩ := hQ
        show own_Go p e below n0 (own_Fin room_1 s (fun v h => v = some (.int 1))) (T.setTop (mkF m 114 #[.val (.int i0), .val (.int i1), .val (.int i2), .val (.int i3), .val (.int i4), .val (.int i5), .val (.int bg), .val (.int tr), .val (.int lim), .val (.int (3 : Int32)), .val (.ref ob), .val (.int (own_fu (3 : Int32) lim)), .unset] [(.int (3 : Int32))]))
        refine own_iload C X at_114 rfl (pc' := 116) rfl ?_
        refine own_icmp_eq C X at_116 (pcT := 121) (pc' := 119) (by decide) (by decide) rfl (fun hc116 => ?_) (fun hc116 => absurd hc116 (by decide))
        refine own_iload C X at_121 rfl (pc' := 123) rfl ?_
        refine own_if_eq C X at_123 (pcT := 179) (pc' := 126) (by decide) (by decide) rfl (fun hc123 => ?_) (fun hc123 => ?_)
        · refine own_iconst C X at_179 (v := 1) (by decide) (pc' := 180) rfl ?_
          exact own_ireturn_z C X at_180 (Nat.le_of_ble_eq_true rfl) (Nat.le_of_ble_eq_true rfl) (rfl)
        · refine own_aload C X at_126 rfl rfl (pc' := 128) rfl ?_
          refine own_iload C X at_128 rfl (pc' := 130) rfl ?_
          refine own_bipush C X at_130 (v := 31) (by decide) (pc' := 132) rfl ?_
          refine own_iand C X at_132 rfl (pc' := 133) rfl ?_
          refine own_callV C X at_133 (own_m_keep3 l Z a0 hw ob (i4 &&& (31 : Int32)) _ n0 (own_big C X) lim pk ys hk O_ob A ne_o ge_ob) O_ob.1 (hw _ (List.mem_of_getElem? (i := 36) rfl)) (hw _ (List.mem_of_getElem? (i := 37) rfl)) (hw _ (List.mem_of_getElem? (i := 39) rfl)) (hw _ (List.mem_of_getElem? (i := 38) rfl)) (hw _ (List.mem_of_getElem? (i := 7) rfl)) (hw _ (List.mem_of_getElem? (i := 40) rfl)) (by decide) own_pd_2093 rfl rfl (Nat.le_of_ble_eq_true rfl) (Nat.le_of_ble_eq_true rfl) (Nat.le_of_ble_eq_true rfl) (Nat.le_of_ble_eq_true rfl) (av := [(.int (i4 &&& (31 : Int32)))]) (S := []) rfl (pc' := 136) rfl ?_
          intro T h v X hQ
          obtain ⟨rfl, n, hn1, hn2, K_, O_ob⟩ := hQ
          have A := A.keep K_ (ninS (Ne.symm ne_o) nin0)
          show own_Go p e below n0 (own_Fin room_1 s (fun v h => v = some (.int 1))) (T.setTop (mkF m 136 #[.val (.int i0), .val (.int i1), .val (.int i2), .val (.int i3), .val (.int i4), .val (.int i5), .val (.int bg), .val (.int tr), .val (.int lim), .val (.int (3 : Int32)), .val (.ref ob), .val (.int (own_fu (3 : Int32) lim)), .unset] []))
          refine own_aload C X at_136 rfl rfl (pc' := 138) rfl ?_
          refine own_callV C X at_138 (own_m_size l Z a0 hw ob _ n0 (own_big C X) lim pk n O_ob) O_ob.1 (hw _ (List.mem_of_getElem? (i := 31) rfl)) (hw _ (List.mem_of_getElem? (i := 32) rfl)) (hw _ (List.mem_of_getElem? (i := 34) rfl)) (hw _ (List.mem_of_getElem? (i := 33) rfl)) (hw _ (List.mem_of_getElem? (i := 7) rfl)) (hw _ (List.mem_of_getElem? (i := 35) rfl)) (by decide) own_pd_1265 rfl rfl (Nat.le_of_ble_eq_true rfl) (Nat.le_of_ble_eq_true rfl) (Nat.le_of_ble_eq_true rfl) (Nat.le_of_ble_eq_true rfl) (av := []) (S := []) rfl (pc' := 141) rfl ?_
          intro T h v X hQ
          obtain ⟨rfl, rfl⟩ := hQ
          show own_Go p e below n0 (own_Fin room_1 s (fun v h => v = some (.int 1))) (T.setTop (mkF m 141 #[.val (.int i0), .val (.int i1), .val (.int i2), .val (.int i3), .val (.int i4), .val (.int i5), .val (.int bg), .val (.int tr), .val (.int lim), .val (.int (3 : Int32)), .val (.ref ob), .val (.int (own_fu (3 : Int32) lim)), .unset] [(.int n)]))
          refine own_istore C X at_141 (L' := #[.val (.int i0), .val (.int i1), .val (.int i2), .val (.int i3), .val (.int i4), .val (.int i5), .val (.int bg), .val (.int tr), .val (.int lim), .val (.int (3 : Int32)), .val (.ref ob), .val (.int (own_fu (3 : Int32) lim)), .val (.int n)]) rfl (pc' := 143) rfl ?_
          refine own_iload C X at_143 rfl (pc' := 145) rfl ?_
          refine own_if_lt C X at_145 (pcT := 155) (pc' := 148) (by decide) (by decide) rfl (fun hc145 => absurd hc145 (fun q => absurd (Int32.lt_iff_toInt_lt.mp q) (by show ¬ (n.toInt < (0 : Int)); omega))) (fun hc145 => ?_)
          refine own_iload C X at_148 rfl (pc' := 150) rfl ?_
          refine own_iload C X at_150 rfl (pc' := 152) rfl ?_
          refine own_icmp_le C X at_152 (pcT := 157) (pc' := 155) (by decide) (by decide) rfl (fun hc152 => ?_) (fun hc152 => absurd hc152 (fun q => absurd (Int32.lt_iff_toInt_lt.mp q) (by show ¬ ((3 : Int) < n.toInt); omega)))
          refine own_aload C X at_157 rfl rfl (pc' := 159) rfl ?_
          refine own_callV C X at_159 (own_m_full l Z a0 hw ob _ n0 (own_big C X) lim pk n O_ob) O_ob.1 (hw _ (List.mem_of_getElem? (i := 24) rfl)) (hw _ (List.mem_of_getElem? (i := 25) rfl)) (hw _ (List.mem_of_getElem? (i := 27) rfl)) (hw _ (List.mem_of_getElem? (i := 26) rfl)) (hw _ (List.mem_of_getElem? (i := 7) rfl)) (hw _ (List.mem_of_getElem? (i := 28) rfl)) (by decide) own_pd_1418 rfl rfl (Nat.le_of_ble_eq_true rfl) (Nat.le_of_ble_eq_true rfl) (Nat.le_of_ble_eq_true rfl) (Nat.le_of_ble_eq_true rfl) (av := []) (S := []) rfl (pc' := 162) rfl ?_
          intro T h v X hQ
          obtain ⟨rfl, rfl⟩ := hQ
          show own_Go p e below n0 (own_Fin room_1 s (fun v h => v = some (.int 1))) (T.setTop (mkF m 162 #[.val (.int i0), .val (.int i1), .val (.int i2), .val (.int i3), .val (.int i4), .val (.int i5), .val (.int bg), .val (.int tr), .val (.int lim), .val (.int (3 : Int32)), .val (.ref ob), .val (.int (own_fu (3 : Int32) lim)), .val (.int n)] [(.int (own_fu n lim))]))
          refine own_iload C X at_162 rfl (pc' := 164) rfl ?_
          refine own_iload C X at_164 rfl (pc' := 166) rfl ?_
          refine own_icmp_ne C X at_166 (pcT := 173) (pc' := 169) (by decide) (by decide) rfl (fun hc166 => ?_) (fun hc166 => ?_)
          · refine own_iconst C X at_173 (v := 0) (by decide) (pc' := 174) rfl ?_
            refine own_icmp_eq C X at_174 (pcT := 179) (pc' := 177) (by decide) (by decide) rfl (fun hc174 => ?_) (fun hc174 => absurd hc174 (not_not_intro (by rw [own_fu]; simp only [hc166, if_true, if_false])))
            refine own_iconst C X at_179 (v := 1) (by decide) (pc' := 180) rfl ?_
            exact own_ireturn_z C X at_180 (Nat.le_of_ble_eq_true rfl) (Nat.le_of_ble_eq_true rfl) (rfl)
          · refine own_iconst C X at_169 (v := 1) (by decide) (pc' := 170) rfl ?_
            refine own_goto C X at_170 (pc' := 174) (by decide) (by decide) ?_
            refine own_icmp_eq C X at_174 (pcT := 179) (pc' := 177) (by decide) (by decide) rfl (fun hc174 => ?_) (fun hc174 => absurd hc174 (not_not_intro (by rw [own_fu]; simp only [hc166, if_true, if_false])))
            refine own_iconst C X at_179 (v := 1) (by decide) (pc' := 180) rfl ?_
            exact own_ireturn_z C X at_180 (Nat.le_of_ble_eq_true rfl) (Nat.le_of_ble_eq_true rfl) (rfl)
    · refine own_istore C X at_61 (L' := #[.val (.int i0), .val (.int i1), .val (.int i2), .val (.int i3), .val (.int i4), .val (.int i5), .val (.int bg), .val (.int tr), .val (.int lim), .val (.int (4 : Int32)), .unset, .unset, .unset]) rfl (pc' := 63) rfl ?_
      refine own_new C X at_63 (hw _ (List.mem_of_getElem? (i := 5) rfl)) (hw _ (List.mem_of_getElem? (i := 6) rfl)) (hw _ (List.mem_of_getElem? (i := 7) rfl)) (Nat.le_of_ble_eq_true rfl) (Nat.le_of_ble_eq_true rfl) [("limit", "I", (.int (0 : Int32))), ("packed", "[J", .null), ("size", "I", (.int (0 : Int32)))] (by decide) ?_ (pc' := 66) rfl ?_
      · intro f hf; simp only [List.mem_cons, List.not_mem_nil, or_false] at hf
        rcases hf with rfl | rfl | rfl
        · exact ⟨(Or.inr (hw _ (List.mem_of_getElem? (i := 15) rfl))), .int, by decide, rfl⟩
        · exact ⟨(Or.inl (hw _ (List.mem_of_getElem? (i := 19) rfl))), (.array .long), by decide, rfl⟩
        · exact ⟨(Or.inl (hw _ (List.mem_of_getElem? (i := 30) rfl))), .int, by decide, rfl⟩
      intro T h ob e_ob X K_ ge_ob O_ob
      refine own_dup C X at_66 rfl (pc' := 67) rfl ?_
      refine own_iload C X at_67 rfl (pc' := 69) rfl ?_
      have hbg := own_big C X
      refine own_callInit C X at_69 (own_m_init l Z a0 hw ob lim _ n0 hbg O_ob ge_ob hlim) rfl (hw _ (List.mem_of_getElem? (i := 8) rfl)) (hw _ (List.mem_of_getElem? (i := 9) rfl)) (hw _ (List.mem_of_getElem? (i := 7) rfl)) (hw _ (List.mem_of_getElem? (i := 10) rfl)) (by decide) own_pd_2093 rfl rfl (Nat.le_of_ble_eq_true rfl) (Nat.le_of_ble_eq_true rfl) (Nat.le_of_ble_eq_true rfl) (Nat.le_of_ble_eq_true rfl) (av := [(.int lim)]) (S := [(.ref ob)]) rfl (pc' := 72) rfl ?_
      intro T h v X hQ
      obtain ⟨rfl, pk, xs, gq_pk, K_, O_n, A, hxs⟩ := hQ
      have ne_o : ob ≠ pk := Nat.ne_of_lt (Nat.lt_of_lt_of_le O_ob.lt gq_pk)
      have ge_pk : n0 ≤ pk := Nat.le_trans hbg gq_pk
      have O_ob := O_n
      obtain ⟨nl, hnl⟩ := A.len
      show own_Go p e below n0 (own_Fin room_1 s (fun v h => v = some (.int 1))) (T.setTop (mkF m 72 #[.val (.int i0), .val (.int i1), .val (.int i2), .val (.int i3), .val (.int i4), .val (.int i5), .val (.int bg), .val (.int tr), .val (.int lim), .val (.int (4 : Int32)), .unset, .unset, .unset] [(.ref ob)]))
      refine own_astore C X at_72 rfl (L' := #[.val (.int i0), .val (.int i1), .val (.int i2), .val (.int i3), .val (.int i4), .val (.int i5), .val (.int bg), .val (.int tr), .val (.int lim), .val (.int (4 : Int32)), .val (.ref ob), .unset, .unset]) rfl (pc' := 74) rfl ?_
      refine own_aload C X at_74 rfl rfl (pc' := 76) rfl ?_
      refine own_iload C X at_76 rfl (pc' := 78) rfl ?_
      refine own_iloadN C X at_78 rfl (pc' := 79) rfl ?_
      refine own_iloadN C X at_79 rfl (pc' := 80) rfl ?_
      refine own_callS C X at_80 (own_m_addN4 l Z a0 hw ob i3 i2 _ n0 (own_big C X) lim pk xs nl hnl (hxs 4 (by decide) hkl) O_ob A ne_o ge_ob ge_pk) (hw _ (List.mem_of_getElem? (i := 20) rfl)) (hw _ (List.mem_of_getElem? (i := 21) rfl)) (hw _ (List.mem_of_getElem? (i := 22) rfl)) (hw _ (List.mem_of_getElem? (i := 23) rfl)) (by decide) own_pd_133748 rfl rfl (Nat.le_of_ble_eq_true rfl) (Nat.le_of_ble_eq_true rfl) (Nat.le_of_ble_eq_true rfl) (Nat.le_of_ble_eq_true rfl) (av := [(.ref ob), (.int (4 : Int32)), (.int i3), (.int i2)]) (S := []) rfl (pc' := 83) rfl ?_
      intro T h v X hQ
      obtain ⟨rfl, K_, O_ob, ys, A, hk⟩ := hQ
      show own_Go p e below n0 (own_Fin room_1 s (fun v h => v = some (.int 1))) (T.setTop (mkF m 83 #[.val (.int i0), .val (.int i1), .val (.int i2), .val (.int i3), .val (.int i4), .val (.int i5), .val (.int bg), .val (.int tr), .val (.int lim), .val (.int (4 : Int32)), .val (.ref ob), .unset, .unset] []))
      refine own_aload C X at_83 rfl rfl (pc' := 85) rfl ?_
      refine own_callV C X at_85 (own_m_full l Z a0 hw ob _ n0 (own_big C X) lim pk (4 : Int32) O_ob) O_ob.1 (hw _ (List.mem_of_getElem? (i := 24) rfl)) (hw _ (List.mem_of_getElem? (i := 25) rfl)) (hw _ (List.mem_of_getElem? (i := 27) rfl)) (hw _ (List.mem_of_getElem? (i := 26) rfl)) (hw _ (List.mem_of_getElem? (i := 7) rfl)) (hw _ (List.mem_of_getElem? (i := 28) rfl)) (by decide) own_pd_1418 rfl rfl (Nat.le_of_ble_eq_true rfl) (Nat.le_of_ble_eq_true rfl) (Nat.le_of_ble_eq_true rfl) (Nat.le_of_ble_eq_true rfl) (av := []) (S := []) rfl (pc' := 88) rfl ?_
      intro T h v X hQ
      obtain ⟨rfl, rfl⟩ := hQ
      show own_Go p e below n0 (own_Fin room_1 s (fun v h => v = some (.int 1))) (T.setTop (mkF m 88 #[.val (.int i0), .val (.int i1), .val (.int i2), .val (.int i3), .val (.int i4), .val (.int i5), .val (.int bg), .val (.int tr), .val (.int lim), .val (.int (4 : Int32)), .val (.ref ob), .unset, .unset] [(.int (own_fu (4 : Int32) lim))]))
      refine own_istore C X at_88 (L' := #[.val (.int i0), .val (.int i1), .val (.int i2), .val (.int i3), .val (.int i4), .val (.int i5), .val (.int bg), .val (.int tr), .val (.int lim), .val (.int (4 : Int32)), .val (.ref ob), .val (.int (own_fu (4 : Int32) lim)), .unset]) rfl (pc' := 90) rfl ?_
      refine own_iload C X at_90 rfl (pc' := 92) rfl ?_
      refine own_iload C X at_92 rfl (pc' := 94) rfl ?_
      refine own_iload C X at_94 rfl (pc' := 96) rfl ?_
      refine own_icmp_ne C X at_96 (pcT := 103) (pc' := 99) (by decide) (by decide) rfl (fun hc96 => ?_) (fun hc96 => ?_)
      · refine own_iconst C X at_103 (v := 0) (by decide) (pc' := 104) rfl ?_
        refine own_icmp_eq C X at_104 (pcT := 109) (pc' := 107) (by decide) (by decide) rfl (fun hc104 => ?_) (fun hc104 => absurd hc104 (not_not_intro (by rw [own_fu]; simp only [hc96, if_true, if_false])))
        refine own_aload C X at_109 rfl rfl (pc' := 111) rfl ?_
        refine own_callV C X at_111 (own_m_size l Z a0 hw ob _ n0 (own_big C X) lim pk (4 : Int32) O_ob) O_ob.1 (hw _ (List.mem_of_getElem? (i := 31) rfl)) (hw _ (List.mem_of_getElem? (i := 32) rfl)) (hw _ (List.mem_of_getElem? (i := 34) rfl)) (hw _ (List.mem_of_getElem? (i := 33) rfl)) (hw _ (List.mem_of_getElem? (i := 7) rfl)) (hw _ (List.mem_of_getElem? (i := 35) rfl)) (by decide) own_pd_1265 rfl rfl (Nat.le_of_ble_eq_true rfl) (Nat.le_of_ble_eq_true rfl) (Nat.le_of_ble_eq_true rfl) (Nat.le_of_ble_eq_true rfl) (av := []) (S := []) rfl (pc' := 114) rfl ?_
        intro T h v X hQ
        obtain ⟨rfl, rfl⟩ := hQ
        show own_Go p e below n0 (own_Fin room_1 s (fun v h => v = some (.int 1))) (T.setTop (mkF m 114 #[.val (.int i0), .val (.int i1), .val (.int i2), .val (.int i3), .val (.int i4), .val (.int i5), .val (.int bg), .val (.int tr), .val (.int lim), .val (.int (4 : Int32)), .val (.ref ob), .val (.int (own_fu (4 : Int32) lim)), .unset] [(.int (4 : Int32))]))
        refine own_iload C X at_114 rfl (pc' := 116) rfl ?_
        refine own_icmp_eq C X at_116 (pcT := 121) (pc' := 119) (by decide) (by decide) rfl (fun hc116 => ?_) (fun hc116 => absurd hc116 (by decide))
        refine own_iload C X at_121 rfl (pc' := 123) rfl ?_
        refine own_if_eq C X at_123 (pcT := 179) (pc' := 126) (by decide) (by decide) rfl (fun hc123 => ?_) (fun hc123 => ?_)
        · refine own_iconst C X at_179 (v := 1) (by decide) (pc' := 180) rfl ?_
          exact own_ireturn_z C X at_180 (Nat.le_of_ble_eq_true rfl) (Nat.le_of_ble_eq_true rfl) (rfl)
        · refine own_aload C X at_126 rfl rfl (pc' := 128) rfl ?_
          refine own_iload C X at_128 rfl (pc' := 130) rfl ?_
          refine own_bipush C X at_130 (v := 31) (by decide) (pc' := 132) rfl ?_
          refine own_iand C X at_132 rfl (pc' := 133) rfl ?_
          refine own_callV C X at_133 (own_m_keep4 l Z a0 hw ob (i4 &&& (31 : Int32)) _ n0 (own_big C X) lim pk ys hk O_ob A ne_o ge_ob) O_ob.1 (hw _ (List.mem_of_getElem? (i := 36) rfl)) (hw _ (List.mem_of_getElem? (i := 37) rfl)) (hw _ (List.mem_of_getElem? (i := 39) rfl)) (hw _ (List.mem_of_getElem? (i := 38) rfl)) (hw _ (List.mem_of_getElem? (i := 7) rfl)) (hw _ (List.mem_of_getElem? (i := 40) rfl)) (by decide) own_pd_2093 rfl rfl (Nat.le_of_ble_eq_true rfl) (Nat.le_of_ble_eq_true rfl) (Nat.le_of_ble_eq_true rfl) (Nat.le_of_ble_eq_true rfl) (av := [(.int (i4 &&& (31 : Int32)))]) (S := []) rfl (pc' := 136) rfl ?_
          intro T h v X hQ
          obtain ⟨rfl, n, hn1, hn2, K_, O_ob⟩ := hQ
          have A := A.keep K_ (ninS (Ne.symm ne_o) nin0)
          show own_Go p e below n0 (own_Fin room_1 s (fun v h => v = some (.int 1))) (T.setTop (mkF m 136 #[.val (.int i0), .val (.int i1), .val (.int i2), .val (.int i3), .val (.int i4), .val (.int i5), .val (.int bg), .val (.int tr), .val (.int lim), .val (.int (4 : Int32)), .val (.ref ob), .val (.int (own_fu (4 : Int32) lim)), .unset] []))
          refine own_aload C X at_136 rfl rfl (pc' := 138) rfl ?_
          refine own_callV C X at_138 (own_m_size l Z a0 hw ob _ n0 (own_big C X) lim pk n O_ob) O_ob.1 (hw _ (List.mem_of_getElem? (i := 31) rfl)) (hw _ (List.mem_of_getElem? (i := 32) rfl)) (hw _ (List.mem_of_getElem? (i := 34) rfl)) (hw _ (List.mem_of_getElem? (i := 33) rfl)) (hw _ (List.mem_of_getElem? (i := 7) rfl)) (hw _ (List.mem_of_getElem? (i := 35) rfl)) (by decide) own_pd_1265 rfl rfl (Nat.le_of_ble_eq_true rfl) (Nat.le_of_ble_eq_true rfl) (Nat.le_of_ble_eq_true rfl) (Nat.le_of_ble_eq_true rfl) (av := []) (S := []) rfl (pc' := 141) rfl ?_
          intro T h v X hQ
          obtain ⟨rfl, rfl⟩ := hQ
          show own_Go p e below n0 (own_Fin room_1 s (fun v h => v = some (.int 1))) (T.setTop (mkF m 141 #[.val (.int i0), .val (.int i1), .val (.int i2), .val (.int i3), .val (.int i4), .val (.int i5), .val (.int bg), .val (.int tr), .val (.int lim), .val (.int (4 : Int32)), .val (.ref ob), .val (.int (own_fu (4 : Int32) lim)), .unset] [(.int n)]))
          refine own_istore C X at_141 (L' := #[.val (.int i0), .val (.int i1), .val (.int i2), .val (.int i3), .val (.int i4), .val (.int i5), .val (.int bg), .val (.int tr), .val (.int lim), .val (.int (4 : Int32)), .val (.ref ob), .val (.int (own_fu (4 : Int32) lim)), .val (.int n)]) rfl (pc' := 143) rfl ?_
          refine own_iload C X at_143 rfl (pc' := 145) rfl ?_
          refine own_if_lt C X at_145 (pcT := 155) (pc' := 148) (by decide) (by decide) rfl (fun hc145 => absurd hc145 (fun q => absurd (Int32.lt_iff_toInt_lt.mp q) (by show ¬ (n.toInt < (0 : Int)); omega))) (fun hc145 => ?_)
          refine own_iload C X at_148 rfl (pc' := 150) rfl ?_
          refine own_iload C X at_150 rfl (pc' := 152) rfl ?_
          refine own_icmp_le C X at_152 (pcT := 157) (pc' := 155) (by decide) (by decide) rfl (fun hc152 => ?_) (fun hc152 => absurd hc152 (fun q => absurd (Int32.lt_iff_toInt_lt.mp q) (by show ¬ ((4 : Int) < n.toInt); omega)))
          refine own_aload C X at_157 rfl rfl (pc' := 159) rfl ?_
          refine own_callV C X at_159 (own_m_full l Z a0 hw ob _ n0 (own_big C X) lim pk n O_ob) O_ob.1 (hw _ (List.mem_of_getElem? (i := 24) rfl)) (hw _ (List.mem_of_getElem? (i := 25) rfl)) (hw _ (List.mem_of_getElem? (i := 27) rfl)) (hw _ (List.mem_of_getElem? (i := 26) rfl)) (hw _ (List.mem_of_getElem? (i := 7) rfl)) (hw _ (List.mem_of_getElem? (i := 28) rfl)) (by decide) own_pd_1418 rfl rfl (Nat.le_of_ble_eq_true rfl) (Nat.le_of_ble_eq_true rfl) (Nat.le_of_ble_eq_true rfl) (Nat.le_of_ble_eq_true rfl) (av := []) (S := []) rfl (pc' := 162) rfl ?_
          intro T h v X hQ
          obtain ⟨rfl, rfl⟩ := hQ
          show own_Go p e below n0 (own_Fin room_1 s (fun v h => v = some (.int 1))) (T.setTop (mkF m 162 #[.val (.int i0), .val (.int i1), .val (.int i2), .val (.int i3), .val (.int i4), .val (.int i5), .val (.int bg), .val (.int tr), .val (.int lim), .val (.int (4 : Int32)), .val (.ref ob), .val (.int (own_fu (4 : Int32) lim)), .val (.int n)] [(.int (own_fu n lim))]))
          refine own_iload C X at_162 rfl (pc' := 164) rfl ?_
          refine own_iload C X at_164 rfl (pc' := 166) rfl ?_
          refine own_icmp_ne C X at_166 (pcT := 173) (pc' := 169) (by decide) (by decide) rfl (fun hc166 => ?_) (fun hc166 => ?_)
          · refine own_iconst C X at_173 (v := 0) (by decide) (pc' := 174) rfl ?_
            refine own_icmp_eq C X at_174 (pcT := 179) (pc' := 177) (by decide) (by decide) rfl (fun hc174 => ?_) (fun hc174 => absurd hc174 (not_not_intro (by rw [own_fu]; simp only [hc166, if_true, if_false])))
            refine own_iconst C X at_179 (v := 1) (by decide) (pc' := 180) rfl ?_
            exact own_ireturn_z C X at_180 (Nat.le_of_ble_eq_true rfl) (Nat.le_of_ble_eq_true rfl) (rfl)
          · refine own_iconst C X at_169 (v := 1) (by decide) (pc' := 170) rfl ?_
            refine own_goto C X at_170 (pc' := 174) (by decide) (by decide) ?_
            refine own_icmp_eq C X at_174 (pcT := 179) (pc' := 177) (by decide) (by decide) rfl (fun hc174 => ?_) (fun hc174 => absurd hc174 (not_not_intro (by rw [own_fu]; simp only [hc166, if_true, if_false])))
            refine own_iconst C X at_179 (v := 1) (by decide) (pc' := 180) rfl ?_
            exact own_ireturn_z C X at_180 (Nat.le_of_ble_eq_true rfl) (Nat.le_of_ble_eq_true rfl) (rfl)
      · refine own_iconst C X at_99 (v := 1) (by decide) (pc' := 100) rfl ?_
        refine own_goto C X at_100 (pc' := 104) (by decide) (by decide) ?_
        refine own_icmp_eq C X at_104 (pcT := 109) (pc' := 107) (by decide) (by decide) rfl (fun hc104 => ?_) (fun hc104 => absurd hc104 (not_not_intro (by rw [own_fu]; simp only [hc96, if_true, if_false])))
        refine own_aload C X at_109 rfl rfl (pc' := 111) rfl ?_
        refine own_callV C X at_111 (own_m_size l Z a0 hw ob _ n0 (own_big C X) lim pk (4 : Int32) O_ob) O_ob.1 (hw _ (List.mem_of_getElem? (i := 31) rfl)) (hw _ (List.mem_of_getElem? (i := 32) rfl)) (hw _ (List.mem_of_getElem? (i := 34) rfl)) (hw _ (List.mem_of_getElem? (i := 33) rfl)) (hw _ (List.mem_of_getElem? (i := 7) rfl)) (hw _ (List.mem_of_getElem? (i := 35) rfl)) (by decide) own_pd_1265 rfl rfl (Nat.le_of_ble_eq_true rfl) (Nat.le_of_ble_eq_true rfl) (Nat.le_of_ble_eq_true rfl) (Nat.le_of_ble_eq_true rfl) (av := []) (S := []) rfl (pc' := 114) rfl ?_
        intro T h v X hQ
        obtain ⟨rfl, rfl⟩ := hQ
        show own_Go p e below n0 (own_Fin room_1 s (fun v h => v = some (.int 1))) (T.setTop (mkF m 114 #[.val (.int i0), .val (.int i1), .val (.int i2), .val (.int i3), .val (.int i4), .val (.int i5), .val (.int bg), .val (.int tr), .val (.int lim), .val (.int (4 : Int32)), .val (.ref ob), .val (.int (own_fu (4 : Int32) lim)), .unset] [(.int (4 : Int32))]))
        refine own_iload C X at_114 rfl (pc' := 116) rfl ?_
        refine own_icmp_eq C X at_116 (pcT := 121) (pc' := 119) (by decide) (by decide) rfl (fun hc116 => ?_) (fun hc116 => absurd hc116 (by decide))
        refine own_iload C X at_121 rfl (pc' := 123) rfl ?_
        refine own_if_eq C X at_123 (pcT := 179) (pc' := 126) (by decide) (by decide) rfl (fun hc123 => ?_) (fun hc123 => ?_)
        · refine own_iconst C X at_179 (v := 1) (by decide) (pc' := 180) rfl ?_
          exact own_ireturn_z C X at_180 (Nat.le_of_ble_eq_true rfl) (Nat.le_of_ble_eq_true rfl) (rfl)
        · refine own_aload C X at_126 rfl rfl (pc' := 128) rfl ?_
          refine own_iload C X at_128 rfl (pc' := 130) rfl ?_
          refine own_bipush C X at_130 (v := 31) (by decide) (pc' := 132) rfl ?_
          refine own_iand C X at_132 rfl (pc' := 133) rfl ?_
          refine own_callV C X at_133 (own_m_keep4 l Z a0 hw ob (i4 &&& (31 : Int32)) _ n0 (own_big C X) lim pk ys hk O_ob A ne_o ge_ob) O_ob.1 (hw _ (List.mem_of_getElem? (i := 36) rfl)) (hw _ (List.mem_of_getElem? (i := 37) rfl)) (hw _ (List.mem_of_getElem? (i := 39) rfl)) (hw _ (List.mem_of_getElem? (i := 38) rfl)) (hw _ (List.mem_of_getElem? (i := 7) rfl)) (hw _ (List.mem_of_getElem? (i := 40) rfl)) (by decide) own_pd_2093 rfl rfl (Nat.le_of_ble_eq_true rfl) (Nat.le_of_ble_eq_true rfl) (Nat.le_of_ble_eq_true rfl) (Nat.le_of_ble_eq_true rfl) (av := [(.int (i4 &&& (31 : Int32)))]) (S := []) rfl (pc' := 136) rfl ?_
          intro T h v X hQ
          obtain ⟨rfl, n, hn1, hn2, K_, O_ob⟩ := hQ
          have A := A.keep K_ (ninS (Ne.symm ne_o) nin0)
          show own_Go p e below n0 (own_Fin room_1 s (fun v h => v = some (.int 1))) (T.setTop (mkF m 136 #[.val (.int i0), .val (.int i1), .val (.int i2), .val (.int i3), .val (.int i4), .val (.int i5), .val (.int bg), .val (.int tr), .val (.int lim), .val (.int (4 : Int32)), .val (.ref ob), .val (.int (own_fu (4 : Int32) lim)), .unset] []))
          refine own_aload C X at_136 rfl rfl (pc' := 138) rfl ?_
          refine own_callV C X at_138 (own_m_size l Z a0 hw ob _ n0 (own_big C X) lim pk n O_ob) O_ob.1 (hw _ (List.mem_of_getElem? (i := 31) rfl)) (hw _ (List.mem_of_getElem? (i := 32) rfl)) (hw _ (List.mem_of_getElem? (i := 34) rfl)) (hw _ (List.mem_of_getElem? (i := 33) rfl)) (hw _ (List.mem_of_getElem? (i := 7) rfl)) (hw _ (List.mem_of_getElem? (i := 35) rfl)) (by decide) own_pd_1265 rfl rfl (Nat.le_of_ble_eq_true rfl) (Nat.le_of_ble_eq_true rfl) (Nat.le_of_ble_eq_true rfl) (Nat.le_of_ble_eq_true rfl) (av := []) (S := []) rfl (pc' := 141) rfl ?_
          intro T h v X hQ
          obtain ⟨rfl, rfl⟩ := hQ
          show own_Go p e below n0 (own_Fin room_1 s (fun v h => v = some (.int 1))) (T.setTop (mkF m 141 #[.val (.int i0), .val (.int i1), .val (.int i2), .val (.int i3), .val (.int i4), .val (.int i5), .val (.int bg), .val (.int tr), .val (.int lim), .val (.int (4 : Int32)), .val (.ref ob), .val (.int (own_fu (4 : Int32) lim)), .unset] [(.int n)]))
          refine own_istore C X at_141 (L' := #[.val (.int i0), .val (.int i1), .val (.int i2), .val (.int i3), .val (.int i4), .val (.int i5), .val (.int bg), .val (.int tr), .val (.int lim), .val (.int (4 : Int32)), .val (.ref ob), .val (.int (own_fu (4 : Int32) lim)), .val (.int n)]) rfl (pc' := 143) rfl ?_
          refine own_iload C X at_143 rfl (pc' := 145) rfl ?_
          refine own_if_lt C X at_145 (pcT := 155) (pc' := 148) (by decide) (by decide) rfl (fun hc145 => absurd hc145 (fun q => absurd (Int32.lt_iff_toInt_lt.mp q) (by show ¬ (n.toInt < (0 : Int)); omega))) (fun hc145 => ?_)
          refine own_iload C X at_148 rfl (pc' := 150) rfl ?_
          refine own_iload C X at_150 rfl (pc' := 152) rfl ?_
          refine own_icmp_le C X at_152 (pcT := 157) (pc' := 155) (by decide) (by decide) rfl (fun hc152 => ?_) (fun hc152 => absurd hc152 (fun q => absurd (Int32.lt_iff_toInt_lt.mp q) (by show ¬ ((4 : Int) < n.toInt); omega)))
          refine own_aload C X at_157 rfl rfl (pc' := 159) rfl ?_
          refine own_callV C X at_159 (own_m_full l Z a0 hw ob _ n0 (own_big C X) lim pk n O_ob) O_ob.1 (hw _ (List.mem_of_getElem? (i := 24) rfl)) (hw _ (List.mem_of_getElem? (i := 25) rfl)) (hw _ (List.mem_of_getElem? (i := 27) rfl)) (hw _ (List.mem_of_getElem? (i := 26) rfl)) (hw _ (List.mem_of_getElem? (i := 7) rfl)) (hw _ (List.mem_of_getElem? (i := 28) rfl)) (by decide) own_pd_1418 rfl rfl (Nat.le_of_ble_eq_true rfl) (Nat.le_of_ble_eq_true rfl) (Nat.le_of_ble_eq_true rfl) (Nat.le_of_ble_eq_true rfl) (av := []) (S := []) rfl (pc' := 162) rfl ?_
          intro T h v X hQ
          obtain ⟨rfl, rfl⟩ := hQ
          show own_Go p e below n0 (own_Fin room_1 s (fun v h => v = some (.int 1))) (T.setTop (mkF m 162 #[.val (.int i0), .val (.int i1), .val (.int i2), .val (.int i3), .val (.int i4), .val (.int i5), .val (.int bg), .val (.int tr), .val (.int lim), .val (.int (4 : Int32)), .val (.ref ob), .val (.int (own_fu (4 : Int32) lim)), .val (.int n)] [(.int (own_fu n lim))]))
          refine own_iload C X at_162 rfl (pc' := 164) rfl ?_
          refine own_iload C X at_164 rfl (pc' := 166) rfl ?_
          refine own_icmp_ne C X at_166 (pcT := 173) (pc' := 169) (by decide) (by decide) rfl (fun hc166 => ?_) (fun hc166 => ?_)
          · refine own_iconst C X at_173 (v := 0) (by decide) (pc' := 174) rfl ?_
            refine own_icmp_eq C X at_174 (pcT := 179) (pc' := 177) (by decide) (by decide) rfl (fun hc174 => ?_) (fun hc174 => absurd hc174 (not_not_intro (by rw [own_fu]; simp only [hc166, if_true, if_false])))
            refine own_iconst C X at_179 (v := 1) (by decide) (pc' := 180) rfl ?_
            exact own_ireturn_z C X at_180 (Nat.le_of_ble_eq_true rfl) (Nat.le_of_ble_eq_true rfl) (rfl)
          · refine own_iconst C X at_169 (v := 1) (by decide) (pc' := 170) rfl ?_
            refine own_goto C X at_170 (pc' := 174) (by decide) (by decide) ?_
            refine own_icmp_eq C X at_174 (pcT := 179) (pc' := 177) (by decide) (by decide) rfl (fun hc174 => ?_) (fun hc174 => absurd hc174 (not_not_intro (by rw [own_fu]; simp only [hc166, if_true, if_false])))
            refine own_iconst C X at_179 (v := 1) (by decide) (pc' := 180) rfl ?_
            exact own_ireturn_z C X at_180 (Nat.le_of_ble_eq_true rfl) (Nat.le_of_ble_eq_true rfl) (rfl)
    · refine own_istore C X at_61 (L' := #[.val (.int i0), .val (.int i1), .val (.int i2), .val (.int i3), .val (.int i4), .val (.int i5), .val (.int bg), .val (.int tr), .val (.int lim), .val (.int (5 : Int32)), .unset, .unset, .unset]) rfl (pc' := 63) rfl ?_
      refine own_new C X at_63 (hw _ (List.mem_of_getElem? (i := 5) rfl)) (hw _ (List.mem_of_getElem? (i := 6) rfl)) (hw _ (List.mem_of_getElem? (i := 7) rfl)) (Nat.le_of_ble_eq_true rfl) (Nat.le_of_ble_eq_true rfl) [("limit", "I", (.int (0 : Int32))), ("packed", "[J", .null), ("size", "I", (.int (0 : Int32)))] (by decide) ?_ (pc' := 66) rfl ?_
      · intro f hf; simp only [List.mem_cons, List.not_mem_nil, or_false] at hf
        rcases hf with rfl | rfl | rfl
        · exact ⟨(Or.inr (hw _ (List.mem_of_getElem? (i := 15) rfl))), .int, by decide, rfl⟩
        · exact ⟨(Or.inl (hw _ (List.mem_of_getElem? (i := 19) rfl))), (.array .long), by decide, rfl⟩
        · exact ⟨(Or.inl (hw _ (List.mem_of_getElem? (i := 30) rfl))), .int, by decide, rfl⟩
      intro T h ob e_ob X K_ ge_ob O_ob
      refine own_dup C X at_66 rfl (pc' := 67) rfl ?_
      refine own_iload C X at_67 rfl (pc' := 69) rfl ?_
      have hbg := own_big C X
      refine own_callInit C X at_69 (own_m_init l Z a0 hw ob lim _ n0 hbg O_ob ge_ob hlim) rfl (hw _ (List.mem_of_getElem? (i := 8) rfl)) (hw _ (List.mem_of_getElem? (i := 9) rfl)) (hw _ (List.mem_of_getElem? (i := 7) rfl)) (hw _ (List.mem_of_getElem? (i := 10) rfl)) (by decide) own_pd_2093 rfl rfl (Nat.le_of_ble_eq_true rfl) (Nat.le_of_ble_eq_true rfl) (Nat.le_of_ble_eq_true rfl) (Nat.le_of_ble_eq_true rfl) (av := [(.int lim)]) (S := [(.ref ob)]) rfl (pc' := 72) rfl ?_
      intro T h v X hQ
      obtain ⟨rfl, pk, xs, gq_pk, K_, O_n, A, hxs⟩ := hQ
      have ne_o : ob ≠ pk := Nat.ne_of_lt (Nat.lt_of_lt_of_le O_ob.lt gq_pk)
      have ge_pk : n0 ≤ pk := Nat.le_trans hbg gq_pk
      have O_ob := O_n
      obtain ⟨nl, hnl⟩ := A.len
      show own_Go p e below n0 (own_Fin room_1 s (fun v h => v = some (.int 1))) (T.setTop (mkF m 72 #[.val (.int i0), .val (.int i1), .val (.int i2), .val (.int i3), .val (.int i4), .val (.int i5), .val (.int bg), .val (.int tr), .val (.int lim), .val (.int (5 : Int32)), .unset, .unset, .unset] [(.ref ob)]))
      refine own_astore C X at_72 rfl (L' := #[.val (.int i0), .val (.int i1), .val (.int i2), .val (.int i3), .val (.int i4), .val (.int i5), .val (.int bg), .val (.int tr), .val (.int lim), .val (.int (5 : Int32)), .val (.ref ob), .unset, .unset]) rfl (pc' := 74) rfl ?_
      refine own_aload C X at_74 rfl rfl (pc' := 76) rfl ?_
      refine own_iload C X at_76 rfl (pc' := 78) rfl ?_
      refine own_iloadN C X at_78 rfl (pc' := 79) rfl ?_
      refine own_iloadN C X at_79 rfl (pc' := 80) rfl ?_
      refine own_callS C X at_80 (own_m_addN5 l Z a0 hw ob i3 i2 _ n0 (own_big C X) lim pk xs nl hnl (hxs 5 (by decide) hkl) O_ob A ne_o ge_ob ge_pk) (hw _ (List.mem_of_getElem? (i := 20) rfl)) (hw _ (List.mem_of_getElem? (i := 21) rfl)) (hw _ (List.mem_of_getElem? (i := 22) rfl)) (hw _ (List.mem_of_getElem? (i := 23) rfl)) (by decide) own_pd_133748 rfl rfl (Nat.le_of_ble_eq_true rfl) (Nat.le_of_ble_eq_true rfl) (Nat.le_of_ble_eq_true rfl) (Nat.le_of_ble_eq_true rfl) (av := [(.ref ob), (.int (5 : Int32)), (.int i3), (.int i2)]) (S := []) rfl (pc' := 83) rfl ?_
      intro T h v X hQ
      obtain ⟨rfl, K_, O_ob, ys, A, hk⟩ := hQ
      show own_Go p e below n0 (own_Fin room_1 s (fun v h => v = some (.int 1))) (T.setTop (mkF m 83 #[.val (.int i0), .val (.int i1), .val (.int i2), .val (.int i3), .val (.int i4), .val (.int i5), .val (.int bg), .val (.int tr), .val (.int lim), .val (.int (5 : Int32)), .val (.ref ob), .unset, .unset] []))
      refine own_aload C X at_83 rfl rfl (pc' := 85) rfl ?_
      refine own_callV C X at_85 (own_m_full l Z a0 hw ob _ n0 (own_big C X) lim pk (5 : Int32) O_ob) O_ob.1 (hw _ (List.mem_of_getElem? (i := 24) rfl)) (hw _ (List.mem_of_getElem? (i := 25) rfl)) (hw _ (List.mem_of_getElem? (i := 27) rfl)) (hw _ (List.mem_of_getElem? (i := 26) rfl)) (hw _ (List.mem_of_getElem? (i := 7) rfl)) (hw _ (List.mem_of_getElem? (i := 28) rfl)) (by decide) own_pd_1418 rfl rfl (Nat.le_of_ble_eq_true rfl) (Nat.le_of_ble_eq_true rfl) (Nat.le_of_ble_eq_true rfl) (Nat.le_of_ble_eq_true rfl) (av := []) (S := []) rfl (pc' := 88) rfl ?_
      intro T h v X hQ
      obtain ⟨rfl, rfl⟩ := hQ
      show own_Go p e below n0 (own_Fin room_1 s (fun v h => v = some (.int 1))) (T.setTop (mkF m 88 #[.val (.int i0), .val (.int i1), .val (.int i2), .val (.int i3), .val (.int i4), .val (.int i5), .val (.int bg), .val (.int tr), .val (.int lim), .val (.int (5 : Int32)), .val (.ref ob), .unset, .unset] [(.int (own_fu (5 : Int32) lim))]))
      refine own_istore C X at_88 (L' := #[.val (.int i0), .val (.int i1), .val (.int i2), .val (.int i3), .val (.int i4), .val (.int i5), .val (.int bg), .val (.int tr), .val (.int lim), .val (.int (5 : Int32)), .val (.ref ob), .val (.int (own_fu (5 : Int32) lim)), .unset]) rfl (pc' := 90) rfl ?_
      refine own_iload C X at_90 rfl (pc' := 92) rfl ?_
      refine own_iload C X at_92 rfl (pc' := 94) rfl ?_
      refine own_iload C X at_94 rfl (pc' := 96) rfl ?_
      refine own_icmp_ne C X at_96 (pcT := 103) (pc' := 99) (by decide) (by decide) rfl (fun hc96 => ?_) (fun hc96 => ?_)
      · refine own_iconst C X at_103 (v := 0) (by decide) (pc' := 104) rfl ?_
        refine own_icmp_eq C X at_104 (pcT := 109) (pc' := 107) (by decide) (by decide) rfl (fun hc104 => ?_) (fun hc104 => absurd hc104 (not_not_intro (by rw [own_fu]; simp only [hc96, if_true, if_false])))
        refine own_aload C X at_109 rfl rfl (pc' := 111) rfl ?_
        refine own_callV C X at_111 (own_m_size l Z a0 hw ob _ n0 (own_big C X) lim pk (5 : Int32) O_ob) O_ob.1 (hw _ (List.mem_of_getElem? (i := 31) rfl)) (hw _ (List.mem_of_getElem? (i := 32) rfl)) (hw _ (List.mem_of_getElem? (i := 34) rfl)) (hw _ (List.mem_of_getElem? (i := 33) rfl)) (hw _ (List.mem_of_getElem? (i := 7) rfl)) (hw _ (List.mem_of_getElem? (i := 35) rfl)) (by decide) own_pd_1265 rfl rfl (Nat.le_of_ble_eq_true rfl) (Nat.le_of_ble_eq_true rfl) (Nat.le_of_ble_eq_true rfl) (Nat.le_of_ble_eq_true rfl) (av := []) (S := []) rfl (pc' := 114) rfl ?_
        intro T h v X hQ
        obtain ⟨rfl, rfl⟩ := hQ
        show own_Go p e below n0 (own_Fin room_1 s (fun v h => v = some (.int 1))) (T.setTop (mkF m 114 #[.val (.int i0), .val (.int i1), .val (.int i2), .val (.int i3), .val (.int i4), .val (.int i5), .val (.int bg), .val (.int tr), .val (.int lim), .val (.int (5 : Int32)), .val (.ref ob), .val (.int (own_fu (5 : Int32) lim)), .unset] [(.int (5 : Int32))]))
        refine own_iload C X at_114 rfl (pc' := 116) rfl ?_
        refine own_icmp_eq C X at_116 (pcT := 121) (pc' := 119) (by decide) (by decide) rfl (fun hc116 => ?_) (fun hc116 => absurd hc116 (by decide))
        refine own_iload C X at_121 rfl (pc' := 123) rfl ?_
        refine own_if_eq C X at_123 (pcT := 179) (pc' := 126) (by decide) (by decide) rfl (fun hc123 => ?_) (fun hc123 => ?_)
        · refine own_iconst C X at_179 (v := 1) (by decide) (pc' := 180) rfl ?_
          exact own_ireturn_z C X at_180 (Nat.le_of_ble_eq_true rfl) (Nat.le_of_ble_eq_true rfl) (rfl)
        · refine own_aload C X at_126 rfl rfl (pc' := 128) rfl ?_
          refine own_iload C X at_128 rfl (pc' := 130) rfl ?_
          refine own_bipush C X at_130 (v := 31) (by decide) (pc' := 132) rfl ?_
          refine own_iand C X at_132 rfl (pc' := 133) rfl ?_
          refine own_callV C X at_133 (own_m_keep5 l Z a0 hw ob (i4 &&& (31 : Int32)) _ n0 (own_big C X) lim pk ys hk O_ob A ne_o ge_ob) O_ob.1 (hw _ (List.mem_of_getElem? (i := 36) rfl)) (hw _ (List.mem_of_getElem? (i := 37) rfl)) (hw _ (List.mem_of_getElem? (i := 39) rfl)) (hw _ (List.mem_of_getElem? (i := 38) rfl)) (hw _ (List.mem_of_getElem? (i := 7) rfl)) (hw _ (List.mem_of_getElem? (i := 40) rfl)) (by decide) own_pd_2093 rfl rfl (Nat.le_of_ble_eq_true rfl) (Nat.le_of_ble_eq_true rfl) (Nat.le_of_ble_eq_true rfl) (Nat.le_of_ble_eq_true rfl) (av := [(.int (i4 &&& (31 : Int32)))]) (S := []) rfl (pc' := 136) rfl ?_
          intro T h v X hQ
          obtain ⟨rfl, n, hn1, hn2, K_, O_ob⟩ := hQ
          have A := A.keep K_ (ninS (Ne.symm ne_o) nin0)
          show own_Go p e below n0 (own_Fin room_1 s (fun v h => v = some (.int 1))) (T.setTop (mkF m 136 #[.val (.int i0), .val (.int i1), .val (.int i2), .val (.int i3), .val (.int i4), .val (.int i5), .val (.int bg), .val (.int tr), .val (.int lim), .val (.int (5 : Int32)), .val (.ref ob), .val (.int (own_fu (5 : Int32) lim)), .unset] []))
          refine own_aload C X at_136 rfl rfl (pc' := 138) rfl ?_
          refine own_callV C X at_138 (own_m_size l Z a0 hw ob _ n0 (own_big C X) lim pk n O_ob) O_ob.1 (hw _ (List.mem_of_getElem? (i := 31) rfl)) (hw _ (List.mem_of_getElem? (i := 32) rfl)) (hw _ (List.mem_of_getElem? (i := 34) rfl)) (hw _ (List.mem_of_getElem? (i := 33) rfl)) (hw _ (List.mem_of_getElem? (i := 7) rfl)) (hw _ (List.mem_of_getElem? (i := 35) rfl)) (by decide) own_pd_1265 rfl rfl (Nat.le_of_ble_eq_true rfl) (Nat.le_of_ble_eq_true rfl) (Nat.le_of_ble_eq_true rfl) (Nat.le_of_ble_eq_true rfl) (av := []) (S := []) rfl (pc' := 141) rfl ?_
          intro T h v X hQ
          obtain ⟨rfl, rfl⟩ := hQ
          show own_Go p e below n0 (own_Fin room_1 s (fun v h => v = some (.int 1))) (T.setTop (mkF m 141 #[.val (.int i0), .val (.int i1), .val (.int i2), .val (.int i3), .val (.int i4), .val (.int i5), .val (.int bg), .val (.int tr), .val (.int lim), .val (.int (5 : Int32)), .val (.ref ob), .val (.int (own_fu (5 : Int32) lim)), .unset] [(.int n)]))
          refine own_istore C X at_141 (L' := #[.val (.int i0), .val (.int i1), .val (.int i2), .val (.int i3), .val (.int i4), .val (.int i5), .val (.int bg), .val (.int tr), .val (.int lim), .val (.int (5 : Int32)), .val (.ref ob), .val (.int (own_fu (5 : Int32) lim)), .val (.int n)]) rfl (pc' := 143) rfl ?_
          refine own_iload C X at_143 rfl (pc' := 145) rfl ?_
          refine own_if_lt C X at_145 (pcT := 155) (pc' := 148) (by decide) (by decide) rfl (fun hc145 => absurd hc145 (fun q => absurd (Int32.lt_iff_toInt_lt.mp q) (by show ¬ (n.toInt < (0 : Int)); omega))) (fun hc145 => ?_)
          refine own_iload C X at_148 rfl (pc' := 150) rfl ?_
          refine own_iload C X at_150 rfl (pc' := 152) rfl ?_
          refine own_icmp_le C X at_152 (pcT := 157) (pc' := 155) (by decide) (by decide) rfl (fun hc152 => ?_) (fun hc152 => absurd hc152 (fun q => absurd (Int32.lt_iff_toInt_lt.mp q) (by show ¬ ((5 : Int) < n.toInt); omega)))
          refine own_aload C X at_157 rfl rfl (pc' := 159) rfl ?_
          refine own_callV C X at_159 (own_m_full l Z a0 hw ob _ n0 (own_big C X) lim pk n O_ob) O_ob.1 (hw _ (List.mem_of_getElem? (i := 24) rfl)) (hw _ (List.mem_of_getElem? (i := 25) rfl)) (hw _ (List.mem_of_getElem? (i := 27) rfl)) (hw _ (List.mem_of_getElem? (i := 26) rfl)) (hw _ (List.mem_of_getElem? (i := 7) rfl)) (hw _ (List.mem_of_getElem? (i := 28) rfl)) (by decide) own_pd_1418 rfl rfl (Nat.le_of_ble_eq_true rfl) (Nat.le_of_ble_eq_true rfl) (Nat.le_of_ble_eq_true rfl) (Nat.le_of_ble_eq_true rfl) (av := []) (S := []) rfl (pc' := 162) rfl ?_
          intro T h v X hQ
          obtain ⟨rfl, rfl⟩ := hQ
          show own_Go p e below n0 (own_Fin room_1 s (fun v h => v = some (.int 1))) (T.setTop (mkF m 162 #[.val (.int i0), .val (.int i1), .val (.int i2), .val (.int i3), .val (.int i4), .val (.int i5), .val (.int bg), .val (.int tr), .val (.int lim), .val (.int (5 : Int32)), .val (.ref ob), .val (.int (own_fu (5 : Int32) lim)), .val (.int n)] [(.int (own_fu n lim))]))
          refine own_iload C X at_162 rfl (pc' := 164) rfl ?_
          refine own_iload C X at_164 rfl (pc' := 166) rfl ?_
          refine own_icmp_ne C X at_166 (pcT := 173) (pc' := 169) (by decide) (by decide) rfl (fun hc166 => ?_) (fun hc166 => ?_)
          · refine own_iconst C X at_173 (v := 0) (by decide) (pc' := 174) rfl ?_
            refine own_icmp_eq C X at_174 (pcT := 179) (pc' := 177) (by decide) (by decide) rfl (fun hc174 => ?_) (fun hc174 => absurd hc174 (not_not_intro (by rw [own_fu]; simp only [hc166, if_true, if_false])))
            refine own_iconst C X at_179 (v := 1) (by decide) (pc' := 180) rfl ?_
            exact own_ireturn_z C X at_180 (Nat.le_of_ble_eq_true rfl) (Nat.le_of_ble_eq_true rfl) (rfl)
          · refine own_iconst C X at_169 (v := 1) (by decide) (pc' := 170) rfl ?_
            refine own_goto C X at_170 (pc' := 174) (by decide) (by decide) ?_
            refine own_icmp_eq C X at_174 (pcT := 179) (pc' := 177) (by decide) (by decide) rfl (fun hc174 => ?_) (fun hc174 => absurd hc174 (not_not_intro (by rw [own_fu]; simp only [hc166, if_true, if_false])))
            refine own_iconst C X at_179 (v := 1) (by decide) (pc' := 180) rfl ?_
            exact own_ireturn_z C X at_180 (Nat.le_of_ble_eq_true rfl) (Nat.le_of_ble_eq_true rfl) (rfl)
      · refine own_iconst C X at_99 (v := 1) (by decide) (pc' := 100) rfl ?_
        refine own_goto C X at_100 (pc' := 104) (by decide) (by decide) ?_
        refine own_icmp_eq C X at_104 (pcT := 109) (pc' := 107) (by decide) (by decide) rfl (fun hc104 => ?_) (fun hc104 => absurd hc104 (not_not_intro (by rw [own_fu]; simp only [hc96, if_true, if_false])))
        refine own_aload C X at_109 rfl rfl (pc' := 111) rfl ?_
        refine own_callV C X at_111 (own_m_size l Z a0 hw ob _ n0 (own_big C X) lim pk (5 : Int32) O_ob) O_ob.1 (hw _ (List.mem_of_getElem? (i := 31) rfl)) (hw _ (List.mem_of_getElem? (i := 32) rfl)) (hw _ (List.mem_of_getElem? (i := 34) rfl)) (hw _ (List.mem_of_getElem? (i := 33) rfl)) (hw _ (List.mem_of_getElem? (i := 7) rfl)) (hw _ (List.mem_of_getElem? (i := 35) rfl)) (by decide) own_pd_1265 rfl rfl (Nat.le_of_ble_eq_true rfl) (Nat.le_of_ble_eq_true rfl) (Nat.le_of_ble_eq_true rfl) (Nat.le_of_ble_eq_true rfl) (av := []) (S := []) rfl (pc' := 114) rfl ?_
        intro T h v X hQ
        obtain ⟨rfl, rfl⟩ := hQ
        show own_Go p e below n0 (own_Fin room_1 s (fun v h => v = some (.int 1))) (T.setTop (mkF m 114 #[.val (.int i0), .val (.int i1), .val (.int i2), .val (.int i3), .val (.int i4), .val (.int i5), .val (.int bg), .val (.int tr), .val (.int lim), .val (.int (5 : Int32)), .val (.ref ob), .val (.int (own_fu (5 : Int32) lim)), .unset] [(.int (5 : Int32))]))
        refine own_iload C X at_114 rfl (pc' := 116) rfl ?_
        refine own_icmp_eq C X at_116 (pcT := 121) (pc' := 119) (by decide) (by decide) rfl (fun hc116 => ?_) (fun hc116 => absurd hc116 (by decide))
        refine own_iload C X at_121 rfl (pc' := 123) rfl ?_
        refine own_if_eq C X at_123 (pcT := 179) (pc' := 126) (by decide) (by decide) rfl (fun hc123 => ?_) (fun hc123 => ?_)
        · refine own_iconst C X at_179 (v := 1) (by decide) (pc' := 180) rfl ?_
          exact own_ireturn_z C X at_180 (Nat.le_of_ble_eq_true rfl) (Nat.le_of_ble_eq_true rfl) (rfl)
        · refine own_aload C X at_126 rfl rfl (pc' := 128) rfl ?_
          refine own_iload C X at_128 rfl (pc' := 130) rfl ?_
          refine own_bipush C X at_130 (v := 31) (by decide) (pc' := 132) rfl ?_
          refine own_iand C X at_132 rfl (pc' := 133) rfl ?_
          refine own_callV C X at_133 (own_m_keep5 l Z a0 hw ob (i4 &&& (31 : Int32)) _ n0 (own_big C X) lim pk ys hk O_ob A ne_o ge_ob) O_ob.1 (hw _ (List.mem_of_getElem? (i := 36) rfl)) (hw _ (List.mem_of_getElem? (i := 37) rfl)) (hw _ (List.mem_of_getElem? (i := 39) rfl)) (hw _ (List.mem_of_getElem? (i := 38) rfl)) (hw _ (List.mem_of_getElem? (i := 7) rfl)) (hw _ (List.mem_of_getElem? (i := 40) rfl)) (by decide) own_pd_2093 rfl rfl (Nat.le_of_ble_eq_true rfl) (Nat.le_of_ble_eq_true rfl) (Nat.le_of_ble_eq_true rfl) (Nat.le_of_ble_eq_true rfl) (av := [(.int (i4 &&& (31 : Int32)))]) (S := []) rfl (pc' := 136) rfl ?_
          intro T h v X hQ
          obtain ⟨rfl, n, hn1, hn2, K_, O_ob⟩ := hQ
          have A := A.keep K_ (ninS (Ne.symm ne_o) nin0)
          show own_Go p e below n0 (own_Fin room_1 s (fun v h => v = some (.int 1))) (T.setTop (mkF m 136 #[.val (.int i0), .val (.int i1), .val (.int i2), .val (.int i3), .val (.int i4), .val (.int i5), .val (.int bg), .val (.int tr), .val (.int lim), .val (.int (5 : Int32)), .val (.ref ob), .val (.int (own_fu (5 : Int32) lim)), .unset] []))
          refine own_aload C X at_136 rfl rfl (pc' := 138) rfl ?_
          refine own_callV C X at_138 (own_m_size l Z a0 hw ob _ n0 (own_big C X) lim pk n O_ob) O_ob.1 (hw _ (List.mem_of_getElem? (i := 31) rfl)) (hw _ (List.mem_of_getElem? (i := 32) rfl)) (hw _ (List.mem_of_getElem? (i := 34) rfl)) (hw _ (List.mem_of_getElem? (i := 33) rfl)) (hw _ (List.mem_of_getElem? (i := 7) rfl)) (hw _ (List.mem_of_getElem? (i := 35) rfl)) (by decide) own_pd_1265 rfl rfl (Nat.le_of_ble_eq_true rfl) (Nat.le_of_ble_eq_true rfl) (Nat.le_of_ble_eq_true rfl) (Nat.le_of_ble_eq_true rfl) (av := []) (S := []) rfl (pc' := 141) rfl ?_
          intro T h v X hQ
          obtain ⟨rfl, rfl⟩ := hQ
          show own_Go p e below n0 (own_Fin room_1 s (fun v h => v = some (.int 1))) (T.setTop (mkF m 141 #[.val (.int i0), .val (.int i1), .val (.int i2), .val (.int i3), .val (.int i4), .val (.int i5), .val (.int bg), .val (.int tr), .val (.int lim), .val (.int (5 : Int32)), .val (.ref ob), .val (.int (own_fu (5 : Int32) lim)), .unset] [(.int n)]))
          refine own_istore C X at_141 (L' := #[.val (.int i0), .val (.int i1), .val (.int i2), .val (.int i3), .val (.int i4), .val (.int i5), .val (.int bg), .val (.int tr), .val (.int lim), .val (.int (5 : Int32)), .val (.ref ob), .val (.int (own_fu (5 : Int32) lim)), .val (.int n)]) rfl (pc' := 143) rfl ?_
          refine own_iload C X at_143 rfl (pc' := 145) rfl ?_
          refine own_if_lt C X at_145 (pcT := 155) (pc' := 148) (by decide) (by decide) rfl (fun hc145 => absurd hc145 (fun q => absurd (Int32.lt_iff_toInt_lt.mp q) (by show ¬ (n.toInt < (0 : Int)); omega))) (fun hc145 => ?_)
          refine own_iload C X at_148 rfl (pc' := 150) rfl ?_
          refine own_iload C X at_150 rfl (pc' := 152) rfl ?_
          refine own_icmp_le C X at_152 (pcT := 157) (pc' := 155) (by decide) (by decide) rfl (fun hc152 => ?_) (fun hc152 => absurd hc152 (fun q => absurd (Int32.lt_iff_toInt_lt.mp q) (by show ¬ ((5 : Int) < n.toInt); omega)))
          refine own_aload C X at_157 rfl rfl (pc' := 159) rfl ?_
          refine own_callV C X at_159 (own_m_full l Z a0 hw ob _ n0 (own_big C X) lim pk n O_ob) O_ob.1 (hw _ (List.mem_of_getElem? (i := 24) rfl)) (hw _ (List.mem_of_getElem? (i := 25) rfl)) (hw _ (List.mem_of_getElem? (i := 27) rfl)) (hw _ (List.mem_of_getElem? (i := 26) rfl)) (hw _ (List.mem_of_getElem? (i := 7) rfl)) (hw _ (List.mem_of_getElem? (i := 28) rfl)) (by decide) own_pd_1418 rfl rfl (Nat.le_of_ble_eq_true rfl) (Nat.le_of_ble_eq_true rfl) (Nat.le_of_ble_eq_true rfl) (Nat.le_of_ble_eq_true rfl) (av := []) (S := []) rfl (pc' := 162) rfl ?_
          intro T h v X hQ
          obtain ⟨rfl, rfl⟩ := hQ
          show own_Go p e below n0 (own_Fin room_1 s (fun v h => v = some (.int 1))) (T.setTop (mkF m 162 #[.val (.int i0), .val (.int i1), .val (.int i2), .val (.int i3), .val (.int i4), .val (.int i5), .val (.int bg), .val (.int tr), .val (.int lim), .val (.int (5 : Int32)), .val (.ref ob), .val (.int (own_fu (5 : Int32) lim)), .val (.int n)] [(.int (own_fu n lim))]))
          refine own_iload C X at_162 rfl (pc' := 164) rfl ?_
          refine own_iload C X at_164 rfl (pc' := 166) rfl ?_
          refine own_icmp_ne C X at_166 (pcT := 173) (pc' := 169) (by decide) (by decide) rfl (fun hc166 => ?_) (fun hc166 => ?_)
          · refine own_iconst C X at_173 (v := 0) (by decide) (pc' := 174) rfl ?_
            refine own_icmp_eq C X at_174 (pcT := 179) (pc' := 177) (by decide) (by decide) rfl (fun hc174 => ?_) (fun hc174 => absurd hc174 (not_not_intro (by rw [own_fu]; simp only [hc166, if_true, if_false])))
            refine own_iconst C X at_179 (v := 1) (by decide) (pc' := 180) rfl ?_
            exact own_ireturn_z C X at_180 (Nat.le_of_ble_eq_true rfl) (Nat.le_of_ble_eq_true rfl) (rfl)
          · refine own_iconst C X at_169 (v := 1) (by decide) (pc' := 170) rfl ?_
            refine own_goto C X at_170 (pc' := 174) (by decide) (by decide) ?_
            refine own_icmp_eq C X at_174 (pcT := 179) (pc' := 177) (by decide) (by decide) rfl (fun hc174 => ?_) (fun hc174 => absurd hc174 (not_not_intro (by rw [own_fu]; simp only [hc166, if_true, if_false])))
            refine own_iconst C X at_179 (v := 1) (by decide) (pc' := 180) rfl ?_
            exact own_ireturn_z C X at_180 (Nat.le_of_ble_eq_true rfl) (Nat.le_of_ble_eq_true rfl) (rfl)
  refine own_iload C X at_0 rfl (pc' := 2) rfl ?_
  refine own_iconst C X at_2 (v := 1) (by decide) (pc' := 3) rfl ?_
  refine own_iand C X at_3 rfl (pc' := 4) rfl ?_
  refine own_if_eq C X at_4 (pcT := 11) (pc' := 7) (by decide) (by decide) rfl (fun hc4 => ?_) (fun hc4 => ?_)
  · refine own_iconst C X at_11 (v := 0) (by decide) (pc' := 12) rfl ?_
    refine own_istore C X at_12 (L' := #[.val (.int i0), .val (.int i1), .val (.int i2), .val (.int i3), .val (.int i4), .val (.int i5), .val (.int (0 : Int32)), .unset, .unset, .unset, .unset, .unset, .unset]) rfl (pc' := 14) rfl ?_
    refine own_iload C X at_14 rfl (pc' := 16) rfl ?_
    refine own_iconst C X at_16 (v := 2) (by decide) (pc' := 17) rfl ?_
    refine own_iand C X at_17 rfl (pc' := 18) rfl ?_
    refine own_if_eq C X at_18 (pcT := 25) (pc' := 21) (by decide) (by decide) rfl (fun hc18 => ?_) (fun hc18 => ?_)
    · refine own_iconst C X at_25 (v := 0) (by decide) (pc' := 26) rfl ?_
      refine own_istore C X at_26 (L' := #[.val (.int i0), .val (.int i1), .val (.int i2), .val (.int i3), .val (.int i4), .val (.int i5), .val (.int (0 : Int32)), .val (.int (0 : Int32)), .unset, .unset, .unset, .unset, .unset]) rfl (pc' := 28) rfl ?_
      refine own_iload C X at_28 rfl (pc' := 30) rfl ?_
      refine own_if_eq C X at_30 (pcT := 40) (pc' := 33) (by decide) (by decide) rfl (fun hc30 => ?_) (fun hc30 => absurd hc30 (by decide))
      refine own_iloadN C X at_40 rfl (pc' := 41) rfl ?_
      refine own_ldcI C X at_41 (hw _ (List.mem_of_getElem? (i := 0) rfl)) (pc' := 43) rfl ?_
      refine own_iand C X at_43 rfl (pc' := 44) rfl ?_
      refine own_bipush C X at_44 (v := 6) (by decide) (pc' := 46) rfl ?_
      refine own_irem C X at_46 (by decide) rfl (pc' := 47) rfl ?_
      refine own_istore C X at_47 (L' := #[.val (.int i0), .val (.int i1), .val (.int i2), .val (.int i3), .val (.int i4), .val (.int i5), .val (.int (0 : Int32)), .val (.int (0 : Int32)), .val (.int ((i0 &&& (2147483647 : Int32)) % (6 : Int32))), .unset, .unset, .unset, .unset]) rfl (pc' := 49) rfl ?_
      exact J _ _ _ (own_lim2 i0)
    · refine own_iconst C X at_21 (v := 1) (by decide) (pc' := 22) rfl ?_
      refine own_goto C X at_22 (pc' := 26) (by decide) (by decide) ?_
      refine own_istore C X at_26 (L' := #[.val (.int i0), .val (.int i1), .val (.int i2), .val (.int i3), .val (.int i4), .val (.int i5), .val (.int (0 : Int32)), .val (.int (1 : Int32)), .unset, .unset, .unset, .unset, .unset]) rfl (pc' := 28) rfl ?_
      refine own_iload C X at_28 rfl (pc' := 30) rfl ?_
      refine own_if_eq C X at_30 (pcT := 40) (pc' := 33) (by decide) (by decide) rfl (fun hc30 => ?_) (fun hc30 => absurd hc30 (by decide))
      refine own_iloadN C X at_40 rfl (pc' := 41) rfl ?_
      refine own_ldcI C X at_41 (hw _ (List.mem_of_getElem? (i := 0) rfl)) (pc' := 43) rfl ?_
      refine own_iand C X at_43 rfl (pc' := 44) rfl ?_
      refine own_bipush C X at_44 (v := 6) (by decide) (pc' := 46) rfl ?_
      refine own_irem C X at_46 (by decide) rfl (pc' := 47) rfl ?_
      refine own_istore C X at_47 (L' := #[.val (.int i0), .val (.int i1), .val (.int i2), .val (.int i3), .val (.int i4), .val (.int i5), .val (.int (0 : Int32)), .val (.int (1 : Int32)), .val (.int ((i0 &&& (2147483647 : Int32)) % (6 : Int32))), .unset, .unset, .unset, .unset]) rfl (pc' := 49) rfl ?_
      exact J _ _ _ (own_lim2 i0)
  · refine own_iconst C X at_7 (v := 1) (by decide) (pc' := 8) rfl ?_
    refine own_goto C X at_8 (pc' := 12) (by decide) (by decide) ?_
    refine own_istore C X at_12 (L' := #[.val (.int i0), .val (.int i1), .val (.int i2), .val (.int i3), .val (.int i4), .val (.int i5), .val (.int (1 : Int32)), .unset, .unset, .unset, .unset, .unset, .unset]) rfl (pc' := 14) rfl ?_
    refine own_iload C X at_14 rfl (pc' := 16) rfl ?_
    refine own_iconst C X at_16 (v := 2) (by decide) (pc' := 17) rfl ?_
    refine own_iand C X at_17 rfl (pc' := 18) rfl ?_
    refine own_if_eq C X at_18 (pcT := 25) (pc' := 21) (by decide) (by decide) rfl (fun hc18 => ?_) (fun hc18 => ?_)
    · refine own_iconst C X at_25 (v := 0) (by decide) (pc' := 26) rfl ?_
      refine own_istore C X at_26 (L' := #[.val (.int i0), .val (.int i1), .val (.int i2), .val (.int i3), .val (.int i4), .val (.int i5), .val (.int (1 : Int32)), .val (.int (0 : Int32)), .unset, .unset, .unset, .unset, .unset]) rfl (pc' := 28) rfl ?_
      refine own_iload C X at_28 rfl (pc' := 30) rfl ?_
      refine own_if_eq C X at_30 (pcT := 40) (pc' := 33) (by decide) (by decide) rfl (fun hc30 => absurd hc30 (by decide)) (fun hc30 => ?_)
      refine own_iloadN C X at_33 rfl (pc' := 34) rfl ?_
      refine own_ldcI C X at_34 (hw _ (List.mem_of_getElem? (i := 0) rfl)) (pc' := 36) rfl ?_
      refine own_iand C X at_36 rfl (pc' := 37) rfl ?_
      refine own_goto C X at_37 (pc' := 47) (by decide) (by decide) ?_
      refine own_istore C X at_47 (L' := #[.val (.int i0), .val (.int i1), .val (.int i2), .val (.int i3), .val (.int i4), .val (.int i5), .val (.int (1 : Int32)), .val (.int (0 : Int32)), .val (.int (i0 &&& (2147483647 : Int32))), .unset, .unset, .unset, .unset]) rfl (pc' := 49) rfl ?_
      exact J _ _ _ (own_lim1 i0)
    · refine own_iconst C X at_21 (v := 1) (by decide) (pc' := 22) rfl ?_
      refine own_goto C X at_22 (pc' := 26) (by decide) (by decide) ?_
      refine own_istore C X at_26 (L' := #[.val (.int i0), .val (.int i1), .val (.int i2), .val (.int i3), .val (.int i4), .val (.int i5), .val (.int (1 : Int32)), .val (.int (1 : Int32)), .unset, .unset, .unset, .unset, .unset]) rfl (pc' := 28) rfl ?_
      refine own_iload C X at_28 rfl (pc' := 30) rfl ?_
      refine own_if_eq C X at_30 (pcT := 40) (pc' := 33) (by decide) (by decide) rfl (fun hc30 => absurd hc30 (by decide)) (fun hc30 => ?_)
      refine own_iloadN C X at_33 rfl (pc' := 34) rfl ?_
      refine own_ldcI C X at_34 (hw _ (List.mem_of_getElem? (i := 0) rfl)) (pc' := 36) rfl ?_
      refine own_iand C X at_36 rfl (pc' := 37) rfl ?_
      refine own_goto C X at_37 (pc' := 47) (by decide) (by decide) ?_
      refine own_istore C X at_47 (L' := #[.val (.int i0), .val (.int i1), .val (.int i2), .val (.int i3), .val (.int i4), .val (.int i5), .val (.int (1 : Int32)), .val (.int (1 : Int32)), .val (.int (i0 &&& (2147483647 : Int32))), .unset, .unset, .unset, .unset]) rfl (pc' := 49) rfl ?_
      exact J _ _ _ (own_lim1 i0)
set_option maxRecDepth 65536 in
set_option maxHeartbeats 40000000 in
theorem own_comes {Post : Tables → Env → Array Value → State → Outcome → State → Prop} (hpost : ∀ tb e args s v u, (limb_1_1.after args s (.returned v) u = true ∧ limb_1_2.after args s (.returned v) u = true ∧ True) → FrameEnd s (.returned v) u (Jvm.fieldLocs frame_1_writes args s ++ Jvm.arrayLocs frame_1_arrays args s ++ Jvm.staticLocs frame_1_statics s) 16 128 → Post tb e args s (.returned v) u) :
    ArmFor flags0 classFile x code maxLocals ret World_1 tables_1 room_1 Calls_1 rest_1 Pre_1 Post := by
  intro l hfl _ _ p e ha hc hk s m args below hf hA hF happ hP
  obtain ⟨hcalls, hrest, hpre⟩ := hP
  obtain ⟨-, -, -, hnamed, -, -, -, hat⟩ := (Spec.applies_iff hf).mp happ
  obtain ⟨hg, hn⟩ := and_e (Cond.before_iff.mp (show (Jvm.Cond.and given_1 narrow_1).before args s = true from hpre))
  obtain ⟨gc, g0⟩ := and_e hg
  obtain ⟨k0, g1⟩ := and_e g0
  obtain ⟨k1, g2⟩ := and_e g1
  obtain ⟨k2, g3⟩ := and_e g2
  obtain ⟨k3, g4⟩ := and_e g3
  obtain ⟨k4, g5⟩ := and_e g4
  obtain ⟨w0, w1, w2, w3, w4, w5, rfl⟩ : ∃ w0 w1 w2 w3 w4 w5 : Value, args = #[w0, w1, w2, w3, w4, w5] := by
    have hs : args.size = 6 := by simpa [Cond.value, given_1] using gc
    obtain ⟨L⟩ := args
    match L, hs with
    | [w0, w1, w2, w3, w4, w5], _ => exact ⟨w0, w1, w2, w3, w4, w5, rfl⟩
  have hw := fun d (hd : d ∈ tables_1) => atoms_spec (ws := Jvm.Cond.code x code maxLocals ret :: tables_1) hat d (List.mem_cons_of_mem _ hd)
  obtain ⟨i0, ei0⟩ := is_v k0
  obtain rfl : w0 = (.int i0) := Option.some.inj ei0
  obtain ⟨i1, ei1⟩ := is_v k1
  obtain rfl : w1 = (.int i1) := Option.some.inj ei1
  obtain ⟨i2, ei2⟩ := is_v k2
  obtain rfl : w2 = (.int i2) := Option.some.inj ei2
  obtain ⟨i3, ei3⟩ := is_v k3
  obtain rfl : w3 = (.int i3) := Option.some.inj ei3
  obtain ⟨i4, ei4⟩ := is_v k4
  obtain rfl : w4 = (.int i4) := Option.some.inj ei4
  obtain ⟨i5, ei5⟩ := is_v g5
  obtain rfl : w5 = (.int i5) := Option.some.inj ei5
  obtain ⟨n, o, h1, h2, h3, _, L, rfl, ⟨rfl, N⟩, hq⟩ := own_m_law l s _ hw tables_1 i0 i1 i2 i3 i4 i5 s.heap s.heap.size (Nat.le_refl _)  p e ha hc hk s m _ below hf ((Spec.applies_iff_loose hf).mp happ).1 ⟨rfl, State.Warmed39.refl s, rfl⟩ trivial
  refine ⟨n, _, h1, h2, h3, hpost _ _ _ _ _ _ ⟨Cond.after_iff.mpr rfl, Cond.after_iff.mpr (eq_i res_at (Term.int_eval (1)) rfl), trivial⟩ ⟨hq.1, hq.2.1, (hq.2.2.sift fun y hy => Or.inr (N y hy)).mono (by decide) (by decide)⟩⟩
theorem main_1_1 : Claimed_1_1 := own_comes fun _ _ _ _ _ _ h hF => ⟨h.1, hF⟩
theorem main_1_2 : Claimed_1_2 := own_comes fun _ _ _ _ _ _ h hF => ⟨h.2.1, hF⟩
end Jvm.Pilot.@@N@@
namespace Jvm.Pilot.@@N@@
open Jvm Jvm.ClassFile Sem Op Lib Jvm.Free Jvm.Stand Jvm.Pilot.@@N@@.Jvm.D
/-! MADE BY PROGRAM (witnessworld.py) out of the Statement's table words and the real class files: 12 classes; the members and pool entries that the words name. The judged class is class 1, her method 2. -/
namespace start1
open Jvm.ClassFile
def u (s : String) : CpInfo := .utf8 (stringToUtf16 s)
/-- a pool by its gaps: so many unusable entries, then the entry; so many at the end -/
def gap : Nat → List CpInfo → List CpInfo
  | 0, r => r
  | n + 1, r => .unusable :: gap n r
def poolList (es : List (Nat × CpInfo)) (last : Nat) : List CpInfo := es.foldr (fun e r => gap e.1 (e.2 :: r)) (gap last [])
def pool (es : List (Nat × CpInfo)) (last : Nat) : Array CpInfo := ⟨poolList es last⟩
def fileOf (pool : Array CpInfo) (this : Nat) (attrs : Array Attribute := #[]) (ms : Array MethodInfo := #[]) (fl : Nat := 33) (sup : Nat := 0) (ifs : Array Nat := #[]) (fds : Array FieldInfo := #[]) : ClassFile where
  minorVersion := 0
  majorVersion := 65
  constantPool := pool
  accessFlags := fl
  thisClass := this
  superClass := sup
  interfaces := ifs
  fields := fds
  methods := ms
  attributes := attrs
def plain (name : String) (sup : Option ClassId) : Class where
  name := name
  kind := .ordinary
  loader := none
  accessFlags := 33
  super := sup
  interfaces := #[]
  cf := none
  fields := #[]
  methods := #[]
  instanceTypes := #[]
  staticTypes := #[]
  resolved := #[]
  callSites := []
  init := .initialized
  statics := none
  mirror := none

def pool0 : Array CpInfo := pool [(5, u "<init>"), (0, u "()V"), (1, .class_ 10), (1, u "java/lang/Object")] 113

def k0c0 : Code := { maxStack := 0, maxLocals := 1, code := object_method_1_code, exceptionTable := #[], attributes := #[] }
def k0m0 : Method := { name := "<init>", desc := "()V", sig := { parameters := [], returnType := none }, accessFlags := 1, code := some k0c0 }
/-- java/lang/Object -/
def k0 : Class := { plain "java/lang/Object" none with
  accessFlags := 33
  interfaces := #[]
  cf := some (fileOf pool0 8 #[] #[{ accessFlags := 1, nameIndex := 5, descriptorIndex := 6, attributes := #[] }] 33 0 #[] #[])
  fields := #[]
  methods := #[k0m0]
  instanceTypes := #[]
  staticTypes := #[]
  resolved := Array.replicate 124 none
  statics := none }

def pool1 : Array CpInfo := pool [(2, .class_ 4), (1, u "java/lang/Object"), (0, u "<init>"), (0, u "()V"), (0, .integer 2147483647), (0, .methodref 9 10), (0, .class_ 11), (0, .nameAndType 12 13), (0, u "com/example/twin64/twin64/search/IntPairs"), (0, u "add"), (0, u "(II)V"), (0, .methodref 15 16), (0, .class_ 17), (0, .nameAndType 18 19), (0, u "java/lang/Math"), (0, u "min"), (0, u "(II)I"), (0, .methodref 9 21), (0, .nameAndType 5 22), (0, u "(I)V"), (0, .methodref 24 25), (0, .class_ 26), (0, .nameAndType 27 28), (0, u "com/example/twin64/twin64/search/IntPairsIsFullPinLaw"), (0, u "addN"), (0, u "(Lcom/example/twin64/twin64/search/IntPairs;III)V"), (0, .methodref 9 30), (0, .nameAndType 31 32), (0, u "isFull"), (0, u "()Z"), (0, .methodref 9 34), (0, .nameAndType 35 36), (0, u "size"), (0, u "()I"), (0, .methodref 9 38), (0, .nameAndType 39 22), (0, u "keepFirstsBelow"), (3, u "law"), (0, u "(IIIIII)Z")] 2

def k1m0 : Method := { name := "<init>", desc := "()V", sig := { parameters := [], returnType := none }, accessFlags := 1, code := none }
def k1c1 : Code := { maxStack := 4, maxLocals := 4, code := method_2_code, exceptionTable := #[], attributes := #[] }
def k1m1 : Method := { name := "addN", desc := "(Lcom/example/twin64/twin64/search/IntPairs;III)V", sig := { parameters := [(.object "com/example/twin64/twin64/search/IntPairs"), .int, .int, .int], returnType := none }, accessFlags := 10, code := some k1c1 }
def k1c2 : Code := { maxStack := 4, maxLocals := 13, code := code, exceptionTable := #[], attributes := #[] }
def k1m2 : Method := { name := "law", desc := "(IIIIII)Z", sig := { parameters := [.int, .int, .int, .int, .int, .int], returnType := some .boolean }, accessFlags := 9, code := some k1c2 }
/-- com/example/twin64/twin64/search/IntPairsIsFullPinLaw -/
def k1 : Class := { plain "com/example/twin64/twin64/search/IntPairsIsFullPinLaw" (some 0) with
  accessFlags := 49
  interfaces := #[]
  cf := some (fileOf pool1 24 #[] #[{ accessFlags := 1, nameIndex := 5, descriptorIndex := 6, attributes := #[] }, { accessFlags := 10, nameIndex := 27, descriptorIndex := 28, attributes := #[] }, { accessFlags := 9, nameIndex := 43, descriptorIndex := 44, attributes := #[] }] 49 2 #[] #[])
  fields := #[]
  methods := #[k1m0, k1m1, k1m2]
  instanceTypes := #[]
  staticTypes := #[]
  resolved := Array.replicate 47 none
  statics := none }

def pool2 : Array CpInfo := pool [(1, .class_ 2), (0, u "java/lang/Math"), (1, .class_ 6), (1, u "java/lang/Object"), (0, u "<init>"), (0, u "()V"), (89, .class_ 100), (1, u "java/lang/Math$RandomNumberGeneratorHolder"), (71, u "negativeZeroFloatBits"), (0, u "J"), (2, u "negativeZeroDoubleBits"), (24, u "min"), (43, u "$assertionsDisabled"), (0, u "Z"), (88, u "(II)I"), (2, u "twoToTheDoubleScaleDown"), (0, u "D"), (4, u "twoToTheDoubleScaleUp"), (9, u "E"), (3, u "PI"), (2, u "TAU"), (2, u "DEGREES_TO_RADIANS"), (0, u "RADIANS_TO_DEGREES")] 94

def k2m0 : Method := { name := "<init>", desc := "()V", sig := { parameters := [], returnType := none }, accessFlags := 2, code := none }
def k2c1 : Code := { maxStack := 2, maxLocals := 2, code := jdk_29_method_69_code, exceptionTable := #[], attributes := #[] }
def k2m1 : Method := { name := "min", desc := "(II)I", sig := { parameters := [.int, .int], returnType := some .int }, accessFlags := 9, code := some k2c1 }
/-- java/lang/Math -/
def k2 : Class := { plain "java/lang/Math" (some 0) with
  accessFlags := 49
  interfaces := #[]
  cf := some (fileOf pool2 1 #[.nestMembers #[98]] #[{ accessFlags := 2, nameIndex := 7, descriptorIndex := 8, attributes := #[] }, { accessFlags := 9, nameIndex := 201, descriptorIndex := 335, attributes := #[] }] 49 4 #[] #[{ accessFlags := 25, nameIndex := 354, descriptorIndex := 339, attributes := #[] }, { accessFlags := 25, nameIndex := 358, descriptorIndex := 339, attributes := #[] }, { accessFlags := 25, nameIndex := 361, descriptorIndex := 339, attributes := #[] }, { accessFlags := 26, nameIndex := 364, descriptorIndex := 339, attributes := #[] }, { accessFlags := 26, nameIndex := 365, descriptorIndex := 339, attributes := #[] }, { accessFlags := 26, nameIndex := 172, descriptorIndex := 173, attributes := #[] }, { accessFlags := 26, nameIndex := 176, descriptorIndex := 173, attributes := #[] }, { accessFlags := 8, nameIndex := 344, descriptorIndex := 339, attributes := #[] }, { accessFlags := 8, nameIndex := 338, descriptorIndex := 339, attributes := #[] }, { accessFlags := 4120, nameIndex := 245, descriptorIndex := 246, attributes := #[] }])
  fields := #[{ name := "E", type := .double, accessFlags := 25, slot := 0, constantValue := 0 }, { name := "PI", type := .double, accessFlags := 25, slot := 1, constantValue := 0 }, { name := "TAU", type := .double, accessFlags := 25, slot := 2, constantValue := 0 }, { name := "DEGREES_TO_RADIANS", type := .double, accessFlags := 26, slot := 3, constantValue := 0 }, { name := "RADIANS_TO_DEGREES", type := .double, accessFlags := 26, slot := 4, constantValue := 0 }, { name := "negativeZeroFloatBits", type := .long, accessFlags := 26, slot := 5, constantValue := 0 }, { name := "negativeZeroDoubleBits", type := .long, accessFlags := 26, slot := 6, constantValue := 0 }, { name := "twoToTheDoubleScaleUp", type := .double, accessFlags := 8, slot := 7, constantValue := 0 }, { name := "twoToTheDoubleScaleDown", type := .double, accessFlags := 8, slot := 8, constantValue := 0 }, { name := "$assertionsDisabled", type := .boolean, accessFlags := 4120, slot := 9, constantValue := 0 }]
  methods := #[k2m0, k2m1]
  instanceTypes := #[]
  staticTypes := #[.double, .double, .double, .double, .double, .long, .long, .double, .double, .boolean]
  resolved := Array.replicate 460 none
  statics := none }

def pool3 : Array CpInfo := pool [(1, .methodref 2 3), (0, .class_ 4), (0, .nameAndType 5 6), (0, u "java/lang/Object"), (0, u "<init>"), (0, u "()V"), (0, .fieldref 8 9), (0, .class_ 10), (0, .nameAndType 11 12), (0, u "com/example/twin64/twin64/search/IntPairs"), (0, u "limit"), (0, u "I"), (0, .methodref 14 15), (0, .class_ 16), (0, .nameAndType 17 18), (0, u "java/lang/Math"), (0, u "min"), (0, u "(II)I"), (0, .fieldref 8 20), (0, .nameAndType 21 22), (0, u "packed"), (0, u "[J"), (0, .fieldref 8 24), (0, .nameAndType 25 12), (0, u "size"), (0, .long 2), (16, .methodref 8 44), (0, .nameAndType 45 46), (0, u "firstAt"), (0, u "(I)I"), (0, u "INITIAL_ROOM"), (2, u "(I)V"), (2, u "add"), (0, u "(II)V"), (1, u "isFull"), (0, u "()Z"), (0, u "keepFirstsBelow"), (0, u "()I")] 3

def k3c0 : Code := { maxStack := 3, maxLocals := 2, code := prog_43_method_1_code, exceptionTable := #[], attributes := #[] }
def k3m0 : Method := { name := "<init>", desc := "(I)V", sig := { parameters := [.int], returnType := none }, accessFlags := 0, code := some k3c0 }
def k3c1 : Code := { maxStack := 6, maxLocals := 3, code := prog_43_method_2_code, exceptionTable := #[], attributes := #[] }
def k3m1 : Method := { name := "add", desc := "(II)V", sig := { parameters := [.int, .int], returnType := none }, accessFlags := 0, code := some k3c1 }
def k3c2 : Code := { maxStack := 2, maxLocals := 1, code := prog_43_method_4_code, exceptionTable := #[], attributes := #[] }
def k3m2 : Method := { name := "isFull", desc := "()Z", sig := { parameters := [], returnType := some .boolean }, accessFlags := 0, code := some k3c2 }
def k3c3 : Code := { maxStack := 3, maxLocals := 2, code := prog_43_method_5_code, exceptionTable := #[], attributes := #[] }
def k3m3 : Method := { name := "keepFirstsBelow", desc := "(I)V", sig := { parameters := [.int], returnType := none }, accessFlags := 0, code := some k3c3 }
def k3c4 : Code := { maxStack := 1, maxLocals := 1, code := prog_43_method_6_code, exceptionTable := #[], attributes := #[] }
def k3m4 : Method := { name := "size", desc := "()I", sig := { parameters := [], returnType := some .int }, accessFlags := 0, code := some k3c4 }
def k3c5 : Code := { maxStack := 3, maxLocals := 2, code := prog_43_method_7_code, exceptionTable := #[], attributes := #[] }
def k3m5 : Method := { name := "firstAt", desc := "(I)I", sig := { parameters := [.int], returnType := some .int }, accessFlags := 0, code := some k3c5 }
/-- com/example/twin64/twin64/search/IntPairs -/
def k3 : Class := { plain "com/example/twin64/twin64/search/IntPairs" (some 0) with
  accessFlags := 32
  interfaces := #[]
  cf := some (fileOf pool3 8 #[] #[{ accessFlags := 0, nameIndex := 5, descriptorIndex := 50, attributes := #[] }, { accessFlags := 0, nameIndex := 53, descriptorIndex := 54, attributes := #[] }, { accessFlags := 0, nameIndex := 56, descriptorIndex := 57, attributes := #[] }, { accessFlags := 0, nameIndex := 58, descriptorIndex := 50, attributes := #[] }, { accessFlags := 0, nameIndex := 25, descriptorIndex := 59, attributes := #[] }, { accessFlags := 0, nameIndex := 45, descriptorIndex := 46, attributes := #[] }] 32 2 #[] #[{ accessFlags := 26, nameIndex := 47, descriptorIndex := 12, attributes := #[] }, { accessFlags := 18, nameIndex := 11, descriptorIndex := 12, attributes := #[] }, { accessFlags := 2, nameIndex := 21, descriptorIndex := 22, attributes := #[] }, { accessFlags := 2, nameIndex := 25, descriptorIndex := 12, attributes := #[] }])
  fields := #[{ name := "INITIAL_ROOM", type := .int, accessFlags := 26, slot := 0, constantValue := 0 }, { name := "limit", type := .int, accessFlags := 18, slot := 0, constantValue := 0 }, { name := "packed", type := (.array .long), accessFlags := 2, slot := 1, constantValue := 0 }, { name := "size", type := .int, accessFlags := 2, slot := 2, constantValue := 0 }]
  methods := #[k3m0, k3m1, k3m2, k3m3, k3m4, k3m5]
  instanceTypes := #[.int, (.array .long), .int]
  staticTypes := #[.int]
  resolved := Array.replicate 63 none
  statics := none }

def pool4 : Array CpInfo := pool [(1, u "java/lang/Cloneable"), (0, .class_ 1), (0, u "java/lang/Object"), (0, .class_ 3)] 3

/-- java/lang/Cloneable -/
def k4 : Class := { plain "java/lang/Cloneable" (some 0) with
  accessFlags := 1537
  interfaces := #[]
  cf := some (fileOf pool4 2 #[] #[] 1537 4 #[] #[])
  fields := #[]
  methods := #[]
  instanceTypes := #[]
  staticTypes := #[]
  resolved := Array.replicate 8 none
  statics := none }

def pool5 : Array CpInfo := pool [(1, u "java/io/Serializable"), (0, .class_ 1), (0, u "java/lang/Object"), (0, .class_ 3)] 3

/-- java/io/Serializable -/
def k5 : Class := { plain "java/io/Serializable" (some 0) with
  accessFlags := 1537
  interfaces := #[]
  cf := some (fileOf pool5 2 #[] #[] 1537 4 #[] #[])
  fields := #[]
  methods := #[]
  instanceTypes := #[]
  staticTypes := #[]
  resolved := Array.replicate 8 none
  statics := none }

/-- the primitive byte -/
def k6 : Class := { plain "byte" none with kind := .primitive 'B', accessFlags := 0x411 }
/-- [B -/
def k7 : Class := { plain "[B" (some 0) with kind := .array 6 .byte, interfaces := #[4, 5], accessFlags := 1041 }

/-- the primitive int -/
def k8 : Class := { plain "int" none with kind := .primitive 'I', accessFlags := 0x411 }
/-- [I -/
def k9 : Class := { plain "[I" (some 0) with kind := .array 8 .int, interfaces := #[4, 5], accessFlags := 1041 }

/-- the primitive long -/
def k10 : Class := { plain "long" none with kind := .primitive 'J', accessFlags := 0x411 }
/-- [J -/
def k11 : Class := { plain "[J" (some 0) with kind := .array 10 .long, interfaces := #[4, 5], accessFlags := 1041 }

def heap : Heap := #[]
def classes : Array Class := #[k0, k1, k2, k3, k4, k5, k6, k7, k8, k9, k10, k11]
def interned : List (Array UInt16 × Addr) := []
def slotsUsed : Nat := 0
def theMethod : MethodId := ⟨1, 2⟩
def args0 : Array Value := #[.int 5, .int 6, .int 7, .int 8, .int 5, .int 2]
def aboutOver (below : List Frame) : State where
  vm := { classes := classes, interned := interned.toArray }
  heap := heap
  slotsUsed := slotsUsed
  threads := #[{ frames := .invoking theMethod args0 :: below }]
def below0 : List Frame := [.native { method := ⟨0, 0⟩, args := #[] }]
def about1 : State := aboutOver below0
def p0 : Program := .bare "" "" ""
def e0 : Env := launch0.env 0 0 0
theorem w_frames : about1.frames = Frame.invoking theMethod args0 :: below0 := rfl
set_option maxRecDepth 65536 in
theorem w_args : argsFit about1.vm theMethod args0 = true := by decide +kernel
set_option maxRecDepth 65536 in
theorem w_heap : heapFits about1 = true := by decide +kernel
set_option maxRecDepth 65536 in
theorem w_runnable : about1.curStatus? = some .runnable := by decide +kernel
set_option maxRecDepth 65536 in
theorem w_alone : about1.alone = true := by decide +kernel
set_option maxRecDepth 65536 in
theorem w_named : about1.methodNamed? x = some theMethod := by decide +kernel
set_option maxRecDepth 65536 in
theorem w_hears : about1.hears theMethod below0 = true := by decide +kernel
set_option maxRecDepth 65536 in
theorem w_ripe : about1.ripe theMethod args0 below0 = true := by decide +kernel
theorem w_running : about1.status = .running := rfl
set_option maxRecDepth 65536 in
theorem w_room : about1.hasRoom e0.platform room_1 = true :=
  launch0.hasRoom_least _ room_1 (by decide +kernel) (by decide +kernel) (by decide +kernel) (by decide +kernel) (by decide +kernel) (by decide +kernel)
theorem allAtoms_all (ts : List Jvm.Cond) (a : Array Jvm.Value) (st : Jvm.State) : (allAtoms ts).before a st = ts.all (fun c => c.before a st) := by
  induction ts with
  | nil => rfl
  | cons c t ih =>
    show (Jvm.Cond.and c (allAtoms t)).before a st = _
    rw [Jvm.Cond.before_and, ih, List.all_cons]
def words1 : List Jvm.Cond := Jvm.Cond.code x code maxLocals ret :: tables_1
/-- a 'code' word, met by the world's own term for the bytes: nothing is compared byte by byte -/
theorem code_word {y : MethodName} {bytes : ByteArray} {mx : Nat} {rt : Option FieldType} {a : Array Value} {s : State} {m : MethodId} {meth : Method} {c : Code} (h1 : s.methodNamed? y = some m) (h2 : s.vm.method? m = some meth) (h3 : meth.code = some c) (h4 : c.code = bytes)
    (h5 : (c.maxLocals == mx && c.exceptionTable.isEmpty && decide (c.maxStack ≤ mostOperands) && decide (meth.sig.returnType = rt) && !meth.locks && decide (parseMethodDescriptor y.desc = some meth.sig)) = true) : (Jvm.Cond.code y bytes mx rt).before a s = true := by
  simp only [Bool.and_eq_true, beq_iff_eq, Bool.not_eq_true', decide_eq_true_eq] at h5
  obtain ⟨⟨⟨⟨⟨g1, g2⟩, g3⟩, g4⟩, g5⟩, g6⟩ := h5
  simp [Cond.before, Cond.holds, Cond.value, h1, h2, h3, h4, g1, g2, g3, g4, g5, g6]
def isCode : Jvm.Cond → Bool
  | .code _ _ _ _ => true
  | _ => false
theorem all_split {L : List Jvm.Cond} {P : Jvm.Cond → Bool} (h1 : L.all (fun c => isCode c || P c) = true) (h2 : ∀ c ∈ L.filter isCode, P c = true) : L.all P = true := by
  refine List.all_eq_true.mpr fun c hc => ?_
  have h := List.all_eq_true.mp h1 c hc
  rcases Bool.eq_false_or_eq_true (isCode c) with hi | hi
  · exact h2 c (List.mem_filter.mpr ⟨hc, hi⟩)
  · simpa [hi] using h
set_option maxRecDepth 65536 in
theorem w_c0 : (Jvm.Cond.code x code maxLocals ret).before args0 about1 = true := code_word (m := ⟨1, 2⟩) (meth := k1m2) (c := k1c2) (by decide +kernel) rfl rfl rfl (by decide +kernel)
set_option maxRecDepth 65536 in
theorem w_c1 : (Jvm.Cond.code ({ cls := "java/lang/Math", name := "min", desc := "(II)I" } : Jvm.MethodName) jdk_29_method_69_code (2 : Nat) (Option.some Jvm.ClassFile.FieldType.int)).before args0 about1 = true := code_word (m := ⟨2, 1⟩) (meth := k2m1) (c := k2c1) (by decide +kernel) rfl rfl rfl (by decide +kernel)
set_option maxRecDepth 65536 in
theorem w_c2 : (Jvm.Cond.code ({ cls := "com/example/twin64/twin64/search/IntPairs", name := "<init>", desc := "(I)V" } : Jvm.MethodName) prog_43_method_1_code (2 : Nat) (Option.none : Option Jvm.ClassFile.FieldType)).before args0 about1 = true := code_word (m := ⟨3, 0⟩) (meth := k3m0) (c := k3c0) (by decide +kernel) rfl rfl rfl (by decide +kernel)
set_option maxRecDepth 65536 in
theorem w_c3 : (Jvm.Cond.code ({ cls := "java/lang/Object", name := "<init>", desc := "()V" } : Jvm.MethodName) object_method_1_code (1 : Nat) (Option.none : Option Jvm.ClassFile.FieldType)).before args0 about1 = true := code_word (m := ⟨0, 0⟩) (meth := k0m0) (c := k0c0) (by decide +kernel) rfl rfl rfl (by decide +kernel)
set_option maxRecDepth 65536 in
theorem w_c4 : (Jvm.Cond.code ({ cls := "com/example/twin64/twin64/search/IntPairsIsFullPinLaw", name := "addN", desc := "(Lcom/example/twin64/twin64/search/IntPairs;III)V" } : Jvm.MethodName) method_2_code (4 : Nat) (Option.none : Option Jvm.ClassFile.FieldType)).before args0 about1 = true := code_word (m := ⟨1, 1⟩) (meth := k1m1) (c := k1c1) (by decide +kernel) rfl rfl rfl (by decide +kernel)
set_option maxRecDepth 65536 in
theorem w_c5 : (Jvm.Cond.code ({ cls := "com/example/twin64/twin64/search/IntPairs", name := "isFull", desc := "()Z" } : Jvm.MethodName) prog_43_method_4_code (1 : Nat) (Option.some Jvm.ClassFile.FieldType.boolean)).before args0 about1 = true := code_word (m := ⟨3, 2⟩) (meth := k3m2) (c := k3c2) (by decide +kernel) rfl rfl rfl (by decide +kernel)
set_option maxRecDepth 65536 in
theorem w_c6 : (Jvm.Cond.code ({ cls := "com/example/twin64/twin64/search/IntPairs", name := "size", desc := "()I" } : Jvm.MethodName) prog_43_method_6_code (1 : Nat) (Option.some Jvm.ClassFile.FieldType.int)).before args0 about1 = true := code_word (m := ⟨3, 4⟩) (meth := k3m4) (c := k3c4) (by decide +kernel) rfl rfl rfl (by decide +kernel)
set_option maxRecDepth 65536 in
theorem w_c7 : (Jvm.Cond.code ({ cls := "com/example/twin64/twin64/search/IntPairs", name := "keepFirstsBelow", desc := "(I)V" } : Jvm.MethodName) prog_43_method_5_code (2 : Nat) (Option.none : Option Jvm.ClassFile.FieldType)).before args0 about1 = true := code_word (m := ⟨3, 3⟩) (meth := k3m3) (c := k3c3) (by decide +kernel) rfl rfl rfl (by decide +kernel)
set_option maxRecDepth 65536 in
theorem w_c8 : (Jvm.Cond.code ({ cls := "com/example/twin64/twin64/search/IntPairs", name := "add", desc := "(II)V" } : Jvm.MethodName) prog_43_method_2_code (3 : Nat) (Option.none : Option Jvm.ClassFile.FieldType)).before args0 about1 = true := code_word (m := ⟨3, 1⟩) (meth := k3m1) (c := k3c1) (by decide +kernel) rfl rfl rfl (by decide +kernel)
set_option maxRecDepth 65536 in
theorem w_c9 : (Jvm.Cond.code ({ cls := "com/example/twin64/twin64/search/IntPairs", name := "firstAt", desc := "(I)I" } : Jvm.MethodName) prog_43_method_7_code (2 : Nat) (Option.some Jvm.ClassFile.FieldType.int)).before args0 about1 = true := code_word (m := ⟨3, 5⟩) (meth := k3m5) (c := k3c5) (by decide +kernel) rfl rfl rfl (by decide +kernel)
def codes1 : List Jvm.Cond := [Jvm.Cond.code x code maxLocals ret, Jvm.Cond.code ({ cls := "java/lang/Math", name := "min", desc := "(II)I" } : Jvm.MethodName) jdk_29_method_69_code (2 : Nat) (Option.some Jvm.ClassFile.FieldType.int), Jvm.Cond.code ({ cls := "com/example/twin64/twin64/search/IntPairs", name := "<init>", desc := "(I)V" } : Jvm.MethodName) prog_43_method_1_code (2 : Nat) (Option.none : Option Jvm.ClassFile.FieldType), Jvm.Cond.code ({ cls := "java/lang/Object", name := "<init>", desc := "()V" } : Jvm.MethodName) object_method_1_code (1 : Nat) (Option.none : Option Jvm.ClassFile.FieldType), Jvm.Cond.code ({ cls := "com/example/twin64/twin64/search/IntPairsIsFullPinLaw", name := "addN", desc := "(Lcom/example/twin64/twin64/search/IntPairs;III)V" } : Jvm.MethodName) method_2_code (4 : Nat) (Option.none : Option Jvm.ClassFile.FieldType), Jvm.Cond.code ({ cls := "com/example/twin64/twin64/search/IntPairs", name := "isFull", desc := "()Z" } : Jvm.MethodName) prog_43_method_4_code (1 : Nat) (Option.some Jvm.ClassFile.FieldType.boolean), Jvm.Cond.code ({ cls := "com/example/twin64/twin64/search/IntPairs", name := "size", desc := "()I" } : Jvm.MethodName) prog_43_method_6_code (1 : Nat) (Option.some Jvm.ClassFile.FieldType.int), Jvm.Cond.code ({ cls := "com/example/twin64/twin64/search/IntPairs", name := "keepFirstsBelow", desc := "(I)V" } : Jvm.MethodName) prog_43_method_5_code (2 : Nat) (Option.none : Option Jvm.ClassFile.FieldType), Jvm.Cond.code ({ cls := "com/example/twin64/twin64/search/IntPairs", name := "add", desc := "(II)V" } : Jvm.MethodName) prog_43_method_2_code (3 : Nat) (Option.none : Option Jvm.ClassFile.FieldType), Jvm.Cond.code ({ cls := "com/example/twin64/twin64/search/IntPairs", name := "firstAt", desc := "(I)I" } : Jvm.MethodName) prog_43_method_7_code (2 : Nat) (Option.some Jvm.ClassFile.FieldType.int)]
set_option maxRecDepth 65536 in
theorem codes_eq : words1.filter isCode = codes1 := rfl
theorem w_codes : ∀ c ∈ words1.filter isCode, c.before args0 about1 = true := by
  rw [codes_eq]
  intro c hc
  simp only [codes1, List.mem_cons, List.not_mem_nil, or_false] at hc
  rcases hc with rfl | rfl | rfl | rfl | rfl | rfl | rfl | rfl | rfl | rfl
  · exact w_c0
  · exact w_c1
  · exact w_c2
  · exact w_c3
  · exact w_c4
  · exact w_c5
  · exact w_c6
  · exact w_c7
  · exact w_c8
  · exact w_c9
set_option maxRecDepth 65536 in
theorem w_t1 : (words1.take 24).all (fun c => isCode c || c.before args0 about1) = true := by decide +kernel
set_option maxRecDepth 65536 in
theorem w_t2 : ((words1.drop 24).take 24).all (fun c => isCode c || c.before args0 about1) = true := by decide +kernel
set_option maxRecDepth 65536 in
theorem w_t3 : ((words1.drop 24).drop 24).all (fun c => isCode c || c.before args0 about1) = true := by decide +kernel
theorem w_tables : (allAtoms (Jvm.Cond.code x code maxLocals ret :: tables_1)).before args0 about1 = true := by
  rw [allAtoms_all]
  show words1.all (fun c => c.before args0 about1) = true
  refine all_split ?_ w_codes
  rw [← List.take_append_drop 24 words1, List.all_append, w_t1, ← List.take_append_drop 24 (words1.drop 24), List.all_append, w_t2, w_t3]
  rfl
set_option maxRecDepth 65536 in
theorem w_case : (Jvm.Cond.and given_1 narrow_1).before args0 about1 = true := by decide +kernel
theorem w_applies : (headSpec (Jvm.Cond.code x code maxLocals ret :: tables_1) room_1).applies x e0.platform about1 = true :=
  (Spec.applies_iff w_frames).mpr ⟨w_running, w_runnable, w_alone, w_named, w_hears, w_ripe, w_room, w_tables⟩
theorem atStart : AtStart classFile x code maxLocals ret World_1 tables_1 room_1 Calls_1 rest_1 Pre_1 launch0 p0 e0 about1 theMethod args0 below0 :=
  ⟨lists_1, trivial, launch0.admits_env _ _ _, launch0.least_env, fairChoices_fair.cas, fairChoices_fair.clock, w_frames, w_args, w_heap, w_applies, trivial, trivial, w_case⟩
end start1
theorem witness_1 : WitnessClaimed_1 := ⟨start1.p0, start1.e0, start1.about1, start1.theMethod, start1.args0, start1.below0, start1.atStart⟩
end Jvm.Pilot.@@N@@

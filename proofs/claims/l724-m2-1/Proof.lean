import JvmDerived
import JvmDerived.Pilot.@@N@@Statement
import JvmDerived.Pilot.@@N@@Code
set_option linter.unusedVariables false
set_option linter.unusedSimpArgs false
namespace Jvm.Pilot.@@N@@
open Jvm Jvm.ClassFile Sem Op Lib Jvm.Free Jvm.Stand Jvm.LawKit Jvm.RoadKit Bundle Jvm.Pilot.@@N@@.Jvm.D
/-! A small calculus of my own over the library's laws: Run .. pc Ls st says: from every state at which this body stands with that heap, that pc, those locals and that stack the invocation comes back, and Q holds of what it returns and of the heap. -/
section Own
variable {l : Launch} {Z : State} {y : MethodName} {bytes : ByteArray} {ml : Nat} {ret : Option FieldType} {R : Room} {n0 : Nat} {Q : Option Value → Heap → Prop} {h : Heap} {k n : Nat} {pc : Nat} {Ls : List Slot} {st : List Value} {a0 : Array Value}

def own_Ctx (p : Program) (s : State) (m : MethodId) (meth : Method) (c : Code) (Z : State) (y : MethodName) (bytes : ByteArray) (ml : Nat) (ret : Option FieldType) : Prop :=
  p.tables.exec = Jvm.exec ∧ c.code = bytes ∧ c.maxLocals = ml ∧ Z.Warmed39 s.vm ∧ s.vm.findClass y.cls = some m.cls ∧ meth.name = y.name ∧ meth.sig.returnType = ret ∧ meth.locks = false

def Run (l : Launch) (Z : State) (y : MethodName) (bytes : ByteArray) (ml : Nat) (ret : Option FieldType) (R : Room) (n0 : Nat) (Q : Option Value → Heap → Prop) (h : Heap) (k n : Nat) (pc : Nat) (Ls : List Slot) (st : List Value) : Prop :=
  ∀ (p : Program) (e : Env) (s : State) (m : MethodId) (args : Array Value) (below : List Frame) (meth : Method) (c : Code) (T : State) (locs : List Loc),
    own_Ctx p s m meth c Z y bytes ml ret → Stand p l e R s m args below meth c T locs k n → Fr n0 locs → T.heap = h →
    ∃ s₂ o, Steps p.tables e below (T.setTop (mkF m pc Ls.toArray st)) s₂ ∧ s₂.status = .running ∧ Ended s₂ below o ∧ ∃ v L, o = .returned v ∧ (Q v s₂.heap ∧ Fr n0 L) ∧ FrameEnd s o s₂ L R.cells R.slots

/-- a step that leaves the state as it is -/
theorem Run.step {pc' : Nat} {Ls' : List Slot} {st' : List Value} (K : Run l Z y bytes ml ret R n0 Q h k n pc' Ls' st')
    (H : ∀ (p : Program) (e : Env) (s : State) (m : MethodId) (args : Array Value) (below : List Frame) (meth : Method) (c : Code) (T : State) (locs : List Loc),
      own_Ctx p s m meth c Z y bytes ml ret → Stand p l e R s m args below meth c T locs k n → T.heap = h → ∀ t, Steps p.tables e below (T.setTop (mkF m pc' Ls'.toArray st')) t → Steps p.tables e below (T.setTop (mkF m pc Ls.toArray st)) t) :
    Run l Z y bytes ml ret R n0 Q h k n pc Ls st := fun p e s m args below meth c T locs C X N E => by
  obtain ⟨s2, o, h1, h2⟩ := K p e s m args below meth c T locs C X N E
  exact ⟨s2, o, H p e s m args below meth c T locs C X E _ h1, h2⟩

/-- a step that moves the state -/
theorem Run.move {pc' : Nat} {Ls' : List Slot} {st' : List Value} {h' : Heap} {k' n' : Nat} (K : Run l Z y bytes ml ret R n0 Q h' k' n' pc' Ls' st')
    (H : ∀ (p : Program) (e : Env) (s : State) (m : MethodId) (args : Array Value) (below : List Frame) (meth : Method) (c : Code) (T : State) (locs : List Loc),
      own_Ctx p s m meth c Z y bytes ml ret → Stand p l e R s m args below meth c T locs k n → Fr n0 locs → T.heap = h →
        ∃ T' locs', Stand p l e R s m args below meth c T' locs' k' n' ∧ Fr n0 locs' ∧ T'.heap = h' ∧ ∀ t, Steps p.tables e below (T'.setTop (mkF m pc' Ls'.toArray st')) t → Steps p.tables e below (T.setTop (mkF m pc Ls.toArray st)) t) :
    Run l Z y bytes ml ret R n0 Q h k n pc Ls st := fun p e s m args below meth c T locs C X N E => by
  obtain ⟨T', locs', X', N', E', st'⟩ := H p e s m args below meth c T locs C X N E
  obtain ⟨s2, o, h1, h2⟩ := K p e s m args below meth c T' locs' C X' N' E'
  exact ⟨s2, o, st' _ h1, h2⟩

/-! loads, constants -/
theorem own_get {m : MethodId} {j : Nat} {v : Value} (h : Ls[j]? = some (.val v)) : (mkF m pc Ls.toArray st).locals[j]? = some (.val v) := by
  show Ls.toArray[j]? = _; rw [List.getElem?_toArray]; exact h
theorem r_aloadN {j : Fin 4} {a : Addr} (pc' : Nat) (hd : decode bytes pc = .ok (.aload_n j, 1)) (hp : pc + 1 = pc') (hl : Ls[j.val]? = some (.val (.ref a))) (K : Run l Z y bytes ml ret R n0 Q h k n pc' Ls (.ref a :: st)) : Run l Z y bytes ml ret R n0 Q h k n pc Ls st := by
  subst hp; exact K.step fun p e s m args below meth c T locs C X E t q => XS.aloadN X.here C.1 rfl (hb C.2.1 hd) (own_get hl) rfl q
theorem r_aload {j : Nat} {a : Addr} (pc' : Nat) (hd : decode bytes pc = .ok (.aload j, 2)) (hp : pc + 2 = pc') (hl : Ls[j]? = some (.val (.ref a))) (K : Run l Z y bytes ml ret R n0 Q h k n pc' Ls (.ref a :: st)) : Run l Z y bytes ml ret R n0 Q h k n pc Ls st := by
  subst hp; exact K.step fun p e s m args below meth c T locs C X E t q => XS.aload X.here C.1 rfl (hb C.2.1 hd) (own_get hl) rfl q
theorem r_aloadNV {j : Fin 4} {v : Value} (pc' : Nat) (hd : decode bytes pc = .ok (.aload_n j, 1)) (hp : pc + 1 = pc') (hl : Ls[j.val]? = some (.val v)) (hv : v.isRef = true) (K : Run l Z y bytes ml ret R n0 Q h k n pc' Ls (v :: st)) : Run l Z y bytes ml ret R n0 Q h k n pc Ls st := by
  subst hp; exact K.step fun p e s m args below meth c T locs C X E t q => XS.aloadN X.here C.1 rfl (hb C.2.1 hd) (own_get hl) hv q
theorem r_aloadV {j : Nat} {v : Value} (pc' : Nat) (hd : decode bytes pc = .ok (.aload j, 2)) (hp : pc + 2 = pc') (hl : Ls[j]? = some (.val v)) (hv : v.isRef = true) (K : Run l Z y bytes ml ret R n0 Q h k n pc' Ls (v :: st)) : Run l Z y bytes ml ret R n0 Q h k n pc Ls st := by
  subst hp; exact K.step fun p e s m args below meth c T locs C X E t q => XS.aload X.here C.1 rfl (hb C.2.1 hd) (own_get hl) hv q
theorem r_iloadN {j : Fin 4} {v : Int32} (pc' : Nat) (hd : decode bytes pc = .ok (.iload_n j, 1)) (hp : pc + 1 = pc') (hl : Ls[j.val]? = some (.val (.int v))) (K : Run l Z y bytes ml ret R n0 Q h k n pc' Ls (.int v :: st)) : Run l Z y bytes ml ret R n0 Q h k n pc Ls st := by
  subst hp; exact K.step fun p e s m args below meth c T locs C X E t q => XS.iloadN X.here C.1 rfl (hb C.2.1 hd) (own_get hl) q
theorem r_iload {j : Nat} {v : Int32} (pc' : Nat) (hd : decode bytes pc = .ok (.iload j, 2)) (hp : pc + 2 = pc') (hl : Ls[j]? = some (.val (.int v))) (K : Run l Z y bytes ml ret R n0 Q h k n pc' Ls (.int v :: st)) : Run l Z y bytes ml ret R n0 Q h k n pc Ls st := by
  subst hp; exact K.step fun p e s m args below meth c T locs C X E t q => XS.iload X.here C.1 rfl (hb C.2.1 hd) (own_get hl) q
theorem r_lloadN {j : Fin 4} {v : Int64} (pc' : Nat) (hd : decode bytes pc = .ok (.lload_n j, 1)) (hp : pc + 1 = pc') (hl : Ls[j.val]? = some (.val (.long v))) (K : Run l Z y bytes ml ret R n0 Q h k n pc' Ls (.long v :: st)) : Run l Z y bytes ml ret R n0 Q h k n pc Ls st := by
  subst hp; exact K.step fun p e s m args below meth c T locs C X E t q => XT.lloadN X.here C.1 rfl (hb C.2.1 hd) (own_get hl) q
theorem r_lload {j : Nat} {v : Int64} (pc' : Nat) (hd : decode bytes pc = .ok (.lload j, 2)) (hp : pc + 2 = pc') (hl : Ls[j]? = some (.val (.long v))) (K : Run l Z y bytes ml ret R n0 Q h k n pc' Ls (.long v :: st)) : Run l Z y bytes ml ret R n0 Q h k n pc Ls st := by
  subst hp; exact K.step fun p e s m args below meth c T locs C X E t q => XT.lload X.here C.1 rfl (hb C.2.1 hd) (own_get hl) q
theorem r_iconst {i : Int} (v : Int32) (pc' : Nat) (hd : decode bytes pc = .ok (.iconst i, 1)) (hp : pc + 1 = pc') (hv : Int32.ofInt i = v) (K : Run l Z y bytes ml ret R n0 Q h k n pc' Ls (.int v :: st)) : Run l Z y bytes ml ret R n0 Q h k n pc Ls st := by
  subst hp hv; exact K.step fun p e s m args below meth c T locs C X E t q => XS.iconst X.here C.1 rfl (hb C.2.1 hd) q
theorem r_bipush {i : Int} (v : Int32) (pc' : Nat) (hd : decode bytes pc = .ok (.bipush i, 2)) (hp : pc + 2 = pc') (hv : (Int8.ofInt i).toInt32 = v) (K : Run l Z y bytes ml ret R n0 Q h k n pc' Ls (.int v :: st)) : Run l Z y bytes ml ret R n0 Q h k n pc Ls st := by
  subst hp hv; exact K.step fun p e s m args below meth c T locs C X E t q => XS.bipush X.here C.1 rfl (hb C.2.1 hd) q
theorem r_sipush {i : Int} (v : Int32) (pc' : Nat) (hd : decode bytes pc = .ok (.sipush i, 3)) (hp : pc + 3 = pc') (hv : (Int16.ofInt i).toInt32 = v) (K : Run l Z y bytes ml ret R n0 Q h k n pc' Ls (.int v :: st)) : Run l Z y bytes ml ret R n0 Q h k n pc Ls st := by
  subst hp hv; exact K.step fun p e s m args below meth c T locs C X E t q => XS.sipush X.here C.1 rfl (hb C.2.1 hd) q
theorem r_lconst {i : Fin 2} (v : Int64) (pc' : Nat) (hd : decode bytes pc = .ok (.lconst i, 1)) (hp : pc + 1 = pc') (hv : Int64.ofNat i = v) (K : Run l Z y bytes ml ret R n0 Q h k n pc' Ls (.long v :: st)) : Run l Z y bytes ml ret R n0 Q h k n pc Ls st := by
  subst hp hv; exact K.step fun p e s m args below meth c T locs C X E t q => XT.lconst X.here C.1 rfl (hb C.2.1 hd) q
theorem r_null (pc' : Nat) (hd : decode bytes pc = .ok (.aconst_null, 1)) (hp : pc + 1 = pc') (K : Run l Z y bytes ml ret R n0 Q h k n pc' Ls (.null :: st)) : Run l Z y bytes ml ret R n0 Q h k n pc Ls st := by
  subst hp; exact K.step fun p e s m args below meth c T locs C X E t q => XS.aconstNull X.here C.1 rfl (hb C.2.1 hd) q
theorem r_ldc {i : Nat} {v : Int32} (pc' : Nat) (hd : decode bytes pc = .ok (.ldc i, 2)) (hp : pc + 2 = pc') (w : (Jvm.Cond.constant y.cls i v).before a0 Z = true) (K : Run l Z y bytes ml ret R n0 Q h k n pc' Ls (.int v :: st)) : Run l Z y bytes ml ret R n0 Q h k n pc Ls st := by
  subst hp; exact K.step fun p e s m args below meth c T locs C X E t q => X.ldcInt C.1 C.2.2.2.2.1 (mvT C.2.2.2.1 w) (g := mkF m pc Ls.toArray st) rfl (hb C.2.1 hd) _ q
theorem r_ldc2 {i : Nat} {v : Int64} (pc' : Nat) (hd : decode bytes pc = .ok (.ldc2_w i, 3)) (hp : pc + 3 = pc') (w : (Jvm.Cond.constantLong y.cls i v).before a0 Z = true) (K : Run l Z y bytes ml ret R n0 Q h k n pc' Ls (.long v :: st)) : Run l Z y bytes ml ret R n0 Q h k n pc Ls st := by
  subst hp; exact K.step fun p e s m args below meth c T locs C X E t q => X.ldc2Long C.1 C.2.2.2.2.1 (mvT C.2.2.2.1 w) (g := mkF m pc Ls.toArray st) rfl (hb C.2.1 hd) _ q
/-! stores -/
def own_one : Slot → Bool
  | .unset => true
  | .val (.int _) => true
  | .val (.float _) => true
  | .val .null => true
  | .val (.ref _) => true
  | .val (.retAddr _) => true
  | _ => false
theorem own_one_spec {o : Slot} (h : own_one o = true) : o = .unset ∨ ∃ w, o = .val w ∧ w.category = 1 := by
  cases o with
  | unset => exact Or.inl rfl
  | second => cases h
  | val w => cases w <;> first | exact Or.inr ⟨_, rfl, rfl⟩ | cases h
theorem own_put {m : MethodId} {j : Nat} {v : Value} (h : Ls[j]?.map own_one = some true) (hv : v.category = 1) : storeLocals (mkF m pc Ls.toArray st).locals j v = some (Ls.set j (.val v)).toArray := by
  show storeLocals Ls.toArray j v = _
  cases ho : Ls[j]? with
  | none => rw [ho] at h; cases h
  | some o =>
    rw [ho] at h
    have := XS.store1 (l := Ls.toArray) (i := j) (v := v) (o := o) (by rw [List.getElem?_toArray]; exact ho) (own_one_spec (Option.some.inj h)) hv
    rw [this, List.setIfInBounds_toArray]
theorem r_istoreN {j : Fin 4} {v : Int32} (pc' : Nat) (hd : decode bytes pc = .ok (.istore_n j, 1)) (hp : pc + 1 = pc') (hl : Ls[j.val]?.map own_one = some true) (K : Run l Z y bytes ml ret R n0 Q h k n pc' (Ls.set j.val (.val (.int v))) st) : Run l Z y bytes ml ret R n0 Q h k n pc Ls (.int v :: st) := by
  subst hp; exact K.step fun p e s m args below meth c T locs C X E t q => XS.istoreN X.here C.1 rfl (hb C.2.1 hd) rfl (own_put hl rfl) q
theorem r_istore {j : Nat} {v : Int32} (pc' : Nat) (hd : decode bytes pc = .ok (.istore j, 2)) (hp : pc + 2 = pc') (hl : Ls[j]?.map own_one = some true) (K : Run l Z y bytes ml ret R n0 Q h k n pc' (Ls.set j (.val (.int v))) st) : Run l Z y bytes ml ret R n0 Q h k n pc Ls (.int v :: st) := by
  subst hp; exact K.step fun p e s m args below meth c T locs C X E t q => XS.istore X.here C.1 rfl (hb C.2.1 hd) rfl (own_put hl rfl) q
theorem r_astoreN {j : Fin 4} {a : Addr} (pc' : Nat) (hd : decode bytes pc = .ok (.astore_n j, 1)) (hp : pc + 1 = pc') (hl : Ls[j.val]?.map own_one = some true) (K : Run l Z y bytes ml ret R n0 Q h k n pc' (Ls.set j.val (.val (.ref a))) st) : Run l Z y bytes ml ret R n0 Q h k n pc Ls (.ref a :: st) := by
  subst hp; exact K.step fun p e s m args below meth c T locs C X E t q => XS.astoreN X.here C.1 rfl (hb C.2.1 hd) rfl rfl (own_put hl rfl) q
theorem r_astore {j : Nat} {a : Addr} (pc' : Nat) (hd : decode bytes pc = .ok (.astore j, 2)) (hp : pc + 2 = pc') (hl : Ls[j]?.map own_one = some true) (K : Run l Z y bytes ml ret R n0 Q h k n pc' (Ls.set j (.val (.ref a))) st) : Run l Z y bytes ml ret R n0 Q h k n pc Ls (.ref a :: st) := by
  subst hp; exact K.step fun p e s m args below meth c T locs C X E t q => XS.astore X.here C.1 rfl (hb C.2.1 hd) rfl rfl (own_put hl rfl) q
theorem own_cat {v : Value} (hv : v.isRef = true) : v.category = 1 := by cases v <;> first | rfl | cases hv
theorem r_astoreNV {j : Fin 4} {v : Value} (pc' : Nat) (hd : decode bytes pc = .ok (.astore_n j, 1)) (hp : pc + 1 = pc') (hl : Ls[j.val]?.map own_one = some true) (hv : v.isRef = true) (K : Run l Z y bytes ml ret R n0 Q h k n pc' (Ls.set j.val (.val v)) st) : Run l Z y bytes ml ret R n0 Q h k n pc Ls (v :: st) := by
  subst hp; exact K.step fun p e s m args below meth c T locs C X E t q => XS.astoreN X.here C.1 rfl (hb C.2.1 hd) rfl hv (own_put hl (own_cat hv)) q
theorem r_astoreV {j : Nat} {v : Value} (pc' : Nat) (hd : decode bytes pc = .ok (.astore j, 2)) (hp : pc + 2 = pc') (hl : Ls[j]?.map own_one = some true) (hv : v.isRef = true) (K : Run l Z y bytes ml ret R n0 Q h k n pc' (Ls.set j (.val v)) st) : Run l Z y bytes ml ret R n0 Q h k n pc Ls (v :: st) := by
  subst hp; exact K.step fun p e s m args below meth c T locs C X E t q => XS.astore X.here C.1 rfl (hb C.2.1 hd) rfl hv (own_put hl (own_cat hv)) q
theorem r_iinc {j : Nat} {cst : Int} {x : Int32} (v : Int32) (pc' : Nat) (hd : decode bytes pc = .ok (.iinc j cst, 3)) (hp : pc + 3 = pc') (hv : Int32.ofInt cst = v) (hl : Ls[j]? = some (.val (.int x))) (K : Run l Z y bytes ml ret R n0 Q h k n pc' (Ls.set j (.val (.int (x + v)))) st) : Run l Z y bytes ml ret R n0 Q h k n pc Ls st := by
  subst hp hv; exact K.step fun p e s m args below meth c T locs C X E t q => XS.iinc X.here C.1 rfl (hb C.2.1 hd) (own_get hl) (own_put (by rw [hl]; rfl) rfl) q
theorem r_iadd {x : Int32} {z : Int32} (pc' : Nat) (hd : decode bytes pc = .ok (.iadd, 1)) (hp : pc + 1 = pc') (K : Run l Z y bytes ml ret R n0 Q h k n pc' Ls (.int (x + z) :: st)) : Run l Z y bytes ml ret R n0 Q h k n pc Ls (.int z :: .int x :: st) := by
  subst hp; exact K.step fun p e s m args below meth c T locs C X E t q => XS.iadd X.here C.1 rfl (hb C.2.1 hd) rfl q
theorem r_isub {x : Int32} {z : Int32} (pc' : Nat) (hd : decode bytes pc = .ok (.isub, 1)) (hp : pc + 1 = pc') (K : Run l Z y bytes ml ret R n0 Q h k n pc' Ls (.int (x - z) :: st)) : Run l Z y bytes ml ret R n0 Q h k n pc Ls (.int z :: .int x :: st) := by
  subst hp; exact K.step fun p e s m args below meth c T locs C X E t q => XS.isub X.here C.1 rfl (hb C.2.1 hd) rfl q
theorem r_imul {x : Int32} {z : Int32} (pc' : Nat) (hd : decode bytes pc = .ok (.imul, 1)) (hp : pc + 1 = pc') (K : Run l Z y bytes ml ret R n0 Q h k n pc' Ls (.int (x * z) :: st)) : Run l Z y bytes ml ret R n0 Q h k n pc Ls (.int z :: .int x :: st) := by
  subst hp; exact K.step fun p e s m args below meth c T locs C X E t q => XS.imul X.here C.1 rfl (hb C.2.1 hd) rfl q
theorem r_iand {x : Int32} {z : Int32} (pc' : Nat) (hd : decode bytes pc = .ok (.iand, 1)) (hp : pc + 1 = pc') (K : Run l Z y bytes ml ret R n0 Q h k n pc' Ls (.int (x &&& z) :: st)) : Run l Z y bytes ml ret R n0 Q h k n pc Ls (.int z :: .int x :: st) := by
  subst hp; exact K.step fun p e s m args below meth c T locs C X E t q => XS.iand X.here C.1 rfl (hb C.2.1 hd) rfl q
theorem r_ior {x : Int32} {z : Int32} (pc' : Nat) (hd : decode bytes pc = .ok (.ior, 1)) (hp : pc + 1 = pc') (K : Run l Z y bytes ml ret R n0 Q h k n pc' Ls (.int (x ||| z) :: st)) : Run l Z y bytes ml ret R n0 Q h k n pc Ls (.int z :: .int x :: st) := by
  subst hp; exact K.step fun p e s m args below meth c T locs C X E t q => XT.ior X.here C.1 rfl (hb C.2.1 hd) rfl q
theorem r_ixor {x : Int32} {z : Int32} (pc' : Nat) (hd : decode bytes pc = .ok (.ixor, 1)) (hp : pc + 1 = pc') (K : Run l Z y bytes ml ret R n0 Q h k n pc' Ls (.int (x ^^^ z) :: st)) : Run l Z y bytes ml ret R n0 Q h k n pc Ls (.int z :: .int x :: st) := by
  subst hp; exact K.step fun p e s m args below meth c T locs C X E t q => XT.ixor X.here C.1 rfl (hb C.2.1 hd) rfl q
theorem r_ladd {x : Int64} {z : Int64} (pc' : Nat) (hd : decode bytes pc = .ok (.ladd, 1)) (hp : pc + 1 = pc') (K : Run l Z y bytes ml ret R n0 Q h k n pc' Ls (.long (x + z) :: st)) : Run l Z y bytes ml ret R n0 Q h k n pc Ls (.long z :: .long x :: st) := by
  subst hp; exact K.step fun p e s m args below meth c T locs C X E t q => XT.ladd X.here C.1 rfl (hb C.2.1 hd) rfl q
theorem r_lsub {x : Int64} {z : Int64} (pc' : Nat) (hd : decode bytes pc = .ok (.lsub, 1)) (hp : pc + 1 = pc') (K : Run l Z y bytes ml ret R n0 Q h k n pc' Ls (.long (x - z) :: st)) : Run l Z y bytes ml ret R n0 Q h k n pc Ls (.long z :: .long x :: st) := by
  subst hp; exact K.step fun p e s m args below meth c T locs C X E t q => XT.lsub X.here C.1 rfl (hb C.2.1 hd) rfl q
theorem r_lmul {x : Int64} {z : Int64} (pc' : Nat) (hd : decode bytes pc = .ok (.lmul, 1)) (hp : pc + 1 = pc') (K : Run l Z y bytes ml ret R n0 Q h k n pc' Ls (.long (x * z) :: st)) : Run l Z y bytes ml ret R n0 Q h k n pc Ls (.long z :: .long x :: st) := by
  subst hp; exact K.step fun p e s m args below meth c T locs C X E t q => XT.lmul X.here C.1 rfl (hb C.2.1 hd) rfl q
theorem r_land {x : Int64} {z : Int64} (pc' : Nat) (hd : decode bytes pc = .ok (.land, 1)) (hp : pc + 1 = pc') (K : Run l Z y bytes ml ret R n0 Q h k n pc' Ls (.long (x &&& z) :: st)) : Run l Z y bytes ml ret R n0 Q h k n pc Ls (.long z :: .long x :: st) := by
  subst hp; exact K.step fun p e s m args below meth c T locs C X E t q => XT.land X.here C.1 rfl (hb C.2.1 hd) rfl q
theorem r_lor {x : Int64} {z : Int64} (pc' : Nat) (hd : decode bytes pc = .ok (.lor, 1)) (hp : pc + 1 = pc') (K : Run l Z y bytes ml ret R n0 Q h k n pc' Ls (.long (x ||| z) :: st)) : Run l Z y bytes ml ret R n0 Q h k n pc Ls (.long z :: .long x :: st) := by
  subst hp; exact K.step fun p e s m args below meth c T locs C X E t q => XT.lor X.here C.1 rfl (hb C.2.1 hd) rfl q
theorem r_lxor {x : Int64} {z : Int64} (pc' : Nat) (hd : decode bytes pc = .ok (.lxor, 1)) (hp : pc + 1 = pc') (K : Run l Z y bytes ml ret R n0 Q h k n pc' Ls (.long (x ^^^ z) :: st)) : Run l Z y bytes ml ret R n0 Q h k n pc Ls (.long z :: .long x :: st) := by
  subst hp; exact K.step fun p e s m args below meth c T locs C X E t q => XT.lxor X.here C.1 rfl (hb C.2.1 hd) rfl q
theorem r_ishl {x : Int32} {z : Int32} (pc' : Nat) (hd : decode bytes pc = .ok (.ishl, 1)) (hp : pc + 1 = pc') (K : Run l Z y bytes ml ret R n0 Q h k n pc' Ls (.int (x <<< (z &&& 31)) :: st)) : Run l Z y bytes ml ret R n0 Q h k n pc Ls (.int z :: .int x :: st) := by
  subst hp; exact K.step fun p e s m args below meth c T locs C X E t q => XT.ishl X.here C.1 rfl (hb C.2.1 hd) rfl q
theorem r_ishr {x : Int32} {z : Int32} (pc' : Nat) (hd : decode bytes pc = .ok (.ishr, 1)) (hp : pc + 1 = pc') (K : Run l Z y bytes ml ret R n0 Q h k n pc' Ls (.int (x >>> (z &&& 31)) :: st)) : Run l Z y bytes ml ret R n0 Q h k n pc Ls (.int z :: .int x :: st) := by
  subst hp; exact K.step fun p e s m args below meth c T locs C X E t q => XT.ishr X.here C.1 rfl (hb C.2.1 hd) rfl q
theorem r_iushr {x : Int32} {z : Int32} (pc' : Nat) (hd : decode bytes pc = .ok (.iushr, 1)) (hp : pc + 1 = pc') (K : Run l Z y bytes ml ret R n0 Q h k n pc' Ls (.int (XT.ushr x z) :: st)) : Run l Z y bytes ml ret R n0 Q h k n pc Ls (.int z :: .int x :: st) := by
  subst hp; exact K.step fun p e s m args below meth c T locs C X E t q => XT.iushr X.here C.1 rfl (hb C.2.1 hd) rfl q
theorem r_lshl {x : Int64} {z : Int32} (pc' : Nat) (hd : decode bytes pc = .ok (.lshl, 1)) (hp : pc + 1 = pc') (K : Run l Z y bytes ml ret R n0 Q h k n pc' Ls (.long (x <<< (z.toInt64 &&& 63)) :: st)) : Run l Z y bytes ml ret R n0 Q h k n pc Ls (.int z :: .long x :: st) := by
  subst hp; exact K.step fun p e s m args below meth c T locs C X E t q => XT.lshl X.here C.1 rfl (hb C.2.1 hd) rfl q
theorem r_lshr {x : Int64} {z : Int32} (pc' : Nat) (hd : decode bytes pc = .ok (.lshr, 1)) (hp : pc + 1 = pc') (K : Run l Z y bytes ml ret R n0 Q h k n pc' Ls (.long (x >>> (z.toInt64 &&& 63)) :: st)) : Run l Z y bytes ml ret R n0 Q h k n pc Ls (.int z :: .long x :: st) := by
  subst hp; exact K.step fun p e s m args below meth c T locs C X E t q => XT.lshr X.here C.1 rfl (hb C.2.1 hd) rfl q
theorem r_lushr {x : Int64} {z : Int32} (pc' : Nat) (hd : decode bytes pc = .ok (.lushr, 1)) (hp : pc + 1 = pc') (K : Run l Z y bytes ml ret R n0 Q h k n pc' Ls (.long (XT.ushrL x z) :: st)) : Run l Z y bytes ml ret R n0 Q h k n pc Ls (.int z :: .long x :: st) := by
  subst hp; exact K.step fun p e s m args below meth c T locs C X E t q => XT.lushr X.here C.1 rfl (hb C.2.1 hd) rfl q
theorem r_idiv {x : Int32} {z : Int32} (pc' : Nat) (hd : decode bytes pc = .ok (.idiv, 1)) (hp : pc + 1 = pc') (hy : z ≠ 0) (K : Run l Z y bytes ml ret R n0 Q h k n pc' Ls (.int (x / z) :: st)) : Run l Z y bytes ml ret R n0 Q h k n pc Ls (.int z :: .int x :: st) := by
  subst hp; exact K.step fun p e s m args below meth c T locs C X E t q => XS.idiv X.here C.1 rfl (hb C.2.1 hd) rfl hy q
theorem r_lcmp {x : Int64} {z : Int64} (pc' : Nat) (hd : decode bytes pc = .ok (.lcmp, 1)) (hp : pc + 1 = pc') (K : Run l Z y bytes ml ret R n0 Q h k n pc' Ls (.int (XT.cmpL x z) :: st)) : Run l Z y bytes ml ret R n0 Q h k n pc Ls (.long z :: .long x :: st) := by
  subst hp; exact K.step fun p e s m args below meth c T locs C X E t q => XT.lcmp X.here C.1 rfl (hb C.2.1 hd) rfl q
theorem r_irem {x z : Int32} (pc' : Nat) (hd : decode bytes pc = .ok (.irem, 1)) (hp : pc + 1 = pc') (hy : z ≠ 0) (K : Run l Z y bytes ml ret R n0 Q h k n pc' Ls (.int (x % z) :: st)) : Run l Z y bytes ml ret R n0 Q h k n pc Ls (.int z :: .int x :: st) := by
  subst hp; exact K.step fun p e s m args below meth c T locs C X E t q => iremM X C.1 rfl (hb C.2.1 hd) rfl hy q
theorem r_ineg {x : Int32} (pc' : Nat) (hd : decode bytes pc = .ok (.ineg, 1)) (hp : pc + 1 = pc') (K : Run l Z y bytes ml ret R n0 Q h k n pc' Ls (.int (-x) :: st)) : Run l Z y bytes ml ret R n0 Q h k n pc Ls (.int x :: st) := by
  subst hp; exact K.step fun p e s m args below meth c T locs C X E t q => XS.ineg X.here C.1 rfl (hb C.2.1 hd) rfl q
theorem r_i2l {x : Int32} (pc' : Nat) (hd : decode bytes pc = .ok (.i2l, 1)) (hp : pc + 1 = pc') (K : Run l Z y bytes ml ret R n0 Q h k n pc' Ls (.long x.toInt64 :: st)) : Run l Z y bytes ml ret R n0 Q h k n pc Ls (.int x :: st) := by
  subst hp; exact K.step fun p e s m args below meth c T locs C X E t q => XT.i2l X.here C.1 rfl (hb C.2.1 hd) rfl q
theorem r_l2i {x : Int64} (pc' : Nat) (hd : decode bytes pc = .ok (.l2i, 1)) (hp : pc + 1 = pc') (K : Run l Z y bytes ml ret R n0 Q h k n pc' Ls (.int x.toInt32 :: st)) : Run l Z y bytes ml ret R n0 Q h k n pc Ls (.long x :: st) := by
  subst hp; exact K.step fun p e s m args below meth c T locs C X E t q => XT.l2i X.here C.1 rfl (hb C.2.1 hd) rfl q
theorem r_i2b {x : Int32} (pc' : Nat) (hd : decode bytes pc = .ok (.i2b, 1)) (hp : pc + 1 = pc') (K : Run l Z y bytes ml ret R n0 Q h k n pc' Ls (.int x.toInt8.toInt32 :: st)) : Run l Z y bytes ml ret R n0 Q h k n pc Ls (.int x :: st) := by
  subst hp; exact K.step fun p e s m args below meth c T locs C X E t q => XT.i2b X.here C.1 rfl (hb C.2.1 hd) rfl q
theorem r_i2c {x : Int32} (pc' : Nat) (hd : decode bytes pc = .ok (.i2c, 1)) (hp : pc + 1 = pc') (K : Run l Z y bytes ml ret R n0 Q h k n pc' Ls (.int x.toUInt32.toUInt16.toUInt32.toInt32 :: st)) : Run l Z y bytes ml ret R n0 Q h k n pc Ls (.int x :: st) := by
  subst hp; exact K.step fun p e s m args below meth c T locs C X E t q => XT.i2c X.here C.1 rfl (hb C.2.1 hd) rfl q
theorem r_i2s {x : Int32} (pc' : Nat) (hd : decode bytes pc = .ok (.i2s, 1)) (hp : pc + 1 = pc') (K : Run l Z y bytes ml ret R n0 Q h k n pc' Ls (.int x.toInt16.toInt32 :: st)) : Run l Z y bytes ml ret R n0 Q h k n pc Ls (.int x :: st) := by
  subst hp; exact K.step fun p e s m args below meth c T locs C X E t q => XT.i2s X.here C.1 rfl (hb C.2.1 hd) rfl q
theorem r_dup {x : Value} (pc' : Nat) (hd : decode bytes pc = .ok (.dup, 1)) (hp : pc + 1 = pc') (hc : x.category = 1) (K : Run l Z y bytes ml ret R n0 Q h k n pc' Ls (x :: x :: st)) : Run l Z y bytes ml ret R n0 Q h k n pc Ls (x :: st) := by
  subst hp; exact K.step fun p e s m args below meth c T locs C X E t q => XS.dup X.here C.1 rfl (hb C.2.1 hd) rfl hc q
theorem r_dupX1 {x z : Value} (pc' : Nat) (hd : decode bytes pc = .ok (.dup_x1, 1)) (hp : pc + 1 = pc') (hc : x.category = 1) (hc' : z.category = 1) (K : Run l Z y bytes ml ret R n0 Q h k n pc' Ls (x :: z :: x :: st)) : Run l Z y bytes ml ret R n0 Q h k n pc Ls (x :: z :: st) := by
  subst hp; exact K.step fun p e s m args below meth c T locs C X E t q => XT.dupX1 X.here C.1 rfl (hb C.2.1 hd) rfl hc hc' q
theorem r_pop {x : Value} (pc' : Nat) (hd : decode bytes pc = .ok (.pop, 1)) (hp : pc + 1 = pc') (hc : x.category = 1) (K : Run l Z y bytes ml ret R n0 Q h k n pc' Ls st) : Run l Z y bytes ml ret R n0 Q h k n pc Ls (x :: st) := by
  subst hp; exact K.step fun p e s m args below meth c T locs C X E t q => XT.pop X.here C.1 rfl (hb C.2.1 hd) rfl hc q
theorem r_goto {o : Int} (pc' : Nat) (hd : decode bytes pc = .ok (.goto o, 3)) (hp : (0 : Int) ≤ (pc : Int) + o ∧ ((pc : Int) + o).toNat = pc') (K : Run l Z y bytes ml ret R n0 Q h k n pc' Ls st) : Run l Z y bytes ml ret R n0 Q h k n pc Ls st :=
  K.step fun p e s m args below meth c T locs C X E t q => XS.goto X.here C.1 rfl rfl (hb C.2.1 hd) hp.1 hp.2 q
theorem r_icmp_eq {x z : Int32} {o : Int} (pc' pc'' : Nat) (hd : decode bytes pc = .ok (.if_icmp .eq o, 3)) (hp : (0 : Int) ≤ (pc : Int) + o ∧ ((pc : Int) + o).toNat = pc') (hq : pc + 3 = pc'') (K1 : x = z → Run l Z y bytes ml ret R n0 Q h k n pc' Ls st) (K2 : ¬ x = z → Run l Z y bytes ml ret R n0 Q h k n pc'' Ls st) : Run l Z y bytes ml ret R n0 Q h k n pc Ls (.int z :: .int x :: st) := by
  subst hq
  by_cases q' : x = z
  · exact (K1 q').step fun p e s m args below meth c T locs C X E t q => XS.icmpYes X.here C.1 rfl rfl (hb C.2.1 hd) rfl (teq q').1 hp.1 hp.2 q
  · exact (K2 q').step fun p e s m args below meth c T locs C X E t q => XS.icmpNo X.here C.1 rfl (hb C.2.1 hd) rfl (feq q').1 q
theorem r_if_eq {x : Int32} {o : Int} (pc' pc'' : Nat) (hd : decode bytes pc = .ok (.ifCond .eq o, 3)) (hp : (0 : Int) ≤ (pc : Int) + o ∧ ((pc : Int) + o).toNat = pc') (hq : pc + 3 = pc'') (K1 : x = 0 → Run l Z y bytes ml ret R n0 Q h k n pc' Ls st) (K2 : ¬ x = 0 → Run l Z y bytes ml ret R n0 Q h k n pc'' Ls st) : Run l Z y bytes ml ret R n0 Q h k n pc Ls (.int x :: st) := by
  subst hq
  by_cases q' : x = 0
  · exact (K1 q').step fun p e s m args below meth c T locs C X E t q => XS.ifYes X.here C.1 rfl rfl (hb C.2.1 hd) rfl ((if0 _ _).trans (teq q').1) hp.1 hp.2 q
  · exact (K2 q').step fun p e s m args below meth c T locs C X E t q => XS.ifNo X.here C.1 rfl (hb C.2.1 hd) rfl ((if0 _ _).trans (feq q').1) q
theorem r_icmp_ne {x z : Int32} {o : Int} (pc' pc'' : Nat) (hd : decode bytes pc = .ok (.if_icmp .ne o, 3)) (hp : (0 : Int) ≤ (pc : Int) + o ∧ ((pc : Int) + o).toNat = pc') (hq : pc + 3 = pc'') (K1 : ¬ x = z → Run l Z y bytes ml ret R n0 Q h k n pc' Ls st) (K2 : x = z → Run l Z y bytes ml ret R n0 Q h k n pc'' Ls st) : Run l Z y bytes ml ret R n0 Q h k n pc Ls (.int z :: .int x :: st) := by
  subst hq
  by_cases q' : x = z
  · exact (K2 q').step fun p e s m args below meth c T locs C X E t q => XS.icmpNo X.here C.1 rfl (hb C.2.1 hd) rfl (teq q').2 q
  · exact (K1 q').step fun p e s m args below meth c T locs C X E t q => XS.icmpYes X.here C.1 rfl rfl (hb C.2.1 hd) rfl (feq q').2 hp.1 hp.2 q
theorem r_if_ne {x : Int32} {o : Int} (pc' pc'' : Nat) (hd : decode bytes pc = .ok (.ifCond .ne o, 3)) (hp : (0 : Int) ≤ (pc : Int) + o ∧ ((pc : Int) + o).toNat = pc') (hq : pc + 3 = pc'') (K1 : ¬ x = 0 → Run l Z y bytes ml ret R n0 Q h k n pc' Ls st) (K2 : x = 0 → Run l Z y bytes ml ret R n0 Q h k n pc'' Ls st) : Run l Z y bytes ml ret R n0 Q h k n pc Ls (.int x :: st) := by
  subst hq
  by_cases q' : x = 0
  · exact (K2 q').step fun p e s m args below meth c T locs C X E t q => XS.ifNo X.here C.1 rfl (hb C.2.1 hd) rfl ((if0 _ _).trans (teq q').2) q
  · exact (K1 q').step fun p e s m args below meth c T locs C X E t q => XS.ifYes X.here C.1 rfl rfl (hb C.2.1 hd) rfl ((if0 _ _).trans (feq q').2) hp.1 hp.2 q
theorem r_icmp_lt {x z : Int32} {o : Int} (pc' pc'' : Nat) (hd : decode bytes pc = .ok (.if_icmp .lt o, 3)) (hp : (0 : Int) ≤ (pc : Int) + o ∧ ((pc : Int) + o).toNat = pc') (hq : pc + 3 = pc'') (K1 : x < z → Run l Z y bytes ml ret R n0 Q h k n pc' Ls st) (K2 : ¬ x < z → Run l Z y bytes ml ret R n0 Q h k n pc'' Ls st) : Run l Z y bytes ml ret R n0 Q h k n pc Ls (.int z :: .int x :: st) := by
  subst hq
  by_cases q' : x < z
  · exact (K1 q').step fun p e s m args below meth c T locs C X E t q => XS.icmpYes X.here C.1 rfl rfl (hb C.2.1 hd) rfl (tlt q').1 hp.1 hp.2 q
  · exact (K2 q').step fun p e s m args below meth c T locs C X E t q => XS.icmpNo X.here C.1 rfl (hb C.2.1 hd) rfl (flt q').1 q
theorem r_if_lt {x : Int32} {o : Int} (pc' pc'' : Nat) (hd : decode bytes pc = .ok (.ifCond .lt o, 3)) (hp : (0 : Int) ≤ (pc : Int) + o ∧ ((pc : Int) + o).toNat = pc') (hq : pc + 3 = pc'') (K1 : x < 0 → Run l Z y bytes ml ret R n0 Q h k n pc' Ls st) (K2 : ¬ x < 0 → Run l Z y bytes ml ret R n0 Q h k n pc'' Ls st) : Run l Z y bytes ml ret R n0 Q h k n pc Ls (.int x :: st) := by
  subst hq
  by_cases q' : x < 0
  · exact (K1 q').step fun p e s m args below meth c T locs C X E t q => XS.ifYes X.here C.1 rfl rfl (hb C.2.1 hd) rfl ((if0 _ _).trans (tlt q').1) hp.1 hp.2 q
  · exact (K2 q').step fun p e s m args below meth c T locs C X E t q => XS.ifNo X.here C.1 rfl (hb C.2.1 hd) rfl ((if0 _ _).trans (flt q').1) q
theorem r_icmp_ge {x z : Int32} {o : Int} (pc' pc'' : Nat) (hd : decode bytes pc = .ok (.if_icmp .ge o, 3)) (hp : (0 : Int) ≤ (pc : Int) + o ∧ ((pc : Int) + o).toNat = pc') (hq : pc + 3 = pc'') (K1 : ¬ x < z → Run l Z y bytes ml ret R n0 Q h k n pc' Ls st) (K2 : x < z → Run l Z y bytes ml ret R n0 Q h k n pc'' Ls st) : Run l Z y bytes ml ret R n0 Q h k n pc Ls (.int z :: .int x :: st) := by
  subst hq
  by_cases q' : x < z
  · exact (K2 q').step fun p e s m args below meth c T locs C X E t q => XS.icmpNo X.here C.1 rfl (hb C.2.1 hd) rfl (tlt q').2.1 q
  · exact (K1 q').step fun p e s m args below meth c T locs C X E t q => XS.icmpYes X.here C.1 rfl rfl (hb C.2.1 hd) rfl (flt q').2.1 hp.1 hp.2 q
theorem r_if_ge {x : Int32} {o : Int} (pc' pc'' : Nat) (hd : decode bytes pc = .ok (.ifCond .ge o, 3)) (hp : (0 : Int) ≤ (pc : Int) + o ∧ ((pc : Int) + o).toNat = pc') (hq : pc + 3 = pc'') (K1 : ¬ x < 0 → Run l Z y bytes ml ret R n0 Q h k n pc' Ls st) (K2 : x < 0 → Run l Z y bytes ml ret R n0 Q h k n pc'' Ls st) : Run l Z y bytes ml ret R n0 Q h k n pc Ls (.int x :: st) := by
  subst hq
  by_cases q' : x < 0
  · exact (K2 q').step fun p e s m args below meth c T locs C X E t q => XS.ifNo X.here C.1 rfl (hb C.2.1 hd) rfl ((if0 _ _).trans (tlt q').2.1) q
  · exact (K1 q').step fun p e s m args below meth c T locs C X E t q => XS.ifYes X.here C.1 rfl rfl (hb C.2.1 hd) rfl ((if0 _ _).trans (flt q').2.1) hp.1 hp.2 q
theorem r_icmp_gt {x z : Int32} {o : Int} (pc' pc'' : Nat) (hd : decode bytes pc = .ok (.if_icmp .gt o, 3)) (hp : (0 : Int) ≤ (pc : Int) + o ∧ ((pc : Int) + o).toNat = pc') (hq : pc + 3 = pc'') (K1 : z < x → Run l Z y bytes ml ret R n0 Q h k n pc' Ls st) (K2 : ¬ z < x → Run l Z y bytes ml ret R n0 Q h k n pc'' Ls st) : Run l Z y bytes ml ret R n0 Q h k n pc Ls (.int z :: .int x :: st) := by
  subst hq
  by_cases q' : z < x
  · exact (K1 q').step fun p e s m args below meth c T locs C X E t q => XS.icmpYes X.here C.1 rfl rfl (hb C.2.1 hd) rfl (tlt q').2.2.1 hp.1 hp.2 q
  · exact (K2 q').step fun p e s m args below meth c T locs C X E t q => XS.icmpNo X.here C.1 rfl (hb C.2.1 hd) rfl (flt q').2.2.1 q
theorem r_if_gt {x : Int32} {o : Int} (pc' pc'' : Nat) (hd : decode bytes pc = .ok (.ifCond .gt o, 3)) (hp : (0 : Int) ≤ (pc : Int) + o ∧ ((pc : Int) + o).toNat = pc') (hq : pc + 3 = pc'') (K1 : 0 < x → Run l Z y bytes ml ret R n0 Q h k n pc' Ls st) (K2 : ¬ 0 < x → Run l Z y bytes ml ret R n0 Q h k n pc'' Ls st) : Run l Z y bytes ml ret R n0 Q h k n pc Ls (.int x :: st) := by
  subst hq
  by_cases q' : 0 < x
  · exact (K1 q').step fun p e s m args below meth c T locs C X E t q => XS.ifYes X.here C.1 rfl rfl (hb C.2.1 hd) rfl ((if0 _ _).trans (tlt q').2.2.1) hp.1 hp.2 q
  · exact (K2 q').step fun p e s m args below meth c T locs C X E t q => XS.ifNo X.here C.1 rfl (hb C.2.1 hd) rfl ((if0 _ _).trans (flt q').2.2.1) q
theorem r_icmp_le {x z : Int32} {o : Int} (pc' pc'' : Nat) (hd : decode bytes pc = .ok (.if_icmp .le o, 3)) (hp : (0 : Int) ≤ (pc : Int) + o ∧ ((pc : Int) + o).toNat = pc') (hq : pc + 3 = pc'') (K1 : ¬ z < x → Run l Z y bytes ml ret R n0 Q h k n pc' Ls st) (K2 : z < x → Run l Z y bytes ml ret R n0 Q h k n pc'' Ls st) : Run l Z y bytes ml ret R n0 Q h k n pc Ls (.int z :: .int x :: st) := by
  subst hq
  by_cases q' : z < x
  · exact (K2 q').step fun p e s m args below meth c T locs C X E t q => XS.icmpNo X.here C.1 rfl (hb C.2.1 hd) rfl (tlt q').2.2.2 q
  · exact (K1 q').step fun p e s m args below meth c T locs C X E t q => XS.icmpYes X.here C.1 rfl rfl (hb C.2.1 hd) rfl (flt q').2.2.2 hp.1 hp.2 q
theorem r_if_le {x : Int32} {o : Int} (pc' pc'' : Nat) (hd : decode bytes pc = .ok (.ifCond .le o, 3)) (hp : (0 : Int) ≤ (pc : Int) + o ∧ ((pc : Int) + o).toNat = pc') (hq : pc + 3 = pc'') (K1 : ¬ 0 < x → Run l Z y bytes ml ret R n0 Q h k n pc' Ls st) (K2 : 0 < x → Run l Z y bytes ml ret R n0 Q h k n pc'' Ls st) : Run l Z y bytes ml ret R n0 Q h k n pc Ls (.int x :: st) := by
  subst hq
  by_cases q' : 0 < x
  · exact (K2 q').step fun p e s m args below meth c T locs C X E t q => XS.ifNo X.here C.1 rfl (hb C.2.1 hd) rfl ((if0 _ _).trans (tlt q').2.2.2) q
  · exact (K1 q').step fun p e s m args below meth c T locs C X E t q => XS.ifYes X.here C.1 rfl rfl (hb C.2.1 hd) rfl ((if0 _ _).trans (flt q').2.2.2) hp.1 hp.2 q
theorem r_acmp_eq {x z : Value} {o : Int} (pc' pc'' : Nat) (hd : decode bytes pc = .ok (.if_acmp .eq o, 3)) (hp : (0 : Int) ≤ (pc : Int) + o ∧ ((pc : Int) + o).toNat = pc') (hq : pc + 3 = pc'') (hx : x.isRef = true) (hz : z.isRef = true) (K1 : x = z → Run l Z y bytes ml ret R n0 Q h k n pc' Ls st) (K2 : ¬ x = z → Run l Z y bytes ml ret R n0 Q h k n pc'' Ls st) : Run l Z y bytes ml ret R n0 Q h k n pc Ls (z :: x :: st) := by
  subst hq
  by_cases q' : x = z
  · exact (K1 q').step fun p e s m args below meth c T locs C X E t q => XT.acmpYes X.here C.1 rfl rfl (hb C.2.1 hd) rfl hx hz (XT.aa_eq_t q') hp.1 hp.2 q
  · exact (K2 q').step fun p e s m args below meth c T locs C X E t q => XT.acmpNo X.here C.1 rfl (hb C.2.1 hd) rfl hx hz (XT.aa_eq_f q') q
theorem r_acmp_ne {x z : Value} {o : Int} (pc' pc'' : Nat) (hd : decode bytes pc = .ok (.if_acmp .ne o, 3)) (hp : (0 : Int) ≤ (pc : Int) + o ∧ ((pc : Int) + o).toNat = pc') (hq : pc + 3 = pc'') (hx : x.isRef = true) (hz : z.isRef = true) (K1 : ¬ x = z → Run l Z y bytes ml ret R n0 Q h k n pc' Ls st) (K2 : x = z → Run l Z y bytes ml ret R n0 Q h k n pc'' Ls st) : Run l Z y bytes ml ret R n0 Q h k n pc Ls (z :: x :: st) := by
  subst hq
  by_cases q' : x = z
  · exact (K2 q').step fun p e s m args below meth c T locs C X E t q => XT.acmpNo X.here C.1 rfl (hb C.2.1 hd) rfl hx hz (XT.aa_ne_f q') q
  · exact (K1 q').step fun p e s m args below meth c T locs C X E t q => XT.acmpYes X.here C.1 rfl rfl (hb C.2.1 hd) rfl hx hz (XT.aa_ne_t q') hp.1 hp.2 q
theorem r_nonnullYes {a : Addr} {o : Int} (pc' : Nat) (hd : decode bytes pc = .ok (.ifnonnull o, 3)) (hp : (0 : Int) ≤ (pc : Int) + o ∧ ((pc : Int) + o).toNat = pc') (K : Run l Z y bytes ml ret R n0 Q h k n pc' Ls st) : Run l Z y bytes ml ret R n0 Q h k n pc Ls (.ref a :: st) :=
  K.step fun p e s m args below meth c T locs C X E t q => XT.ifnonnullYes X.here C.1 rfl rfl (hb C.2.1 hd) rfl hp.1 hp.2 q
theorem r_nonnullNo {o : Int} (pc'' : Nat) (hd : decode bytes pc = .ok (.ifnonnull o, 3)) (hq : pc + 3 = pc'') (K : Run l Z y bytes ml ret R n0 Q h k n pc'' Ls st) : Run l Z y bytes ml ret R n0 Q h k n pc Ls (.null :: st) := by
  subst hq; exact K.step fun p e s m args below meth c T locs C X E t q => XT.ifnonnullNo X.here C.1 rfl (hb C.2.1 hd) rfl q
theorem r_nullYes {o : Int} (pc' : Nat) (hd : decode bytes pc = .ok (.ifnull o, 3)) (hp : (0 : Int) ≤ (pc : Int) + o ∧ ((pc : Int) + o).toNat = pc') (K : Run l Z y bytes ml ret R n0 Q h k n pc' Ls st) : Run l Z y bytes ml ret R n0 Q h k n pc Ls (.null :: st) :=
  K.step fun p e s m args below meth c T locs C X E t q => XS.ifnullYes X.here C.1 rfl rfl (hb C.2.1 hd) rfl hp.1 hp.2 q
theorem r_nullNo {a : Addr} {o : Int} (pc'' : Nat) (hd : decode bytes pc = .ok (.ifnull o, 3)) (hq : pc + 3 = pc'') (K : Run l Z y bytes ml ret R n0 Q h k n pc'' Ls st) : Run l Z y bytes ml ret R n0 Q h k n pc Ls (.ref a :: st) := by
  subst hq; exact K.step fun p e s m args below meth c T locs C X E t q => XS.ifnullNo X.here C.1 rfl (hb C.2.1 hd) rfl q
/-! fields, statics, objects, arrays -/
theorem r_getstatic {i : Nat} {R0 O f d : String} {v : Value} (pc' : Nat) (hd : decode bytes pc = .ok (.getstatic i, 3)) (hp : pc + 3 = pc') (w : (Jvm.Cond.fieldLink y.cls i R0 f d).before a0 Z = true) (via : Via Z R0 O f d) (F : Sta Z h O f d v)
    (K : Run l Z y bytes ml ret R n0 Q h k n pc' Ls (v :: st)) : Run l Z y bytes ml ret R n0 Q h k n pc Ls st := by
  subst hp
  exact K.move fun p e s m args below meth c T locs C X N E => by
    obtain ⟨T', X', e', q⟩ := getS X C.1 C.2.2.2.1 (host := "") C.2.2.2.2.1 w via E F (g := mkF m pc Ls.toArray st) rfl (hb C.2.1 hd)
    exact ⟨T', _, X', N, e', q⟩
theorem r_getfield {i : Nat} {R0 O f d host : String} {v : Value} {a : Addr} (pc' : Nat) (hd : decode bytes pc = .ok (.getfield i, 3)) (hp : pc + 3 = pc') (w : (Jvm.Cond.fieldLink y.cls i R0 f d).before a0 Z = true ∨ (Jvm.Cond.fieldLinkNest y.cls i R0 f d host).before a0 Z = true) (via : Via Z R0 O f d) (F : Fld Z h a O f d v)
    (K : Run l Z y bytes ml ret R n0 Q h k n pc' Ls (v :: st)) : Run l Z y bytes ml ret R n0 Q h k n pc Ls (.ref a :: st) := by
  subst hp
  exact K.move fun p e s m args below meth c T locs C X N E => by
    obtain ⟨T', X', e', q⟩ := getF X C.1 C.2.2.2.1 C.2.2.2.2.1 w via E F (g := mkF m pc Ls.toArray (.ref a :: st)) rfl rfl (hb C.2.1 hd)
    exact ⟨T', _, X', N, e', q⟩
theorem r_putfield {i kk : Nat} {R0 O f d host C' : String} {ty : FieldType} {v old : Value} {a : Addr} (pc' : Nat) (hd : decode bytes pc = .ok (.putfield i, 3)) (hp : pc + 3 = pc') (w : (Jvm.Cond.fieldLink y.cls i R0 f d).before a0 Z = true ∨ (Jvm.Cond.fieldLinkNest y.cls i R0 f d host).before a0 Z = true) (via : Via Z R0 O f d) (F : Fld Z h a O f d old) (E1 : Exa Z h a C')
    (L : (Jvm.Cond.lays C' O f d).before a0 Z = true ∨ ((Jvm.Cond.laysFinal C' O f d).before a0 Z = true ∧ y.cls = O ∧ y.name = "<init>")) (wi : (Jvm.Cond.instantiable C' kk).before a0 Z = true) (hty : parseFieldDescriptor d = some ty) (hn : narrow ty v = v) (hf : fits ty v = true) (ha : n0 ≤ a)
    (K : ∀ h', Wr h h' a (Jvm.RoadKit.slotOf Z O f d) v → Run l Z y bytes ml ret R n0 Q h' k n pc' Ls st) : Run l Z y bytes ml ret R n0 Q h k n pc Ls (v :: .ref a :: st) := fun p e s m args below meth c T locs C X N E => by
  subst hp
  obtain ⟨T', h', X', e', W, q⟩ := putF X C.1 C.2.2.2.1 C.2.2.2.2.1 w via E F E1 (L.imp id fun ⟨u1, u2, u3⟩ => ⟨u1, u2, C.2.2.2.2.2.1.trans u3⟩) wi hty hn hf (g := mkF m pc Ls.toArray (v :: .ref a :: st)) rfl rfl (hb C.2.1 hd)
  obtain ⟨s2, o, h1, h2⟩ := K h' W p e s m args below meth c T' _ C X' (Fr.snoc X' N ha) e'
  exact ⟨s2, o, q _ h1, h2⟩
theorem r_new {i nn : Nat} {C' : String} (pc' : Nat) (hd : decode bytes pc = .ok (.new i, 3)) (hp : pc + 3 = pc') (w : (Jvm.Cond.classLink y.cls i C').before a0 Z = true) (wi : (Jvm.Cond.instantiable C' nn).before a0 Z = true) (wz : (Jvm.Cond.initialized C').before a0 Z = true) (hc : k + 1 ≤ R.cells) (hl : n + nn ≤ R.slots)
    (K : ∀ h' a, a = h.size → Ext h h' → Exa Z h' a C' → (∀ {O nm d : String} {ty : FieldType}, Laid Z a0 C' O nm d → parseFieldDescriptor d = some ty → Fld Z h' a O nm d (defaultValue ty)) → Run l Z y bytes ml ret R n0 Q h' (k + 1) (n + nn) pc' Ls (.ref a :: st)) : Run l Z y bytes ml ret R n0 Q h k n pc Ls st := fun p e s m args below meth c T locs C X N E => by
  subst hp
  obtain ⟨T', h', X', e', E2, A2, D2, -, q⟩ := newO X C.1 C.2.2.2.1 C.2.2.2.2.1 w wi wz E (g := mkF m pc Ls.toArray st) rfl (hb C.2.1 hd) hc hl
  obtain ⟨s2, o, h1, h2⟩ := K h' h.size rfl E2 A2 D2 p e s m args below meth c T' _ C X' N e'
  exact ⟨s2, o, q _ h1, h2⟩
theorem own_rep {ty : FieldType} {z : Int32} {a : Addr} {cA : ClassId} (N : Nat) (A : Arv Z h a cA ty z [] (defaultValue ty)) : Arv Z h a cA ty z (List.replicate N (defaultValue ty)) (defaultValue ty) :=
  A.pad fun i => by have := pad_rep [] (defaultValue ty) N i; simpa using this
theorem r_newarray {aty : ArrayType} {z : Int32} (cap : Nat) (ad : String) (pc' : Nat) (hd : decode bytes pc = .ok (.newarray aty, 2)) (hp : pc + 2 = pc') (w : (Jvm.Cond.arrayClass (newarray.typeOf aty)).before a0 Z = true) (hz : ¬ z < 0) (hcap : z.toNatClampNeg ≤ cap) (hb8 : cap * 8 ≤ 536870912) (had : "[" ++ (newarray.typeOf aty).toString = ad) (hc : k + 1 ≤ R.cells) (hl : n + cap ≤ R.slots)
    (K : ∀ h' a cA, a = h.size → Ext h h' → Arv Z h' a cA (newarray.typeOf aty) z (List.replicate z.toNatClampNeg (defaultValue (newarray.typeOf aty))) (defaultValue (newarray.typeOf aty)) → Exa Z h' a ad → Run l Z y bytes ml ret R n0 Q h' (k + 1) (n + cap) pc' Ls (.ref a :: st)) : Run l Z y bytes ml ret R n0 Q h k n pc Ls (.int z :: st) := fun p e s m args below meth c T locs C X N E => by
  subst hp
  obtain ⟨T', h', cA, X', e', E2, A2, E3, q⟩ := newPE X C.1 C.2.2.2.1 w E (g := mkF m pc Ls.toArray (.int z :: st)) rfl (hb C.2.1 hd) rfl hz hcap hb8 hc hl had
  obtain ⟨s2, o, h1, h2⟩ := K h' h.size cA rfl E2 (own_rep _ (Arv.new A2 hz)) E3 p e s m args below meth c T' _ C X' N e'
  exact ⟨s2, o, q _ h1, h2⟩
theorem r_anewarray {i : Nat} {C' : String} {z : Int32} (cap : Nat) (ad : String) (pc' : Nat) (hd : decode bytes pc = .ok (.anewarray i, 3)) (hp : pc + 3 = pc') (w1 : (Jvm.Cond.classLink y.cls i C').before a0 Z = true) (w2 : (Jvm.Cond.arrayOver (.object C')).before a0 Z = true) (hz : ¬ z < 0) (hcap : z.toNatClampNeg ≤ cap) (hb8 : cap * 8 ≤ 536870912) (had : "[" ++ (FieldType.object C').toString = ad) (hc : k + 1 ≤ R.cells) (hl : n + cap ≤ R.slots)
    (K : ∀ h' a cA, a = h.size → Ext h h' → Arv Z h' a cA (.object C') z (List.replicate z.toNatClampNeg .null) .null → Exa Z h' a ad → Ovr Z cA C' → Run l Z y bytes ml ret R n0 Q h' (k + 1) (n + cap) pc' Ls (.ref a :: st)) : Run l Z y bytes ml ret R n0 Q h k n pc Ls (.int z :: st) := fun p e s m args below meth c T locs C X N E => by
  subst hp
  obtain ⟨T', h', cA, X', e', E2, A2, E3, O3, q⟩ := newRE X C.1 C.2.2.2.1 C.2.2.2.2.1 w1 w2 E (g := mkF m pc Ls.toArray (.int z :: st)) rfl (hb C.2.1 hd) rfl hz hcap hb8 hc hl had
  obtain ⟨s2, o, h1, h2⟩ := K h' h.size cA rfl E2 (own_rep _ (Arv.new A2 hz)) E3 O3 p e s m args below meth c T' _ C X' N e'
  exact ⟨s2, o, q _ h1, h2⟩
theorem own_in {z j : Int32} {i : Nat} {cl : Cell} (S : cl.slots.size = z.toNatClampNeg) (hj : ¬ j < 0) (hi : j.toNatClampNeg = i) (hz : i < z.toNatClampNeg) : ¬ (j < 0 ∨ cl.slots.size ≤ j.toNatClampNeg) := fun q => by
  rcases q with q | q
  · exact hj q
  · rw [S, hi] at q; exact absurd hz (Nat.not_lt.mpr q)
theorem r_arraylength {a : Addr} {cA : ClassId} {ty : FieldType} {z : Int32} {vs : List Value} {dv : Value} (pc' : Nat) (hd : decode bytes pc = .ok (.arraylength, 1)) (hp : pc + 1 = pc') (A : Arv Z h a cA ty z vs dv) (K : Run l Z y bytes ml ret R n0 Q h k n pc' Ls (.int z :: st)) : Run l Z y bytes ml ret R n0 Q h k n pc Ls (.ref a :: st) := by
  subst hp
  obtain ⟨cl, A1, -, S, hz, -⟩ := A
  rw [← len_of S hz] at K
  exact K.step fun p e s m args below meth c T locs C X E t q => X.arraylength C.1 (by rw [E]; exact A1.1) (State.isArrayOf_alike C.2.2.2.1.alike A1.2.1) (g := mkF m pc Ls.toArray (.ref a :: st)) rfl rfl (hb C.2.1 hd) _ q
theorem r_iaload {a : Addr} {cA : ClassId} {z j : Int32} {vs : List Value} {dv : Value} (i : Nat) (v : Value) (pc' : Nat) (hd : decode bytes pc = .ok (.iaload, 1)) (hp : pc + 1 = pc') (A : Arv Z h a cA .int z vs dv) (hj : ¬ j < 0) (hi : j.toNatClampNeg = i) (hz : i < z.toNatClampNeg) (hv : vs.getD i dv = v) (K : Run l Z y bytes ml ret R n0 Q h k n pc' Ls (v :: st)) : Run l Z y bytes ml ret R n0 Q h k n pc Ls (.int j :: .ref a :: st) := by
  subst hp
  obtain ⟨cl, A1, -, S, -, H, -⟩ := A
  have hin := own_in S hj hi hz
  exact K.step fun p e s m args below meth c T locs C X E t q => X.iaload C.1 (by rw [E]; exact A1.1) (State.isArrayOf_alike C.2.2.2.1.alike A1.2.1) A1.2.2 hin (Has.at H hin (by rw [hi]; exact hv)) (g := mkF m pc Ls.toArray (.int j :: .ref a :: st)) rfl rfl (hb C.2.1 hd) _ q
theorem r_caload {a : Addr} {cA : ClassId} {z j : Int32} {vs : List Value} {dv : Value} (i : Nat) (v : Value) (pc' : Nat) (hd : decode bytes pc = .ok (.caload, 1)) (hp : pc + 1 = pc') (A : Arv Z h a cA .char z vs dv) (hj : ¬ j < 0) (hi : j.toNatClampNeg = i) (hz : i < z.toNatClampNeg) (hv : vs.getD i dv = v) (K : Run l Z y bytes ml ret R n0 Q h k n pc' Ls (v :: st)) : Run l Z y bytes ml ret R n0 Q h k n pc Ls (.int j :: .ref a :: st) := by
  subst hp
  obtain ⟨cl, A1, -, S, -, H, -⟩ := A
  have hin := own_in S hj hi hz
  exact K.step fun p e s m args below meth c T locs C X E t q => X.caload C.1 (by rw [E]; exact A1.1) (State.isArrayOf_alike C.2.2.2.1.alike A1.2.1) A1.2.2 hin (Has.at H hin (by rw [hi]; exact hv)) (g := mkF m pc Ls.toArray (.int j :: .ref a :: st)) rfl rfl (hb C.2.1 hd) _ q
theorem r_baload {a : Addr} {cA : ClassId} {z j : Int32} {vs : List Value} {dv : Value} (i : Nat) (v : Value) (pc' : Nat) (hd : decode bytes pc = .ok (.baload, 1)) (hp : pc + 1 = pc') (A : Arv Z h a cA .byte z vs dv) (hj : ¬ j < 0) (hi : j.toNatClampNeg = i) (hz : i < z.toNatClampNeg) (hv : vs.getD i dv = v) (K : Run l Z y bytes ml ret R n0 Q h k n pc' Ls (v :: st)) : Run l Z y bytes ml ret R n0 Q h k n pc Ls (.int j :: .ref a :: st) := by
  subst hp
  obtain ⟨cl, A1, -, S, -, H, -⟩ := A
  have hin := own_in S hj hi hz
  exact K.step fun p e s m args below meth c T locs C X E t q => X.baloadBytes C.1 (by rw [E]; exact A1.1) (State.isArrayOf_alike C.2.2.2.1.alike A1.2.1) A1.2.2 hin (Has.at H hin (by rw [hi]; exact hv)) (g := mkF m pc Ls.toArray (.int j :: .ref a :: st)) rfl rfl (hb C.2.1 hd) _ q
theorem r_aaload {a : Addr} {cA : ClassId} {ty : FieldType} {z j : Int32} {vs : List Value} {dv : Value} (i : Nat) (v : Value) (pc' : Nat) (hd : decode bytes pc = .ok (.aaload, 1)) (hp : pc + 1 = pc') (A : Arv Z h a cA ty z vs dv) (hty : ty.isReference = true) (hj : ¬ j < 0) (hi : j.toNatClampNeg = i) (hz : i < z.toNatClampNeg) (hv : vs.getD i dv = v) (K : Run l Z y bytes ml ret R n0 Q h k n pc' Ls (v :: st)) : Run l Z y bytes ml ret R n0 Q h k n pc Ls (.int j :: .ref a :: st) := by
  subst hp
  obtain ⟨cl, A1, -, S, -, H, -⟩ := A
  have hin := own_in S hj hi hz
  exact K.step fun p e s m args below meth c T locs C X E t q => X.aaload C.1 (by rw [E]; exact A1.1) (State.isArrayOf_alike C.2.2.2.1.alike A1.2.1) hty A1.2.2 hin (Has.at H hin (by rw [hi]; exact hv)) (g := mkF m pc Ls.toArray (.int j :: .ref a :: st)) rfl rfl (hb C.2.1 hd) _ q
theorem r_iastore {a : Addr} {cA : ClassId} {z j x : Int32} {vs : List Value} {dv : Value} (i : Nat) (pc' : Nat) (hd : decode bytes pc = .ok (.iastore, 1)) (hp : pc + 1 = pc') (A : Arv Z h a cA .int z vs dv) (hj : ¬ j < 0) (hi : j.toNatClampNeg = i) (hz : i < z.toNatClampNeg) (hl : i < vs.length) (ha : n0 ≤ a)
    (K : ∀ h', Wr h h' a i (.int x) → Arv Z h' a cA .int z (vs.set i (.int x)) dv → Run l Z y bytes ml ret R n0 Q h' k n pc' Ls st) : Run l Z y bytes ml ret R n0 Q h k n pc Ls (.int x :: .int j :: .ref a :: st) := fun p e s m args below meth c T locs C X N E => by
  subst hp
  obtain ⟨cl, A1, q1, S, q3, H, G⟩ := A
  have hin := own_in S hj hi hz
  obtain ⟨T', h', X', e', W, q⟩ := stI X C.1 C.2.2.2.1 E A1 hin (g := mkF m pc Ls.toArray (.int x :: .int j :: .ref a :: st)) rfl rfl (hb C.2.1 hd)
  obtain ⟨s2, o, h1, h2⟩ := K h' (hi ▸ W) (Arv.set A1 q1 S q3 H G rfl W i hi hl) p e s m args below meth c T' _ C X' (Fr.snoc X' N ha) e'
  exact ⟨s2, o, q _ h1, h2⟩
theorem r_castore {a : Addr} {cA : ClassId} {z j x : Int32} {vs : List Value} {dv : Value} (i : Nat) (pc' : Nat) (hd : decode bytes pc = .ok (.castore, 1)) (hp : pc + 1 = pc') (A : Arv Z h a cA .char z vs dv) (hj : ¬ j < 0) (hi : j.toNatClampNeg = i) (hz : i < z.toNatClampNeg) (hl : i < vs.length) (ha : n0 ≤ a)
    (K : ∀ h', Wr h h' a i (.int (nar .char x)) → Arv Z h' a cA .char z (vs.set i (.int (nar .char x))) dv → Run l Z y bytes ml ret R n0 Q h' k n pc' Ls st) : Run l Z y bytes ml ret R n0 Q h k n pc Ls (.int x :: .int j :: .ref a :: st) := fun p e s m args below meth c T locs C X N E => by
  subst hp
  obtain ⟨cl, A1, q1, S, q3, H, G⟩ := A
  have hin := own_in S hj hi hz
  obtain ⟨T', h', X', e', W, q⟩ := stC X C.1 C.2.2.2.1 E A1 hin (g := mkF m pc Ls.toArray (.int x :: .int j :: .ref a :: st)) rfl rfl (hb C.2.1 hd)
  obtain ⟨s2, o, h1, h2⟩ := K h' (hi ▸ W) (Arv.set A1 q1 S q3 H G (fits_nar_char x) W i hi hl) p e s m args below meth c T' _ C X' (Fr.snoc X' N ha) e'
  exact ⟨s2, o, q _ h1, h2⟩
theorem r_bastore {a : Addr} {cA : ClassId} {z j x : Int32} {vs : List Value} {dv : Value} (i : Nat) (pc' : Nat) (hd : decode bytes pc = .ok (.bastore, 1)) (hp : pc + 1 = pc') (A : Arv Z h a cA .byte z vs dv) (hj : ¬ j < 0) (hi : j.toNatClampNeg = i) (hz : i < z.toNatClampNeg) (hl : i < vs.length) (ha : n0 ≤ a)
    (K : ∀ h', Wr h h' a i (.int (nar .byte x)) → Arv Z h' a cA .byte z (vs.set i (.int (nar .byte x))) dv → Run l Z y bytes ml ret R n0 Q h' k n pc' Ls st) : Run l Z y bytes ml ret R n0 Q h k n pc Ls (.int x :: .int j :: .ref a :: st) := fun p e s m args below meth c T locs C X N E => by
  subst hp
  obtain ⟨cl, A1, q1, S, q3, H, G⟩ := A
  have hin := own_in S hj hi hz
  obtain ⟨T', h', X', e', W, q⟩ := stB X C.1 C.2.2.2.1 E A1 hin (g := mkF m pc Ls.toArray (.int x :: .int j :: .ref a :: st)) rfl rfl (hb C.2.1 hd)
  obtain ⟨s2, o, h1, h2⟩ := K h' (hi ▸ W) (Arv.set A1 q1 S q3 H G (fits_nar_byte x) W i hi hl) p e s m args below meth c T' _ C X' (Fr.snoc X' N ha) e'
  exact ⟨s2, o, q _ h1, h2⟩
theorem r_aastore {a : Addr} {cA : ClassId} {ty : FieldType} {z j : Int32} {v : Value} {vs : List Value} {dv : Value} (i : Nat) (pc' : Nat) (hd : decode bytes pc = .ok (.aastore, 1)) (hp : pc + 1 = pc') (A : Arv Z h a cA ty z vs dv) (hty : ty.isReference = true) (F : Sto Z h a v) (hf : fits ty v = true) (hj : ¬ j < 0) (hi : j.toNatClampNeg = i) (hz : i < z.toNatClampNeg) (hl : i < vs.length) (ha : n0 ≤ a)
    (K : ∀ h', Wr h h' a i v → Arv Z h' a cA ty z (vs.set i v) dv → Run l Z y bytes ml ret R n0 Q h' k n pc' Ls st) : Run l Z y bytes ml ret R n0 Q h k n pc Ls (v :: .int j :: .ref a :: st) := fun p e s m args below meth c T locs C X N E => by
  subst hp
  obtain ⟨cl, A1, q1, S, q3, H, G⟩ := A
  have hin := own_in S hj hi hz
  obtain ⟨T', h', X', e', W, q⟩ := stR X C.1 C.2.2.2.1 E A1 hin hty F (g := mkF m pc Ls.toArray (v :: .int j :: .ref a :: st)) rfl rfl (hb C.2.1 hd)
  obtain ⟨s2, o, h1, h2⟩ := K h' (hi ▸ W) (Arv.set A1 q1 S q3 H G hf W i hi hl) p e s m args below meth c T' _ C X' (Fr.snoc X' N ha) e'
  exact ⟨s2, o, q _ h1, h2⟩
theorem r_checkcast {i : Nat} {K' : String} {a : Addr} (pc' : Nat) (hd : decode bytes pc = .ok (.checkcast i, 3)) (hp : pc + 3 = pc') (w : (Jvm.Cond.classLink y.cls i K').before a0 Z = true) (F : Ins Z h a K' true)
    (K : Run l Z y bytes ml ret R n0 Q h k n pc' Ls (.ref a :: st)) : Run l Z y bytes ml ret R n0 Q h k n pc Ls (.ref a :: st) := by
  subst hp
  exact K.move fun p e s m args below meth c T locs C X N E => by
    obtain ⟨T', X', e', q⟩ := castY X C.1 C.2.2.2.1 C.2.2.2.2.1 w E F (g := mkF m pc Ls.toArray (.ref a :: st)) rfl rfl (hb C.2.1 hd)
    exact ⟨T', _, X', N, e', q⟩
theorem r_initO {i : Nat} {a : Addr} (pc' : Nat) (hd : decode bytes pc = .ok (.invokespecial i, 3)) (hp : pc + 3 = pc') (w1 : (Jvm.Cond.methodLink y.cls i Lib.objectInit).before a0 Z = true) (w2 : (Jvm.Cond.instanceMethod Lib.objectInit).before a0 Z = true) (w3 : (Jvm.Cond.code Lib.objectInit ⟨#[0xb1]⟩ 1 none).before a0 Z = true)
    (hml : Ls.length = ml) (hf : 1 ≤ R.frames) (hl : (st.map fun v => v.category).sum + 12 ≤ R.locals) (K : Run l Z y bytes ml ret R n0 Q h k n pc' Ls st) : Run l Z y bytes ml ret R n0 Q h k n pc Ls (.ref a :: st) := by
  subst hp
  exact K.move fun p e s m args below meth c T locs C X N E => by
    obtain ⟨T', X', e', q⟩ := initO X C.1 C.2.2.2.1 C.2.2.2.2.1 w1 w2 w3 E (g := mkF m pc Ls.toArray (.ref a :: st)) rfl (by show Ls.toArray.size = _; rw [List.size_toArray, hml, C.2.2.1]) rfl (hb C.2.1 hd) hf (W := (st.map fun v => v.category).sum) (by show 2 * 0 + _ ≤ _; omega) hl
    exact ⟨T', _, X', N, e', q⟩
/-! returns -/
theorem own_end {v : Option Value} (hQ : Q v h) (hk : k ≤ R.cells) (hn : n ≤ R.slots)
    (H : ∀ (p : Program) (e : Env) (s : State) (m : MethodId) (args : Array Value) (below : List Frame) (meth : Method) (c : Code) (T : State) (locs : List Loc),
      own_Ctx p s m meth c Z y bytes ml ret → Stand p l e R s m args below meth c T locs k n → (meth.sig.returnType = none → v = none) ∧ ∀ fs, (∀ (f : JFrame) (acts : List Action), f.method = m → f.locked = none → f.entered = [] → (doReturn e (T.setTop f) acts v).1 = T.setFrames fs) → Steps p.tables e below (T.setTop (mkF m pc Ls.toArray st)) (T.setFrames fs)) :
    Run l Z y bytes ml ret R n0 Q h k n pc Ls st := fun p e s m args below meth c T locs C X N E => by
  obtain ⟨H1, H2⟩ := H p e s m args below meth c T locs C X
  obtain ⟨fs, hr, hrun, hended, hW, hsame⟩ := X.leave (v := v) H1 C.2.2.2.2.2.2.2
  exact ⟨_, _, H2 fs hr, hrun, hended, v, locs, rfl, ⟨by show Q v T.heap; rw [E]; exact hQ, N⟩, ⟨v, rfl⟩, hW, hsame.mono hk hn⟩
theorem r_retN {t : FieldType} {z : Int32} (v : Int32) (hd : decode bytes pc = .ok (.ireturn, 1)) (hret : ret = some t) (ht : t = .boolean ∨ t = .byte ∨ t = .char ∨ t = .short) (hv : nar t z = v) (hk : k ≤ R.cells) (hn : n ≤ R.slots) (hQ : Q (some (.int v)) h) : Run l Z y bytes ml ret R n0 Q h k n pc Ls (.int z :: st) := by
  subst hv
  exact own_end hQ hk hn fun p e s m args below meth c T locs C X => ⟨fun q => (by rw [C.2.2.2.2.2.2.1, hret] at q; cases q), fun fs hr => retN X C.1 (C.2.2.2.2.2.2.1.trans hret) ht (hb C.2.1 hd) hr⟩
theorem r_retI {z : Int32} (hd : decode bytes pc = .ok (.ireturn, 1)) (hret : ret = some .int) (hk : k ≤ R.cells) (hn : n ≤ R.slots) (hQ : Q (some (.int z)) h) : Run l Z y bytes ml ret R n0 Q h k n pc Ls (.int z :: st) :=
  own_end hQ hk hn fun p e s m args below meth c T locs C X => ⟨fun q => (by rw [C.2.2.2.2.2.2.1, hret] at q; cases q), fun fs hr => retOut X C.1 (C.2.2.2.2.2.2.1.trans hret) rfl (Or.inl ⟨rfl, Or.inl rfl, _, rfl⟩) (hb C.2.1 hd) hr⟩
theorem r_retA {t : FieldType} {v : Value} (hd : decode bytes pc = .ok (.areturn, 1)) (hret : ret = some t) (ht : t.isReference = true) (hw : v.isRef = true) (hnw : narrow t v = v) (hk : k ≤ R.cells) (hn : n ≤ R.slots) (hQ : Q (some v) h) : Run l Z y bytes ml ret R n0 Q h k n pc Ls (v :: st) :=
  own_end hQ hk hn fun p e s m args below meth c T locs C X => ⟨fun q => (by rw [C.2.2.2.2.2.2.1, hret] at q; cases q), fun fs hr => retOut X C.1 (C.2.2.2.2.2.2.1.trans hret) hnw (Or.inr (Or.inr (Or.inr (Or.inr ⟨rfl, ht, hw⟩)))) (hb C.2.1 hd) hr⟩
theorem r_retV (hd : decode bytes pc = .ok (.return_, 1)) (hret : ret = none) (hk : k ≤ R.cells) (hn : n ≤ R.slots) (hQ : Q none h) : Run l Z y bytes ml ret R n0 Q h k n pc Ls [] :=
  own_end hQ hk hn fun p e s m args below meth c T locs C X => ⟨fun _ => rfl, fun fs hr => X.returnOut C.1 (C.2.2.2.2.2.2.1.trans hret) (hb C.2.1 hd) hr⟩
/-! contracts and calls -/
def Con (l : Launch) (Z : State) (y : MethodName) (bytes : ByteArray) (ml : Nat) (ret : Option FieldType) (R : Room) (n0 : Nat) (as' : Array Value) (h : Heap) (Q : Option Value → Heap → Prop) (ws : List Jvm.Cond) : Prop :=
  MetFree l y (head1 (Jvm.Cond.code y bytes ml ret :: ws) R) (fun a U => a = as' ∧ Z.Warmed39 U.vm ∧ U.heap = h) (fun _ _ _ _ _ => True) (fun _ U o U' => ∃ v L, o = .returned v ∧ (Q v U'.heap ∧ Fr n0 L) ∧ FrameEnd U o U' L R.cells R.slots)
theorem Run.con {as' : Array Value} {ws : List Jvm.Cond} (hpn : plainName y.cls = true) (hL : Jvm.Sym.laidSlots as'.toList ++ List.replicate (ml - (Jvm.Sym.laidSlots as'.toList).length) .unset = Ls) (H : Run l Z y bytes ml ret R n0 Q h 0 0 0 Ls []) : Con l Z y bytes ml ret R n0 as' h Q ws := by
  refine MetFree.of_bodySF (plainFor_of_name hpn) hisR ?_
  intro p e s m args below meth c s₁ Bd hml0 hP hK
  obtain ⟨rfl, hZ, hh⟩ := hP
  have X0 : Stand p l e R s m args below meth c s₁ [] 0 0 := Stand.of_body Bd
  obtain ⟨s2, o, h1, h2, h3, v, L, h4, h5, h6⟩ := H p e s m args below meth c s₁ [] ⟨Bd.exec, Bd.bytes, hml0, hZ, findClass_of_methodNamed Bd.named, (name_of_methodNamed Bd.named Bd.method).1, Bd.returns, Bd.notSynchronized⟩ X0 (Fr.nil n0) (by rw [← hh, Bd.state]; rfl)
  exact ⟨s2, o, (XT.entry (Ls := Ls.toArray) hL).trans h1, h2, h3, v, L, h4, h5, h6⟩
section Calls
variable {i : Nat} {y' : MethodName} {bytes' : ByteArray} {ml' : Nat} {ret' : Option FieldType} {R' : Room} {as' : Array Value} {Q' : Option Value → Heap → Prop} {rest : List Value} {ps : List FieldType} {r' : Option FieldType}
theorem r_static (pc' : Nat) (hd : decode bytes pc = .ok (.invokestatic i, 3)) (hp : pc + 3 = pc') (hM : Con l Z y' bytes' ml' ret' R' n0 as' h Q' []) (w1 : (Jvm.Cond.methodLink y.cls i y').before a0 Z = true) (w2 : (Jvm.Cond.static y').before a0 Z = true) (w3 : (Jvm.Cond.initialized y'.cls).before a0 Z = true) (w4 : (Jvm.Cond.code y' bytes' ml' ret').before a0 Z = true)
    (hne : y'.cls ≠ "java/lang/invoke/MethodHandle" ∧ y'.cls ≠ "java/lang/invoke/VarHandle") (hpd : parseMethodDescriptor y'.desc = some ⟨ps, r'⟩) (hlen : as'.toList.length = ps.length) (hs : st = as'.toList.reverse ++ rest) (hml : Ls.length = ml) (hf : R'.frames + 1 ≤ R.frames) (hl : (rest.map fun v => v.category).sum + (ml' + 11) + R'.locals ≤ R.locals) (hc : k + R'.cells ≤ R.cells) (hn : n + R'.slots ≤ R.slots)
    (K : ∀ v h', Q' v h' → Run l Z y bytes ml ret R n0 Q h' (k + R'.cells) (n + R'.slots) pc' Ls (v.toList ++ rest)) : Run l Z y bytes ml ret R n0 Q h k n pc Ls st := fun p e s m args below meth c T locs C X N E => by
  subst hp
  obtain ⟨v, vm1, ⟨U, locs', k', n'⟩, hW, X', ⟨L, ⟨hQ, hL⟩, e1, e2, e3⟩, q⟩ := Jvm.LawKit.callS X C.1 (y := y') C.2.2.2.2.1 (mvT C.2.2.2.1 w1) (mvT C.2.2.2.1 w2) (mvT C.2.2.2.1 w3) (mvT C.2.2.2.1 w4) hne (backOf (Q := fun v h' L => Q' v h' ∧ Fr n0 L) (W := (rest.map fun v => v.category).sum) hM C.2.2.2.1 w4 w3 hf hl) (g := mkF m pc Ls.toArray st) rfl (by show Ls.toArray.size = _; rw [List.size_toArray, hml, C.2.2.1]) (argsL := as'.toList) (rest := rest) (lenOf hpd hlen) hs (by show 2 * 0 + _ ≤ _; omega) (hb C.2.1 hd) (fun _ _ => ⟨rfl, E, hc, hn⟩)
  dsimp only [Pt.U, Pt.locs, Pt.cells, Pt.slots] at X' hQ e1 e2 e3 q
  subst e1 e2 e3
  obtain ⟨s2, o, h1, h2⟩ := K v U.heap hQ p e s m args below meth c U _ C X' (Fr.app N hL) rfl
  exact ⟨s2, o, q _ h1, h2⟩
theorem r_special {a : Addr} {as1 : List Value} (pc' : Nat) (hd : decode bytes pc = .ok (.invokespecial i, 3)) (hp : pc + 3 = pc') (hM : Con l Z y' bytes' ml' none R' n0 as' h Q' []) (ha : as' = (.ref a :: as1).toArray) (hy1 : y'.name = "<init>") (w1 : (Jvm.Cond.methodLink y.cls i y').before a0 Z = true) (w2 : (Jvm.Cond.instanceMethod y').before a0 Z = true) (w3 : (Jvm.Cond.initialized y'.cls).before a0 Z = true) (w4 : (Jvm.Cond.code y' bytes' ml' none).before a0 Z = true)
    (hne : y'.cls ≠ "java/lang/invoke/MethodHandle" ∧ y'.cls ≠ "java/lang/invoke/VarHandle") (hpd : parseMethodDescriptor y'.desc = some ⟨ps, r'⟩) (hlen : as1.length = ps.length) (hs : st = as1.reverse ++ .ref a :: rest) (hml : Ls.length = ml) (hf : R'.frames + 1 ≤ R.frames) (hl : (rest.map fun v => v.category).sum + (ml' + 11) + R'.locals ≤ R.locals) (hc : k + R'.cells ≤ R.cells) (hn : n + R'.slots ≤ R.slots)
    (K : ∀ v h', Q' v h' → Run l Z y bytes ml ret R n0 Q h' (k + R'.cells) (n + R'.slots) pc' Ls (v.toList ++ rest)) : Run l Z y bytes ml ret R n0 Q h k n pc Ls st := fun p e s m args below meth c T locs C X N E => by
  subst hp ha
  obtain ⟨v, vm1, ⟨U, locs', k', n'⟩, hW, X', ⟨L, ⟨hQ, hL⟩, e1, e2, e3⟩, q⟩ := X.specialBack C.1 (y := y') hy1 C.2.2.2.2.1 (mvT C.2.2.2.1 w1) (mvT C.2.2.2.1 w2) (mvT C.2.2.2.1 w4) hne (backOf (Q := fun v h' L => Q' v h' ∧ Fr n0 L) (W := (rest.map fun v => v.category).sum) hM C.2.2.2.1 w4 w3 hf hl) (g := mkF m pc Ls.toArray st) rfl (by show Ls.toArray.size = _; rw [List.size_toArray, hml, C.2.2.1]) (Steps.refl _) (a := a) (argsL := as1) (rest := rest) (lenOf hpd hlen) hs (by show 2 * 0 + _ ≤ _; omega) (hb C.2.1 hd) (fun _ _ => ⟨rfl, E, hc, hn⟩)
  dsimp only [Pt.U, Pt.locs, Pt.cells, Pt.slots] at X' hQ e1 e2 e3 q
  subst e1 e2 e3
  obtain ⟨s2, o, h1, h2⟩ := K v U.heap hQ p e s m args below meth c U _ C X' (Fr.app N hL) rfl
  exact ⟨s2, o, q.trans h1, h2⟩
theorem r_virtual {a : Addr} {C' : String} {z' : MethodName} {as1 : List Value} (pc' : Nat) (hd : decode bytes pc = .ok (.invokevirtual i, 3)) (hp : pc + 3 = pc') (hM : Con l Z z' bytes' ml' ret' R' n0 as' h Q' []) (ha : as' = (.ref a :: as1).toArray) (w1 : (Jvm.Cond.methodLink y.cls i y').before a0 Z = true) (w2 : (Jvm.Cond.declares y').before a0 Z = true) (w5 : (Jvm.Cond.selects C' y' z').before a0 Z = true) (w6 : (Jvm.Cond.instanceMethod z').before a0 Z = true) (w3 : (Jvm.Cond.initialized z'.cls).before a0 Z = true) (w4 : (Jvm.Cond.code z' bytes' ml' ret').before a0 Z = true)
    (hne : y'.cls ≠ "java/lang/invoke/MethodHandle" ∧ y'.cls ≠ "java/lang/invoke/VarHandle") (hpd : parseMethodDescriptor y'.desc = some ⟨ps, r'⟩) (E1 : Exa Z h a C') (hlen : as1.length = ps.length) (hs : st = as1.reverse ++ .ref a :: rest) (hml : Ls.length = ml) (hf : R'.frames + 1 ≤ R.frames) (hl : (rest.map fun v => v.category).sum + (ml' + 11) + R'.locals ≤ R.locals) (hc : k + R'.cells ≤ R.cells) (hn : n + R'.slots ≤ R.slots)
    (hnf : ∀ (s : State) (args : Array Value), Z.Warmed39 s.vm → NotFace s y')
    (K : ∀ v h', Q' v h' → Run l Z y bytes ml ret R n0 Q h' (k + R'.cells) (n + R'.slots) pc' Ls (v.toList ++ rest)) : Run l Z y bytes ml ret R n0 Q h k n pc Ls st := fun p e s m args below meth c T locs C X N E => by
  subst hp ha
  obtain ⟨cq, kq, qa, qb, qc⟩ := isOf (s := s) C.2.2.2.1 E E1
  obtain ⟨v, vm1, ⟨U, locs', k', n'⟩, hW, X', ⟨L, ⟨hQ, hL⟩, e1, e2, e3⟩, q⟩ := X.virtualBack C.1 (y := y') (z := z') C.2.2.2.2.1 (mvT C.2.2.2.1 w1) (mvT C.2.2.2.1 w2) (hnf s args C.2.2.2.1) (mvT C.2.2.2.1 w5) (mvT C.2.2.2.1 w6) hne (backOf (Q := fun v h' L => Q' v h' ∧ Fr n0 L) (W := (rest.map fun v => v.category).sum) hM C.2.2.2.1 w4 w3 hf hl) qa qc (g := mkF m pc Ls.toArray st) rfl (by show Ls.toArray.size = _; rw [List.size_toArray, hml, C.2.2.1]) (Steps.refl _) (argsL := as1) (rest := rest) (lenOf hpd hlen) hs (by show 2 * 0 + _ ≤ _; omega) (hb C.2.1 hd) (fun _ _ => ⟨rfl, E, hc, hn⟩)
  dsimp only [Pt.U, Pt.locs, Pt.cells, Pt.slots] at X' hQ e1 e2 e3 q
  subst e1 e2 e3
  obtain ⟨s2, o, h1, h2⟩ := K v U.heap hQ p e s m args below meth c U _ C X' (Fr.app N hL) rfl
  exact ⟨s2, o, q.trans h1, h2⟩
end Calls
end Own


theorem own_ne {a b : Addr} {n : Nat} (h : a < n) (e : b = n) : a ≠ b := fun q => by
  subst q; subst e; exact Nat.lt_irrefl _ h
theorem own_ne' {t b : Addr} {n : Nat} (h : t < n) (e : n ≤ b) : b ≠ t := fun q => by
  subst q; exact absurd h (Nat.not_lt.mpr e)
theorem own_b0 : nar .boolean 0 = 0 := rfl
theorem own_b1 : nar .boolean 1 = 1 := rfl
theorem own_sta {C f d K : String} {args : Array Value} {s : State} (h : (Jvm.Cond.exactly (.static C f d) K).value args s none s [] = some true) (hi : (Jvm.Cond.initializedFor C f d).before args s = true ∨ ((Jvm.Cond.initialized C).before args s = true ∧ (Jvm.Cond.laysStatic C f d).before args s = true)) : ∃ a, (Term.static C f d).eval args s none [] s = some (.ref a) ∧ Sta s s.heap C f d (.ref a) ∧ Exa s s.heap a K := by
  obtain ⟨a, e⟩ := exa_v h
  exact ⟨a, e, Sta.start e hi, Exa.start e h⟩
theorem own_fldI {t : Term} {C f d : String} {z : Int32} {a : Addr} {args : Array Value} {s : State} (e : t.eval args s none [] s = some (.ref a)) (h : (Jvm.Cond.eq (.field t C f d) (.int z)).value args s none s [] = some true) : Fld s s.heap a C f d (.int z) := by
  obtain ⟨u, w, h1, h2, k1, k2⟩ := cmp_v (Or.inl h)
  rw [Term.int_eval] at h2
  cases h2
  obtain ⟨u', rfl⟩ := k2
  obtain rfl := gotT (Cond.eq_ints h1 (Term.int_eval z)) h
  rw [fld_at e] at h1
  exact Fld.start h1


theorem own_mod (x m : Int32) (hm : 0 < m.toInt) : 0 ≤ ((x &&& 2147483647) % m).toInt ∧ ((x &&& 2147483647) % m).toInt < m.toInt := by
  have h1 := c_mask x 2147483647 31 (by decide) (by decide)
  rw [Int32.toInt_mod, h1]
  have h2 : 0 ≤ x.toInt % ((2 ^ 31 : Nat) : Int) := Int.emod_nonneg _ (by decide)
  rw [Int.tmod_eq_emod_of_nonneg h2]
  exact ⟨Int.emod_nonneg _ (by omega), Int.emod_lt_of_pos _ hm⟩
theorem own_nat {K : Int32} {N : Nat} (h0 : 0 ≤ K.toInt) (h1 : K.toInt < N) : ∃ i : Nat, i < N ∧ K = Int32.ofNat i := by
  refine ⟨K.toInt.toNat, by omega, ?_⟩
  apply Int32.toInt_inj.mp
  have := K.toInt_lt
  rw [Int32.toInt_ofNat_small (by omega)]
  omega


theorem own_cl {i : Nat} (h : i < 2 ^ 31) : (Int32.ofNat i).toNatClampNeg = i := by
  show (Int32.ofNat i).toInt.toNat = i
  rw [Int32.toInt_ofNat_small h]; rfl
theorem own_nn {i : Nat} (h : i < 2 ^ 31) : ¬ Int32.ofNat i < 0 := by
  rw [Int32.lt_iff_toInt_lt, Int32.toInt_ofNat_small h]
  show ¬ (i : Int) < 0
  omega
theorem own_lt {i j : Nat} (hi : i < 2 ^ 31) (hj : j < 2 ^ 31) : Int32.ofNat i < Int32.ofNat j ↔ i < j := by
  rw [Int32.lt_iff_toInt_lt, Int32.toInt_ofNat_small hi, Int32.toInt_ofNat_small hj]; omega
theorem own_eq {i j : Nat} (hi : i < 2 ^ 31) (hj : j < 2 ^ 31) : Int32.ofNat i = Int32.ofNat j ↔ i = j := by
  rw [← Int32.toInt_inj, Int32.toInt_ofNat_small hi, Int32.toInt_ofNat_small hj]; omega
theorem own_pred {i : Nat} (h : i < 2 ^ 31) (h0 : 0 < i) : Int32.ofNat i - 1 = Int32.ofNat (i - 1) := by
  apply Int32.toInt_inj.mp
  have q := c_isub (Int32.ofNat i) 1
  rw [Int32.toInt_ofNat_small h] at q
  have r := rng32 (Int32.ofNat i - 1)
  have e1 : (1 : Int32).toInt = 1 := rfl
  rw [e1] at q
  rw [Int32.toInt_ofNat_small (by omega)]
  omega

theorem own_ext {h h' : Heap} (K : Keep h h' []) : Ext h h' := ⟨K.1, fun a c q => K.2.1 a c q nin0⟩
theorem own_keep {h h1 h2 : Heap} {a : Addr} (E : Ext h h1) (ha : a = h.size) (K : Keep h1 h2 [a]) : Ext h h2 :=
  own_ext (((Keep.refl h []).ext E).trans K fun x hx => Or.inr (by cases List.mem_singleton.mp hx; exact Nat.le_of_eq ha.symm))
theorem own_kext {h h1 : Heap} (E : Ext h h1) (ws : List Addr) : Keep h h1 ws := (Keep.refl h ws).ext E
theorem own_kt {h h1 h2 : Heap} {ws : List Addr} (K : Keep h h1 ws) (K' : Keep h1 h2 ws) : Keep h h2 ws := K.trans K' fun x hx => Or.inl hx

theorem own_succ {i : Nat} (h : i + 1 < 2 ^ 31) : Int32.ofNat i + 1 = Int32.ofNat (i + 1) := by
  apply Int32.toInt_inj.mp
  have q := c_iadd (Int32.ofNat i) 1
  rw [Int32.toInt_ofNat_small (by omega)] at q
  have r := rng32 (Int32.ofNat i + 1)
  have e1 : (1 : Int32).toInt = 1 := rfl
  rw [e1] at q
  rw [Int32.toInt_ofNat_small h]
  omega
/-- a char -/
def own_ch (c : Int32) : Prop := 0 ≤ c.toInt ∧ c.toInt < 65536
theorem own_ch_nat {c : Int32} (h : own_ch c) : ∃ i : Nat, i < 65536 ∧ c = Int32.ofNat i := own_nat h.1 h.2
def own_by (c : Int32) : Value := .int (nar .byte c.toInt8.toInt32)
theorem own_at {cs : List Int32} {f : Int32 → Value} {d : Value} {i : Nat} {x : Int32} {r : List Int32} (h : cs.drop i = x :: r) : i < cs.length ∧ (cs.map f).getD i d = f x ∧ cs.drop (i + 1) = r ∧ cs.take (i + 1) = cs.take i ++ [x] ∧ x ∈ cs ∧ cs[i]? = some x := by
  have h1 : i < cs.length := by
    by_cases q : i < cs.length
    · exact q
    · rw [List.drop_of_length_le (by omega)] at h; cases h
  rw [List.drop_eq_getElem_cons h1] at h
  injection h with h2 h3
  refine ⟨h1, ?_, h3, ?_, ?_, ?_⟩
  · rw [List.getD_eq_getElem?_getD, List.getElem?_map, List.getElem?_eq_getElem h1, h2]; rfl
  · rw [List.take_succ, List.getElem?_eq_getElem h1, h2]; rfl
  · rw [← h2]; exact List.getElem_mem h1
  · rw [List.getElem?_eq_getElem h1, h2]
theorem own_fill {cs : List Int32} {f : Int32 → Value} {d : Value} {i : Nat} {x : Int32} (h1 : i < cs.length) (h2 : cs.take (i + 1) = cs.take i ++ [x]) : ((cs.take i).map f ++ List.replicate (cs.length - i) d).set i (f x) = (cs.take (i + 1)).map f ++ List.replicate (cs.length - (i + 1)) d := by
  have hl : ((cs.take i).map f).length = i := by rw [List.length_map, List.length_take]; omega
  obtain ⟨k, hk⟩ : ∃ k, cs.length - i = k + 1 := ⟨cs.length - i - 1, by omega⟩
  rw [List.set_append_right _ _ (by omega), hl, Nat.sub_self, hk, List.replicate_succ, List.set_cons_zero, h2, List.map_append, List.append_assoc]
  have : cs.length - (i + 1) = k := by omega
  rw [this]; rfl

theorem d_jdk_52_method_21_code_0 : decode jdk_52_method_21_code 0 = .ok (.iconst 0, 1) := by decide +kernel
theorem d_jdk_52_method_21_code_1 : decode jdk_52_method_21_code 1 = .ok (.istore 5, 2) := by decide +kernel
theorem d_jdk_52_method_21_code_3 : decode jdk_52_method_21_code 3 = .ok (.iload 5, 2) := by decide +kernel
theorem d_jdk_52_method_21_code_5 : decode jdk_52_method_21_code 5 = .ok (.iload 4, 2) := by decide +kernel
theorem d_jdk_52_method_21_code_7 : decode jdk_52_method_21_code 7 = .ok (.if_icmp .ge 37, 3) := by decide +kernel
theorem d_jdk_52_method_21_code_10 : decode jdk_52_method_21_code 10 = .ok (.aload_n 0, 1) := by decide +kernel
theorem d_jdk_52_method_21_code_11 : decode jdk_52_method_21_code 11 = .ok (.iload_n 1, 1) := by decide +kernel
theorem d_jdk_52_method_21_code_12 : decode jdk_52_method_21_code 12 = .ok (.caload, 1) := by decide +kernel
theorem d_jdk_52_method_21_code_13 : decode jdk_52_method_21_code 13 = .ok (.istore 6, 2) := by decide +kernel
theorem d_jdk_52_method_21_code_15 : decode jdk_52_method_21_code 15 = .ok (.iload 6, 2) := by decide +kernel
theorem d_jdk_52_method_21_code_17 : decode jdk_52_method_21_code 17 = .ok (.sipush 255, 3) := by decide +kernel
theorem d_jdk_52_method_21_code_20 : decode jdk_52_method_21_code 20 = .ok (.if_icmp .le 6, 3) := by decide +kernel
theorem d_jdk_52_method_21_code_23 : decode jdk_52_method_21_code 23 = .ok (.iload 5, 2) := by decide +kernel
theorem d_jdk_52_method_21_code_25 : decode jdk_52_method_21_code 25 = .ok (.ireturn, 1) := by decide +kernel
theorem d_jdk_52_method_21_code_26 : decode jdk_52_method_21_code 26 = .ok (.aload_n 2, 1) := by decide +kernel
theorem d_jdk_52_method_21_code_27 : decode jdk_52_method_21_code 27 = .ok (.iload_n 3, 1) := by decide +kernel
theorem d_jdk_52_method_21_code_28 : decode jdk_52_method_21_code 28 = .ok (.iload 6, 2) := by decide +kernel
theorem d_jdk_52_method_21_code_30 : decode jdk_52_method_21_code 30 = .ok (.i2b, 1) := by decide +kernel
theorem d_jdk_52_method_21_code_31 : decode jdk_52_method_21_code 31 = .ok (.bastore, 1) := by decide +kernel
theorem d_jdk_52_method_21_code_32 : decode jdk_52_method_21_code 32 = .ok (.iinc 1 1, 3) := by decide +kernel
theorem d_jdk_52_method_21_code_35 : decode jdk_52_method_21_code 35 = .ok (.iinc 3 1, 3) := by decide +kernel
theorem d_jdk_52_method_21_code_38 : decode jdk_52_method_21_code 38 = .ok (.iinc 5 1, 3) := by decide +kernel
theorem d_jdk_52_method_21_code_41 : decode jdk_52_method_21_code 41 = .ok (.goto (-38), 3) := by decide +kernel
theorem d_jdk_52_method_21_code_44 : decode jdk_52_method_21_code 44 = .ok (.iload 4, 2) := by decide +kernel
theorem d_jdk_52_method_21_code_46 : decode jdk_52_method_21_code 46 = .ok (.ireturn, 1) := by decide +kernel
theorem d_jdk_52_method_16_code_0 : decode jdk_52_method_16_code 0 = .ok (.iload_n 2, 1) := by decide +kernel
theorem d_jdk_52_method_16_code_1 : decode jdk_52_method_16_code 1 = .ok (.newarray .byte, 2) := by decide +kernel
theorem d_jdk_52_method_16_code_3 : decode jdk_52_method_16_code 3 = .ok (.astore_n 3, 1) := by decide +kernel
theorem d_jdk_52_method_16_code_4 : decode jdk_52_method_16_code 4 = .ok (.aload_n 0, 1) := by decide +kernel
theorem d_jdk_52_method_16_code_5 : decode jdk_52_method_16_code 5 = .ok (.iload_n 1, 1) := by decide +kernel
theorem d_jdk_52_method_16_code_6 : decode jdk_52_method_16_code 6 = .ok (.aload_n 3, 1) := by decide +kernel
theorem d_jdk_52_method_16_code_7 : decode jdk_52_method_16_code 7 = .ok (.iconst 0, 1) := by decide +kernel
theorem d_jdk_52_method_16_code_8 : decode jdk_52_method_16_code 8 = .ok (.iload_n 2, 1) := by decide +kernel
theorem d_jdk_52_method_16_code_9 : decode jdk_52_method_16_code 9 = .ok (.invokestatic 115, 3) := by decide +kernel
theorem d_jdk_52_method_16_code_12 : decode jdk_52_method_16_code 12 = .ok (.istore 4, 2) := by decide +kernel
theorem d_jdk_52_method_16_code_14 : decode jdk_52_method_16_code 14 = .ok (.iload 4, 2) := by decide +kernel
theorem d_jdk_52_method_16_code_16 : decode jdk_52_method_16_code 16 = .ok (.iload_n 2, 1) := by decide +kernel
theorem d_jdk_52_method_16_code_17 : decode jdk_52_method_16_code 17 = .ok (.if_icmp .eq 40, 3) := by decide +kernel
theorem d_jdk_52_method_16_code_20 : decode jdk_52_method_16_code 20 = .ok (.aload_n 0, 1) := by decide +kernel
theorem d_jdk_52_method_16_code_21 : decode jdk_52_method_16_code 21 = .ok (.iload_n 1, 1) := by decide +kernel
theorem d_jdk_52_method_16_code_22 : decode jdk_52_method_16_code 22 = .ok (.iload_n 2, 1) := by decide +kernel
theorem d_jdk_52_method_16_code_23 : decode jdk_52_method_16_code 23 = .ok (.invokestatic 119, 3) := by decide +kernel
theorem d_jdk_52_method_16_code_26 : decode jdk_52_method_16_code 26 = .ok (.astore 5, 2) := by decide +kernel
theorem d_jdk_52_method_16_code_28 : decode jdk_52_method_16_code 28 = .ok (.aload 5, 2) := by decide +kernel
theorem d_jdk_52_method_16_code_30 : decode jdk_52_method_16_code 30 = .ok (.iload 4, 2) := by decide +kernel
theorem d_jdk_52_method_16_code_32 : decode jdk_52_method_16_code 32 = .ok (.invokestatic 71, 3) := by decide +kernel
theorem d_jdk_52_method_16_code_35 : decode jdk_52_method_16_code 35 = .ok (.sipush 255, 3) := by decide +kernel
theorem d_jdk_52_method_16_code_38 : decode jdk_52_method_16_code 38 = .ok (.if_icmp .gt 16, 3) := by decide +kernel
theorem d_jdk_52_method_16_code_41 : decode jdk_52_method_16_code 41 = .ok (.aload 5, 2) := by decide +kernel
theorem d_jdk_52_method_16_code_43 : decode jdk_52_method_16_code 43 = .ok (.iconst 0, 1) := by decide +kernel
theorem d_jdk_52_method_16_code_44 : decode jdk_52_method_16_code 44 = .ok (.aload_n 3, 1) := by decide +kernel
theorem d_jdk_52_method_16_code_45 : decode jdk_52_method_16_code 45 = .ok (.iconst 0, 1) := by decide +kernel
theorem d_jdk_52_method_16_code_46 : decode jdk_52_method_16_code 46 = .ok (.iload_n 2, 1) := by decide +kernel
theorem d_jdk_52_method_16_code_47 : decode jdk_52_method_16_code 47 = .ok (.invokestatic 123, 3) := by decide +kernel
theorem d_jdk_52_method_16_code_50 : decode jdk_52_method_16_code 50 = .ok (.iload_n 2, 1) := by decide +kernel
theorem d_jdk_52_method_16_code_51 : decode jdk_52_method_16_code 51 = .ok (.if_icmp .eq 6, 3) := by decide +kernel
theorem d_jdk_52_method_16_code_54 : decode jdk_52_method_16_code 54 = .ok (.aload 5, 2) := by decide +kernel
theorem d_jdk_52_method_16_code_56 : decode jdk_52_method_16_code 56 = .ok (.areturn, 1) := by decide +kernel
theorem d_jdk_52_method_16_code_57 : decode jdk_52_method_16_code 57 = .ok (.aload_n 3, 1) := by decide +kernel
theorem d_jdk_52_method_16_code_58 : decode jdk_52_method_16_code 58 = .ok (.areturn, 1) := by decide +kernel
theorem d_jdk_52_method_15_code_0 : decode jdk_52_method_15_code 0 = .ok (.iload_n 1, 1) := by decide +kernel
theorem d_jdk_52_method_15_code_1 : decode jdk_52_method_15_code 1 = .ok (.aload_n 0, 1) := by decide +kernel
theorem d_jdk_52_method_15_code_2 : decode jdk_52_method_15_code 2 = .ok (.arraylength, 1) := by decide +kernel
theorem d_jdk_52_method_15_code_3 : decode jdk_52_method_15_code 3 = .ok (.isub, 1) := by decide +kernel
theorem d_jdk_52_method_15_code_4 : decode jdk_52_method_15_code 4 = .ok (.bipush 31, 2) := by decide +kernel
theorem d_jdk_52_method_15_code_6 : decode jdk_52_method_15_code 6 = .ok (.iushr, 1) := by decide +kernel
theorem d_jdk_52_method_15_code_7 : decode jdk_52_method_15_code 7 = .ok (.i2b, 1) := by decide +kernel
theorem d_jdk_52_method_15_code_8 : decode jdk_52_method_15_code 8 = .ok (.ireturn, 1) := by decide +kernel
theorem d_jdk_42_method_149_code_0 : decode jdk_42_method_149_code 0 = .ok (.aload_n 0, 1) := by decide +kernel
theorem d_jdk_42_method_149_code_1 : decode jdk_42_method_149_code 1 = .ok (.invokespecial 1, 3) := by decide +kernel
theorem d_jdk_42_method_149_code_4 : decode jdk_42_method_149_code 4 = .ok (.iload_n 3, 1) := by decide +kernel
theorem d_jdk_42_method_149_code_5 : decode jdk_42_method_149_code 5 = .ok (.ifCond .ne 22, 3) := by decide +kernel
theorem d_jdk_42_method_149_code_8 : decode jdk_42_method_149_code 8 = .ok (.aload_n 0, 1) := by decide +kernel
theorem d_jdk_42_method_149_code_9 : decode jdk_42_method_149_code 9 = .ok (.ldc 7, 2) := by decide +kernel
theorem d_jdk_42_method_149_code_11 : decode jdk_42_method_149_code 11 = .ok (.getfield 9, 3) := by decide +kernel
theorem d_jdk_42_method_149_code_14 : decode jdk_42_method_149_code 14 = .ok (.putfield 9, 3) := by decide +kernel
theorem d_jdk_42_method_149_code_17 : decode jdk_42_method_149_code 17 = .ok (.aload_n 0, 1) := by decide +kernel
theorem d_jdk_42_method_149_code_18 : decode jdk_42_method_149_code 18 = .ok (.ldc 7, 2) := by decide +kernel
theorem d_jdk_42_method_149_code_20 : decode jdk_42_method_149_code 20 = .ok (.getfield 15, 3) := by decide +kernel
theorem d_jdk_42_method_149_code_23 : decode jdk_42_method_149_code 23 = .ok (.putfield 15, 3) := by decide +kernel
theorem d_jdk_42_method_149_code_26 : decode jdk_42_method_149_code 26 = .ok (.return_, 1) := by decide +kernel
theorem d_jdk_42_method_149_code_27 : decode jdk_42_method_149_code 27 = .ok (.getstatic 38, 3) := by decide +kernel
theorem d_jdk_42_method_149_code_30 : decode jdk_42_method_149_code 30 = .ok (.ifCond .eq 28, 3) := by decide +kernel
theorem d_jdk_42_method_149_code_33 : decode jdk_42_method_149_code 33 = .ok (.aload_n 1, 1) := by decide +kernel
theorem d_jdk_42_method_149_code_34 : decode jdk_42_method_149_code 34 = .ok (.iload_n 2, 1) := by decide +kernel
theorem d_jdk_42_method_149_code_35 : decode jdk_42_method_149_code 35 = .ok (.iload_n 3, 1) := by decide +kernel
theorem d_jdk_42_method_149_code_36 : decode jdk_42_method_149_code 36 = .ok (.invokestatic 177, 3) := by decide +kernel
theorem d_jdk_42_method_149_code_39 : decode jdk_42_method_149_code 39 = .ok (.astore 5, 2) := by decide +kernel
theorem d_jdk_42_method_149_code_41 : decode jdk_42_method_149_code 41 = .ok (.aload_n 0, 1) := by decide +kernel
theorem d_jdk_42_method_149_code_42 : decode jdk_42_method_149_code 42 = .ok (.aload 5, 2) := by decide +kernel
theorem d_jdk_42_method_149_code_44 : decode jdk_42_method_149_code 44 = .ok (.iload_n 3, 1) := by decide +kernel
theorem d_jdk_42_method_149_code_45 : decode jdk_42_method_149_code 45 = .ok (.invokestatic 47, 3) := by decide +kernel
theorem d_jdk_42_method_149_code_48 : decode jdk_42_method_149_code 48 = .ok (.putfield 15, 3) := by decide +kernel
theorem d_jdk_42_method_149_code_51 : decode jdk_42_method_149_code 51 = .ok (.aload_n 0, 1) := by decide +kernel
theorem d_jdk_42_method_149_code_52 : decode jdk_42_method_149_code 52 = .ok (.aload 5, 2) := by decide +kernel
theorem d_jdk_42_method_149_code_54 : decode jdk_42_method_149_code 54 = .ok (.putfield 9, 3) := by decide +kernel
theorem d_jdk_42_method_149_code_57 : decode jdk_42_method_149_code 57 = .ok (.return_, 1) := by decide +kernel
theorem d_jdk_42_method_149_code_58 : decode jdk_42_method_149_code 58 = .ok (.aload_n 0, 1) := by decide +kernel
theorem d_jdk_42_method_149_code_59 : decode jdk_42_method_149_code 59 = .ok (.iconst 1, 1) := by decide +kernel
theorem d_jdk_42_method_149_code_60 : decode jdk_42_method_149_code 60 = .ok (.putfield 15, 3) := by decide +kernel
theorem d_jdk_42_method_149_code_63 : decode jdk_42_method_149_code 63 = .ok (.aload_n 0, 1) := by decide +kernel
theorem d_jdk_42_method_149_code_64 : decode jdk_42_method_149_code 64 = .ok (.aload_n 1, 1) := by decide +kernel
theorem d_jdk_42_method_149_code_65 : decode jdk_42_method_149_code 65 = .ok (.iload_n 2, 1) := by decide +kernel
theorem d_jdk_42_method_149_code_66 : decode jdk_42_method_149_code 66 = .ok (.iload_n 3, 1) := by decide +kernel
theorem d_jdk_42_method_149_code_67 : decode jdk_42_method_149_code 67 = .ok (.invokestatic 180, 3) := by decide +kernel
theorem d_jdk_42_method_149_code_70 : decode jdk_42_method_149_code 70 = .ok (.putfield 9, 3) := by decide +kernel
theorem d_jdk_42_method_149_code_73 : decode jdk_42_method_149_code 73 = .ok (.return_, 1) := by decide +kernel
theorem d_jdk_42_method_3_code_0 : decode jdk_42_method_3_code 0 = .ok (.aload_n 0, 1) := by decide +kernel
theorem d_jdk_42_method_3_code_1 : decode jdk_42_method_3_code 1 = .ok (.aload_n 1, 1) := by decide +kernel
theorem d_jdk_42_method_3_code_2 : decode jdk_42_method_3_code 2 = .ok (.iconst 0, 1) := by decide +kernel
theorem d_jdk_42_method_3_code_3 : decode jdk_42_method_3_code 3 = .ok (.aload_n 1, 1) := by decide +kernel
theorem d_jdk_42_method_3_code_4 : decode jdk_42_method_3_code 4 = .ok (.arraylength, 1) := by decide +kernel
theorem d_jdk_42_method_3_code_5 : decode jdk_42_method_3_code 5 = .ok (.aconst_null, 1) := by decide +kernel
theorem d_jdk_42_method_3_code_6 : decode jdk_42_method_3_code 6 = .ok (.invokespecial 27, 3) := by decide +kernel
theorem d_jdk_42_method_3_code_9 : decode jdk_42_method_3_code 9 = .ok (.return_, 1) := by decide +kernel
theorem d_prog_96_method_1_code_0 : decode prog_96_method_1_code 0 = .ok (.aload_n 0, 1) := by decide +kernel
theorem d_prog_96_method_1_code_1 : decode prog_96_method_1_code 1 = .ok (.invokespecial 1, 3) := by decide +kernel
theorem d_prog_96_method_1_code_4 : decode prog_96_method_1_code 4 = .ok (.aload_n 0, 1) := by decide +kernel
theorem d_prog_96_method_1_code_5 : decode prog_96_method_1_code 5 = .ok (.iload_n 1, 1) := by decide +kernel
theorem d_prog_96_method_1_code_6 : decode prog_96_method_1_code 6 = .ok (.putfield 7, 3) := by decide +kernel
theorem d_prog_96_method_1_code_9 : decode prog_96_method_1_code 9 = .ok (.aload_n 0, 1) := by decide +kernel
theorem d_prog_96_method_1_code_10 : decode prog_96_method_1_code 10 = .ok (.aload_n 2, 1) := by decide +kernel
theorem d_prog_96_method_1_code_11 : decode prog_96_method_1_code 11 = .ok (.putfield 13, 3) := by decide +kernel
theorem d_prog_96_method_1_code_14 : decode prog_96_method_1_code 14 = .ok (.return_, 1) := by decide +kernel
theorem d_jdk_30_method_1_code_0 : decode jdk_30_method_1_code 0 = .ok (.aload_n 0, 1) := by decide +kernel
theorem d_jdk_30_method_1_code_1 : decode jdk_30_method_1_code 1 = .ok (.invokespecial 1, 3) := by decide +kernel
theorem d_jdk_30_method_1_code_4 : decode jdk_30_method_1_code 4 = .ok (.return_, 1) := by decide +kernel
theorem d_prog_96_method_2_code_0 : decode prog_96_method_2_code 0 = .ok (.aload_n 0, 1) := by decide +kernel
theorem d_prog_96_method_2_code_1 : decode prog_96_method_2_code 1 = .ok (.getfield 7, 3) := by decide +kernel
theorem d_prog_96_method_2_code_4 : decode prog_96_method_2_code 4 = .ok (.sipush 200, 3) := by decide +kernel
theorem d_prog_96_method_2_code_7 : decode prog_96_method_2_code 7 = .ok (.if_icmp .ne 7, 3) := by decide +kernel
theorem d_prog_96_method_2_code_10 : decode prog_96_method_2_code 10 = .ok (.iconst 1, 1) := by decide +kernel
theorem d_prog_96_method_2_code_11 : decode prog_96_method_2_code 11 = .ok (.goto 4, 3) := by decide +kernel
theorem d_prog_96_method_2_code_14 : decode prog_96_method_2_code 14 = .ok (.iconst 0, 1) := by decide +kernel
theorem d_prog_96_method_2_code_15 : decode prog_96_method_2_code 15 = .ok (.ireturn, 1) := by decide +kernel
theorem pn_law : plainName "org/mercantry/AnswerIsPagePinLaw" = true := by first | (simp [plainName, overriddenIn]; done) | decide +kernel
theorem pn_an : plainName "org/mercantry/Pages$Answer" = true := by first | (simp [plainName, overriddenIn]; done) | decide +kernel
theorem pn_r : plainName "java/lang/Record" = true := by first | (simp [plainName, overriddenIn]; done) | decide +kernel
theorem pn_s : plainName "java/lang/String" = true := by first | (simp [plainName, overriddenIn]; done) | decide +kernel
theorem pn_u : plainName "java/lang/StringUTF16" = true := by first | (simp [plainName, overriddenIn]; done) | decide +kernel
set_option maxRecDepth 65536 in
set_option maxHeartbeats 40000000 in
theorem loop_c5 (l : Launch) (Z : State) (a0 : Array Value) (hw : ∀ d ∈ tables_1, d.before a0 Z = true) (h0 : Heap) (n0 : Nat) (a b : Addr) (cA cB : ClassId) (cs : List Int32) (hl : cs.length ≤ 4) (ne : a ≠ b) (gb : n0 ≤ b) (rest : List Int32) : ∀ (i : Nat) (h : Heap) (w6 : Slot), own_one w6 = true → cs.drop i = rest → i ≤ cs.length → Arv Z h a cA .char (Int32.ofNat cs.length) (cs.map Value.int) (.int 0) → Arv Z h b cB .byte (Int32.ofNat cs.length) ((cs.take i).map own_by ++ List.replicate (cs.length - i) (.int 0)) (.int 0) → Keep h0 h [b] → (∀ c ∈ cs.take i, ¬ 255 < c) →
    Run l Z (⟨"java/lang/StringUTF16", "compress", "([CI[BII)I"⟩ : MethodName) jdk_52_method_21_code 7 (Option.some Jvm.ClassFile.FieldType.int) ({ frames := 0, cells := 0, slots := 0, locals := 0 } : Room) n0 (fun v h' => ∃ j, v = some (.int (Int32.ofNat j)) ∧ Keep h0 h' [b] ∧ ((j = cs.length ∧ (∀ c ∈ cs, ¬ 255 < c) ∧ Arv Z h' b cB .byte (Int32.ofNat cs.length) (cs.map own_by) (.int 0)) ∨ (j < cs.length ∧ ∃ c, cs[j]? = some c ∧ 255 < c))) h 0 0 3 [.val (.ref a), .val (.int (Int32.ofNat i)), .val (.ref b), .val (.int (Int32.ofNat i)), .val (.int (Int32.ofNat cs.length)), .val (.int (Int32.ofNat i)), w6] [] := by
  induction rest with
  | nil =>
    intro i h w6 h6 hi hle A B K hs
    have hlen : i = cs.length := Nat.le_antisymm hle (List.drop_eq_nil_iff.mp hi)
    subst hlen
    rw [List.take_length] at hs
    have hB : Arv Z h b cB .byte (Int32.ofNat cs.length) (cs.map own_by) (.int 0) := by rw [List.take_length, Nat.sub_self, List.replicate_zero, List.append_nil] at B; exact B
    refine r_iload 5 d_jdk_52_method_21_code_3 rfl rfl ?_
    refine r_iload 7 d_jdk_52_method_21_code_5 rfl rfl ?_
    refine r_icmp_ge 44 10 d_jdk_52_method_21_code_7 (by decide) rfl (fun q7 => ?_) (fun q7 => absurd ((own_lt (by omega) (by omega)).mp q7) (by omega))
    refine r_iload 46 d_jdk_52_method_21_code_44 rfl rfl ?_
    exact r_retI d_jdk_52_method_21_code_46 rfl (Nat.le_of_ble_eq_true rfl) (Nat.le_of_ble_eq_true rfl) (⟨cs.length, rfl, K, Or.inl ⟨rfl, hs, hB⟩⟩)
  | cons x r ih =>
    intro i h w6 h6 hi hle A B K hs
    obtain ⟨hlt, hx, hi2, htk, -, hix⟩ := own_at (f := Value.int) (d := .int 0) hi
    refine r_iload 5 d_jdk_52_method_21_code_3 rfl rfl ?_
    refine r_iload 7 d_jdk_52_method_21_code_5 rfl rfl ?_
    refine r_icmp_ge 44 10 d_jdk_52_method_21_code_7 (by decide) rfl (fun q7 => absurd ((own_lt (by omega) (by omega)).mpr hlt) q7) (fun q7 => ?_)
    refine r_aloadN 11 d_jdk_52_method_21_code_10 rfl rfl ?_
    refine r_iloadN 12 d_jdk_52_method_21_code_11 rfl rfl ?_
    refine r_caload i (.int x) 13 d_jdk_52_method_21_code_12 rfl A (own_nn (by omega)) (own_cl (by omega)) (by rw [own_cl (by omega)]; exact hlt) hx ?_
    refine r_istore 15 d_jdk_52_method_21_code_13 rfl (congrArg some h6) ?_
    refine r_iload 17 d_jdk_52_method_21_code_15 rfl rfl ?_
    refine r_sipush 255 20 d_jdk_52_method_21_code_17 rfl rfl ?_
    refine r_icmp_le 26 23 d_jdk_52_method_21_code_20 (by decide) rfl (fun q20 => ?_) (fun q20 => ?_)
    · refine r_aloadN 27 d_jdk_52_method_21_code_26 rfl rfl ?_
      refine r_iloadN 28 d_jdk_52_method_21_code_27 rfl rfl ?_
      refine r_iload 30 d_jdk_52_method_21_code_28 rfl rfl ?_
      refine r_i2b 31 d_jdk_52_method_21_code_30 rfl ?_
      refine r_bastore i 32 d_jdk_52_method_21_code_31 rfl B (own_nn (by omega)) (own_cl (by omega)) (by rw [own_cl (by omega)]; exact hlt) (by rw [List.length_append, List.length_map, List.length_take, List.length_replicate]; omega) gb ?_
      intro h2 W2 B2
      rw [show (Value.int (nar .byte x.toInt8.toInt32)) = own_by x from rfl, own_fill hlt htk] at B2
      refine r_iinc 1 35 d_jdk_52_method_21_code_32 rfl rfl rfl ?_
      refine r_iinc 1 38 d_jdk_52_method_21_code_35 rfl rfl rfl ?_
      refine r_iinc 1 41 d_jdk_52_method_21_code_38 rfl rfl rfl ?_
      refine r_goto 3 d_jdk_52_method_21_code_41 (by decide) ?_
      rw [own_succ (by omega)]
      exact ih (i + 1) h2 _ rfl hi2 (by omega) (A.other W2 ne) B2 (K.wr W2 (Or.inl (List.mem_of_getElem? (i := 0) rfl))) (fun c hc => by rw [htk] at hc; rcases List.mem_append.mp hc with hc | hc; exact hs c hc; cases List.mem_singleton.mp hc; exact q20)
    · refine r_iload 25 d_jdk_52_method_21_code_23 rfl rfl ?_
      exact r_retI d_jdk_52_method_21_code_25 rfl (Nat.le_of_ble_eq_true rfl) (Nat.le_of_ble_eq_true rfl) (⟨i, rfl, K, Or.inr ⟨hlt, x, hix, q20⟩⟩)
set_option maxRecDepth 65536 in
set_option maxHeartbeats 40000000 in
theorem rm_c5 (l : Launch) (Z : State) (a0 : Array Value) (hw : ∀ d ∈ tables_1, d.before a0 Z = true) (h : Heap) (n0 : Nat) (a b : Addr) (cA cB : ClassId) (cs : List Int32) (hl : cs.length ≤ 4) (ne : a ≠ b) (gb : n0 ≤ b) (A : Arv Z h a cA .char (Int32.ofNat cs.length) (cs.map Value.int) (.int 0)) (B : Arv Z h b cB .byte (Int32.ofNat cs.length) (List.replicate cs.length (.int 0)) (.int 0)) : Con l Z (⟨"java/lang/StringUTF16", "compress", "([CI[BII)I"⟩ : MethodName) jdk_52_method_21_code 7 (Option.some Jvm.ClassFile.FieldType.int) ({ frames := 0, cells := 0, slots := 0, locals := 0 } : Room) n0 #[.ref a, .int 0, .ref b, .int 0, .int (Int32.ofNat cs.length)] h (fun v h' => ∃ j, v = some (.int (Int32.ofNat j)) ∧ Keep h h' [b] ∧ ((j = cs.length ∧ (∀ c ∈ cs, ¬ 255 < c) ∧ Arv Z h' b cB .byte (Int32.ofNat cs.length) (cs.map own_by) (.int 0)) ∨ (j < cs.length ∧ ∃ c, cs[j]? = some c ∧ 255 < c))) [] := by
  refine Run.con pn_u (Ls := [.val (.ref a), .val (.int 0), .val (.ref b), .val (.int 0), .val (.int (Int32.ofNat cs.length)), .unset, .unset]) rfl ?_
  refine r_iconst 0 1 d_jdk_52_method_21_code_0 rfl rfl ?_
  refine r_istore 3 d_jdk_52_method_21_code_1 rfl rfl ?_
  exact loop_c5 l Z a0 hw h n0 a b cA cB cs hl ne gb cs 0 h .unset rfl rfl (by omega) A B (Keep.refl _ _) (fun c hc => by simp at hc)
def own_cfl (n z : Int32) : Int32 := nar .byte (XT.ushr (n - z) 31).toInt8.toInt32
set_option maxRecDepth 65536 in
set_option maxHeartbeats 40000000 in
theorem rm_cfl (l : Launch) (Z : State) (a0 : Array Value) (hw : ∀ d ∈ tables_1, d.before a0 Z = true) (h : Heap) (n0 : Nat) (b : Addr) (cB : ClassId) (n z : Int32) (vs : List Value) (dv : Value) (B : Arv Z h b cB .byte z vs dv) : Con l Z (⟨"java/lang/StringUTF16", "coderFromArrayLen", "([BI)B"⟩ : MethodName) jdk_52_method_15_code 2 (Option.some Jvm.ClassFile.FieldType.byte) ({ frames := 0, cells := 0, slots := 0, locals := 0 } : Room) n0 #[.ref b, .int n] h (fun v h' => v = some (.int (own_cfl n z)) ∧ h' = h) [] := by
  refine Run.con pn_u (Ls := [.val (.ref b), .val (.int n)]) rfl ?_
  refine r_iloadN 1 d_jdk_52_method_15_code_0 rfl rfl ?_
  refine r_aloadN 2 d_jdk_52_method_15_code_1 rfl rfl ?_
  refine r_arraylength 3 d_jdk_52_method_15_code_2 rfl B ?_
  refine r_isub 4 d_jdk_52_method_15_code_3 rfl ?_
  refine r_bipush 31 6 d_jdk_52_method_15_code_4 rfl rfl ?_
  refine r_iushr 7 d_jdk_52_method_15_code_6 rfl ?_
  refine r_i2b 8 d_jdk_52_method_15_code_7 rfl ?_
  exact r_retN _ d_jdk_52_method_15_code_8 rfl (by simp) rfl (Nat.le_of_ble_eq_true rfl) (Nat.le_of_ble_eq_true rfl) (⟨rfl, rfl⟩)
set_option maxRecDepth 65536 in
set_option maxHeartbeats 40000000 in
theorem rm_c3L (l : Launch) (Z : State) (a0 : Array Value) (hw : ∀ d ∈ tables_1, d.before a0 Z = true) (h : Heap) (n0 : Nat) (Z0 : n0 ≤ h.size) (a : Addr) (cA : ClassId) (cs : List Int32) (hl : cs.length ≤ 4) (hL : ∀ c ∈ cs, ¬ 255 < c) (A : Arv Z h a cA .char (Int32.ofNat cs.length) (cs.map Value.int) (.int 0)) : Con l Z (⟨"java/lang/StringUTF16", "compress", "([CII)[B"⟩ : MethodName) jdk_52_method_16_code 6 (Option.some (Jvm.ClassFile.FieldType.array Jvm.ClassFile.FieldType.byte)) ({ frames := 1, cells := 1, slots := 4, locals := 18 } : Room) n0 #[.ref a, .int 0, .int (Int32.ofNat cs.length)] h (fun v h' => ∃ b cB, v = some (.ref b) ∧ Ext h h' ∧ Arv Z h' b cB .byte (Int32.ofNat cs.length) (cs.map own_by) (.int 0) ∧ h.size ≤ b) [] := by
  refine Run.con pn_u (Ls := [.val (.ref a), .val (.int 0), .val (.int (Int32.ofNat cs.length)), .unset, .unset, .unset]) rfl ?_
  refine r_iloadN 1 d_jdk_52_method_16_code_0 rfl rfl ?_
  refine r_newarray 4 "[B" 3 d_jdk_52_method_16_code_1 rfl (hw _ (List.mem_of_getElem? (i := 19) rfl)) (own_nn (by omega)) (by rw [own_cl (by omega)]; exact hl) (by decide) rfl (Nat.le_of_ble_eq_true rfl) (Nat.le_of_ble_eq_true rfl) ?_
  intro h1 b cB hb E1 B1 X1
  rw [own_cl (by omega)] at B1
  have gb : n0 ≤ b := by rw [hb]; exact Z0
  have ne : a ≠ b := own_ne A.lt hb
  replace A := A.ext E1
  refine r_astoreN 4 d_jdk_52_method_16_code_3 rfl rfl ?_
  refine r_aloadN 5 d_jdk_52_method_16_code_4 rfl rfl ?_
  refine r_iloadN 6 d_jdk_52_method_16_code_5 rfl rfl ?_
  refine r_aloadN 7 d_jdk_52_method_16_code_6 rfl rfl ?_
  refine r_iconst 0 8 d_jdk_52_method_16_code_7 rfl rfl ?_
  refine r_iloadN 9 d_jdk_52_method_16_code_8 rfl rfl ?_
  refine r_static 12 d_jdk_52_method_16_code_9 rfl (rm_c5 l Z a0 hw h1 n0 a b cA cB cs hl ne gb A B1) (hw _ (List.mem_of_getElem? (i := 20) rfl)) (hw _ (List.mem_of_getElem? (i := 21) rfl)) (hw _ (List.mem_of_getElem? (i := 17) rfl)) (hw _ (List.mem_of_getElem? (i := 22) rfl)) (by decide) (ps := [(.array .char), .int, (.array .byte), .int, .int]) (r' := (some .int)) (by decide +kernel) rfl rfl rfl (Nat.le_of_ble_eq_true rfl) (Nat.le_of_ble_eq_true rfl) (Nat.le_of_ble_eq_true rfl) (Nat.le_of_ble_eq_true rfl) ?_
  rintro v h2 ⟨j, rfl, K2, ⟨rfl, -, B2⟩ | ⟨hj, c, hc, hgt⟩⟩
  rotate_left
  · exact absurd hgt (hL c (List.mem_of_getElem? hc))
  show Run _ _ _ _ _ _ _ _ _ _ _ _ _ _ [.int (Int32.ofNat cs.length)]
  refine r_istore 14 d_jdk_52_method_16_code_12 rfl rfl ?_
  refine r_iload 16 d_jdk_52_method_16_code_14 rfl rfl ?_
  refine r_iloadN 17 d_jdk_52_method_16_code_16 rfl rfl ?_
  refine r_icmp_eq 57 20 d_jdk_52_method_16_code_17 (by decide) rfl (fun q17 => ?_) (fun q17 => absurd rfl q17)
  refine r_aloadN 58 d_jdk_52_method_16_code_57 rfl rfl ?_
  exact r_retA d_jdk_52_method_16_code_58 rfl rfl rfl rfl (Nat.le_of_ble_eq_true rfl) (Nat.le_of_ble_eq_true rfl) (⟨b, cB, rfl, own_keep E1 hb K2, B2, Nat.le_of_eq hb.symm⟩)
theorem own_cfl0 (n : Int32) : own_cfl n n = 0 := by
  have e : n - n = 0 := Int32.sub_self n
  unfold own_cfl
  rw [e]
  rfl
set_option maxRecDepth 65536 in
set_option maxHeartbeats 40000000 in
theorem rm_i4L (l : Launch) (Z : State) (a0 : Array Value) (hw : ∀ d ∈ tables_1, d.before a0 Z = true) (h : Heap) (n0 : Nat) (O : Old Z n0 h) (cz : Int32) (SC : Sta Z Z.heap "java/lang/String" "COMPACT_STRINGS" "Z" (.int cz)) (hcz : ¬ cz = 0) (t : Addr) (F1 : Fld Z h t "java/lang/String" "value" "[B" .null) (F2 : Fld Z h t "java/lang/String" "coder" "B" (.int 0)) (E1 : Exa Z h t "java/lang/String") (ht : n0 ≤ t) (a : Addr) (cA : ClassId) (cs : List Int32) (hl : cs.length ≤ 4) (hp : 0 < cs.length) (hL : ∀ c ∈ cs, ¬ 255 < c) (A : Arv Z h a cA .char (Int32.ofNat cs.length) (cs.map Value.int) (.int 0)) : Con l Z (⟨"java/lang/String", "<init>", "([CIILjava/lang/Void;)V"⟩ : MethodName) jdk_42_method_149_code 6 (Option.none : Option Jvm.ClassFile.FieldType) ({ frames := 2, cells := 1, slots := 4, locals := 35 } : Room) n0 #[.ref t, .ref a, .int 0, .int (Int32.ofNat cs.length), .null] h (fun v h' => v = none ∧ Keep h h' [t] ∧ ∃ b cB, Fld Z h' t "java/lang/String" "coder" "B" (.int 0) ∧ Fld Z h' t "java/lang/String" "value" "[B" (.ref b) ∧ Arv Z h' b cB .byte (Int32.ofNat cs.length) (cs.map own_by) (.int 0) ∧ h.size ≤ b) [] := by
  refine Run.con pn_s (Ls := [.val (.ref t), .val (.ref a), .val (.int 0), .val (.int (Int32.ofNat cs.length)), .val .null, .unset]) rfl ?_
  refine r_aloadN 1 d_jdk_42_method_149_code_0 rfl rfl ?_
  refine r_initO 4 d_jdk_42_method_149_code_1 rfl (hw _ (List.mem_of_getElem? (i := 11) rfl)) (hw _ (List.mem_of_getElem? (i := 12) rfl)) (hw _ (List.mem_of_getElem? (i := 13) rfl)) rfl (Nat.le_of_ble_eq_true rfl) (Nat.le_of_ble_eq_true rfl) ?_
  refine r_iloadN 5 d_jdk_42_method_149_code_4 rfl rfl ?_
  refine r_if_ne 27 8 d_jdk_42_method_149_code_5 (by decide) rfl (fun q5 => ?_) (fun q5 => absurd ((own_eq (j := 0) (by omega) (by omega)).mp q5) (by omega))
  refine r_getstatic 30 d_jdk_42_method_149_code_27 rfl (hw _ (List.mem_of_getElem? (i := 14) rfl)) Via.refl (SC.ext O.2) ?_
  refine r_if_eq 58 33 d_jdk_42_method_149_code_30 (by decide) rfl (fun q30 => absurd q30 hcz) (fun q30 => ?_)
  refine r_aloadN 34 d_jdk_42_method_149_code_33 rfl rfl ?_
  refine r_iloadN 35 d_jdk_42_method_149_code_34 rfl rfl ?_
  refine r_iloadN 36 d_jdk_42_method_149_code_35 rfl rfl ?_
  refine r_static 39 d_jdk_42_method_149_code_36 rfl (rm_c3L l Z a0 hw h n0 (O.1 ▸ O.2.1) a cA cs hl hL A) (hw _ (List.mem_of_getElem? (i := 15) rfl)) (hw _ (List.mem_of_getElem? (i := 16) rfl)) (hw _ (List.mem_of_getElem? (i := 17) rfl)) (hw _ (List.mem_of_getElem? (i := 18) rfl)) (by decide) (ps := [(.array .char), .int, .int]) (r' := (some (.array .byte))) (by decide +kernel) rfl rfl rfl (Nat.le_of_ble_eq_true rfl) (Nat.le_of_ble_eq_true rfl) (Nat.le_of_ble_eq_true rfl) (Nat.le_of_ble_eq_true rfl) ?_
  rintro v h1 ⟨b, cB, rfl, E2, B2, hb⟩
  have tb : b ≠ t := own_ne' E1.lt hb
  replace F1 := F1.ext E2
  replace F2 := F2.ext E2
  replace E1 := E1.ext E2
  show Run _ _ _ _ _ _ _ _ _ _ _ _ _ _ [.ref b]
  refine r_astore 41 d_jdk_42_method_149_code_39 rfl rfl ?_
  refine r_aloadN 42 d_jdk_42_method_149_code_41 rfl rfl ?_
  refine r_aload 44 d_jdk_42_method_149_code_42 rfl rfl ?_
  refine r_iloadN 45 d_jdk_42_method_149_code_44 rfl rfl ?_
  refine r_static 48 d_jdk_42_method_149_code_45 rfl (rm_cfl l Z a0 hw h1 n0 b cB (Int32.ofNat cs.length) (Int32.ofNat cs.length) _ _ B2) (hw _ (List.mem_of_getElem? (i := 23) rfl)) (hw _ (List.mem_of_getElem? (i := 24) rfl)) (hw _ (List.mem_of_getElem? (i := 17) rfl)) (hw _ (List.mem_of_getElem? (i := 25) rfl)) (by decide) (ps := [(.array .byte), .int]) (r' := (some .byte)) (by decide +kernel) rfl rfl rfl (Nat.le_of_ble_eq_true rfl) (Nat.le_of_ble_eq_true rfl) (Nat.le_of_ble_eq_true rfl) (Nat.le_of_ble_eq_true rfl) ?_
  rintro v h' ⟨rfl, rfl⟩
  rw [own_cfl0]
  show Run _ _ _ _ _ _ _ _ _ _ _ _ _ _ [.int 0, .ref t]
  refine r_putfield (host := "") 51 d_jdk_42_method_149_code_48 rfl (Or.inl (hw _ (List.mem_of_getElem? (i := 26) rfl))) Via.refl (F2) (E1) (Or.inr ⟨(hw _ (List.mem_of_getElem? (i := 27) rfl)), rfl, rfl⟩) (hw _ (List.mem_of_getElem? (i := 2) rfl)) (ty := .byte) (by decide) rfl rfl (ht) ?_
  intro h3 W3
  replace E1 := E1.wr W3
  replace F2 := F2.same W3
  replace F1 := F1.other W3 (Or.inr (slot_ne (Or.inr (hw _ (List.mem_of_getElem? (i := 29) rfl))) (Or.inr (hw _ (List.mem_of_getElem? (i := 27) rfl))) (by decide) (t := (.array .byte)) (t' := .byte) (by decide) (by decide)))
  replace B2 := B2.other W3 tb
  refine r_aloadN 52 d_jdk_42_method_149_code_51 rfl rfl ?_
  refine r_aload 54 d_jdk_42_method_149_code_52 rfl rfl ?_
  refine r_putfield (host := "") 57 d_jdk_42_method_149_code_54 rfl (Or.inl (hw _ (List.mem_of_getElem? (i := 28) rfl))) Via.refl (F1) (E1) (Or.inr ⟨(hw _ (List.mem_of_getElem? (i := 29) rfl)), rfl, rfl⟩) (hw _ (List.mem_of_getElem? (i := 2) rfl)) (ty := (.array .byte)) (by decide) rfl rfl (ht) ?_
  intro h4 W4
  replace E1 := E1.wr W4
  replace F1 := F1.same W4
  replace F2 := F2.other W4 (Or.inr (slot_ne (Or.inr (hw _ (List.mem_of_getElem? (i := 27) rfl))) (Or.inr (hw _ (List.mem_of_getElem? (i := 29) rfl))) (by decide) (t := .byte) (t' := (.array .byte)) (by decide) (by decide)))
  replace B2 := B2.other W4 tb
  exact r_retV d_jdk_42_method_149_code_57 rfl (Nat.le_of_ble_eq_true rfl) (Nat.le_of_ble_eq_true rfl) (⟨rfl, ((own_kext E2 [t]).wr W3 (Or.inl (List.mem_of_getElem? (i := 0) rfl))).wr W4 (Or.inl (List.mem_of_getElem? (i := 0) rfl)), b, cB, F2, F1, B2, hb⟩)
set_option maxRecDepth 65536 in
set_option maxHeartbeats 40000000 in
theorem rm_i1L (l : Launch) (Z : State) (a0 : Array Value) (hw : ∀ d ∈ tables_1, d.before a0 Z = true) (h : Heap) (n0 : Nat) (O : Old Z n0 h) (cz : Int32) (SC : Sta Z Z.heap "java/lang/String" "COMPACT_STRINGS" "Z" (.int cz)) (hcz : ¬ cz = 0) (t : Addr) (F1 : Fld Z h t "java/lang/String" "value" "[B" .null) (F2 : Fld Z h t "java/lang/String" "coder" "B" (.int 0)) (E1 : Exa Z h t "java/lang/String") (ht : n0 ≤ t) (a : Addr) (cA : ClassId) (cs : List Int32) (hl : cs.length ≤ 4) (hp : 0 < cs.length) (hL : ∀ c ∈ cs, ¬ 255 < c) (A : Arv Z h a cA .char (Int32.ofNat cs.length) (cs.map Value.int) (.int 0)) : Con l Z (⟨"java/lang/String", "<init>", "([C)V"⟩ : MethodName) jdk_42_method_3_code 2 (Option.none : Option Jvm.ClassFile.FieldType) ({ frames := 3, cells := 1, slots := 4, locals := 52 } : Room) n0 #[.ref t, .ref a] h (fun v h' => v = none ∧ Keep h h' [t] ∧ ∃ b cB, Fld Z h' t "java/lang/String" "coder" "B" (.int 0) ∧ Fld Z h' t "java/lang/String" "value" "[B" (.ref b) ∧ Arv Z h' b cB .byte (Int32.ofNat cs.length) (cs.map own_by) (.int 0) ∧ h.size ≤ b) [] := by
  refine Run.con pn_s (Ls := [.val (.ref t), .val (.ref a)]) rfl ?_
  refine r_aloadN 1 d_jdk_42_method_3_code_0 rfl rfl ?_
  refine r_aloadN 2 d_jdk_42_method_3_code_1 rfl rfl ?_
  refine r_iconst 0 3 d_jdk_42_method_3_code_2 rfl rfl ?_
  refine r_aloadN 4 d_jdk_42_method_3_code_3 rfl rfl ?_
  refine r_arraylength 5 d_jdk_42_method_3_code_4 rfl A ?_
  refine r_null 6 d_jdk_42_method_3_code_5 rfl ?_
  refine r_special 9 d_jdk_42_method_3_code_6 rfl (rm_i4L l Z a0 hw h n0 O cz SC hcz t F1 F2 E1 ht a cA cs hl hp hL A) (as1 := [.ref a, .int 0, .int (Int32.ofNat cs.length), .null]) rfl rfl (hw _ (List.mem_of_getElem? (i := 7) rfl)) (hw _ (List.mem_of_getElem? (i := 8) rfl)) (hw _ (List.mem_of_getElem? (i := 3) rfl)) (hw _ (List.mem_of_getElem? (i := 10) rfl)) (by decide) (ps := [(.array .char), .int, .int, (.object "java/lang/Void")]) (r' := none) (by decide +kernel) rfl rfl rfl (Nat.le_of_ble_eq_true rfl) (Nat.le_of_ble_eq_true rfl) (Nat.le_of_ble_eq_true rfl) (Nat.le_of_ble_eq_true rfl) ?_
  rintro v h1 ⟨rfl, q⟩
  show Run _ _ _ _ _ _ _ _ _ _ _ _ _ _ []
  exact r_retV d_jdk_42_method_3_code_9 rfl (Nat.le_of_ble_eq_true rfl) (Nat.le_of_ble_eq_true rfl) (⟨rfl, q⟩)
set_option maxRecDepth 65536 in
set_option maxHeartbeats 40000000 in
theorem rm_rec (l : Launch) (Z : State) (a0 : Array Value) (hw : ∀ d ∈ tables_1, d.before a0 Z = true) (h : Heap) (n0 : Nat) (a : Addr) : Con l Z (⟨"java/lang/Record", "<init>", "()V"⟩ : MethodName) jdk_30_method_1_code 1 (Option.none : Option Jvm.ClassFile.FieldType) ({ frames := 1, cells := 0, slots := 0, locals := 12 } : Room) n0 #[.ref a] h (fun v h' => v = none ∧ h' = h) [] := by
  refine Run.con pn_r (Ls := [.val (.ref a)]) rfl ?_
  refine r_aloadN 1 d_jdk_30_method_1_code_0 rfl rfl ?_
  refine r_initO 4 d_jdk_30_method_1_code_1 rfl (hw _ (List.mem_of_getElem? (i := 41) rfl)) (hw _ (List.mem_of_getElem? (i := 12) rfl)) (hw _ (List.mem_of_getElem? (i := 13) rfl)) rfl (Nat.le_of_ble_eq_true rfl) (Nat.le_of_ble_eq_true rfl) ?_
  exact r_retV d_jdk_30_method_1_code_4 rfl (Nat.le_of_ble_eq_true rfl) (Nat.le_of_ble_eq_true rfl) (⟨rfl, rfl⟩)
theorem own_nr {v : Value} {c : String} (h : v.isRef = true) : narrow (.object c) v = v := by cases v <;> first | rfl | cases h
theorem own_fr {v : Value} {c : String} (h : v.isRef = true) : fits (.object c) v = true := by cases v <;> first | rfl | cases h
theorem own_laid {a : Addr} {s : Int32} {v : Value} (h : v.isRef = true) : Jvm.Sym.laidSlots (#[.ref a, .int s, v] : Array Value).toList ++ List.replicate (3 - (Jvm.Sym.laidSlots (#[.ref a, .int s, v] : Array Value).toList).length) .unset = [.val (.ref a), .val (.int s), .val v] := by cases v <;> first | rfl | cases h
set_option maxRecDepth 65536 in
set_option maxHeartbeats 40000000 in
theorem rm_ans (l : Launch) (Z : State) (a0 : Array Value) (hw : ∀ d ∈ tables_1, d.before a0 Z = true) (h : Heap) (n0 : Nat) (a : Addr) (s : Int32) (xv : Value) (hx : xv.isRef = true) (F1 : Fld Z h a "org/mercantry/Pages$Answer" "status" "I" (.int 0)) (F2 : Fld Z h a "org/mercantry/Pages$Answer" "text" "Ljava/lang/String;" .null) (E1 : Exa Z h a "org/mercantry/Pages$Answer") (ha : n0 ≤ a) : Con l Z (⟨"org/mercantry/Pages$Answer", "<init>", "(ILjava/lang/String;)V"⟩ : MethodName) prog_96_method_1_code 3 (Option.none : Option Jvm.ClassFile.FieldType) ({ frames := 2, cells := 0, slots := 0, locals := 24 } : Room) n0 #[.ref a, .int s, xv] h (fun v h' => v = none ∧ Exa Z h' a "org/mercantry/Pages$Answer" ∧ Fld Z h' a "org/mercantry/Pages$Answer" "status" "I" (.int s)) [] := by
  refine Run.con pn_an (Ls := [.val (.ref a), .val (.int s), .val xv]) (own_laid hx) ?_
  refine r_aloadN 1 d_prog_96_method_1_code_0 rfl rfl ?_
  refine r_special 4 d_prog_96_method_1_code_1 rfl (rm_rec l Z a0 hw h n0 a) (as1 := []) rfl rfl (hw _ (List.mem_of_getElem? (i := 36) rfl)) (hw _ (List.mem_of_getElem? (i := 37) rfl)) (hw _ (List.mem_of_getElem? (i := 39) rfl)) (hw _ (List.mem_of_getElem? (i := 40) rfl)) (by decide) (ps := []) (r' := none) (by decide +kernel) rfl rfl rfl (Nat.le_of_ble_eq_true rfl) (Nat.le_of_ble_eq_true rfl) (Nat.le_of_ble_eq_true rfl) (Nat.le_of_ble_eq_true rfl) ?_
  rintro v h1 ⟨rfl, rfl⟩
  show Run _ _ _ _ _ _ _ _ _ _ _ _ _ _ []
  refine r_aloadN 5 d_prog_96_method_1_code_4 rfl rfl ?_
  refine r_iloadN 6 d_prog_96_method_1_code_5 rfl rfl ?_
  refine r_putfield (host := "") 9 d_prog_96_method_1_code_6 rfl (Or.inl (hw _ (List.mem_of_getElem? (i := 42) rfl))) Via.refl (F1) (E1) (Or.inr ⟨(hw _ (List.mem_of_getElem? (i := 43) rfl)), rfl, rfl⟩) (hw _ (List.mem_of_getElem? (i := 31) rfl)) (ty := .int) (by decide) rfl rfl (ha) ?_
  intro h2 W2
  replace E1 := E1.wr W2
  replace F1 := F1.same W2
  replace F2 := F2.other W2 (Or.inr (slot_ne (Or.inr (hw _ (List.mem_of_getElem? (i := 45) rfl))) (Or.inr (hw _ (List.mem_of_getElem? (i := 43) rfl))) (by decide) (t := (.object "java/lang/String")) (t' := .int) (by decide) (by decide)))
  refine r_aloadN 10 d_prog_96_method_1_code_9 rfl rfl ?_
  refine r_aloadNV 11 d_prog_96_method_1_code_10 rfl rfl hx ?_
  refine r_putfield (host := "") 14 d_prog_96_method_1_code_11 rfl (Or.inl (hw _ (List.mem_of_getElem? (i := 44) rfl))) Via.refl (F2) (E1) (Or.inr ⟨(hw _ (List.mem_of_getElem? (i := 45) rfl)), rfl, rfl⟩) (hw _ (List.mem_of_getElem? (i := 31) rfl)) (ty := (.object "java/lang/String")) (by decide) (own_nr hx) (own_fr hx) (ha) ?_
  intro h3 W3
  exact r_retV d_prog_96_method_1_code_14 rfl (Nat.le_of_ble_eq_true rfl) (Nat.le_of_ble_eq_true rfl) (⟨rfl, E1.wr W3, F1.other W3 (Or.inr (slot_ne (Or.inr (hw _ (List.mem_of_getElem? (i := 43) rfl))) (Or.inr (hw _ (List.mem_of_getElem? (i := 45) rfl))) (by decide) (t := .int) (t' := (.object "java/lang/String")) (by decide) (by decide)))⟩)
def own_pg (s : Int32) : Int32 := if s = 200 then 1 else 0
set_option maxRecDepth 65536 in
set_option maxHeartbeats 40000000 in
theorem rm_is (l : Launch) (Z : State) (a0 : Array Value) (hw : ∀ d ∈ tables_1, d.before a0 Z = true) (h : Heap) (n0 : Nat) (a : Addr) (s : Int32) (F1 : Fld Z h a "org/mercantry/Pages$Answer" "status" "I" (.int s)) : Con l Z (⟨"org/mercantry/Pages$Answer", "isPage", "()Z"⟩ : MethodName) prog_96_method_2_code 1 (Option.some Jvm.ClassFile.FieldType.boolean) ({ frames := 0, cells := 0, slots := 0, locals := 0 } : Room) n0 #[.ref a] h (fun v h' => v = some (.int (own_pg s)) ∧ True) [] := by
  refine Run.con pn_an (Ls := [.val (.ref a)]) rfl ?_
  refine r_aloadN 1 d_prog_96_method_2_code_0 rfl rfl ?_
  refine r_getfield (host := "") 4 d_prog_96_method_2_code_1 rfl (Or.inl (hw _ (List.mem_of_getElem? (i := 42) rfl))) Via.refl (F1) ?_
  refine r_sipush 200 7 d_prog_96_method_2_code_4 rfl rfl ?_
  refine r_icmp_ne 14 10 d_prog_96_method_2_code_7 (by decide) rfl (fun q7 => ?_) (fun q7 => ?_)
  · refine r_iconst 0 15 d_prog_96_method_2_code_14 rfl rfl ?_
    exact r_retN _ d_prog_96_method_2_code_15 rfl (by simp) rfl (Nat.le_of_ble_eq_true rfl) (Nat.le_of_ble_eq_true rfl) (⟨by simp [own_pg, own_b0, own_b1, *], trivial⟩)
  · refine r_iconst 1 11 d_prog_96_method_2_code_10 rfl rfl ?_
    refine r_goto 15 d_prog_96_method_2_code_11 (by decide) ?_
    exact r_retN _ d_prog_96_method_2_code_15 rfl (by simp) rfl (Nat.le_of_ble_eq_true rfl) (Nat.le_of_ble_eq_true rfl) (⟨by simp [own_pg, own_b0, own_b1, *], trivial⟩)
set_option maxRecDepth 65536 in
set_option maxHeartbeats 40000000 in
theorem run_124n (l : Launch) (Z : State) (a0 : Array Value) (hw : ∀ d ∈ tables_1, d.before a0 Z = true) (h : Heap) (n0 : Nat) (Z0 : n0 ≤ h.size) (i0 i1 i2 kd s : Int32) (xv : Value) (hx : xv.isRef = true) (w6 : Slot) (h6 : own_one w6 = true) : Run l Z x code maxLocals ret room_1 n0 (fun v h' => v = some (.int 1) ∧ True) h 0 0 124 [.val (.int i0), .val (.int i1), .val (.int i2), .val (.int kd), .val (.int s), .val xv, w6, .unset] [] := by
  refine r_new 127 at_124 rfl (hw _ (List.mem_of_getElem? (i := 30) rfl)) (hw _ (List.mem_of_getElem? (i := 31) rfl)) (hw _ (List.mem_of_getElem? (i := 32) rfl)) (Nat.le_of_ble_eq_true rfl) (Nat.le_of_ble_eq_true rfl) ?_
  intro h1 a ha E1 X1 D1
  have ga : n0 ≤ a := by rw [ha]; exact Z0
  refine r_dup 128 at_127 rfl rfl ?_
  refine r_iload 130 at_128 rfl rfl ?_
  refine r_aloadV 132 at_130 rfl rfl hx ?_
  refine r_special 135 at_132 rfl (rm_ans l Z a0 hw h1 n0 a s xv hx (D1 (Or.inr (hw _ (List.mem_of_getElem? (i := 43) rfl))) (ty := .int) (by decide)) (D1 (Or.inr (hw _ (List.mem_of_getElem? (i := 45) rfl))) (ty := (.object "java/lang/String")) (by decide)) X1 ga) (as1 := [.int s, xv]) rfl rfl (hw _ (List.mem_of_getElem? (i := 33) rfl)) (hw _ (List.mem_of_getElem? (i := 34) rfl)) (hw _ (List.mem_of_getElem? (i := 32) rfl)) (hw _ (List.mem_of_getElem? (i := 35) rfl)) (by decide) (ps := [.int, (.object "java/lang/String")]) (r' := none) (by decide +kernel) rfl rfl rfl (Nat.le_of_ble_eq_true rfl) (Nat.le_of_ble_eq_true rfl) (Nat.le_of_ble_eq_true rfl) (Nat.le_of_ble_eq_true rfl) ?_
  rintro v h2 ⟨rfl, X2, F2⟩
  show Run _ _ _ _ _ _ _ _ _ _ _ _ _ _ [.ref a]
  refine r_astore 137 at_135 rfl (congrArg some h6) ?_
  refine r_iload 139 at_137 rfl rfl ?_
  refine r_sipush 200 142 at_139 rfl rfl ?_
  refine r_icmp_ne 149 145 at_142 (by decide) rfl (fun q142 => ?_) (fun q142 => ?_)
  · refine r_iconst 0 150 at_149 rfl rfl ?_
    refine r_istore 152 at_150 rfl rfl ?_
    refine r_aload 154 at_152 rfl rfl ?_
    refine r_virtual 157 at_154 rfl (rm_is l Z a0 hw h2 n0 a s F2) (as1 := []) rfl (hw _ (List.mem_of_getElem? (i := 46) rfl)) (hw _ (List.mem_of_getElem? (i := 47) rfl)) (hw _ (List.mem_of_getElem? (i := 49) rfl)) (hw _ (List.mem_of_getElem? (i := 48) rfl)) (hw _ (List.mem_of_getElem? (i := 32) rfl)) (hw _ (List.mem_of_getElem? (i := 50) rfl)) (by decide) (ps := []) (r' := (some .boolean)) (by decide +kernel) (X2) rfl rfl rfl (Nat.le_of_ble_eq_true rfl) (Nat.le_of_ble_eq_true rfl) (Nat.le_of_ble_eq_true rfl) (Nat.le_of_ble_eq_true rfl) (fun s args hZ => notFace_of_selects (args := args) (mvT hZ (hw _ (List.mem_of_getElem? (i := 49) rfl)))) ?_
    rintro v h3 ⟨rfl, -⟩
    show Run _ _ _ _ _ _ _ _ _ _ _ _ _ _ [.int (own_pg s)]
    refine r_iload 159 at_157 rfl rfl ?_
    refine r_icmp_ne 166 162 at_159 (by decide) rfl (fun q159 => absurd (by simp [own_pg, q142]) q159) (fun q159 => ?_)
    refine r_iconst 1 163 at_162 rfl rfl ?_
    refine r_goto 167 at_163 (by decide) ?_
    exact r_retN _ at_167 rfl (by simp) rfl (Nat.le_of_ble_eq_true rfl) (Nat.le_of_ble_eq_true rfl) (⟨rfl, trivial⟩)
  · refine r_iconst 1 146 at_145 rfl rfl ?_
    refine r_goto 150 at_146 (by decide) ?_
    refine r_istore 152 at_150 rfl rfl ?_
    refine r_aload 154 at_152 rfl rfl ?_
    refine r_virtual 157 at_154 rfl (rm_is l Z a0 hw h2 n0 a s F2) (as1 := []) rfl (hw _ (List.mem_of_getElem? (i := 46) rfl)) (hw _ (List.mem_of_getElem? (i := 47) rfl)) (hw _ (List.mem_of_getElem? (i := 49) rfl)) (hw _ (List.mem_of_getElem? (i := 48) rfl)) (hw _ (List.mem_of_getElem? (i := 32) rfl)) (hw _ (List.mem_of_getElem? (i := 50) rfl)) (by decide) (ps := []) (r' := (some .boolean)) (by decide +kernel) (X2) rfl rfl rfl (Nat.le_of_ble_eq_true rfl) (Nat.le_of_ble_eq_true rfl) (Nat.le_of_ble_eq_true rfl) (Nat.le_of_ble_eq_true rfl) (fun s args hZ => notFace_of_selects (args := args) (mvT hZ (hw _ (List.mem_of_getElem? (i := 49) rfl)))) ?_
    rintro v h3 ⟨rfl, -⟩
    show Run _ _ _ _ _ _ _ _ _ _ _ _ _ _ [.int (own_pg s)]
    refine r_iload 159 at_157 rfl rfl ?_
    refine r_icmp_ne 166 162 at_159 (by decide) rfl (fun q159 => absurd (by simp [own_pg, q142]) q159) (fun q159 => ?_)
    refine r_iconst 1 163 at_162 rfl rfl ?_
    refine r_goto 167 at_163 (by decide) ?_
    exact r_retN _ at_167 rfl (by simp) rfl (Nat.le_of_ble_eq_true rfl) (Nat.le_of_ble_eq_true rfl) (⟨rfl, trivial⟩)
set_option maxRecDepth 65536 in
set_option maxHeartbeats 40000000 in
theorem run_124s (l : Launch) (Z : State) (a0 : Array Value) (hw : ∀ d ∈ tables_1, d.before a0 Z = true) (h : Heap) (n0 : Nat) (Z0 : n0 ≤ h.size) (i0 i1 i2 kd s : Int32) (xv : Value) (hx : xv.isRef = true) (w6 : Slot) (h6 : own_one w6 = true) : Run l Z x code maxLocals ret room_1 n0 (fun v h' => v = some (.int 1) ∧ True) h 3 9 124 [.val (.int i0), .val (.int i1), .val (.int i2), .val (.int kd), .val (.int s), .val xv, w6, .unset] [] := by
  refine r_new 127 at_124 rfl (hw _ (List.mem_of_getElem? (i := 30) rfl)) (hw _ (List.mem_of_getElem? (i := 31) rfl)) (hw _ (List.mem_of_getElem? (i := 32) rfl)) (Nat.le_of_ble_eq_true rfl) (Nat.le_of_ble_eq_true rfl) ?_
  intro h1 a ha E1 X1 D1
  have ga : n0 ≤ a := by rw [ha]; exact Z0
  refine r_dup 128 at_127 rfl rfl ?_
  refine r_iload 130 at_128 rfl rfl ?_
  refine r_aloadV 132 at_130 rfl rfl hx ?_
  refine r_special 135 at_132 rfl (rm_ans l Z a0 hw h1 n0 a s xv hx (D1 (Or.inr (hw _ (List.mem_of_getElem? (i := 43) rfl))) (ty := .int) (by decide)) (D1 (Or.inr (hw _ (List.mem_of_getElem? (i := 45) rfl))) (ty := (.object "java/lang/String")) (by decide)) X1 ga) (as1 := [.int s, xv]) rfl rfl (hw _ (List.mem_of_getElem? (i := 33) rfl)) (hw _ (List.mem_of_getElem? (i := 34) rfl)) (hw _ (List.mem_of_getElem? (i := 32) rfl)) (hw _ (List.mem_of_getElem? (i := 35) rfl)) (by decide) (ps := [.int, (.object "java/lang/String")]) (r' := none) (by decide +kernel) rfl rfl rfl (Nat.le_of_ble_eq_true rfl) (Nat.le_of_ble_eq_true rfl) (Nat.le_of_ble_eq_true rfl) (Nat.le_of_ble_eq_true rfl) ?_
  rintro v h2 ⟨rfl, X2, F2⟩
  show Run _ _ _ _ _ _ _ _ _ _ _ _ _ _ [.ref a]
  refine r_astore 137 at_135 rfl (congrArg some h6) ?_
  refine r_iload 139 at_137 rfl rfl ?_
  refine r_sipush 200 142 at_139 rfl rfl ?_
  refine r_icmp_ne 149 145 at_142 (by decide) rfl (fun q142 => ?_) (fun q142 => ?_)
  · refine r_iconst 0 150 at_149 rfl rfl ?_
    refine r_istore 152 at_150 rfl rfl ?_
    refine r_aload 154 at_152 rfl rfl ?_
    refine r_virtual 157 at_154 rfl (rm_is l Z a0 hw h2 n0 a s F2) (as1 := []) rfl (hw _ (List.mem_of_getElem? (i := 46) rfl)) (hw _ (List.mem_of_getElem? (i := 47) rfl)) (hw _ (List.mem_of_getElem? (i := 49) rfl)) (hw _ (List.mem_of_getElem? (i := 48) rfl)) (hw _ (List.mem_of_getElem? (i := 32) rfl)) (hw _ (List.mem_of_getElem? (i := 50) rfl)) (by decide) (ps := []) (r' := (some .boolean)) (by decide +kernel) (X2) rfl rfl rfl (Nat.le_of_ble_eq_true rfl) (Nat.le_of_ble_eq_true rfl) (Nat.le_of_ble_eq_true rfl) (Nat.le_of_ble_eq_true rfl) (fun s args hZ => notFace_of_selects (args := args) (mvT hZ (hw _ (List.mem_of_getElem? (i := 49) rfl)))) ?_
    rintro v h3 ⟨rfl, -⟩
    show Run _ _ _ _ _ _ _ _ _ _ _ _ _ _ [.int (own_pg s)]
    refine r_iload 159 at_157 rfl rfl ?_
    refine r_icmp_ne 166 162 at_159 (by decide) rfl (fun q159 => absurd (by simp [own_pg, q142]) q159) (fun q159 => ?_)
    refine r_iconst 1 163 at_162 rfl rfl ?_
    refine r_goto 167 at_163 (by decide) ?_
    exact r_retN _ at_167 rfl (by simp) rfl (Nat.le_of_ble_eq_true rfl) (Nat.le_of_ble_eq_true rfl) (⟨rfl, trivial⟩)
  · refine r_iconst 1 146 at_145 rfl rfl ?_
    refine r_goto 150 at_146 (by decide) ?_
    refine r_istore 152 at_150 rfl rfl ?_
    refine r_aload 154 at_152 rfl rfl ?_
    refine r_virtual 157 at_154 rfl (rm_is l Z a0 hw h2 n0 a s F2) (as1 := []) rfl (hw _ (List.mem_of_getElem? (i := 46) rfl)) (hw _ (List.mem_of_getElem? (i := 47) rfl)) (hw _ (List.mem_of_getElem? (i := 49) rfl)) (hw _ (List.mem_of_getElem? (i := 48) rfl)) (hw _ (List.mem_of_getElem? (i := 32) rfl)) (hw _ (List.mem_of_getElem? (i := 50) rfl)) (by decide) (ps := []) (r' := (some .boolean)) (by decide +kernel) (X2) rfl rfl rfl (Nat.le_of_ble_eq_true rfl) (Nat.le_of_ble_eq_true rfl) (Nat.le_of_ble_eq_true rfl) (Nat.le_of_ble_eq_true rfl) (fun s args hZ => notFace_of_selects (args := args) (mvT hZ (hw _ (List.mem_of_getElem? (i := 49) rfl)))) ?_
    rintro v h3 ⟨rfl, -⟩
    show Run _ _ _ _ _ _ _ _ _ _ _ _ _ _ [.int (own_pg s)]
    refine r_iload 159 at_157 rfl rfl ?_
    refine r_icmp_ne 166 162 at_159 (by decide) rfl (fun q159 => absurd (by simp [own_pg, q142]) q159) (fun q159 => ?_)
    refine r_iconst 1 163 at_162 rfl rfl ?_
    refine r_goto 167 at_163 (by decide) ?_
    exact r_retN _ at_167 rfl (by simp) rfl (Nat.le_of_ble_eq_true rfl) (Nat.le_of_ble_eq_true rfl) (⟨rfl, trivial⟩)
theorem i2c_ofNat {i : Nat} (h : i < 256) : (Int32.ofNat i).toUInt32.toUInt16.toUInt32.toInt32 = Int32.ofNat i := by
  have q : ∀ j : Fin 256, (Int32.ofNat j.val).toUInt32.toUInt16.toUInt32.toInt32 = Int32.ofNat j.val := by decide +kernel
  exact q ⟨i, h⟩
theorem own_255 (x : Int32) : ¬ 255 < nar .char (x &&& 255).toUInt32.toUInt16.toUInt32.toInt32 := by
  have h1 := (c_and x 255 (by decide)).1
  have h2 := (c_and x 255 (by decide)).2
  have e : (255 : Int32).toInt = 255 := rfl
  rw [e] at h2
  obtain ⟨i, hi, hq⟩ := own_nat (K := x &&& 255) (N := 256) h1 (by omega)
  rw [hq, i2c_ofNat hi]
  show ¬ 255 < (Int32.ofNat i).toUInt32.toUInt16.toUInt32.toInt32
  rw [i2c_ofNat hi, show (255 : Int32) = Int32.ofNat 255 from rfl, own_lt (by omega) (by omega)]
  omega
set_option maxRecDepth 65536 in
set_option maxHeartbeats 40000000 in
theorem run_86 (l : Launch) (Z : State) (a0 : Array Value) (hw : ∀ d ∈ tables_1, d.before a0 Z = true) (h : Heap) (n0 : Nat) (O : Old Z n0 h) (cz : Int32) (SC : Sta Z Z.heap "java/lang/String" "COMPACT_STRINGS" "Z" (.int cz)) (hcz : ¬ cz = 0) (i0 i1 i2 kd s : Int32) : Run l Z x code maxLocals ret room_1 n0 (fun v h' => v = some (.int 1) ∧ True) h 0 0 86 [.val (.int i0), .val (.int i1), .val (.int i2), .val (.int kd), .val (.int s), .unset, .unset, .unset] [] := by
  refine r_iloadN 87 at_86 rfl rfl ?_
  refine r_iconst 4 88 at_87 rfl rfl ?_
  refine r_iand 89 at_88 rfl ?_
  refine r_if_eq 98 92 at_89 (by decide) rfl (fun q89 => ?_) (fun q89 => ?_)
  · refine r_iconst 1 99 at_98 rfl rfl ?_
    refine r_newarray 1 "[C" 101 at_99 rfl (hw _ (List.mem_of_getElem? (i := 0) rfl)) (by decide) (by decide) (by decide) rfl (Nat.le_of_ble_eq_true rfl) (Nat.le_of_ble_eq_true rfl) ?_
    intro h1 b cA hb E1 A1 X1
    have gb : n0 ≤ b := by rw [hb]; exact O.1 ▸ O.2.1
    replace O := O.ext E1
    replace A1 : Arv Z _ b cA .char 1 (List.replicate 1 (.int 0)) (.int 0) := A1
    refine r_astore 103 at_101 rfl rfl ?_
    refine r_aload 105 at_103 rfl rfl ?_
    refine r_iconst 0 106 at_105 rfl rfl ?_
    refine r_iloadN 107 at_106 rfl rfl ?_
    refine r_sipush 255 110 at_107 rfl rfl ?_
    refine r_iand 111 at_110 rfl ?_
    refine r_i2c 112 at_111 rfl ?_
    refine r_castore 0 113 at_112 rfl A1 (by decide) (by decide) (by decide) (by simp) gb ?_
    intro h2 W2 A1
    replace O := O.wr W2 gb
    generalize hc0 : nar .char (i2 &&& 255).toUInt32.toUInt16.toUInt32.toInt32 = c0 at A1
    have hL : ∀ c ∈ [c0], ¬ 255 < c := fun c hc => by cases List.mem_singleton.mp hc; rw [← hc0]; exact own_255 i2
    replace A1 : Arv Z _ b cA .char (Int32.ofNat [c0].length) ([c0].map Value.int) (.int 0) := A1
    refine r_new 116 at_113 rfl (hw _ (List.mem_of_getElem? (i := 1) rfl)) (hw _ (List.mem_of_getElem? (i := 2) rfl)) (hw _ (List.mem_of_getElem? (i := 3) rfl)) (Nat.le_of_ble_eq_true rfl) (Nat.le_of_ble_eq_true rfl) ?_
    intro h3 t ht E3 X3 D3
    have gt : n0 ≤ t := by rw [ht]; exact O.1 ▸ O.2.1
    replace O := O.ext E3
    replace A1 := A1.ext E3
    refine r_dup 117 at_116 rfl rfl ?_
    refine r_aload 119 at_117 rfl rfl ?_
    refine r_special 122 at_119 rfl (rm_i1L l Z a0 hw h3 n0 O cz SC hcz t (D3 (Or.inr (hw _ (List.mem_of_getElem? (i := 29) rfl))) (ty := (.array .byte)) (by decide)) (D3 (Or.inr (hw _ (List.mem_of_getElem? (i := 27) rfl))) (ty := .byte) (by decide)) X3 gt b cA [c0] (Nat.le_of_ble_eq_true rfl) (Nat.le_of_ble_eq_true rfl) hL A1) (as1 := [.ref b]) rfl rfl (hw _ (List.mem_of_getElem? (i := 4) rfl)) (hw _ (List.mem_of_getElem? (i := 5) rfl)) (hw _ (List.mem_of_getElem? (i := 3) rfl)) (hw _ (List.mem_of_getElem? (i := 6) rfl)) (by decide) (ps := [(.array .char)]) (r' := none) (by decide +kernel) rfl rfl rfl (Nat.le_of_ble_eq_true rfl) (Nat.le_of_ble_eq_true rfl) (Nat.le_of_ble_eq_true rfl) (Nat.le_of_ble_eq_true rfl) ?_
    rintro v h4 ⟨rfl, K4, -⟩
    show Run _ _ _ _ _ _ _ _ _ _ _ _ _ _ [.ref t]
    refine r_astore 124 at_122 rfl rfl ?_
    exact run_124s l Z a0 hw h4 n0 (Nat.le_trans (O.1 ▸ O.2.1) K4.1) i0 i1 i2 kd s (.ref t) rfl (.val (.ref b)) rfl
  · refine r_null 93 at_92 rfl ?_
    refine r_astoreV 95 at_93 rfl rfl rfl ?_
    refine r_goto 124 at_95 (by decide) ?_
    exact run_124n l Z a0 hw h n0 (O.1 ▸ O.2.1) i0 i1 i2 kd s .null rfl .unset rfl
set_option maxRecDepth 65536 in
set_option maxHeartbeats 40000000 in
theorem rm_law (l : Launch) (Z : State) (a0 : Array Value) (hw : ∀ d ∈ tables_1, d.before a0 Z = true) (h : Heap) (n0 : Nat) (O : Old Z n0 h) (cz : Int32) (SC : Sta Z Z.heap "java/lang/String" "COMPACT_STRINGS" "Z" (.int cz)) (hcz : ¬ cz = 0) (i0 i1 i2 : Int32) : Con l Z x code maxLocals ret room_1 n0 #[.int i0, .int i1, .int i2] h (fun v h' => v = some (.int 1) ∧ True) tables_1 := by
  refine Run.con pn_law (Ls := [.val (.int i0), .val (.int i1), .val (.int i2), .unset, .unset, .unset, .unset, .unset]) rfl ?_
  refine r_iloadN 1 at_0 rfl rfl ?_
  refine r_iconst 3 2 at_1 rfl rfl ?_
  refine r_iand 3 at_2 rfl ?_
  refine r_istoreN 4 at_3 rfl rfl ?_
  refine r_iloadN 5 at_4 rfl rfl ?_
  refine r_if_ne 14 8 at_5 (by decide) rfl (fun q5 => ?_) (fun q5 => ?_)
  · refine r_iloadN 15 at_14 rfl rfl ?_
    refine r_iconst 1 16 at_15 rfl rfl ?_
    refine r_icmp_ne 27 19 at_16 (by decide) rfl (fun q16 => ?_) (fun q16 => ?_)
    · refine r_iloadN 28 at_27 rfl rfl ?_
      refine r_iconst 2 29 at_28 rfl rfl ?_
      refine r_icmp_ne 52 32 at_29 (by decide) rfl (fun q29 => ?_) (fun q29 => ?_)
      · refine r_iloadN 53 at_52 rfl rfl ?_
        refine r_iconst 3 54 at_53 rfl rfl ?_
        refine r_iand 55 at_54 rfl ?_
        refine r_if_ne 66 58 at_55 (by decide) rfl (fun q55 => ?_) (fun q55 => ?_)
        · refine r_iloadN 67 at_66 rfl rfl ?_
          refine r_iconst 3 68 at_67 rfl rfl ?_
          refine r_iand 69 at_68 rfl ?_
          refine r_iconst 1 70 at_69 rfl rfl ?_
          refine r_icmp_ne 81 73 at_70 (by decide) rfl (fun q70 => ?_) (fun q70 => ?_)
          · refine r_sipush 500 84 at_81 rfl rfl ?_
            refine r_istore 86 at_84 rfl rfl ?_
            exact run_86 l Z a0 hw h n0 O cz SC hcz i0 i1 i2 _ _
          · refine r_sipush 404 76 at_73 rfl rfl ?_
            refine r_istore 78 at_76 rfl rfl ?_
            refine r_goto 86 at_78 (by decide) ?_
            exact run_86 l Z a0 hw h n0 O cz SC hcz i0 i1 i2 _ _
        · refine r_sipush 403 61 at_58 rfl rfl ?_
          refine r_istore 63 at_61 rfl rfl ?_
          refine r_goto 86 at_63 (by decide) ?_
          exact run_86 l Z a0 hw h n0 O cz SC hcz i0 i1 i2 _ _
      · refine r_iloadN 33 at_32 rfl rfl ?_
        refine r_iconst 1 34 at_33 rfl rfl ?_
        refine r_iand 35 at_34 rfl ?_
        refine r_if_ne 44 38 at_35 (by decide) rfl (fun q35 => ?_) (fun q35 => ?_)
        · refine r_sipush 199 47 at_44 rfl rfl ?_
          refine r_istore 49 at_47 rfl rfl ?_
          refine r_goto 86 at_49 (by decide) ?_
          exact run_86 l Z a0 hw h n0 O cz SC hcz i0 i1 i2 _ _
        · refine r_sipush 201 41 at_38 rfl rfl ?_
          refine r_goto 47 at_41 (by decide) ?_
          refine r_istore 49 at_47 rfl rfl ?_
          refine r_goto 86 at_49 (by decide) ?_
          exact run_86 l Z a0 hw h n0 O cz SC hcz i0 i1 i2 _ _
    · refine r_sipush 200 22 at_19 rfl rfl ?_
      refine r_istore 24 at_22 rfl rfl ?_
      refine r_goto 86 at_24 (by decide) ?_
      exact run_86 l Z a0 hw h n0 O cz SC hcz i0 i1 i2 _ _
  · refine r_iloadN 9 at_8 rfl rfl ?_
    refine r_istore 11 at_9 rfl rfl ?_
    refine r_goto 86 at_11 (by decide) ?_
    exact run_86 l Z a0 hw h n0 O cz SC hcz i0 i1 i2 _ _
set_option maxRecDepth 65536 in
set_option maxHeartbeats 40000000 in
theorem comes_1 {Post : Tables → Env → Array Value → State → Outcome → State → Prop} (hpost : ∀ tb e args s v u, (limb_1_1.after args s (.returned v) u = true ∧ limb_1_2.after args s (.returned v) u = true ∧ True) → FrameEnd s (.returned v) u (Jvm.fieldLocs frame_1_writes args s ++ Jvm.arrayLocs frame_1_arrays args s ++ Jvm.staticLocs frame_1_statics s) 16 128 → Post tb e args s (.returned v) u) :
    ArmFor flags0 classFile x code maxLocals ret World_1 tables_1 room_1 Calls_1 rest_1 Pre_1 Post := by
  intro l hfl _ _ p e ha hc hk s m args below hf hA hF happ hP
  obtain ⟨hcalls, hrest, hpre⟩ := hP
  obtain ⟨-, -, -, hnamed, -, -, -, hat⟩ := (Spec.applies_iff hf).mp happ
  obtain ⟨hg, hn⟩ := and_e (Cond.before_iff.mp (show (Jvm.Cond.and given_1 narrow_1).before args s = true from hpre))
  obtain ⟨hcount, hg⟩ := and_e hg
  obtain ⟨g0, hg⟩ := and_e hg
  obtain ⟨g1, hg⟩ := and_e hg
  have g2 := hg
  obtain ⟨w0, w1, w2, rfl⟩ : ∃ w0 w1 w2 : Value, args = #[w0, w1, w2] := by
    have hs : args.size = 3 := by simpa [Cond.value, given_1] using hcount
    obtain ⟨L⟩ := args
    match L, hs with
    | [w0, w1, w2], _ => exact ⟨w0, w1, w2, rfl⟩
  have hw := fun d (hd : d ∈ tables_1) => atoms_spec (ws := Jvm.Cond.code x code maxLocals ret :: tables_1) hat d (List.mem_cons_of_mem _ hd)
  obtain ⟨hsets, hown0⟩ := atoms_of _ (rest_1_c_eq ▸ (show rest_1_c.before _ s = true from hrest))
  have hfit : Fit s := fun {y c} hc i hi => by
    obtain ⟨ha, rfl⟩ := Array.getElem?_eq_some_iff.mp hc
    have q := List.all_eq_true.mp ((Array.all_eq_true_iff_forall_mem.mp hF) _ (Array.getElem_mem ha)) i (List.mem_range.mpr hi)
    simpa [Array.getElem?_eq_getElem hi] using q
  obtain ⟨i0, ea0⟩ := is_v g0
  obtain rfl : w0 = (.int i0) := Option.some.inj ea0
  obtain ⟨i1, ea1⟩ := is_v g1
  obtain rfl : w1 = (.int i1) := Option.some.inj ea1
  obtain ⟨i2, ea2⟩ := is_v g2
  obtain rfl : w2 = (.int i2) := Option.some.inj ea2
  obtain ⟨cz, eC⟩ := is_v (Cond.before_iff.mp (hsets _ (List.mem_of_getElem? (i := 1) rfl)))
  have SC : Sta s s.heap "java/lang/String" "COMPACT_STRINGS" "Z" (.int cz) := Sta.start eC (Or.inl (hsets _ (List.mem_of_getElem? (i := 0) rfl)))
  have hcz : ¬ cz = 0 := gotF (Cond.eq_ints eC (Term.int_eval 0)) (not_v (Cond.before_iff.mp (hsets _ (List.mem_of_getElem? (i := 2) rfl))))
  obtain ⟨nn, o, h1, h2, h3, _, L, rfl, ⟨⟨rfl, -⟩, N⟩, hq⟩ := rm_law l s _ hw s.heap s.heap.size (Old.start s) cz SC hcz i0 i1 i2 p e ha hc hk s m _ below hf ((Spec.applies_iff_loose hf).mp happ).1 ⟨rfl, State.Warmed39.refl s, rfl⟩ trivial
  refine ⟨nn, _, h1, h2, h3, hpost _ _ _ _ _ _ ⟨Cond.after_iff.mpr rfl, Cond.after_iff.mpr (eq_i res_at (Term.int_eval (1)) rfl), trivial⟩ ⟨hq.1, hq.2.1, (hq.2.2.sift fun y hy => Or.inr (N y hy)).mono (by decide) (by decide)⟩⟩
theorem main_1_1 : Claimed_1_1 := comes_1 fun _ _ _ _ _ _ h hF => ⟨h.1, hF⟩
theorem main_1_2 : Claimed_1_2 := comes_1 fun _ _ _ _ _ _ h hF => ⟨h.2.1, hF⟩
end Jvm.Pilot.@@N@@
namespace Jvm.Pilot.@@N@@
open Jvm Jvm.ClassFile Sem Op Lib Jvm.Free Jvm.Stand Jvm.Pilot.@@N@@.Jvm.D
/-! MADE BY PROGRAM (witnessworld.py) out of the Statement's table words and the real class files: 21 classes; the members and pool entries that the words name. The judged class is class 1, her method 1. -/
namespace start1
open Jvm.ClassFile
def u (s : String) : CpInfo := .utf8 (stringToUtf16 s)
/-- a pool by its gaps: so many unusable entries, then the entry; so many at the end -/
def gap : Nat → List CpInfo → List CpInfo
  | 0, r => r
  | n + 1, r => .unusable :: gap n r
def poolList (es : List (Nat × CpInfo)) (last : Nat) : List CpInfo := es.foldr (fun e r => gap e.1 (e.2 :: r)) (gap last [])
def pool (es : List (Nat × CpInfo)) (last : Nat) : Array CpInfo := ⟨poolList es last⟩
def fileOf (pool : Array CpInfo) (this : Nat) (attrs : Array Attribute := #[]) (ms : Array MethodInfo := #[]) (fl : Nat := 33) (sup : Nat := 0) (ifs : Array Nat := #[]) (fds : Array FieldInfo := #[]) : ClassFile where
  minorVersion := 0
  majorVersion := 65
  constantPool := pool
  accessFlags := fl
  thisClass := this
  superClass := sup
  interfaces := ifs
  fields := fds
  methods := ms
  attributes := attrs
def plain (name : String) (sup : Option ClassId) : Class where
  name := name
  kind := .ordinary
  loader := none
  accessFlags := 33
  super := sup
  interfaces := #[]
  cf := none
  fields := #[]
  methods := #[]
  instanceTypes := #[]
  staticTypes := #[]
  resolved := #[]
  callSites := []
  init := .initialized
  statics := none
  mirror := none

def pool0 : Array CpInfo := pool [(5, u "<init>"), (0, u "()V"), (1, .class_ 10), (1, u "java/lang/Object")] 113

def k0c0 : Code := { maxStack := 0, maxLocals := 1, code := object_method_1_code, exceptionTable := #[], attributes := #[] }
def k0m0 : Method := { name := "<init>", desc := "()V", sig := { parameters := [], returnType := none }, accessFlags := 1, code := some k0c0 }
/-- java/lang/Object -/
def k0 : Class := { plain "java/lang/Object" none with
  accessFlags := 33
  interfaces := #[]
  cf := some (fileOf pool0 8 #[] #[{ accessFlags := 1, nameIndex := 5, descriptorIndex := 6, attributes := #[] }] 33 0 #[] #[])
  fields := #[]
  methods := #[k0m0]
  instanceTypes := #[]
  staticTypes := #[]
  resolved := Array.replicate 124 none
  statics := none }

def pool1 : Array CpInfo := pool [(2, .class_ 4), (1, u "java/lang/Object"), (0, u "<init>"), (0, u "()V"), (0, .class_ 8), (0, u "java/lang/String"), (0, .methodref 7 10), (0, .nameAndType 5 11), (0, u "([C)V"), (0, .class_ 13), (0, u "org/mercantry/Pages$Answer"), (0, .methodref 12 15), (0, .nameAndType 5 16), (0, u "(ILjava/lang/String;)V"), (0, .methodref 12 18), (0, .nameAndType 19 20), (0, u "isPage"), (0, u "()Z"), (0, .class_ 22), (0, u "org/mercantry/AnswerIsPagePinLaw"), (2, u "law"), (0, u "(III)Z")] 7

def k1m0 : Method := { name := "<init>", desc := "()V", sig := { parameters := [], returnType := none }, accessFlags := 2, code := none }
def k1c1 : Code := { maxStack := 4, maxLocals := 8, code := code, exceptionTable := #[], attributes := #[] }
def k1m1 : Method := { name := "law", desc := "(III)Z", sig := { parameters := [.int, .int, .int], returnType := some .boolean }, accessFlags := 9, code := some k1c1 }
/-- org/mercantry/AnswerIsPagePinLaw -/
def k1 : Class := { plain "org/mercantry/AnswerIsPagePinLaw" (some 0) with
  accessFlags := 49
  interfaces := #[]
  cf := some (fileOf pool1 21 #[] #[{ accessFlags := 2, nameIndex := 5, descriptorIndex := 6, attributes := #[] }, { accessFlags := 9, nameIndex := 25, descriptorIndex := 26, attributes := #[] }] 49 2 #[] #[])
  fields := #[]
  methods := #[k1m0, k1m1]
  instanceTypes := #[]
  staticTypes := #[]
  resolved := Array.replicate 34 none
  statics := none }

def pool2 : Array CpInfo := pool [(1, .class_ 2), (0, u "java/io/Serializable"), (0, .class_ 4), (0, u "java/lang/Object")] 2

/-- java/io/Serializable -/
def k2 : Class := { plain "java/io/Serializable" (some 0) with
  accessFlags := 1537
  interfaces := #[]
  cf := some (fileOf pool2 1 #[] #[] 1537 3 #[] #[])
  fields := #[]
  methods := #[]
  instanceTypes := #[]
  staticTypes := #[]
  resolved := Array.replicate 7 none
  statics := none }

def pool3 : Array CpInfo := pool [(1, .class_ 2), (0, u "java/lang/Comparable"), (0, .class_ 4), (0, u "java/lang/Object")] 7

/-- java/lang/Comparable -/
def k3 : Class := { plain "java/lang/Comparable" (some 0) with
  accessFlags := 1537
  interfaces := #[]
  cf := some (fileOf pool3 1 #[] #[] 1537 3 #[] #[])
  fields := #[]
  methods := #[]
  instanceTypes := #[]
  staticTypes := #[]
  resolved := Array.replicate 12 none
  statics := none }

def pool4 : Array CpInfo := pool [(2, .class_ 4), (1, u "java/lang/CharSequence"), (42, .class_ 48), (0, u "java/lang/CharSequence$1CodePointIterator"), (10, .class_ 60), (0, u "java/lang/CharSequence$1CharIterator"), (5, .class_ 67), (0, u "java/lang/Object")] 63

/-- java/lang/CharSequence -/
def k4 : Class := { plain "java/lang/CharSequence" (some 0) with
  accessFlags := 1537
  interfaces := #[]
  cf := some (fileOf pool4 2 #[.nestMembers #[47, 59]] #[] 1537 66 #[] #[])
  fields := #[]
  methods := #[]
  instanceTypes := #[]
  staticTypes := #[]
  resolved := Array.replicate 131 none
  statics := none }

def pool5 : Array CpInfo := pool [(1, .class_ 2), (0, u "java/lang/constant/Constable"), (0, .class_ 4), (0, u "java/lang/Object")] 6

/-- java/lang/constant/Constable -/
def k5 : Class := { plain "java/lang/constant/Constable" (some 0) with
  accessFlags := 1537
  interfaces := #[]
  cf := some (fileOf pool5 1 #[] #[] 1537 3 #[] #[])
  fields := #[]
  methods := #[]
  instanceTypes := #[]
  staticTypes := #[]
  resolved := Array.replicate 11 none
  statics := none }

def pool6 : Array CpInfo := pool [(1, .class_ 2), (0, u "java/lang/constant/ConstantDesc"), (0, .class_ 4), (0, u "java/lang/Object")] 32

/-- java/lang/constant/ConstantDesc -/
def k6 : Class := { plain "java/lang/constant/ConstantDesc" (some 0) with
  accessFlags := 1537
  interfaces := #[]
  cf := some (fileOf pool6 1 #[] #[] 1537 3 #[] #[])
  fields := #[]
  methods := #[]
  instanceTypes := #[]
  staticTypes := #[]
  resolved := Array.replicate 37 none
  statics := none }

def pool7 : Array CpInfo := pool [(1, .methodref 2 3), (0, .class_ 4), (0, .nameAndType 5 6), (0, u "java/lang/Object"), (0, u "<init>"), (0, u "()V"), (2, .fieldref 10 11), (0, .class_ 12), (0, .nameAndType 13 14), (0, u "java/lang/String"), (0, u "value"), (0, u "[B"), (0, .fieldref 10 16), (0, .nameAndType 17 18), (0, u "coder"), (0, u "B"), (2, u "hash"), (0, u "I"), (2, u "hashIsZero"), (0, u "Z"), (0, .methodref 10 28), (0, .nameAndType 5 29), (0, u "([CIILjava/lang/Void;)V"), (8, .fieldref 10 39), (0, .nameAndType 40 26), (0, u "COMPACT_STRINGS"), (1, .class_ 44), (1, u "java/lang/StringUTF16"), (0, u "compress"), (1, .methodref 42 48), (0, .nameAndType 49 50), (0, u "coderFromArrayLen"), (0, u "([BI)B"), (126, .methodref 42 178), (0, .nameAndType 45 179), (0, u "([CII)[B"), (395, .class_ 576), (0, u "java/lang/CharSequence"), (22, u "CASE_INSENSITIVE_ORDER"), (0, u "Ljava/util/Comparator;"), (409, u "([C)V"), (90, u "serialPersistentFields"), (0, u "[Ljava/io/ObjectStreamField;"), (0, .class_ 1104), (0, u "java/lang/String$CaseInsensitiveComparator"), (1, .class_ 1107), (0, u "java/io/Serializable"), (0, .class_ 1109), (0, u "java/lang/Comparable"), (0, .class_ 1111), (0, u "java/lang/constant/Constable"), (0, .class_ 1113), (0, u "java/lang/constant/ConstantDesc"), (2, u "serialVersionUID"), (0, u "J"), (3, u "REPL"), (0, u "C"), (2, u "LATIN1"), (1, u "UTF16")] 323

def k7m0 : Method := { name := "<init>", desc := "()V", sig := { parameters := [], returnType := none }, accessFlags := 1, code := none }
def k7c1 : Code := { maxStack := 5, maxLocals := 2, code := jdk_42_method_3_code, exceptionTable := #[], attributes := #[] }
def k7m1 : Method := { name := "<init>", desc := "([C)V", sig := { parameters := [(.array .char)], returnType := none }, accessFlags := 1, code := some k7c1 }
def k7c2 : Code := { maxStack := 4, maxLocals := 6, code := jdk_42_method_149_code, exceptionTable := #[], attributes := #[] }
def k7m2 : Method := { name := "<init>", desc := "([CIILjava/lang/Void;)V", sig := { parameters := [(.array .char), .int, .int, (.object "java/lang/Void")], returnType := none }, accessFlags := 2, code := some k7c2 }
/-- java/lang/String -/
def k7 : Class := { plain "java/lang/String" (some 0) with
  accessFlags := 49
  interfaces := #[2, 3, 4, 5, 6]
  cf := some (fileOf pool7 10 #[.nestMembers #[1103]] #[{ accessFlags := 1, nameIndex := 5, descriptorIndex := 6, attributes := #[] }, { accessFlags := 1, nameIndex := 5, descriptorIndex := 1010, attributes := #[] }, { accessFlags := 2, nameIndex := 5, descriptorIndex := 29, attributes := #[] }] 49 2 #[1106, 1108, 575, 1110, 1112] #[{ accessFlags := 18, nameIndex := 13, descriptorIndex := 14, attributes := #[] }, { accessFlags := 18, nameIndex := 17, descriptorIndex := 18, attributes := #[] }, { accessFlags := 2, nameIndex := 21, descriptorIndex := 22, attributes := #[] }, { accessFlags := 2, nameIndex := 25, descriptorIndex := 26, attributes := #[] }, { accessFlags := 26, nameIndex := 1116, descriptorIndex := 1117, attributes := #[] }, { accessFlags := 24, nameIndex := 40, descriptorIndex := 26, attributes := #[] }, { accessFlags := 26, nameIndex := 1101, descriptorIndex := 1102, attributes := #[] }, { accessFlags := 26, nameIndex := 1121, descriptorIndex := 1122, attributes := #[] }, { accessFlags := 25, nameIndex := 599, descriptorIndex := 600, attributes := #[] }, { accessFlags := 24, nameIndex := 1125, descriptorIndex := 18, attributes := #[] }, { accessFlags := 24, nameIndex := 1127, descriptorIndex := 18, attributes := #[] }])
  fields := #[{ name := "value", type := (.array .byte), accessFlags := 18, slot := 0, constantValue := 0 }, { name := "coder", type := .byte, accessFlags := 18, slot := 1, constantValue := 0 }, { name := "hash", type := .int, accessFlags := 2, slot := 2, constantValue := 0 }, { name := "hashIsZero", type := .boolean, accessFlags := 2, slot := 3, constantValue := 0 }, { name := "serialVersionUID", type := .long, accessFlags := 26, slot := 0, constantValue := 0 }, { name := "COMPACT_STRINGS", type := .boolean, accessFlags := 24, slot := 1, constantValue := 0 }, { name := "serialPersistentFields", type := (.array (.object "java/io/ObjectStreamField")), accessFlags := 26, slot := 2, constantValue := 0 }, { name := "REPL", type := .char, accessFlags := 26, slot := 3, constantValue := 0 }, { name := "CASE_INSENSITIVE_ORDER", type := (.object "java/util/Comparator"), accessFlags := 25, slot := 4, constantValue := 0 }, { name := "LATIN1", type := .byte, accessFlags := 24, slot := 5, constantValue := 0 }, { name := "UTF16", type := .byte, accessFlags := 24, slot := 6, constantValue := 0 }]
  methods := #[k7m0, k7m1, k7m2]
  instanceTypes := #[(.array .byte), .byte, .int, .boolean]
  staticTypes := #[.long, .boolean, (.array (.object "java/io/ObjectStreamField")), .char, (.object "java/util/Comparator"), .byte, .byte]
  resolved := Array.replicate 1451 none
  statics := some 0 }

def pool8 : Array CpInfo := pool [(6, .class_ 8), (1, u "java/lang/Object"), (0, u "<init>"), (0, u "()V"), (1, .class_ 14), (1, u "java/lang/StringUTF16"), (31, u "$assertionsDisabled"), (0, u "Z"), (13, u "HI_BYTE_SHIFT"), (0, u "I"), (2, u "LO_BYTE_SHIFT"), (49, .methodref 12 116), (0, .nameAndType 117 118), (0, u "compress"), (0, u "([CI[BII)I"), (3, u "([CII)[B"), (138, u "coderFromArrayLen"), (0, u "([BI)B"), (106, .class_ 371), (1, u "java/lang/StringUTF16$LinesSpliterator"), (58, u "MAX_LENGTH"), (196, .class_ 628), (0, u "java/lang/StringUTF16$CodePointsSpliterator"), (0, .class_ 630), (0, u "java/lang/StringUTF16$CharsSpliterator")] 4

def k8m0 : Method := { name := "<init>", desc := "()V", sig := { parameters := [], returnType := none }, accessFlags := 0, code := none }
def k8c1 : Code := { maxStack := 2, maxLocals := 2, code := jdk_52_method_15_code, exceptionTable := #[], attributes := #[] }
def k8m1 : Method := { name := "coderFromArrayLen", desc := "([BI)B", sig := { parameters := [(.array .byte), .int], returnType := some .byte }, accessFlags := 8, code := some k8c1 }
def k8c2 : Code := { maxStack := 5, maxLocals := 6, code := jdk_52_method_16_code, exceptionTable := #[], attributes := #[] }
def k8m2 : Method := { name := "compress", desc := "([CII)[B", sig := { parameters := [(.array .char), .int, .int], returnType := some (.array .byte) }, accessFlags := 9, code := some k8c2 }
def k8c3 : Code := { maxStack := 3, maxLocals := 7, code := jdk_52_method_21_code, exceptionTable := #[], attributes := #[] }
def k8m3 : Method := { name := "compress", desc := "([CI[BII)I", sig := { parameters := [(.array .char), .int, (.array .byte), .int, .int], returnType := some .int }, accessFlags := 9, code := some k8c3 }
/-- java/lang/StringUTF16 -/
def k8 : Class := { plain "java/lang/StringUTF16" (some 0) with
  accessFlags := 48
  interfaces := #[]
  cf := some (fileOf pool8 12 #[.nestMembers #[627, 629, 369]] #[{ accessFlags := 0, nameIndex := 9, descriptorIndex := 10, attributes := #[] }, { accessFlags := 8, nameIndex := 261, descriptorIndex := 262, attributes := #[] }, { accessFlags := 9, nameIndex := 117, descriptorIndex := 122, attributes := #[] }, { accessFlags := 9, nameIndex := 117, descriptorIndex := 118, attributes := #[] }] 48 6 #[] #[{ accessFlags := 26, nameIndex := 61, descriptorIndex := 62, attributes := #[] }, { accessFlags := 26, nameIndex := 65, descriptorIndex := 62, attributes := #[] }, { accessFlags := 24, nameIndex := 430, descriptorIndex := 62, attributes := #[] }, { accessFlags := 4120, nameIndex := 46, descriptorIndex := 47, attributes := #[] }])
  fields := #[{ name := "HI_BYTE_SHIFT", type := .int, accessFlags := 26, slot := 0, constantValue := 0 }, { name := "LO_BYTE_SHIFT", type := .int, accessFlags := 26, slot := 1, constantValue := 0 }, { name := "MAX_LENGTH", type := .int, accessFlags := 24, slot := 2, constantValue := 0 }, { name := "$assertionsDisabled", type := .boolean, accessFlags := 4120, slot := 3, constantValue := 0 }]
  methods := #[k8m0, k8m1, k8m2, k8m3]
  instanceTypes := #[]
  staticTypes := #[.int, .int, .int, .boolean]
  resolved := Array.replicate 635 none
  statics := none }

def pool9 : Array CpInfo := pool [(1, .methodref 2 3), (0, .class_ 4), (0, .nameAndType 5 6), (0, u "java/lang/Object"), (0, u "<init>"), (0, u "()V"), (0, .class_ 8), (0, u "java/lang/Record")] 13

def k9c0 : Code := { maxStack := 1, maxLocals := 1, code := jdk_30_method_1_code, exceptionTable := #[], attributes := #[] }
def k9m0 : Method := { name := "<init>", desc := "()V", sig := { parameters := [], returnType := none }, accessFlags := 4, code := some k9c0 }
/-- java/lang/Record -/
def k9 : Class := { plain "java/lang/Record" (some 0) with
  accessFlags := 1057
  interfaces := #[]
  cf := some (fileOf pool9 7 #[] #[{ accessFlags := 4, nameIndex := 5, descriptorIndex := 6, attributes := #[] }] 1057 2 #[] #[])
  fields := #[]
  methods := #[k9m0]
  instanceTypes := #[]
  staticTypes := #[]
  resolved := Array.replicate 22 none
  statics := none }

def pool10 : Array CpInfo := pool [(1, .methodref 2 3), (0, .class_ 4), (0, .nameAndType 5 6), (0, u "java/lang/Record"), (0, u "<init>"), (0, u "()V"), (0, .fieldref 8 9), (0, .class_ 10), (0, .nameAndType 11 12), (0, u "org/mercantry/Pages$Answer"), (0, u "status"), (0, u "I"), (0, .fieldref 8 14), (0, .nameAndType 15 16), (0, u "text"), (0, u "Ljava/lang/String;"), (14, u "(ILjava/lang/String;)V"), (3, u "isPage"), (0, u "()Z"), (7, .class_ 45), (0, u "org/mercantry/Pages")] 20

def k10c0 : Code := { maxStack := 2, maxLocals := 3, code := prog_96_method_1_code, exceptionTable := #[], attributes := #[] }
def k10m0 : Method := { name := "<init>", desc := "(ILjava/lang/String;)V", sig := { parameters := [.int, (.object "java/lang/String")], returnType := none }, accessFlags := 0, code := some k10c0 }
def k10c1 : Code := { maxStack := 2, maxLocals := 1, code := prog_96_method_2_code, exceptionTable := #[], attributes := #[] }
def k10m1 : Method := { name := "isPage", desc := "()Z", sig := { parameters := [], returnType := some .boolean }, accessFlags := 0, code := some k10c1 }
/-- org/mercantry/Pages$Answer -/
def k10 : Class := { plain "org/mercantry/Pages$Answer" (some 9) with
  accessFlags := 48
  interfaces := #[]
  cf := some (fileOf pool10 8 #[.nestHost 44] #[{ accessFlags := 0, nameIndex := 5, descriptorIndex := 31, attributes := #[] }, { accessFlags := 0, nameIndex := 35, descriptorIndex := 36, attributes := #[] }] 48 2 #[] #[{ accessFlags := 18, nameIndex := 11, descriptorIndex := 12, attributes := #[] }, { accessFlags := 18, nameIndex := 15, descriptorIndex := 16, attributes := #[] }])
  fields := #[{ name := "status", type := .int, accessFlags := 18, slot := 0, constantValue := 0 }, { name := "text", type := (.object "java/lang/String"), accessFlags := 18, slot := 1, constantValue := 0 }]
  methods := #[k10m0, k10m1]
  instanceTypes := #[.int, (.object "java/lang/String")]
  staticTypes := #[]
  resolved := Array.replicate 66 none
  statics := none }

def pool11 : Array CpInfo := pool [(4, .class_ 6), (1, u "java/lang/Object"), (0, u "<init>"), (0, u "()V"), (5, .class_ 16), (1, u "java/lang/StringLatin1"), (104, u "$assertionsDisabled"), (0, u "Z"), (98, .class_ 223), (1, u "java/lang/StringLatin1$LinesSpliterator"), (166, .class_ 391), (0, u "java/lang/StringLatin1$CharsSpliterator")] 3

def k11m0 : Method := { name := "<init>", desc := "()V", sig := { parameters := [], returnType := none }, accessFlags := 0, code := none }
/-- java/lang/StringLatin1 -/
def k11 : Class := { plain "java/lang/StringLatin1" (some 0) with
  accessFlags := 48
  interfaces := #[]
  cf := some (fileOf pool11 14 #[.nestMembers #[390, 221]] #[{ accessFlags := 0, nameIndex := 7, descriptorIndex := 8, attributes := #[] }] 48 4 #[] #[{ accessFlags := 4120, nameIndex := 121, descriptorIndex := 122, attributes := #[] }])
  fields := #[{ name := "$assertionsDisabled", type := .boolean, accessFlags := 4120, slot := 0, constantValue := 0 }]
  methods := #[k11m0]
  instanceTypes := #[]
  staticTypes := #[.boolean]
  resolved := Array.replicate 395 none
  statics := none }

def pool12 : Array CpInfo := pool [(2, .class_ 4), (1, u "java/lang/Object"), (0, u "<init>"), (0, u "()V"), (17, .class_ 26), (1, u "jdk/internal/util/Preconditions"), (28, .class_ 56), (0, u "jdk/internal/util/Preconditions$4"), (57, .class_ 115), (0, u "jdk/internal/util/Preconditions$1"), (7, u "SIOOBE_FORMATTER"), (0, u "Ljava/util/function/BiFunction;"), (0, .class_ 126), (0, u "jdk/internal/util/Preconditions$2"), (3, u "AIOOBE_FORMATTER"), (0, .class_ 132), (0, u "jdk/internal/util/Preconditions$3"), (3, u "IOOBE_FORMATTER")] 57

def k12m0 : Method := { name := "<init>", desc := "()V", sig := { parameters := [], returnType := none }, accessFlags := 1, code := none }
/-- jdk/internal/util/Preconditions -/
def k12 : Class := { plain "jdk/internal/util/Preconditions" (some 0) with
  accessFlags := 33
  interfaces := #[]
  cf := some (fileOf pool12 24 #[.nestMembers #[55, 131, 125, 114]] #[{ accessFlags := 1, nameIndex := 5, descriptorIndex := 6, attributes := #[] }] 33 2 #[] #[{ accessFlags := 25, nameIndex := 123, descriptorIndex := 124, attributes := #[] }, { accessFlags := 25, nameIndex := 130, descriptorIndex := 124, attributes := #[] }, { accessFlags := 25, nameIndex := 136, descriptorIndex := 124, attributes := #[] }])
  fields := #[{ name := "SIOOBE_FORMATTER", type := (.object "java/util/function/BiFunction"), accessFlags := 25, slot := 0, constantValue := 0 }, { name := "AIOOBE_FORMATTER", type := (.object "java/util/function/BiFunction"), accessFlags := 25, slot := 1, constantValue := 0 }, { name := "IOOBE_FORMATTER", type := (.object "java/util/function/BiFunction"), accessFlags := 25, slot := 2, constantValue := 0 }]
  methods := #[k12m0]
  instanceTypes := #[]
  staticTypes := #[(.object "java/util/function/BiFunction"), (.object "java/util/function/BiFunction"), (.object "java/util/function/BiFunction")]
  resolved := Array.replicate 194 none
  statics := some 1 }

def pool13 : Array CpInfo := pool [(9, u "<init>"), (6, .class_ 18), (1, u "java/lang/Object"), (0, u "()V"), (1, .class_ 23), (1, u "jdk/internal/util/ArraysSupport"), (0, u "LOG2_ARRAY_LONG_INDEX_SCALE"), (0, u "I"), (2, u "U"), (0, u "Ljdk/internal/misc/Unsafe;"), (8, u "BIG_ENDIAN"), (0, u "Z"), (8, u "LOG2_BYTE_BIT_SIZE"), (4, u "LOG2_ARRAY_INT_INDEX_SCALE"), (54, u "JLA"), (0, u "Ljdk/internal/access/JavaLangAccess;"), (11, u "LOG2_ARRAY_BOOLEAN_INDEX_SCALE"), (9, u "LOG2_ARRAY_BYTE_INDEX_SCALE"), (5, u "LOG2_ARRAY_CHAR_INDEX_SCALE"), (5, u "LOG2_ARRAY_SHORT_INDEX_SCALE"), (18, u "LOG2_ARRAY_FLOAT_INDEX_SCALE"), (24, u "LOG2_ARRAY_DOUBLE_INDEX_SCALE"), (89, u "T_BOOLEAN"), (2, u "T_CHAR"), (1, u "T_FLOAT"), (1, u "T_DOUBLE"), (1, u "T_BYTE"), (1, u "T_SHORT"), (1, u "T_INT"), (1, u "T_LONG"), (1, u "SOFT_MAX_ARRAY_LENGTH")] 83

def k13m0 : Method := { name := "<init>", desc := "()V", sig := { parameters := [], returnType := none }, accessFlags := 2, code := none }
/-- jdk/internal/util/ArraysSupport -/
def k13 : Class := { plain "jdk/internal/util/ArraysSupport" (some 0) with
  accessFlags := 33
  interfaces := #[]
  cf := some (fileOf pool13 21 #[] #[{ accessFlags := 2, nameIndex := 9, descriptorIndex := 19, attributes := #[] }] 33 16 #[] #[{ accessFlags := 24, nameIndex := 28, descriptorIndex := 29, attributes := #[] }, { accessFlags := 26, nameIndex := 38, descriptorIndex := 39, attributes := #[] }, { accessFlags := 25, nameIndex := 121, descriptorIndex := 25, attributes := #[] }, { accessFlags := 25, nameIndex := 131, descriptorIndex := 25, attributes := #[] }, { accessFlags := 25, nameIndex := 137, descriptorIndex := 25, attributes := #[] }, { accessFlags := 25, nameIndex := 143, descriptorIndex := 25, attributes := #[] }, { accessFlags := 25, nameIndex := 53, descriptorIndex := 25, attributes := #[] }, { accessFlags := 25, nameIndex := 24, descriptorIndex := 25, attributes := #[] }, { accessFlags := 25, nameIndex := 162, descriptorIndex := 25, attributes := #[] }, { accessFlags := 25, nameIndex := 187, descriptorIndex := 25, attributes := #[] }, { accessFlags := 26, nameIndex := 48, descriptorIndex := 25, attributes := #[] }, { accessFlags := 25, nameIndex := 277, descriptorIndex := 25, attributes := #[] }, { accessFlags := 25, nameIndex := 280, descriptorIndex := 25, attributes := #[] }, { accessFlags := 25, nameIndex := 282, descriptorIndex := 25, attributes := #[] }, { accessFlags := 25, nameIndex := 284, descriptorIndex := 25, attributes := #[] }, { accessFlags := 25, nameIndex := 286, descriptorIndex := 25, attributes := #[] }, { accessFlags := 25, nameIndex := 288, descriptorIndex := 25, attributes := #[] }, { accessFlags := 25, nameIndex := 290, descriptorIndex := 25, attributes := #[] }, { accessFlags := 25, nameIndex := 292, descriptorIndex := 25, attributes := #[] }, { accessFlags := 26, nameIndex := 108, descriptorIndex := 109, attributes := #[] }, { accessFlags := 25, nameIndex := 294, descriptorIndex := 25, attributes := #[] }])
  fields := #[{ name := "U", type := (.object "jdk/internal/misc/Unsafe"), accessFlags := 24, slot := 0, constantValue := 0 }, { name := "BIG_ENDIAN", type := .boolean, accessFlags := 26, slot := 1, constantValue := 0 }, { name := "LOG2_ARRAY_BOOLEAN_INDEX_SCALE", type := .int, accessFlags := 25, slot := 2, constantValue := 0 }, { name := "LOG2_ARRAY_BYTE_INDEX_SCALE", type := .int, accessFlags := 25, slot := 3, constantValue := 0 }, { name := "LOG2_ARRAY_CHAR_INDEX_SCALE", type := .int, accessFlags := 25, slot := 4, constantValue := 0 }, { name := "LOG2_ARRAY_SHORT_INDEX_SCALE", type := .int, accessFlags := 25, slot := 5, constantValue := 0 }, { name := "LOG2_ARRAY_INT_INDEX_SCALE", type := .int, accessFlags := 25, slot := 6, constantValue := 0 }, { name := "LOG2_ARRAY_LONG_INDEX_SCALE", type := .int, accessFlags := 25, slot := 7, constantValue := 0 }, { name := "LOG2_ARRAY_FLOAT_INDEX_SCALE", type := .int, accessFlags := 25, slot := 8, constantValue := 0 }, { name := "LOG2_ARRAY_DOUBLE_INDEX_SCALE", type := .int, accessFlags := 25, slot := 9, constantValue := 0 }, { name := "LOG2_BYTE_BIT_SIZE", type := .int, accessFlags := 26, slot := 10, constantValue := 0 }, { name := "T_BOOLEAN", type := .int, accessFlags := 25, slot := 11, constantValue := 0 }, { name := "T_CHAR", type := .int, accessFlags := 25, slot := 12, constantValue := 0 }, { name := "T_FLOAT", type := .int, accessFlags := 25, slot := 13, constantValue := 0 }, { name := "T_DOUBLE", type := .int, accessFlags := 25, slot := 14, constantValue := 0 }, { name := "T_BYTE", type := .int, accessFlags := 25, slot := 15, constantValue := 0 }, { name := "T_SHORT", type := .int, accessFlags := 25, slot := 16, constantValue := 0 }, { name := "T_INT", type := .int, accessFlags := 25, slot := 17, constantValue := 0 }, { name := "T_LONG", type := .int, accessFlags := 25, slot := 18, constantValue := 0 }, { name := "JLA", type := (.object "jdk/internal/access/JavaLangAccess"), accessFlags := 26, slot := 19, constantValue := 0 }, { name := "SOFT_MAX_ARRAY_LENGTH", type := .int, accessFlags := 25, slot := 20, constantValue := 0 }]
  methods := #[k13m0]
  instanceTypes := #[]
  staticTypes := #[(.object "jdk/internal/misc/Unsafe"), .boolean, .int, .int, .int, .int, .int, .int, .int, .int, .int, .int, .int, .int, .int, .int, .int, .int, .int, (.object "jdk/internal/access/JavaLangAccess"), .int]
  resolved := Array.replicate 378 none
  statics := none }

def pool14 : Array CpInfo := pool [(1, u "java/lang/Cloneable"), (0, .class_ 1), (0, u "java/lang/Object"), (0, .class_ 3)] 3

/-- java/lang/Cloneable -/
def k14 : Class := { plain "java/lang/Cloneable" (some 0) with
  accessFlags := 1537
  interfaces := #[]
  cf := some (fileOf pool14 2 #[] #[] 1537 4 #[] #[])
  fields := #[]
  methods := #[]
  instanceTypes := #[]
  staticTypes := #[]
  resolved := Array.replicate 8 none
  statics := none }

/-- the primitive byte -/
def k15 : Class := { plain "byte" none with kind := .primitive 'B', accessFlags := 0x411 }
/-- [B -/
def k16 : Class := { plain "[B" (some 0) with kind := .array 15 .byte, interfaces := #[14, 2], accessFlags := 1041 }

/-- the primitive char -/
def k17 : Class := { plain "char" none with kind := .primitive 'C', accessFlags := 0x411 }
/-- [C -/
def k18 : Class := { plain "[C" (some 0) with kind := .array 17 .char, interfaces := #[14, 2], accessFlags := 1041 }

/-- the primitive int -/
def k19 : Class := { plain "int" none with kind := .primitive 'I', accessFlags := 0x411 }
/-- [I -/
def k20 : Class := { plain "[I" (some 0) with kind := .array 19 .int, interfaces := #[14, 2], accessFlags := 1041 }

def heap : Heap := #[{ cls := 7, slots := #[.long 0, .int 1, .null, .int 0, .null, .int 0, .int 0], vm := .statics 7 },
  { cls := 12, slots := #[.null, .null, .null], vm := .statics 12 }]
def classes : Array Class := #[k0, k1, k2, k3, k4, k5, k6, k7, k8, k9, k10, k11, k12, k13, k14, k15, k16, k17, k18, k19, k20]
def interned : List (Array UInt16 × Addr) := []
def slotsUsed : Nat := 10
def theMethod : MethodId := ⟨1, 1⟩
def args0 : Array Value := #[.int 6, .int 5, .int 9]
def aboutOver (below : List Frame) : State where
  vm := { classes := classes, interned := interned.toArray }
  heap := heap
  slotsUsed := slotsUsed
  threads := #[{ frames := .invoking theMethod args0 :: below }]
def below0 : List Frame := [.native { method := ⟨0, 0⟩, args := #[] }]
def about1 : State := aboutOver below0
def p0 : Program := .bare "" "" ""
def e0 : Env := launch0.env 0 0 0
theorem w_frames : about1.frames = Frame.invoking theMethod args0 :: below0 := rfl
set_option maxRecDepth 65536 in
theorem w_args : argsFit about1.vm theMethod args0 = true := by decide +kernel
set_option maxRecDepth 65536 in
theorem w_heap : heapFits about1 = true := by decide +kernel
set_option maxRecDepth 65536 in
theorem w_runnable : about1.curStatus? = some .runnable := by decide +kernel
set_option maxRecDepth 65536 in
theorem w_alone : about1.alone = true := by decide +kernel
set_option maxRecDepth 65536 in
theorem w_named : about1.methodNamed? x = some theMethod := by decide +kernel
set_option maxRecDepth 65536 in
theorem w_hears : about1.hears theMethod below0 = true := by decide +kernel
set_option maxRecDepth 65536 in
theorem w_ripe : about1.ripe theMethod args0 below0 = true := by decide +kernel
theorem w_running : about1.status = .running := rfl
set_option maxRecDepth 65536 in
theorem w_room : about1.hasRoom e0.platform room_1 = true :=
  launch0.hasRoom_least _ room_1 (by decide +kernel) (by decide +kernel) (by decide +kernel) (by decide +kernel) (by decide +kernel) (by decide +kernel)
theorem allAtoms_all (ts : List Jvm.Cond) (a : Array Jvm.Value) (st : Jvm.State) : (allAtoms ts).before a st = ts.all (fun c => c.before a st) := by
  induction ts with
  | nil => rfl
  | cons c t ih =>
    show (Jvm.Cond.and c (allAtoms t)).before a st = _
    rw [Jvm.Cond.before_and, ih, List.all_cons]
def words1 : List Jvm.Cond := Jvm.Cond.code x code maxLocals ret :: tables_1
/-- a 'code' word, met by the world's own term for the bytes: nothing is compared byte by byte -/
theorem code_word {y : MethodName} {bytes : ByteArray} {mx : Nat} {rt : Option FieldType} {a : Array Value} {s : State} {m : MethodId} {meth : Method} {c : Code} (h1 : s.methodNamed? y = some m) (h2 : s.vm.method? m = some meth) (h3 : meth.code = some c) (h4 : c.code = bytes)
    (h5 : (c.maxLocals == mx && c.exceptionTable.isEmpty && decide (c.maxStack ≤ mostOperands) && decide (meth.sig.returnType = rt) && !meth.locks && decide (parseMethodDescriptor y.desc = some meth.sig)) = true) : (Jvm.Cond.code y bytes mx rt).before a s = true := by
  simp only [Bool.and_eq_true, beq_iff_eq, Bool.not_eq_true', decide_eq_true_eq] at h5
  obtain ⟨⟨⟨⟨⟨g1, g2⟩, g3⟩, g4⟩, g5⟩, g6⟩ := h5
  simp [Cond.before, Cond.holds, Cond.value, h1, h2, h3, h4, g1, g2, g3, g4, g5, g6]
def isCode : Jvm.Cond → Bool
  | .code _ _ _ _ => true
  | _ => false
theorem all_split {L : List Jvm.Cond} {P : Jvm.Cond → Bool} (h1 : L.all (fun c => isCode c || P c) = true) (h2 : ∀ c ∈ L.filter isCode, P c = true) : L.all P = true := by
  refine List.all_eq_true.mpr fun c hc => ?_
  have h := List.all_eq_true.mp h1 c hc
  rcases Bool.eq_false_or_eq_true (isCode c) with hi | hi
  · exact h2 c (List.mem_filter.mpr ⟨hc, hi⟩)
  · simpa [hi] using h
set_option maxRecDepth 65536 in
theorem w_c0 : (Jvm.Cond.code x code maxLocals ret).before args0 about1 = true := code_word (m := ⟨1, 1⟩) (meth := k1m1) (c := k1c1) (by decide +kernel) rfl rfl rfl (by decide +kernel)
set_option maxRecDepth 65536 in
theorem w_c1 : (Jvm.Cond.code ({ cls := "java/lang/String", name := "<init>", desc := "([C)V" } : Jvm.MethodName) jdk_42_method_3_code (2 : Nat) (Option.none : Option Jvm.ClassFile.FieldType)).before args0 about1 = true := code_word (m := ⟨7, 1⟩) (meth := k7m1) (c := k7c1) (by decide +kernel) rfl rfl rfl (by decide +kernel)
set_option maxRecDepth 65536 in
theorem w_c2 : (Jvm.Cond.code ({ cls := "java/lang/String", name := "<init>", desc := "([CIILjava/lang/Void;)V" } : Jvm.MethodName) jdk_42_method_149_code (6 : Nat) (Option.none : Option Jvm.ClassFile.FieldType)).before args0 about1 = true := code_word (m := ⟨7, 2⟩) (meth := k7m2) (c := k7c2) (by decide +kernel) rfl rfl rfl (by decide +kernel)
set_option maxRecDepth 65536 in
theorem w_c3 : (Jvm.Cond.code ({ cls := "java/lang/Object", name := "<init>", desc := "()V" } : Jvm.MethodName) object_method_1_code (1 : Nat) (Option.none : Option Jvm.ClassFile.FieldType)).before args0 about1 = true := code_word (m := ⟨0, 0⟩) (meth := k0m0) (c := k0c0) (by decide +kernel) rfl rfl rfl (by decide +kernel)
set_option maxRecDepth 65536 in
theorem w_c4 : (Jvm.Cond.code ({ cls := "java/lang/StringUTF16", name := "compress", desc := "([CII)[B" } : Jvm.MethodName) jdk_52_method_16_code (6 : Nat) (Option.some (Jvm.ClassFile.FieldType.array Jvm.ClassFile.FieldType.byte))).before args0 about1 = true := code_word (m := ⟨8, 2⟩) (meth := k8m2) (c := k8c2) (by decide +kernel) rfl rfl rfl (by decide +kernel)
set_option maxRecDepth 65536 in
theorem w_c5 : (Jvm.Cond.code ({ cls := "java/lang/StringUTF16", name := "compress", desc := "([CI[BII)I" } : Jvm.MethodName) jdk_52_method_21_code (7 : Nat) (Option.some Jvm.ClassFile.FieldType.int)).before args0 about1 = true := code_word (m := ⟨8, 3⟩) (meth := k8m3) (c := k8c3) (by decide +kernel) rfl rfl rfl (by decide +kernel)
set_option maxRecDepth 65536 in
theorem w_c6 : (Jvm.Cond.code ({ cls := "java/lang/StringUTF16", name := "coderFromArrayLen", desc := "([BI)B" } : Jvm.MethodName) jdk_52_method_15_code (2 : Nat) (Option.some Jvm.ClassFile.FieldType.byte)).before args0 about1 = true := code_word (m := ⟨8, 1⟩) (meth := k8m1) (c := k8c1) (by decide +kernel) rfl rfl rfl (by decide +kernel)
set_option maxRecDepth 65536 in
theorem w_c7 : (Jvm.Cond.code ({ cls := "org/mercantry/Pages$Answer", name := "<init>", desc := "(ILjava/lang/String;)V" } : Jvm.MethodName) prog_96_method_1_code (3 : Nat) (Option.none : Option Jvm.ClassFile.FieldType)).before args0 about1 = true := code_word (m := ⟨10, 0⟩) (meth := k10m0) (c := k10c0) (by decide +kernel) rfl rfl rfl (by decide +kernel)
set_option maxRecDepth 65536 in
theorem w_c8 : (Jvm.Cond.code ({ cls := "java/lang/Record", name := "<init>", desc := "()V" } : Jvm.MethodName) jdk_30_method_1_code (1 : Nat) (Option.none : Option Jvm.ClassFile.FieldType)).before args0 about1 = true := code_word (m := ⟨9, 0⟩) (meth := k9m0) (c := k9c0) (by decide +kernel) rfl rfl rfl (by decide +kernel)
set_option maxRecDepth 65536 in
theorem w_c9 : (Jvm.Cond.code ({ cls := "org/mercantry/Pages$Answer", name := "isPage", desc := "()Z" } : Jvm.MethodName) prog_96_method_2_code (1 : Nat) (Option.some Jvm.ClassFile.FieldType.boolean)).before args0 about1 = true := code_word (m := ⟨10, 1⟩) (meth := k10m1) (c := k10c1) (by decide +kernel) rfl rfl rfl (by decide +kernel)
def codes1 : List Jvm.Cond := [Jvm.Cond.code x code maxLocals ret, Jvm.Cond.code ({ cls := "java/lang/String", name := "<init>", desc := "([C)V" } : Jvm.MethodName) jdk_42_method_3_code (2 : Nat) (Option.none : Option Jvm.ClassFile.FieldType), Jvm.Cond.code ({ cls := "java/lang/String", name := "<init>", desc := "([CIILjava/lang/Void;)V" } : Jvm.MethodName) jdk_42_method_149_code (6 : Nat) (Option.none : Option Jvm.ClassFile.FieldType), Jvm.Cond.code ({ cls := "java/lang/Object", name := "<init>", desc := "()V" } : Jvm.MethodName) object_method_1_code (1 : Nat) (Option.none : Option Jvm.ClassFile.FieldType), Jvm.Cond.code ({ cls := "java/lang/StringUTF16", name := "compress", desc := "([CII)[B" } : Jvm.MethodName) jdk_52_method_16_code (6 : Nat) (Option.some (Jvm.ClassFile.FieldType.array Jvm.ClassFile.FieldType.byte)), Jvm.Cond.code ({ cls := "java/lang/StringUTF16", name := "compress", desc := "([CI[BII)I" } : Jvm.MethodName) jdk_52_method_21_code (7 : Nat) (Option.some Jvm.ClassFile.FieldType.int), Jvm.Cond.code ({ cls := "java/lang/StringUTF16", name := "coderFromArrayLen", desc := "([BI)B" } : Jvm.MethodName) jdk_52_method_15_code (2 : Nat) (Option.some Jvm.ClassFile.FieldType.byte), Jvm.Cond.code ({ cls := "org/mercantry/Pages$Answer", name := "<init>", desc := "(ILjava/lang/String;)V" } : Jvm.MethodName) prog_96_method_1_code (3 : Nat) (Option.none : Option Jvm.ClassFile.FieldType), Jvm.Cond.code ({ cls := "java/lang/Record", name := "<init>", desc := "()V" } : Jvm.MethodName) jdk_30_method_1_code (1 : Nat) (Option.none : Option Jvm.ClassFile.FieldType), Jvm.Cond.code ({ cls := "org/mercantry/Pages$Answer", name := "isPage", desc := "()Z" } : Jvm.MethodName) prog_96_method_2_code (1 : Nat) (Option.some Jvm.ClassFile.FieldType.boolean)]
set_option maxRecDepth 65536 in
theorem codes_eq : words1.filter isCode = codes1 := rfl
theorem w_codes : ∀ c ∈ words1.filter isCode, c.before args0 about1 = true := by
  rw [codes_eq]
  intro c hc
  simp only [codes1, List.mem_cons, List.not_mem_nil, or_false] at hc
  rcases hc with rfl | rfl | rfl | rfl | rfl | rfl | rfl | rfl | rfl | rfl
  · exact w_c0
  · exact w_c1
  · exact w_c2
  · exact w_c3
  · exact w_c4
  · exact w_c5
  · exact w_c6
  · exact w_c7
  · exact w_c8
  · exact w_c9
set_option maxRecDepth 65536 in
theorem w_t1 : (words1.take 24).all (fun c => isCode c || c.before args0 about1) = true := by decide +kernel
set_option maxRecDepth 65536 in
theorem w_t2 : ((words1.drop 24).take 24).all (fun c => isCode c || c.before args0 about1) = true := by decide +kernel
set_option maxRecDepth 65536 in
theorem w_t3 : ((words1.drop 24).drop 24).all (fun c => isCode c || c.before args0 about1) = true := by decide +kernel
theorem w_tables : (allAtoms (Jvm.Cond.code x code maxLocals ret :: tables_1)).before args0 about1 = true := by
  rw [allAtoms_all]
  show words1.all (fun c => c.before args0 about1) = true
  refine all_split ?_ w_codes
  rw [← List.take_append_drop 24 words1, List.all_append, w_t1, ← List.take_append_drop 24 (words1.drop 24), List.all_append, w_t2, w_t3]
  rfl
set_option maxRecDepth 65536 in
theorem w_rest : rest_1_c.before args0 about1 = true := by decide +kernel
set_option maxRecDepth 65536 in
theorem w_case : (Jvm.Cond.and given_1 narrow_1).before args0 about1 = true := by decide +kernel
theorem w_applies : (headSpec (Jvm.Cond.code x code maxLocals ret :: tables_1) room_1).applies x e0.platform about1 = true :=
  (Spec.applies_iff w_frames).mpr ⟨w_running, w_runnable, w_alone, w_named, w_hears, w_ripe, w_room, w_tables⟩
theorem atStart : AtStart classFile x code maxLocals ret World_1 tables_1 room_1 Calls_1 rest_1 Pre_1 launch0 p0 e0 about1 theMethod args0 below0 :=
  ⟨lists_1, trivial, launch0.admits_env _ _ _, launch0.least_env, fairChoices_fair.cas, fairChoices_fair.clock, w_frames, w_args, w_heap, w_applies, trivial, w_rest, w_case⟩
end start1
theorem witness_1 : WitnessClaimed_1 := ⟨start1.p0, start1.e0, start1.about1, start1.theMethod, start1.args0, start1.below0, start1.atStart⟩
end Jvm.Pilot.@@N@@

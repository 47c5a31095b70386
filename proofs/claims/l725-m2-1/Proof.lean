import JvmDerived
import JvmDerived.Pilot.@@N@@Statement
import JvmDerived.Pilot.@@N@@Code
set_option linter.unusedVariables false
set_option linter.unusedSimpArgs false
namespace Jvm.Pilot.@@N@@
open Jvm Jvm.ClassFile Sem Op Lib Jvm.Free Jvm.Stand Jvm.LawKit Jvm.RoadKit Bundle Jvm.Pilot.@@N@@.Jvm.D
/-! A small calculus of my own over the library's laws: Run .. pc Ls st says: from every state at which this body stands with that heap, that pc, those locals and that stack the invocation comes back, and Q holds of what it returns and of the heap. -/
section Own
variable {l : Launch} {Z : State} {y : MethodName} {bytes : ByteArray} {ml : Nat} {ret : Option FieldType} {R : Room} {n0 : Nat} {Q : Option Value → Heap → Prop} {h : Heap} {k n : Nat} {pc : Nat} {Ls : List Slot} {st : List Value} {a0 : Array Value}

def own_Ctx (p : Program) (s : State) (m : MethodId) (meth : Method) (c : Code) (Z : State) (y : MethodName) (bytes : ByteArray) (ml : Nat) (ret : Option FieldType) : Prop :=
  p.tables.exec = Jvm.exec ∧ c.code = bytes ∧ c.maxLocals = ml ∧ Z.Warmed39 s.vm ∧ s.vm.findClass y.cls = some m.cls ∧ meth.name = y.name ∧ meth.sig.returnType = ret ∧ meth.locks = false

def Run (l : Launch) (Z : State) (y : MethodName) (bytes : ByteArray) (ml : Nat) (ret : Option FieldType) (R : Room) (n0 : Nat) (Q : Option Value → Heap → Prop) (h : Heap) (k n : Nat) (pc : Nat) (Ls : List Slot) (st : List Value) : Prop :=
  ∀ (p : Program) (e : Env) (s : State) (m : MethodId) (args : Array Value) (below : List Frame) (meth : Method) (c : Code) (T : State) (locs : List Loc),
    own_Ctx p s m meth c Z y bytes ml ret → Stand p l e R s m args below meth c T locs k n → Fr n0 locs → T.heap = h →
    ∃ s₂ o, Steps p.tables e below (T.setTop (mkF m pc Ls.toArray st)) s₂ ∧ s₂.status = .running ∧ Ended s₂ below o ∧ ∃ v L, o = .returned v ∧ (Q v s₂.heap ∧ Fr n0 L) ∧ FrameEnd s o s₂ L R.cells R.slots

/-- a step that leaves the state as it is -/
theorem Run.step {pc' : Nat} {Ls' : List Slot} {st' : List Value} (K : Run l Z y bytes ml ret R n0 Q h k n pc' Ls' st')
    (H : ∀ (p : Program) (e : Env) (s : State) (m : MethodId) (args : Array Value) (below : List Frame) (meth : Method) (c : Code) (T : State) (locs : List Loc),
      own_Ctx p s m meth c Z y bytes ml ret → Stand p l e R s m args below meth c T locs k n → T.heap = h → ∀ t, Steps p.tables e below (T.setTop (mkF m pc' Ls'.toArray st')) t → Steps p.tables e below (T.setTop (mkF m pc Ls.toArray st)) t) :
    Run l Z y bytes ml ret R n0 Q h k n pc Ls st := fun p e s m args below meth c T locs C X N E => by
  obtain ⟨s2, o, h1, h2⟩ := K p e s m args below meth c T locs C X N E
  exact ⟨s2, o, H p e s m args below meth c T locs C X E _ h1, h2⟩

/-- a step that moves the state -/
theorem Run.move {pc' : Nat} {Ls' : List Slot} {st' : List Value} {h' : Heap} {k' n' : Nat} (K : Run l Z y bytes ml ret R n0 Q h' k' n' pc' Ls' st')
    (H : ∀ (p : Program) (e : Env) (s : State) (m : MethodId) (args : Array Value) (below : List Frame) (meth : Method) (c : Code) (T : State) (locs : List Loc),
      own_Ctx p s m meth c Z y bytes ml ret → Stand p l e R s m args below meth c T locs k n → Fr n0 locs → T.heap = h →
        ∃ T' locs', Stand p l e R s m args below meth c T' locs' k' n' ∧ Fr n0 locs' ∧ T'.heap = h' ∧ ∀ t, Steps p.tables e below (T'.setTop (mkF m pc' Ls'.toArray st')) t → Steps p.tables e below (T.setTop (mkF m pc Ls.toArray st)) t) :
    Run l Z y bytes ml ret R n0 Q h k n pc Ls st := fun p e s m args below meth c T locs C X N E => by
  obtain ⟨T', locs', X', N', E', st'⟩ := H p e s m args below meth c T locs C X N E
  obtain ⟨s2, o, h1, h2⟩ := K p e s m args below meth c T' locs' C X' N' E'
  exact ⟨s2, o, st' _ h1, h2⟩

/-! loads, constants -/
theorem own_get {m : MethodId} {j : Nat} {v : Value} (h : Ls[j]? = some (.val v)) : (mkF m pc Ls.toArray st).locals[j]? = some (.val v) := by
  show Ls.toArray[j]? = _; rw [List.getElem?_toArray]; exact h
theorem r_aloadN {j : Fin 4} {a : Addr} (pc' : Nat) (hd : decode bytes pc = .ok (.aload_n j, 1)) (hp : pc + 1 = pc') (hl : Ls[j.val]? = some (.val (.ref a))) (K : Run l Z y bytes ml ret R n0 Q h k n pc' Ls (.ref a :: st)) : Run l Z y bytes ml ret R n0 Q h k n pc Ls st := by
  subst hp; exact K.step fun p e s m args below meth c T locs C X E t q => XS.aloadN X.here C.1 rfl (hb C.2.1 hd) (own_get hl) rfl q
theorem r_aload {j : Nat} {a : Addr} (pc' : Nat) (hd : decode bytes pc = .ok (.aload j, 2)) (hp : pc + 2 = pc') (hl : Ls[j]? = some (.val (.ref a))) (K : Run l Z y bytes ml ret R n0 Q h k n pc' Ls (.ref a :: st)) : Run l Z y bytes ml ret R n0 Q h k n pc Ls st := by
  subst hp; exact K.step fun p e s m args below meth c T locs C X E t q => XS.aload X.here C.1 rfl (hb C.2.1 hd) (own_get hl) rfl q
theorem r_aloadNV {j : Fin 4} {v : Value} (pc' : Nat) (hd : decode bytes pc = .ok (.aload_n j, 1)) (hp : pc + 1 = pc') (hl : Ls[j.val]? = some (.val v)) (hv : v.isRef = true) (K : Run l Z y bytes ml ret R n0 Q h k n pc' Ls (v :: st)) : Run l Z y bytes ml ret R n0 Q h k n pc Ls st := by
  subst hp; exact K.step fun p e s m args below meth c T locs C X E t q => XS.aloadN X.here C.1 rfl (hb C.2.1 hd) (own_get hl) hv q
theorem r_aloadV {j : Nat} {v : Value} (pc' : Nat) (hd : decode bytes pc = .ok (.aload j, 2)) (hp : pc + 2 = pc') (hl : Ls[j]? = some (.val v)) (hv : v.isRef = true) (K : Run l Z y bytes ml ret R n0 Q h k n pc' Ls (v :: st)) : Run l Z y bytes ml ret R n0 Q h k n pc Ls st := by
  subst hp; exact K.step fun p e s m args below meth c T locs C X E t q => XS.aload X.here C.1 rfl (hb C.2.1 hd) (own_get hl) hv q
theorem r_iloadN {j : Fin 4} {v : Int32} (pc' : Nat) (hd : decode bytes pc = .ok (.iload_n j, 1)) (hp : pc + 1 = pc') (hl : Ls[j.val]? = some (.val (.int v))) (K : Run l Z y bytes ml ret R n0 Q h k n pc' Ls (.int v :: st)) : Run l Z y bytes ml ret R n0 Q h k n pc Ls st := by
  subst hp; exact K.step fun p e s m args below meth c T locs C X E t q => XS.iloadN X.here C.1 rfl (hb C.2.1 hd) (own_get hl) q
theorem r_iload {j : Nat} {v : Int32} (pc' : Nat) (hd : decode bytes pc = .ok (.iload j, 2)) (hp : pc + 2 = pc') (hl : Ls[j]? = some (.val (.int v))) (K : Run l Z y bytes ml ret R n0 Q h k n pc' Ls (.int v :: st)) : Run l Z y bytes ml ret R n0 Q h k n pc Ls st := by
  subst hp; exact K.step fun p e s m args below meth c T locs C X E t q => XS.iload X.here C.1 rfl (hb C.2.1 hd) (own_get hl) q
theorem r_lloadN {j : Fin 4} {v : Int64} (pc' : Nat) (hd : decode bytes pc = .ok (.lload_n j, 1)) (hp : pc + 1 = pc') (hl : Ls[j.val]? = some (.val (.long v))) (K : Run l Z y bytes ml ret R n0 Q h k n pc' Ls (.long v :: st)) : Run l Z y bytes ml ret R n0 Q h k n pc Ls st := by
  subst hp; exact K.step fun p e s m args below meth c T locs C X E t q => XT.lloadN X.here C.1 rfl (hb C.2.1 hd) (own_get hl) q
theorem r_lload {j : Nat} {v : Int64} (pc' : Nat) (hd : decode bytes pc = .ok (.lload j, 2)) (hp : pc + 2 = pc') (hl : Ls[j]? = some (.val (.long v))) (K : Run l Z y bytes ml ret R n0 Q h k n pc' Ls (.long v :: st)) : Run l Z y bytes ml ret R n0 Q h k n pc Ls st := by
  subst hp; exact K.step fun p e s m args below meth c T locs C X E t q => XT.lload X.here C.1 rfl (hb C.2.1 hd) (own_get hl) q
theorem r_iconst {i : Int} (v : Int32) (pc' : Nat) (hd : decode bytes pc = .ok (.iconst i, 1)) (hp : pc + 1 = pc') (hv : Int32.ofInt i = v) (K : Run l Z y bytes ml ret R n0 Q h k n pc' Ls (.int v :: st)) : Run l Z y bytes ml ret R n0 Q h k n pc Ls st := by
  subst hp hv; exact K.step fun p e s m args below meth c T locs C X E t q => XS.iconst X.here C.1 rfl (hb C.2.1 hd) q
theorem r_bipush {i : Int} (v : Int32) (pc' : Nat) (hd : decode bytes pc = .ok (.bipush i, 2)) (hp : pc + 2 = pc') (hv : (Int8.ofInt i).toInt32 = v) (K : Run l Z y bytes ml ret R n0 Q h k n pc' Ls (.int v :: st)) : Run l Z y bytes ml ret R n0 Q h k n pc Ls st := by
  subst hp hv; exact K.step fun p e s m args below meth c T locs C X E t q => XS.bipush X.here C.1 rfl (hb C.2.1 hd) q
theorem r_sipush {i : Int} (v : Int32) (pc' : Nat) (hd : decode bytes pc = .ok (.sipush i, 3)) (hp : pc + 3 = pc') (hv : (Int16.ofInt i).toInt32 = v) (K : Run l Z y bytes ml ret R n0 Q h k n pc' Ls (.int v :: st)) : Run l Z y bytes ml ret R n0 Q h k n pc Ls st := by
  subst hp hv; exact K.step fun p e s m args below meth c T locs C X E t q => XS.sipush X.here C.1 rfl (hb C.2.1 hd) q
theorem r_lconst {i : Fin 2} (v : Int64) (pc' : Nat) (hd : decode bytes pc = .ok (.lconst i, 1)) (hp : pc + 1 = pc') (hv : Int64.ofNat i = v) (K : Run l Z y bytes ml ret R n0 Q h k n pc' Ls (.long v :: st)) : Run l Z y bytes ml ret R n0 Q h k n pc Ls st := by
  subst hp hv; exact K.step fun p e s m args below meth c T locs C X E t q => XT.lconst X.here C.1 rfl (hb C.2.1 hd) q
theorem r_null (pc' : Nat) (hd : decode bytes pc = .ok (.aconst_null, 1)) (hp : pc + 1 = pc') (K : Run l Z y bytes ml ret R n0 Q h k n pc' Ls (.null :: st)) : Run l Z y bytes ml ret R n0 Q h k n pc Ls st := by
  subst hp; exact K.step fun p e s m args below meth c T locs C X E t q => XS.aconstNull X.here C.1 rfl (hb C.2.1 hd) q
theorem r_ldc {i : Nat} {v : Int32} (pc' : Nat) (hd : decode bytes pc = .ok (.ldc i, 2)) (hp : pc + 2 = pc') (w : (Jvm.Cond.constant y.cls i v).before a0 Z = true) (K : Run l Z y bytes ml ret R n0 Q h k n pc' Ls (.int v :: st)) : Run l Z y bytes ml ret R n0 Q h k n pc Ls st := by
  subst hp; exact K.step fun p e s m args below meth c T locs C X E t q => X.ldcInt C.1 C.2.2.2.2.1 (mvT C.2.2.2.1 w) (g := mkF m pc Ls.toArray st) rfl (hb C.2.1 hd) _ q
theorem r_ldc2 {i : Nat} {v : Int64} (pc' : Nat) (hd : decode bytes pc = .ok (.ldc2_w i, 3)) (hp : pc + 3 = pc') (w : (Jvm.Cond.constantLong y.cls i v).before a0 Z = true) (K : Run l Z y bytes ml ret R n0 Q h k n pc' Ls (.long v :: st)) : Run l Z y bytes ml ret R n0 Q h k n pc Ls st := by
  subst hp; exact K.step fun p e s m args below meth c T locs C X E t q => X.ldc2Long C.1 C.2.2.2.2.1 (mvT C.2.2.2.1 w) (g := mkF m pc Ls.toArray st) rfl (hb C.2.1 hd) _ q
/-! stores -/
def own_one : Slot → Bool
  | .unset => true
  | .val (.int _) => true
  | .val (.float _) => true
  | .val .null => true
  | .val (.ref _) => true
  | .val (.retAddr _) => true
  | _ => false
theorem own_one_spec {o : Slot} (h : own_one o = true) : o = .unset ∨ ∃ w, o = .val w ∧ w.category = 1 := by
  cases o with
  | unset => exact Or.inl rfl
  | second => cases h
  | val w => cases w <;> first | exact Or.inr ⟨_, rfl, rfl⟩ | cases h
theorem own_put {m : MethodId} {j : Nat} {v : Value} (h : Ls[j]?.map own_one = some true) (hv : v.category = 1) : storeLocals (mkF m pc Ls.toArray st).locals j v = some (Ls.set j (.val v)).toArray := by
  show storeLocals Ls.toArray j v = _
  cases ho : Ls[j]? with
  | none => rw [ho] at h; cases h
  | some o =>
    rw [ho] at h
    have := XS.store1 (l := Ls.toArray) (i := j) (v := v) (o := o) (by rw [List.getElem?_toArray]; exact ho) (own_one_spec (Option.some.inj h)) hv
    rw [this, List.setIfInBounds_toArray]
theorem r_istoreN {j : Fin 4} {v : Int32} (pc' : Nat) (hd : decode bytes pc = .ok (.istore_n j, 1)) (hp : pc + 1 = pc') (hl : Ls[j.val]?.map own_one = some true) (K : Run l Z y bytes ml ret R n0 Q h k n pc' (Ls.set j.val (.val (.int v))) st) : Run l Z y bytes ml ret R n0 Q h k n pc Ls (.int v :: st) := by
  subst hp; exact K.step fun p e s m args below meth c T locs C X E t q => XS.istoreN X.here C.1 rfl (hb C.2.1 hd) rfl (own_put hl rfl) q
theorem r_istore {j : Nat} {v : Int32} (pc' : Nat) (hd : decode bytes pc = .ok (.istore j, 2)) (hp : pc + 2 = pc') (hl : Ls[j]?.map own_one = some true) (K : Run l Z y bytes ml ret R n0 Q h k n pc' (Ls.set j (.val (.int v))) st) : Run l Z y bytes ml ret R n0 Q h k n pc Ls (.int v :: st) := by
  subst hp; exact K.step fun p e s m args below meth c T locs C X E t q => XS.istore X.here C.1 rfl (hb C.2.1 hd) rfl (own_put hl rfl) q
theorem r_astoreN {j : Fin 4} {a : Addr} (pc' : Nat) (hd : decode bytes pc = .ok (.astore_n j, 1)) (hp : pc + 1 = pc') (hl : Ls[j.val]?.map own_one = some true) (K : Run l Z y bytes ml ret R n0 Q h k n pc' (Ls.set j.val (.val (.ref a))) st) : Run l Z y bytes ml ret R n0 Q h k n pc Ls (.ref a :: st) := by
  subst hp; exact K.step fun p e s m args below meth c T locs C X E t q => XS.astoreN X.here C.1 rfl (hb C.2.1 hd) rfl rfl (own_put hl rfl) q
theorem r_astore {j : Nat} {a : Addr} (pc' : Nat) (hd : decode bytes pc = .ok (.astore j, 2)) (hp : pc + 2 = pc') (hl : Ls[j]?.map own_one = some true) (K : Run l Z y bytes ml ret R n0 Q h k n pc' (Ls.set j (.val (.ref a))) st) : Run l Z y bytes ml ret R n0 Q h k n pc Ls (.ref a :: st) := by
  subst hp; exact K.step fun p e s m args below meth c T locs C X E t q => XS.astore X.here C.1 rfl (hb C.2.1 hd) rfl rfl (own_put hl rfl) q
theorem own_cat {v : Value} (hv : v.isRef = true) : v.category = 1 := by cases v <;> first | rfl | cases hv
theorem r_astoreNV {j : Fin 4} {v : Value} (pc' : Nat) (hd : decode bytes pc = .ok (.astore_n j, 1)) (hp : pc + 1 = pc') (hl : Ls[j.val]?.map own_one = some true) (hv : v.isRef = true) (K : Run l Z y bytes ml ret R n0 Q h k n pc' (Ls.set j.val (.val v)) st) : Run l Z y bytes ml ret R n0 Q h k n pc Ls (v :: st) := by
  subst hp; exact K.step fun p e s m args below meth c T locs C X E t q => XS.astoreN X.here C.1 rfl (hb C.2.1 hd) rfl hv (own_put hl (own_cat hv)) q
theorem r_astoreV {j : Nat} {v : Value} (pc' : Nat) (hd : decode bytes pc = .ok (.astore j, 2)) (hp : pc + 2 = pc') (hl : Ls[j]?.map own_one = some true) (hv : v.isRef = true) (K : Run l Z y bytes ml ret R n0 Q h k n pc' (Ls.set j (.val v)) st) : Run l Z y bytes ml ret R n0 Q h k n pc Ls (v :: st) := by
  subst hp; exact K.step fun p e s m args below meth c T locs C X E t q => XS.astore X.here C.1 rfl (hb C.2.1 hd) rfl hv (own_put hl (own_cat hv)) q
theorem r_iinc {j : Nat} {cst : Int} {x : Int32} (v : Int32) (pc' : Nat) (hd : decode bytes pc = .ok (.iinc j cst, 3)) (hp : pc + 3 = pc') (hv : Int32.ofInt cst = v) (hl : Ls[j]? = some (.val (.int x))) (K : Run l Z y bytes ml ret R n0 Q h k n pc' (Ls.set j (.val (.int (x + v)))) st) : Run l Z y bytes ml ret R n0 Q h k n pc Ls st := by
  subst hp hv; exact K.step fun p e s m args below meth c T locs C X E t q => XS.iinc X.here C.1 rfl (hb C.2.1 hd) (own_get hl) (own_put (by rw [hl]; rfl) rfl) q
theorem r_iadd {x : Int32} {z : Int32} (pc' : Nat) (hd : decode bytes pc = .ok (.iadd, 1)) (hp : pc + 1 = pc') (K : Run l Z y bytes ml ret R n0 Q h k n pc' Ls (.int (x + z) :: st)) : Run l Z y bytes ml ret R n0 Q h k n pc Ls (.int z :: .int x :: st) := by
  subst hp; exact K.step fun p e s m args below meth c T locs C X E t q => XS.iadd X.here C.1 rfl (hb C.2.1 hd) rfl q
theorem r_isub {x : Int32} {z : Int32} (pc' : Nat) (hd : decode bytes pc = .ok (.isub, 1)) (hp : pc + 1 = pc') (K : Run l Z y bytes ml ret R n0 Q h k n pc' Ls (.int (x - z) :: st)) : Run l Z y bytes ml ret R n0 Q h k n pc Ls (.int z :: .int x :: st) := by
  subst hp; exact K.step fun p e s m args below meth c T locs C X E t q => XS.isub X.here C.1 rfl (hb C.2.1 hd) rfl q
theorem r_imul {x : Int32} {z : Int32} (pc' : Nat) (hd : decode bytes pc = .ok (.imul, 1)) (hp : pc + 1 = pc') (K : Run l Z y bytes ml ret R n0 Q h k n pc' Ls (.int (x * z) :: st)) : Run l Z y bytes ml ret R n0 Q h k n pc Ls (.int z :: .int x :: st) := by
  subst hp; exact K.step fun p e s m args below meth c T locs C X E t q => XS.imul X.here C.1 rfl (hb C.2.1 hd) rfl q
theorem r_iand {x : Int32} {z : Int32} (pc' : Nat) (hd : decode bytes pc = .ok (.iand, 1)) (hp : pc + 1 = pc') (K : Run l Z y bytes ml ret R n0 Q h k n pc' Ls (.int (x &&& z) :: st)) : Run l Z y bytes ml ret R n0 Q h k n pc Ls (.int z :: .int x :: st) := by
  subst hp; exact K.step fun p e s m args below meth c T locs C X E t q => XS.iand X.here C.1 rfl (hb C.2.1 hd) rfl q
theorem r_ior {x : Int32} {z : Int32} (pc' : Nat) (hd : decode bytes pc = .ok (.ior, 1)) (hp : pc + 1 = pc') (K : Run l Z y bytes ml ret R n0 Q h k n pc' Ls (.int (x ||| z) :: st)) : Run l Z y bytes ml ret R n0 Q h k n pc Ls (.int z :: .int x :: st) := by
  subst hp; exact K.step fun p e s m args below meth c T locs C X E t q => XT.ior X.here C.1 rfl (hb C.2.1 hd) rfl q
theorem r_ixor {x : Int32} {z : Int32} (pc' : Nat) (hd : decode bytes pc = .ok (.ixor, 1)) (hp : pc + 1 = pc') (K : Run l Z y bytes ml ret R n0 Q h k n pc' Ls (.int (x ^^^ z) :: st)) : Run l Z y bytes ml ret R n0 Q h k n pc Ls (.int z :: .int x :: st) := by
  subst hp; exact K.step fun p e s m args below meth c T locs C X E t q => XT.ixor X.here C.1 rfl (hb C.2.1 hd) rfl q
theorem r_ladd {x : Int64} {z : Int64} (pc' : Nat) (hd : decode bytes pc = .ok (.ladd, 1)) (hp : pc + 1 = pc') (K : Run l Z y bytes ml ret R n0 Q h k n pc' Ls (.long (x + z) :: st)) : Run l Z y bytes ml ret R n0 Q h k n pc Ls (.long z :: .long x :: st) := by
  subst hp; exact K.step fun p e s m args below meth c T locs C X E t q => XT.ladd X.here C.1 rfl (hb C.2.1 hd) rfl q
theorem r_lsub {x : Int64} {z : Int64} (pc' : Nat) (hd : decode bytes pc = .ok (.lsub, 1)) (hp : pc + 1 = pc') (K : Run l Z y bytes ml ret R n0 Q h k n pc' Ls (.long (x - z) :: st)) : Run l Z y bytes ml ret R n0 Q h k n pc Ls (.long z :: .long x :: st) := by
  subst hp; exact K.step fun p e s m args below meth c T locs C X E t q => XT.lsub X.here C.1 rfl (hb C.2.1 hd) rfl q
theorem r_lmul {x : Int64} {z : Int64} (pc' : Nat) (hd : decode bytes pc = .ok (.lmul, 1)) (hp : pc + 1 = pc') (K : Run l Z y bytes ml ret R n0 Q h k n pc' Ls (.long (x * z) :: st)) : Run l Z y bytes ml ret R n0 Q h k n pc Ls (.long z :: .long x :: st) := by
  subst hp; exact K.step fun p e s m args below meth c T locs C X E t q => XT.lmul X.here C.1 rfl (hb C.2.1 hd) rfl q
theorem r_land {x : Int64} {z : Int64} (pc' : Nat) (hd : decode bytes pc = .ok (.land, 1)) (hp : pc + 1 = pc') (K : Run l Z y bytes ml ret R n0 Q h k n pc' Ls (.long (x &&& z) :: st)) : Run l Z y bytes ml ret R n0 Q h k n pc Ls (.long z :: .long x :: st) := by
  subst hp; exact K.step fun p e s m args below meth c T locs C X E t q => XT.land X.here C.1 rfl (hb C.2.1 hd) rfl q
theorem r_lor {x : Int64} {z : Int64} (pc' : Nat) (hd : decode bytes pc = .ok (.lor, 1)) (hp : pc + 1 = pc') (K : Run l Z y bytes ml ret R n0 Q h k n pc' Ls (.long (x ||| z) :: st)) : Run l Z y bytes ml ret R n0 Q h k n pc Ls (.long z :: .long x :: st) := by
  subst hp; exact K.step fun p e s m args below meth c T locs C X E t q => XT.lor X.here C.1 rfl (hb C.2.1 hd) rfl q
theorem r_lxor {x : Int64} {z : Int64} (pc' : Nat) (hd : decode bytes pc = .ok (.lxor, 1)) (hp : pc + 1 = pc') (K : Run l Z y bytes ml ret R n0 Q h k n pc' Ls (.long (x ^^^ z) :: st)) : Run l Z y bytes ml ret R n0 Q h k n pc Ls (.long z :: .long x :: st) := by
  subst hp; exact K.step fun p e s m args below meth c T locs C X E t q => XT.lxor X.here C.1 rfl (hb C.2.1 hd) rfl q
theorem r_ishl {x : Int32} {z : Int32} (pc' : Nat) (hd : decode bytes pc = .ok (.ishl, 1)) (hp : pc + 1 = pc') (K : Run l Z y bytes ml ret R n0 Q h k n pc' Ls (.int (x <<< (z &&& 31)) :: st)) : Run l Z y bytes ml ret R n0 Q h k n pc Ls (.int z :: .int x :: st) := by
  subst hp; exact K.step fun p e s m args below meth c T locs C X E t q => XT.ishl X.here C.1 rfl (hb C.2.1 hd) rfl q
theorem r_ishr {x : Int32} {z : Int32} (pc' : Nat) (hd : decode bytes pc = .ok (.ishr, 1)) (hp : pc + 1 = pc') (K : Run l Z y bytes ml ret R n0 Q h k n pc' Ls (.int (x >>> (z &&& 31)) :: st)) : Run l Z y bytes ml ret R n0 Q h k n pc Ls (.int z :: .int x :: st) := by
  subst hp; exact K.step fun p e s m args below meth c T locs C X E t q => XT.ishr X.here C.1 rfl (hb C.2.1 hd) rfl q
theorem r_iushr {x : Int32} {z : Int32} (pc' : Nat) (hd : decode bytes pc = .ok (.iushr, 1)) (hp : pc + 1 = pc') (K : Run l Z y bytes ml ret R n0 Q h k n pc' Ls (.int (XT.ushr x z) :: st)) : Run l Z y bytes ml ret R n0 Q h k n pc Ls (.int z :: .int x :: st) := by
  subst hp; exact K.step fun p e s m args below meth c T locs C X E t q => XT.iushr X.here C.1 rfl (hb C.2.1 hd) rfl q
theorem r_lshl {x : Int64} {z : Int32} (pc' : Nat) (hd : decode bytes pc = .ok (.lshl, 1)) (hp : pc + 1 = pc') (K : Run l Z y bytes ml ret R n0 Q h k n pc' Ls (.long (x <<< (z.toInt64 &&& 63)) :: st)) : Run l Z y bytes ml ret R n0 Q h k n pc Ls (.int z :: .long x :: st) := by
  subst hp; exact K.step fun p e s m args below meth c T locs C X E t q => XT.lshl X.here C.1 rfl (hb C.2.1 hd) rfl q
theorem r_lshr {x : Int64} {z : Int32} (pc' : Nat) (hd : decode bytes pc = .ok (.lshr, 1)) (hp : pc + 1 = pc') (K : Run l Z y bytes ml ret R n0 Q h k n pc' Ls (.long (x >>> (z.toInt64 &&& 63)) :: st)) : Run l Z y bytes ml ret R n0 Q h k n pc Ls (.int z :: .long x :: st) := by
  subst hp; exact K.step fun p e s m args below meth c T locs C X E t q => XT.lshr X.here C.1 rfl (hb C.2.1 hd) rfl q
theorem r_lushr {x : Int64} {z : Int32} (pc' : Nat) (hd : decode bytes pc = .ok (.lushr, 1)) (hp : pc + 1 = pc') (K : Run l Z y bytes ml ret R n0 Q h k n pc' Ls (.long (XT.ushrL x z) :: st)) : Run l Z y bytes ml ret R n0 Q h k n pc Ls (.int z :: .long x :: st) := by
  subst hp; exact K.step fun p e s m args below meth c T locs C X E t q => XT.lushr X.here C.1 rfl (hb C.2.1 hd) rfl q
theorem r_idiv {x : Int32} {z : Int32} (pc' : Nat) (hd : decode bytes pc = .ok (.idiv, 1)) (hp : pc + 1 = pc') (hy : z ≠ 0) (K : Run l Z y bytes ml ret R n0 Q h k n pc' Ls (.int (x / z) :: st)) : Run l Z y bytes ml ret R n0 Q h k n pc Ls (.int z :: .int x :: st) := by
  subst hp; exact K.step fun p e s m args below meth c T locs C X E t q => XS.idiv X.here C.1 rfl (hb C.2.1 hd) rfl hy q
theorem r_lcmp {x : Int64} {z : Int64} (pc' : Nat) (hd : decode bytes pc = .ok (.lcmp, 1)) (hp : pc + 1 = pc') (K : Run l Z y bytes ml ret R n0 Q h k n pc' Ls (.int (XT.cmpL x z) :: st)) : Run l Z y bytes ml ret R n0 Q h k n pc Ls (.long z :: .long x :: st) := by
  subst hp; exact K.step fun p e s m args below meth c T locs C X E t q => XT.lcmp X.here C.1 rfl (hb C.2.1 hd) rfl q
theorem r_irem {x z : Int32} (pc' : Nat) (hd : decode bytes pc = .ok (.irem, 1)) (hp : pc + 1 = pc') (hy : z ≠ 0) (K : Run l Z y bytes ml ret R n0 Q h k n pc' Ls (.int (x % z) :: st)) : Run l Z y bytes ml ret R n0 Q h k n pc Ls (.int z :: .int x :: st) := by
  subst hp; exact K.step fun p e s m args below meth c T locs C X E t q => iremM X C.1 rfl (hb C.2.1 hd) rfl hy q
theorem r_ineg {x : Int32} (pc' : Nat) (hd : decode bytes pc = .ok (.ineg, 1)) (hp : pc + 1 = pc') (K : Run l Z y bytes ml ret R n0 Q h k n pc' Ls (.int (-x) :: st)) : Run l Z y bytes ml ret R n0 Q h k n pc Ls (.int x :: st) := by
  subst hp; exact K.step fun p e s m args below meth c T locs C X E t q => XS.ineg X.here C.1 rfl (hb C.2.1 hd) rfl q
theorem r_i2l {x : Int32} (pc' : Nat) (hd : decode bytes pc = .ok (.i2l, 1)) (hp : pc + 1 = pc') (K : Run l Z y bytes ml ret R n0 Q h k n pc' Ls (.long x.toInt64 :: st)) : Run l Z y bytes ml ret R n0 Q h k n pc Ls (.int x :: st) := by
  subst hp; exact K.step fun p e s m args below meth c T locs C X E t q => XT.i2l X.here C.1 rfl (hb C.2.1 hd) rfl q
theorem r_l2i {x : Int64} (pc' : Nat) (hd : decode bytes pc = .ok (.l2i, 1)) (hp : pc + 1 = pc') (K : Run l Z y bytes ml ret R n0 Q h k n pc' Ls (.int x.toInt32 :: st)) : Run l Z y bytes ml ret R n0 Q h k n pc Ls (.long x :: st) := by
  subst hp; exact K.step fun p e s m args below meth c T locs C X E t q => XT.l2i X.here C.1 rfl (hb C.2.1 hd) rfl q
theorem r_i2b {x : Int32} (pc' : Nat) (hd : decode bytes pc = .ok (.i2b, 1)) (hp : pc + 1 = pc') (K : Run l Z y bytes ml ret R n0 Q h k n pc' Ls (.int x.toInt8.toInt32 :: st)) : Run l Z y bytes ml ret R n0 Q h k n pc Ls (.int x :: st) := by
  subst hp; exact K.step fun p e s m args below meth c T locs C X E t q => XT.i2b X.here C.1 rfl (hb C.2.1 hd) rfl q
theorem r_i2c {x : Int32} (pc' : Nat) (hd : decode bytes pc = .ok (.i2c, 1)) (hp : pc + 1 = pc') (K : Run l Z y bytes ml ret R n0 Q h k n pc' Ls (.int x.toUInt32.toUInt16.toUInt32.toInt32 :: st)) : Run l Z y bytes ml ret R n0 Q h k n pc Ls (.int x :: st) := by
  subst hp; exact K.step fun p e s m args below meth c T locs C X E t q => XT.i2c X.here C.1 rfl (hb C.2.1 hd) rfl q
theorem r_i2s {x : Int32} (pc' : Nat) (hd : decode bytes pc = .ok (.i2s, 1)) (hp : pc + 1 = pc') (K : Run l Z y bytes ml ret R n0 Q h k n pc' Ls (.int x.toInt16.toInt32 :: st)) : Run l Z y bytes ml ret R n0 Q h k n pc Ls (.int x :: st) := by
  subst hp; exact K.step fun p e s m args below meth c T locs C X E t q => XT.i2s X.here C.1 rfl (hb C.2.1 hd) rfl q
theorem r_dup {x : Value} (pc' : Nat) (hd : decode bytes pc = .ok (.dup, 1)) (hp : pc + 1 = pc') (hc : x.category = 1) (K : Run l Z y bytes ml ret R n0 Q h k n pc' Ls (x :: x :: st)) : Run l Z y bytes ml ret R n0 Q h k n pc Ls (x :: st) := by
  subst hp; exact K.step fun p e s m args below meth c T locs C X E t q => XS.dup X.here C.1 rfl (hb C.2.1 hd) rfl hc q
theorem r_dupX1 {x z : Value} (pc' : Nat) (hd : decode bytes pc = .ok (.dup_x1, 1)) (hp : pc + 1 = pc') (hc : x.category = 1) (hc' : z.category = 1) (K : Run l Z y bytes ml ret R n0 Q h k n pc' Ls (x :: z :: x :: st)) : Run l Z y bytes ml ret R n0 Q h k n pc Ls (x :: z :: st) := by
  subst hp; exact K.step fun p e s m args below meth c T locs C X E t q => XT.dupX1 X.here C.1 rfl (hb C.2.1 hd) rfl hc hc' q
theorem r_pop {x : Value} (pc' : Nat) (hd : decode bytes pc = .ok (.pop, 1)) (hp : pc + 1 = pc') (hc : x.category = 1) (K : Run l Z y bytes ml ret R n0 Q h k n pc' Ls st) : Run l Z y bytes ml ret R n0 Q h k n pc Ls (x :: st) := by
  subst hp; exact K.step fun p e s m args below meth c T locs C X E t q => XT.pop X.here C.1 rfl (hb C.2.1 hd) rfl hc q
theorem r_goto {o : Int} (pc' : Nat) (hd : decode bytes pc = .ok (.goto o, 3)) (hp : (0 : Int) ≤ (pc : Int) + o ∧ ((pc : Int) + o).toNat = pc') (K : Run l Z y bytes ml ret R n0 Q h k n pc' Ls st) : Run l Z y bytes ml ret R n0 Q h k n pc Ls st :=
  K.step fun p e s m args below meth c T locs C X E t q => XS.goto X.here C.1 rfl rfl (hb C.2.1 hd) hp.1 hp.2 q
theorem r_icmp_eq {x z : Int32} {o : Int} (pc' pc'' : Nat) (hd : decode bytes pc = .ok (.if_icmp .eq o, 3)) (hp : (0 : Int) ≤ (pc : Int) + o ∧ ((pc : Int) + o).toNat = pc') (hq : pc + 3 = pc'') (K1 : x = z → Run l Z y bytes ml ret R n0 Q h k n pc' Ls st) (K2 : ¬ x = z → Run l Z y bytes ml ret R n0 Q h k n pc'' Ls st) : Run l Z y bytes ml ret R n0 Q h k n pc Ls (.int z :: .int x :: st) := by
  subst hq
  by_cases q' : x = z
  · exact (K1 q').step fun p e s m args below meth c T locs C X E t q => XS.icmpYes X.here C.1 rfl rfl (hb C.2.1 hd) rfl (teq q').1 hp.1 hp.2 q
  · exact (K2 q').step fun p e s m args below meth c T locs C X E t q => XS.icmpNo X.here C.1 rfl (hb C.2.1 hd) rfl (feq q').1 q
theorem r_if_eq {x : Int32} {o : Int} (pc' pc'' : Nat) (hd : decode bytes pc = .ok (.ifCond .eq o, 3)) (hp : (0 : Int) ≤ (pc : Int) + o ∧ ((pc : Int) + o).toNat = pc') (hq : pc + 3 = pc'') (K1 : x = 0 → Run l Z y bytes ml ret R n0 Q h k n pc' Ls st) (K2 : ¬ x = 0 → Run l Z y bytes ml ret R n0 Q h k n pc'' Ls st) : Run l Z y bytes ml ret R n0 Q h k n pc Ls (.int x :: st) := by
  subst hq
  by_cases q' : x = 0
  · exact (K1 q').step fun p e s m args below meth c T locs C X E t q => XS.ifYes X.here C.1 rfl rfl (hb C.2.1 hd) rfl ((if0 _ _).trans (teq q').1) hp.1 hp.2 q
  · exact (K2 q').step fun p e s m args below meth c T locs C X E t q => XS.ifNo X.here C.1 rfl (hb C.2.1 hd) rfl ((if0 _ _).trans (feq q').1) q
theorem r_icmp_ne {x z : Int32} {o : Int} (pc' pc'' : Nat) (hd : decode bytes pc = .ok (.if_icmp .ne o, 3)) (hp : (0 : Int) ≤ (pc : Int) + o ∧ ((pc : Int) + o).toNat = pc') (hq : pc + 3 = pc'') (K1 : ¬ x = z → Run l Z y bytes ml ret R n0 Q h k n pc' Ls st) (K2 : x = z → Run l Z y bytes ml ret R n0 Q h k n pc'' Ls st) : Run l Z y bytes ml ret R n0 Q h k n pc Ls (.int z :: .int x :: st) := by
  subst hq
  by_cases q' : x = z
  · exact (K2 q').step fun p e s m args below meth c T locs C X E t q => XS.icmpNo X.here C.1 rfl (hb C.2.1 hd) rfl (teq q').2 q
  · exact (K1 q').step fun p e s m args below meth c T locs C X E t q => XS.icmpYes X.here C.1 rfl rfl (hb C.2.1 hd) rfl (feq q').2 hp.1 hp.2 q
theorem r_if_ne {x : Int32} {o : Int} (pc' pc'' : Nat) (hd : decode bytes pc = .ok (.ifCond .ne o, 3)) (hp : (0 : Int) ≤ (pc : Int) + o ∧ ((pc : Int) + o).toNat = pc') (hq : pc + 3 = pc'') (K1 : ¬ x = 0 → Run l Z y bytes ml ret R n0 Q h k n pc' Ls st) (K2 : x = 0 → Run l Z y bytes ml ret R n0 Q h k n pc'' Ls st) : Run l Z y bytes ml ret R n0 Q h k n pc Ls (.int x :: st) := by
  subst hq
  by_cases q' : x = 0
  · exact (K2 q').step fun p e s m args below meth c T locs C X E t q => XS.ifNo X.here C.1 rfl (hb C.2.1 hd) rfl ((if0 _ _).trans (teq q').2) q
  · exact (K1 q').step fun p e s m args below meth c T locs C X E t q => XS.ifYes X.here C.1 rfl rfl (hb C.2.1 hd) rfl ((if0 _ _).trans (feq q').2) hp.1 hp.2 q
theorem r_icmp_lt {x z : Int32} {o : Int} (pc' pc'' : Nat) (hd : decode bytes pc = .ok (.if_icmp .lt o, 3)) (hp : (0 : Int) ≤ (pc : Int) + o ∧ ((pc : Int) + o).toNat = pc') (hq : pc + 3 = pc'') (K1 : x < z → Run l Z y bytes ml ret R n0 Q h k n pc' Ls st) (K2 : ¬ x < z → Run l Z y bytes ml ret R n0 Q h k n pc'' Ls st) : Run l Z y bytes ml ret R n0 Q h k n pc Ls (.int z :: .int x :: st) := by
  subst hq
  by_cases q' : x < z
  · exact (K1 q').step fun p e s m args below meth c T locs C X E t q => XS.icmpYes X.here C.1 rfl rfl (hb C.2.1 hd) rfl (tlt q').1 hp.1 hp.2 q
  · exact (K2 q').step fun p e s m args below meth c T locs C X E t q => XS.icmpNo X.here C.1 rfl (hb C.2.1 hd) rfl (flt q').1 q
theorem r_if_lt {x : Int32} {o : Int} (pc' pc'' : Nat) (hd : decode bytes pc = .ok (.ifCond .lt o, 3)) (hp : (0 : Int) ≤ (pc : Int) + o ∧ ((pc : Int) + o).toNat = pc') (hq : pc + 3 = pc'') (K1 : x < 0 → Run l Z y bytes ml ret R n0 Q h k n pc' Ls st) (K2 : ¬ x < 0 → Run l Z y bytes ml ret R n0 Q h k n pc'' Ls st) : Run l Z y bytes ml ret R n0 Q h k n pc Ls (.int x :: st) := by
  subst hq
  by_cases q' : x < 0
  · exact (K1 q').step fun p e s m args below meth c T locs C X E t q => XS.ifYes X.here C.1 rfl rfl (hb C.2.1 hd) rfl ((if0 _ _).trans (tlt q').1) hp.1 hp.2 q
  · exact (K2 q').step fun p e s m args below meth c T locs C X E t q => XS.ifNo X.here C.1 rfl (hb C.2.1 hd) rfl ((if0 _ _).trans (flt q').1) q
theorem r_icmp_ge {x z : Int32} {o : Int} (pc' pc'' : Nat) (hd : decode bytes pc = .ok (.if_icmp .ge o, 3)) (hp : (0 : Int) ≤ (pc : Int) + o ∧ ((pc : Int) + o).toNat = pc') (hq : pc + 3 = pc'') (K1 : ¬ x < z → Run l Z y bytes ml ret R n0 Q h k n pc' Ls st) (K2 : x < z → Run l Z y bytes ml ret R n0 Q h k n pc'' Ls st) : Run l Z y bytes ml ret R n0 Q h k n pc Ls (.int z :: .int x :: st) := by
  subst hq
  by_cases q' : x < z
  · exact (K2 q').step fun p e s m args below meth c T locs C X E t q => XS.icmpNo X.here C.1 rfl (hb C.2.1 hd) rfl (tlt q').2.1 q
  · exact (K1 q').step fun p e s m args below meth c T locs C X E t q => XS.icmpYes X.here C.1 rfl rfl (hb C.2.1 hd) rfl (flt q').2.1 hp.1 hp.2 q
theorem r_if_ge {x : Int32} {o : Int} (pc' pc'' : Nat) (hd : decode bytes pc = .ok (.ifCond .ge o, 3)) (hp : (0 : Int) ≤ (pc : Int) + o ∧ ((pc : Int) + o).toNat = pc') (hq : pc + 3 = pc'') (K1 : ¬ x < 0 → Run l Z y bytes ml ret R n0 Q h k n pc' Ls st) (K2 : x < 0 → Run l Z y bytes ml ret R n0 Q h k n pc'' Ls st) : Run l Z y bytes ml ret R n0 Q h k n pc Ls (.int x :: st) := by
  subst hq
  by_cases q' : x < 0
  · exact (K2 q').step fun p e s m args below meth c T locs C X E t q => XS.ifNo X.here C.1 rfl (hb C.2.1 hd) rfl ((if0 _ _).trans (tlt q').2.1) q
  · exact (K1 q').step fun p e s m args below meth c T locs C X E t q => XS.ifYes X.here C.1 rfl rfl (hb C.2.1 hd) rfl ((if0 _ _).trans (flt q').2.1) hp.1 hp.2 q
theorem r_icmp_gt {x z : Int32} {o : Int} (pc' pc'' : Nat) (hd : decode bytes pc = .ok (.if_icmp .gt o, 3)) (hp : (0 : Int) ≤ (pc : Int) + o ∧ ((pc : Int) + o).toNat = pc') (hq : pc + 3 = pc'') (K1 : z < x → Run l Z y bytes ml ret R n0 Q h k n pc' Ls st) (K2 : ¬ z < x → Run l Z y bytes ml ret R n0 Q h k n pc'' Ls st) : Run l Z y bytes ml ret R n0 Q h k n pc Ls (.int z :: .int x :: st) := by
  subst hq
  by_cases q' : z < x
  · exact (K1 q').step fun p e s m args below meth c T locs C X E t q => XS.icmpYes X.here C.1 rfl rfl (hb C.2.1 hd) rfl (tlt q').2.2.1 hp.1 hp.2 q
  · exact (K2 q').step fun p e s m args below meth c T locs C X E t q => XS.icmpNo X.here C.1 rfl (hb C.2.1 hd) rfl (flt q').2.2.1 q
theorem r_if_gt {x : Int32} {o : Int} (pc' pc'' : Nat) (hd : decode bytes pc = .ok (.ifCond .gt o, 3)) (hp : (0 : Int) ≤ (pc : Int) + o ∧ ((pc : Int) + o).toNat = pc') (hq : pc + 3 = pc'') (K1 : 0 < x → Run l Z y bytes ml ret R n0 Q h k n pc' Ls st) (K2 : ¬ 0 < x → Run l Z y bytes ml ret R n0 Q h k n pc'' Ls st) : Run l Z y bytes ml ret R n0 Q h k n pc Ls (.int x :: st) := by
  subst hq
  by_cases q' : 0 < x
  · exact (K1 q').step fun p e s m args below meth c T locs C X E t q => XS.ifYes X.here C.1 rfl rfl (hb C.2.1 hd) rfl ((if0 _ _).trans (tlt q').2.2.1) hp.1 hp.2 q
  · exact (K2 q').step fun p e s m args below meth c T locs C X E t q => XS.ifNo X.here C.1 rfl (hb C.2.1 hd) rfl ((if0 _ _).trans (flt q').2.2.1) q
theorem r_icmp_le {x z : Int32} {o : Int} (pc' pc'' : Nat) (hd : decode bytes pc = .ok (.if_icmp .le o, 3)) (hp : (0 : Int) ≤ (pc : Int) + o ∧ ((pc : Int) + o).toNat = pc') (hq : pc + 3 = pc'') (K1 : ¬ z < x → Run l Z y bytes ml ret R n0 Q h k n pc' Ls st) (K2 : z < x → Run l Z y bytes ml ret R n0 Q h k n pc'' Ls st) : Run l Z y bytes ml ret R n0 Q h k n pc Ls (.int z :: .int x :: st) := by
  subst hq
  by_cases q' : z < x
  · exact (K2 q').step fun p e s m args below meth c T locs C X E t q => XS.icmpNo X.here C.1 rfl (hb C.2.1 hd) rfl (tlt q').2.2.2 q
  · exact (K1 q').step fun p e s m args below meth c T locs C X E t q => XS.icmpYes X.here C.1 rfl rfl (hb C.2.1 hd) rfl (flt q').2.2.2 hp.1 hp.2 q
theorem r_if_le {x : Int32} {o : Int} (pc' pc'' : Nat) (hd : decode bytes pc = .ok (.ifCond .le o, 3)) (hp : (0 : Int) ≤ (pc : Int) + o ∧ ((pc : Int) + o).toNat = pc') (hq : pc + 3 = pc'') (K1 : ¬ 0 < x → Run l Z y bytes ml ret R n0 Q h k n pc' Ls st) (K2 : 0 < x → Run l Z y bytes ml ret R n0 Q h k n pc'' Ls st) : Run l Z y bytes ml ret R n0 Q h k n pc Ls (.int x :: st) := by
  subst hq
  by_cases q' : 0 < x
  · exact (K2 q').step fun p e s m args below meth c T locs C X E t q => XS.ifNo X.here C.1 rfl (hb C.2.1 hd) rfl ((if0 _ _).trans (tlt q').2.2.2) q
  · exact (K1 q').step fun p e s m args below meth c T locs C X E t q => XS.ifYes X.here C.1 rfl rfl (hb C.2.1 hd) rfl ((if0 _ _).trans (flt q').2.2.2) hp.1 hp.2 q
theorem r_acmp_eq {x z : Value} {o : Int} (pc' pc'' : Nat) (hd : decode bytes pc = .ok (.if_acmp .eq o, 3)) (hp : (0 : Int) ≤ (pc : Int) + o ∧ ((pc : Int) + o).toNat = pc') (hq : pc + 3 = pc'') (hx : x.isRef = true) (hz : z.isRef = true) (K1 : x = z → Run l Z y bytes ml ret R n0 Q h k n pc' Ls st) (K2 : ¬ x = z → Run l Z y bytes ml ret R n0 Q h k n pc'' Ls st) : Run l Z y bytes ml ret R n0 Q h k n pc Ls (z :: x :: st) := by
  subst hq
  by_cases q' : x = z
  · exact (K1 q').step fun p e s m args below meth c T locs C X E t q => XT.acmpYes X.here C.1 rfl rfl (hb C.2.1 hd) rfl hx hz (XT.aa_eq_t q') hp.1 hp.2 q
  · exact (K2 q').step fun p e s m args below meth c T locs C X E t q => XT.acmpNo X.here C.1 rfl (hb C.2.1 hd) rfl hx hz (XT.aa_eq_f q') q
theorem r_acmp_ne {x z : Value} {o : Int} (pc' pc'' : Nat) (hd : decode bytes pc = .ok (.if_acmp .ne o, 3)) (hp : (0 : Int) ≤ (pc : Int) + o ∧ ((pc : Int) + o).toNat = pc') (hq : pc + 3 = pc'') (hx : x.isRef = true) (hz : z.isRef = true) (K1 : ¬ x = z → Run l Z y bytes ml ret R n0 Q h k n pc' Ls st) (K2 : x = z → Run l Z y bytes ml ret R n0 Q h k n pc'' Ls st) : Run l Z y bytes ml ret R n0 Q h k n pc Ls (z :: x :: st) := by
  subst hq
  by_cases q' : x = z
  · exact (K2 q').step fun p e s m args below meth c T locs C X E t q => XT.acmpNo X.here C.1 rfl (hb C.2.1 hd) rfl hx hz (XT.aa_ne_f q') q
  · exact (K1 q').step fun p e s m args below meth c T locs C X E t q => XT.acmpYes X.here C.1 rfl rfl (hb C.2.1 hd) rfl hx hz (XT.aa_ne_t q') hp.1 hp.2 q
theorem r_nonnullYes {a : Addr} {o : Int} (pc' : Nat) (hd : decode bytes pc = .ok (.ifnonnull o, 3)) (hp : (0 : Int) ≤ (pc : Int) + o ∧ ((pc : Int) + o).toNat = pc') (K : Run l Z y bytes ml ret R n0 Q h k n pc' Ls st) : Run l Z y bytes ml ret R n0 Q h k n pc Ls (.ref a :: st) :=
  K.step fun p e s m args below meth c T locs C X E t q => XT.ifnonnullYes X.here C.1 rfl rfl (hb C.2.1 hd) rfl hp.1 hp.2 q
theorem r_nonnullNo {o : Int} (pc'' : Nat) (hd : decode bytes pc = .ok (.ifnonnull o, 3)) (hq : pc + 3 = pc'') (K : Run l Z y bytes ml ret R n0 Q h k n pc'' Ls st) : Run l Z y bytes ml ret R n0 Q h k n pc Ls (.null :: st) := by
  subst hq; exact K.step fun p e s m args below meth c T locs C X E t q => XT.ifnonnullNo X.here C.1 rfl (hb C.2.1 hd) rfl q
theorem r_nullYes {o : Int} (pc' : Nat) (hd : decode bytes pc = .ok (.ifnull o, 3)) (hp : (0 : Int) ≤ (pc : Int) + o ∧ ((pc : Int) + o).toNat = pc') (K : Run l Z y bytes ml ret R n0 Q h k n pc' Ls st) : Run l Z y bytes ml ret R n0 Q h k n pc Ls (.null :: st) :=
  K.step fun p e s m args below meth c T locs C X E t q => XS.ifnullYes X.here C.1 rfl rfl (hb C.2.1 hd) rfl hp.1 hp.2 q
theorem r_nullNo {a : Addr} {o : Int} (pc'' : Nat) (hd : decode bytes pc = .ok (.ifnull o, 3)) (hq : pc + 3 = pc'') (K : Run l Z y bytes ml ret R n0 Q h k n pc'' Ls st) : Run l Z y bytes ml ret R n0 Q h k n pc Ls (.ref a :: st) := by
  subst hq; exact K.step fun p e s m args below meth c T locs C X E t q => XS.ifnullNo X.here C.1 rfl (hb C.2.1 hd) rfl q
/-! fields, statics, objects, arrays -/
theorem r_getstatic {i : Nat} {R0 O f d : String} {v : Value} (pc' : Nat) (hd : decode bytes pc = .ok (.getstatic i, 3)) (hp : pc + 3 = pc') (w : (Jvm.Cond.fieldLink y.cls i R0 f d).before a0 Z = true) (via : Via Z R0 O f d) (F : Sta Z h O f d v)
    (K : Run l Z y bytes ml ret R n0 Q h k n pc' Ls (v :: st)) : Run l Z y bytes ml ret R n0 Q h k n pc Ls st := by
  subst hp
  exact K.move fun p e s m args below meth c T locs C X N E => by
    obtain ⟨T', X', e', q⟩ := getS X C.1 C.2.2.2.1 (host := "") C.2.2.2.2.1 w via E F (g := mkF m pc Ls.toArray st) rfl (hb C.2.1 hd)
    exact ⟨T', _, X', N, e', q⟩
theorem r_getfield {i : Nat} {R0 O f d host : String} {v : Value} {a : Addr} (pc' : Nat) (hd : decode bytes pc = .ok (.getfield i, 3)) (hp : pc + 3 = pc') (w : (Jvm.Cond.fieldLink y.cls i R0 f d).before a0 Z = true ∨ (Jvm.Cond.fieldLinkNest y.cls i R0 f d host).before a0 Z = true) (via : Via Z R0 O f d) (F : Fld Z h a O f d v)
    (K : Run l Z y bytes ml ret R n0 Q h k n pc' Ls (v :: st)) : Run l Z y bytes ml ret R n0 Q h k n pc Ls (.ref a :: st) := by
  subst hp
  exact K.move fun p e s m args below meth c T locs C X N E => by
    obtain ⟨T', X', e', q⟩ := getF X C.1 C.2.2.2.1 C.2.2.2.2.1 w via E F (g := mkF m pc Ls.toArray (.ref a :: st)) rfl rfl (hb C.2.1 hd)
    exact ⟨T', _, X', N, e', q⟩
theorem r_putfield {i kk : Nat} {R0 O f d host C' : String} {ty : FieldType} {v old : Value} {a : Addr} (pc' : Nat) (hd : decode bytes pc = .ok (.putfield i, 3)) (hp : pc + 3 = pc') (w : (Jvm.Cond.fieldLink y.cls i R0 f d).before a0 Z = true ∨ (Jvm.Cond.fieldLinkNest y.cls i R0 f d host).before a0 Z = true) (via : Via Z R0 O f d) (F : Fld Z h a O f d old) (E1 : Exa Z h a C')
    (L : (Jvm.Cond.lays C' O f d).before a0 Z = true ∨ ((Jvm.Cond.laysFinal C' O f d).before a0 Z = true ∧ y.cls = O ∧ y.name = "<init>")) (wi : (Jvm.Cond.instantiable C' kk).before a0 Z = true) (hty : parseFieldDescriptor d = some ty) (hn : narrow ty v = v) (hf : fits ty v = true) (ha : n0 ≤ a)
    (K : ∀ h', Wr h h' a (Jvm.RoadKit.slotOf Z O f d) v → Run l Z y bytes ml ret R n0 Q h' k n pc' Ls st) : Run l Z y bytes ml ret R n0 Q h k n pc Ls (v :: .ref a :: st) := fun p e s m args below meth c T locs C X N E => by
  subst hp
  obtain ⟨T', h', X', e', W, q⟩ := putF X C.1 C.2.2.2.1 C.2.2.2.2.1 w via E F E1 (L.imp id fun ⟨u1, u2, u3⟩ => ⟨u1, u2, C.2.2.2.2.2.1.trans u3⟩) wi hty hn hf (g := mkF m pc Ls.toArray (v :: .ref a :: st)) rfl rfl (hb C.2.1 hd)
  obtain ⟨s2, o, h1, h2⟩ := K h' W p e s m args below meth c T' _ C X' (Fr.snoc X' N ha) e'
  exact ⟨s2, o, q _ h1, h2⟩
theorem r_new {i nn : Nat} {C' : String} (pc' : Nat) (hd : decode bytes pc = .ok (.new i, 3)) (hp : pc + 3 = pc') (w : (Jvm.Cond.classLink y.cls i C').before a0 Z = true) (wi : (Jvm.Cond.instantiable C' nn).before a0 Z = true) (wz : (Jvm.Cond.initialized C').before a0 Z = true) (hc : k + 1 ≤ R.cells) (hl : n + nn ≤ R.slots)
    (K : ∀ h' a, a = h.size → Ext h h' → Exa Z h' a C' → (∀ {O nm d : String} {ty : FieldType}, Laid Z a0 C' O nm d → parseFieldDescriptor d = some ty → Fld Z h' a O nm d (defaultValue ty)) → Run l Z y bytes ml ret R n0 Q h' (k + 1) (n + nn) pc' Ls (.ref a :: st)) : Run l Z y bytes ml ret R n0 Q h k n pc Ls st := fun p e s m args below meth c T locs C X N E => by
  subst hp
  obtain ⟨T', h', X', e', E2, A2, D2, -, q⟩ := newO X C.1 C.2.2.2.1 C.2.2.2.2.1 w wi wz E (g := mkF m pc Ls.toArray st) rfl (hb C.2.1 hd) hc hl
  obtain ⟨s2, o, h1, h2⟩ := K h' h.size rfl E2 A2 D2 p e s m args below meth c T' _ C X' N e'
  exact ⟨s2, o, q _ h1, h2⟩
theorem own_rep {ty : FieldType} {z : Int32} {a : Addr} {cA : ClassId} (N : Nat) (A : Arv Z h a cA ty z [] (defaultValue ty)) : Arv Z h a cA ty z (List.replicate N (defaultValue ty)) (defaultValue ty) :=
  A.pad fun i => by have := pad_rep [] (defaultValue ty) N i; simpa using this
theorem r_newarray {aty : ArrayType} {z : Int32} (cap : Nat) (ad : String) (pc' : Nat) (hd : decode bytes pc = .ok (.newarray aty, 2)) (hp : pc + 2 = pc') (w : (Jvm.Cond.arrayClass (newarray.typeOf aty)).before a0 Z = true) (hz : ¬ z < 0) (hcap : z.toNatClampNeg ≤ cap) (hb8 : cap * 8 ≤ 536870912) (had : "[" ++ (newarray.typeOf aty).toString = ad) (hc : k + 1 ≤ R.cells) (hl : n + cap ≤ R.slots)
    (K : ∀ h' a cA, a = h.size → Ext h h' → Arv Z h' a cA (newarray.typeOf aty) z (List.replicate z.toNatClampNeg (defaultValue (newarray.typeOf aty))) (defaultValue (newarray.typeOf aty)) → Exa Z h' a ad → Run l Z y bytes ml ret R n0 Q h' (k + 1) (n + cap) pc' Ls (.ref a :: st)) : Run l Z y bytes ml ret R n0 Q h k n pc Ls (.int z :: st) := fun p e s m args below meth c T locs C X N E => by
  subst hp
  obtain ⟨T', h', cA, X', e', E2, A2, E3, q⟩ := newPE X C.1 C.2.2.2.1 w E (g := mkF m pc Ls.toArray (.int z :: st)) rfl (hb C.2.1 hd) rfl hz hcap hb8 hc hl had
  obtain ⟨s2, o, h1, h2⟩ := K h' h.size cA rfl E2 (own_rep _ (Arv.new A2 hz)) E3 p e s m args below meth c T' _ C X' N e'
  exact ⟨s2, o, q _ h1, h2⟩
theorem r_anewarray {i : Nat} {C' : String} {z : Int32} (cap : Nat) (ad : String) (pc' : Nat) (hd : decode bytes pc = .ok (.anewarray i, 3)) (hp : pc + 3 = pc') (w1 : (Jvm.Cond.classLink y.cls i C').before a0 Z = true) (w2 : (Jvm.Cond.arrayOver (.object C')).before a0 Z = true) (hz : ¬ z < 0) (hcap : z.toNatClampNeg ≤ cap) (hb8 : cap * 8 ≤ 536870912) (had : "[" ++ (FieldType.object C').toString = ad) (hc : k + 1 ≤ R.cells) (hl : n + cap ≤ R.slots)
    (K : ∀ h' a cA, a = h.size → Ext h h' → Arv Z h' a cA (.object C') z (List.replicate z.toNatClampNeg .null) .null → Exa Z h' a ad → Ovr Z cA C' → Run l Z y bytes ml ret R n0 Q h' (k + 1) (n + cap) pc' Ls (.ref a :: st)) : Run l Z y bytes ml ret R n0 Q h k n pc Ls (.int z :: st) := fun p e s m args below meth c T locs C X N E => by
  subst hp
  obtain ⟨T', h', cA, X', e', E2, A2, E3, O3, q⟩ := newRE X C.1 C.2.2.2.1 C.2.2.2.2.1 w1 w2 E (g := mkF m pc Ls.toArray (.int z :: st)) rfl (hb C.2.1 hd) rfl hz hcap hb8 hc hl had
  obtain ⟨s2, o, h1, h2⟩ := K h' h.size cA rfl E2 (own_rep _ (Arv.new A2 hz)) E3 O3 p e s m args below meth c T' _ C X' N e'
  exact ⟨s2, o, q _ h1, h2⟩
theorem own_in {z j : Int32} {i : Nat} {cl : Cell} (S : cl.slots.size = z.toNatClampNeg) (hj : ¬ j < 0) (hi : j.toNatClampNeg = i) (hz : i < z.toNatClampNeg) : ¬ (j < 0 ∨ cl.slots.size ≤ j.toNatClampNeg) := fun q => by
  rcases q with q | q
  · exact hj q
  · rw [S, hi] at q; exact absurd hz (Nat.not_lt.mpr q)
theorem r_arraylength {a : Addr} {cA : ClassId} {ty : FieldType} {z : Int32} {vs : List Value} {dv : Value} (pc' : Nat) (hd : decode bytes pc = .ok (.arraylength, 1)) (hp : pc + 1 = pc') (A : Arv Z h a cA ty z vs dv) (K : Run l Z y bytes ml ret R n0 Q h k n pc' Ls (.int z :: st)) : Run l Z y bytes ml ret R n0 Q h k n pc Ls (.ref a :: st) := by
  subst hp
  obtain ⟨cl, A1, -, S, hz, -⟩ := A
  rw [← len_of S hz] at K
  exact K.step fun p e s m args below meth c T locs C X E t q => X.arraylength C.1 (by rw [E]; exact A1.1) (State.isArrayOf_alike C.2.2.2.1.alike A1.2.1) (g := mkF m pc Ls.toArray (.ref a :: st)) rfl rfl (hb C.2.1 hd) _ q
theorem r_iaload {a : Addr} {cA : ClassId} {z j : Int32} {vs : List Value} {dv : Value} (i : Nat) (v : Value) (pc' : Nat) (hd : decode bytes pc = .ok (.iaload, 1)) (hp : pc + 1 = pc') (A : Arv Z h a cA .int z vs dv) (hj : ¬ j < 0) (hi : j.toNatClampNeg = i) (hz : i < z.toNatClampNeg) (hv : vs.getD i dv = v) (K : Run l Z y bytes ml ret R n0 Q h k n pc' Ls (v :: st)) : Run l Z y bytes ml ret R n0 Q h k n pc Ls (.int j :: .ref a :: st) := by
  subst hp
  obtain ⟨cl, A1, -, S, -, H, -⟩ := A
  have hin := own_in S hj hi hz
  exact K.step fun p e s m args below meth c T locs C X E t q => X.iaload C.1 (by rw [E]; exact A1.1) (State.isArrayOf_alike C.2.2.2.1.alike A1.2.1) A1.2.2 hin (Has.at H hin (by rw [hi]; exact hv)) (g := mkF m pc Ls.toArray (.int j :: .ref a :: st)) rfl rfl (hb C.2.1 hd) _ q
theorem r_caload {a : Addr} {cA : ClassId} {z j : Int32} {vs : List Value} {dv : Value} (i : Nat) (v : Value) (pc' : Nat) (hd : decode bytes pc = .ok (.caload, 1)) (hp : pc + 1 = pc') (A : Arv Z h a cA .char z vs dv) (hj : ¬ j < 0) (hi : j.toNatClampNeg = i) (hz : i < z.toNatClampNeg) (hv : vs.getD i dv = v) (K : Run l Z y bytes ml ret R n0 Q h k n pc' Ls (v :: st)) : Run l Z y bytes ml ret R n0 Q h k n pc Ls (.int j :: .ref a :: st) := by
  subst hp
  obtain ⟨cl, A1, -, S, -, H, -⟩ := A
  have hin := own_in S hj hi hz
  exact K.step fun p e s m args below meth c T locs C X E t q => X.caload C.1 (by rw [E]; exact A1.1) (State.isArrayOf_alike C.2.2.2.1.alike A1.2.1) A1.2.2 hin (Has.at H hin (by rw [hi]; exact hv)) (g := mkF m pc Ls.toArray (.int j :: .ref a :: st)) rfl rfl (hb C.2.1 hd) _ q
theorem r_baload {a : Addr} {cA : ClassId} {z j : Int32} {vs : List Value} {dv : Value} (i : Nat) (v : Value) (pc' : Nat) (hd : decode bytes pc = .ok (.baload, 1)) (hp : pc + 1 = pc') (A : Arv Z h a cA .byte z vs dv) (hj : ¬ j < 0) (hi : j.toNatClampNeg = i) (hz : i < z.toNatClampNeg) (hv : vs.getD i dv = v) (K : Run l Z y bytes ml ret R n0 Q h k n pc' Ls (v :: st)) : Run l Z y bytes ml ret R n0 Q h k n pc Ls (.int j :: .ref a :: st) := by
  subst hp
  obtain ⟨cl, A1, -, S, -, H, -⟩ := A
  have hin := own_in S hj hi hz
  exact K.step fun p e s m args below meth c T locs C X E t q => X.baloadBytes C.1 (by rw [E]; exact A1.1) (State.isArrayOf_alike C.2.2.2.1.alike A1.2.1) A1.2.2 hin (Has.at H hin (by rw [hi]; exact hv)) (g := mkF m pc Ls.toArray (.int j :: .ref a :: st)) rfl rfl (hb C.2.1 hd) _ q
theorem r_aaload {a : Addr} {cA : ClassId} {ty : FieldType} {z j : Int32} {vs : List Value} {dv : Value} (i : Nat) (v : Value) (pc' : Nat) (hd : decode bytes pc = .ok (.aaload, 1)) (hp : pc + 1 = pc') (A : Arv Z h a cA ty z vs dv) (hty : ty.isReference = true) (hj : ¬ j < 0) (hi : j.toNatClampNeg = i) (hz : i < z.toNatClampNeg) (hv : vs.getD i dv = v) (K : Run l Z y bytes ml ret R n0 Q h k n pc' Ls (v :: st)) : Run l Z y bytes ml ret R n0 Q h k n pc Ls (.int j :: .ref a :: st) := by
  subst hp
  obtain ⟨cl, A1, -, S, -, H, -⟩ := A
  have hin := own_in S hj hi hz
  exact K.step fun p e s m args below meth c T locs C X E t q => X.aaload C.1 (by rw [E]; exact A1.1) (State.isArrayOf_alike C.2.2.2.1.alike A1.2.1) hty A1.2.2 hin (Has.at H hin (by rw [hi]; exact hv)) (g := mkF m pc Ls.toArray (.int j :: .ref a :: st)) rfl rfl (hb C.2.1 hd) _ q
theorem r_iastore {a : Addr} {cA : ClassId} {z j x : Int32} {vs : List Value} {dv : Value} (i : Nat) (pc' : Nat) (hd : decode bytes pc = .ok (.iastore, 1)) (hp : pc + 1 = pc') (A : Arv Z h a cA .int z vs dv) (hj : ¬ j < 0) (hi : j.toNatClampNeg = i) (hz : i < z.toNatClampNeg) (hl : i < vs.length) (ha : n0 ≤ a)
    (K : ∀ h', Wr h h' a i (.int x) → Arv Z h' a cA .int z (vs.set i (.int x)) dv → Run l Z y bytes ml ret R n0 Q h' k n pc' Ls st) : Run l Z y bytes ml ret R n0 Q h k n pc Ls (.int x :: .int j :: .ref a :: st) := fun p e s m args below meth c T locs C X N E => by
  subst hp
  obtain ⟨cl, A1, q1, S, q3, H, G⟩ := A
  have hin := own_in S hj hi hz
  obtain ⟨T', h', X', e', W, q⟩ := stI X C.1 C.2.2.2.1 E A1 hin (g := mkF m pc Ls.toArray (.int x :: .int j :: .ref a :: st)) rfl rfl (hb C.2.1 hd)
  obtain ⟨s2, o, h1, h2⟩ := K h' (hi ▸ W) (Arv.set A1 q1 S q3 H G rfl W i hi hl) p e s m args below meth c T' _ C X' (Fr.snoc X' N ha) e'
  exact ⟨s2, o, q _ h1, h2⟩
theorem r_castore {a : Addr} {cA : ClassId} {z j x : Int32} {vs : List Value} {dv : Value} (i : Nat) (pc' : Nat) (hd : decode bytes pc = .ok (.castore, 1)) (hp : pc + 1 = pc') (A : Arv Z h a cA .char z vs dv) (hj : ¬ j < 0) (hi : j.toNatClampNeg = i) (hz : i < z.toNatClampNeg) (hl : i < vs.length) (ha : n0 ≤ a)
    (K : ∀ h', Wr h h' a i (.int (nar .char x)) → Arv Z h' a cA .char z (vs.set i (.int (nar .char x))) dv → Run l Z y bytes ml ret R n0 Q h' k n pc' Ls st) : Run l Z y bytes ml ret R n0 Q h k n pc Ls (.int x :: .int j :: .ref a :: st) := fun p e s m args below meth c T locs C X N E => by
  subst hp
  obtain ⟨cl, A1, q1, S, q3, H, G⟩ := A
  have hin := own_in S hj hi hz
  obtain ⟨T', h', X', e', W, q⟩ := stC X C.1 C.2.2.2.1 E A1 hin (g := mkF m pc Ls.toArray (.int x :: .int j :: .ref a :: st)) rfl rfl (hb C.2.1 hd)
  obtain ⟨s2, o, h1, h2⟩ := K h' (hi ▸ W) (Arv.set A1 q1 S q3 H G (fits_nar_char x) W i hi hl) p e s m args below meth c T' _ C X' (Fr.snoc X' N ha) e'
  exact ⟨s2, o, q _ h1, h2⟩
theorem r_bastore {a : Addr} {cA : ClassId} {z j x : Int32} {vs : List Value} {dv : Value} (i : Nat) (pc' : Nat) (hd : decode bytes pc = .ok (.bastore, 1)) (hp : pc + 1 = pc') (A : Arv Z h a cA .byte z vs dv) (hj : ¬ j < 0) (hi : j.toNatClampNeg = i) (hz : i < z.toNatClampNeg) (hl : i < vs.length) (ha : n0 ≤ a)
    (K : ∀ h', Wr h h' a i (.int (nar .byte x)) → Arv Z h' a cA .byte z (vs.set i (.int (nar .byte x))) dv → Run l Z y bytes ml ret R n0 Q h' k n pc' Ls st) : Run l Z y bytes ml ret R n0 Q h k n pc Ls (.int x :: .int j :: .ref a :: st) := fun p e s m args below meth c T locs C X N E => by
  subst hp
  obtain ⟨cl, A1, q1, S, q3, H, G⟩ := A
  have hin := own_in S hj hi hz
  obtain ⟨T', h', X', e', W, q⟩ := stB X C.1 C.2.2.2.1 E A1 hin (g := mkF m pc Ls.toArray (.int x :: .int j :: .ref a :: st)) rfl rfl (hb C.2.1 hd)
  obtain ⟨s2, o, h1, h2⟩ := K h' (hi ▸ W) (Arv.set A1 q1 S q3 H G (fits_nar_byte x) W i hi hl) p e s m args below meth c T' _ C X' (Fr.snoc X' N ha) e'
  exact ⟨s2, o, q _ h1, h2⟩
theorem r_aastore {a : Addr} {cA : ClassId} {ty : FieldType} {z j : Int32} {v : Value} {vs : List Value} {dv : Value} (i : Nat) (pc' : Nat) (hd : decode bytes pc = .ok (.aastore, 1)) (hp : pc + 1 = pc') (A : Arv Z h a cA ty z vs dv) (hty : ty.isReference = true) (F : Sto Z h a v) (hf : fits ty v = true) (hj : ¬ j < 0) (hi : j.toNatClampNeg = i) (hz : i < z.toNatClampNeg) (hl : i < vs.length) (ha : n0 ≤ a)
    (K : ∀ h', Wr h h' a i v → Arv Z h' a cA ty z (vs.set i v) dv → Run l Z y bytes ml ret R n0 Q h' k n pc' Ls st) : Run l Z y bytes ml ret R n0 Q h k n pc Ls (v :: .int j :: .ref a :: st) := fun p e s m args below meth c T locs C X N E => by
  subst hp
  obtain ⟨cl, A1, q1, S, q3, H, G⟩ := A
  have hin := own_in S hj hi hz
  obtain ⟨T', h', X', e', W, q⟩ := stR X C.1 C.2.2.2.1 E A1 hin hty F (g := mkF m pc Ls.toArray (v :: .int j :: .ref a :: st)) rfl rfl (hb C.2.1 hd)
  obtain ⟨s2, o, h1, h2⟩ := K h' (hi ▸ W) (Arv.set A1 q1 S q3 H G hf W i hi hl) p e s m args below meth c T' _ C X' (Fr.snoc X' N ha) e'
  exact ⟨s2, o, q _ h1, h2⟩
theorem r_checkcast {i : Nat} {K' : String} {a : Addr} (pc' : Nat) (hd : decode bytes pc = .ok (.checkcast i, 3)) (hp : pc + 3 = pc') (w : (Jvm.Cond.classLink y.cls i K').before a0 Z = true) (F : Ins Z h a K' true)
    (K : Run l Z y bytes ml ret R n0 Q h k n pc' Ls (.ref a :: st)) : Run l Z y bytes ml ret R n0 Q h k n pc Ls (.ref a :: st) := by
  subst hp
  exact K.move fun p e s m args below meth c T locs C X N E => by
    obtain ⟨T', X', e', q⟩ := castY X C.1 C.2.2.2.1 C.2.2.2.2.1 w E F (g := mkF m pc Ls.toArray (.ref a :: st)) rfl rfl (hb C.2.1 hd)
    exact ⟨T', _, X', N, e', q⟩
theorem r_initO {i : Nat} {a : Addr} (pc' : Nat) (hd : decode bytes pc = .ok (.invokespecial i, 3)) (hp : pc + 3 = pc') (w1 : (Jvm.Cond.methodLink y.cls i Lib.objectInit).before a0 Z = true) (w2 : (Jvm.Cond.instanceMethod Lib.objectInit).before a0 Z = true) (w3 : (Jvm.Cond.code Lib.objectInit ⟨#[0xb1]⟩ 1 none).before a0 Z = true)
    (hml : Ls.length = ml) (hf : 1 ≤ R.frames) (hl : (st.map fun v => v.category).sum + 12 ≤ R.locals) (K : Run l Z y bytes ml ret R n0 Q h k n pc' Ls st) : Run l Z y bytes ml ret R n0 Q h k n pc Ls (.ref a :: st) := by
  subst hp
  exact K.move fun p e s m args below meth c T locs C X N E => by
    obtain ⟨T', X', e', q⟩ := initO X C.1 C.2.2.2.1 C.2.2.2.2.1 w1 w2 w3 E (g := mkF m pc Ls.toArray (.ref a :: st)) rfl (by show Ls.toArray.size = _; rw [List.size_toArray, hml, C.2.2.1]) rfl (hb C.2.1 hd) hf (W := (st.map fun v => v.category).sum) (by show 2 * 0 + _ ≤ _; omega) hl
    exact ⟨T', _, X', N, e', q⟩
/-! returns -/
theorem own_end {v : Option Value} (hQ : Q v h) (hk : k ≤ R.cells) (hn : n ≤ R.slots)
    (H : ∀ (p : Program) (e : Env) (s : State) (m : MethodId) (args : Array Value) (below : List Frame) (meth : Method) (c : Code) (T : State) (locs : List Loc),
      own_Ctx p s m meth c Z y bytes ml ret → Stand p l e R s m args below meth c T locs k n → (meth.sig.returnType = none → v = none) ∧ ∀ fs, (∀ (f : JFrame) (acts : List Action), f.method = m → f.locked = none → f.entered = [] → (doReturn e (T.setTop f) acts v).1 = T.setFrames fs) → Steps p.tables e below (T.setTop (mkF m pc Ls.toArray st)) (T.setFrames fs)) :
    Run l Z y bytes ml ret R n0 Q h k n pc Ls st := fun p e s m args below meth c T locs C X N E => by
  obtain ⟨H1, H2⟩ := H p e s m args below meth c T locs C X
  obtain ⟨fs, hr, hrun, hended, hW, hsame⟩ := X.leave (v := v) H1 C.2.2.2.2.2.2.2
  exact ⟨_, _, H2 fs hr, hrun, hended, v, locs, rfl, ⟨by show Q v T.heap; rw [E]; exact hQ, N⟩, ⟨v, rfl⟩, hW, hsame.mono hk hn⟩
theorem r_retN {t : FieldType} {z : Int32} (v : Int32) (hd : decode bytes pc = .ok (.ireturn, 1)) (hret : ret = some t) (ht : t = .boolean ∨ t = .byte ∨ t = .char ∨ t = .short) (hv : nar t z = v) (hk : k ≤ R.cells) (hn : n ≤ R.slots) (hQ : Q (some (.int v)) h) : Run l Z y bytes ml ret R n0 Q h k n pc Ls (.int z :: st) := by
  subst hv
  exact own_end hQ hk hn fun p e s m args below meth c T locs C X => ⟨fun q => (by rw [C.2.2.2.2.2.2.1, hret] at q; cases q), fun fs hr => retN X C.1 (C.2.2.2.2.2.2.1.trans hret) ht (hb C.2.1 hd) hr⟩
theorem r_retI {z : Int32} (hd : decode bytes pc = .ok (.ireturn, 1)) (hret : ret = some .int) (hk : k ≤ R.cells) (hn : n ≤ R.slots) (hQ : Q (some (.int z)) h) : Run l Z y bytes ml ret R n0 Q h k n pc Ls (.int z :: st) :=
  own_end hQ hk hn fun p e s m args below meth c T locs C X => ⟨fun q => (by rw [C.2.2.2.2.2.2.1, hret] at q; cases q), fun fs hr => retOut X C.1 (C.2.2.2.2.2.2.1.trans hret) rfl (Or.inl ⟨rfl, Or.inl rfl, _, rfl⟩) (hb C.2.1 hd) hr⟩
theorem r_retA {t : FieldType} {v : Value} (hd : decode bytes pc = .ok (.areturn, 1)) (hret : ret = some t) (ht : t.isReference = true) (hw : v.isRef = true) (hnw : narrow t v = v) (hk : k ≤ R.cells) (hn : n ≤ R.slots) (hQ : Q (some v) h) : Run l Z y bytes ml ret R n0 Q h k n pc Ls (v :: st) :=
  own_end hQ hk hn fun p e s m args below meth c T locs C X => ⟨fun q => (by rw [C.2.2.2.2.2.2.1, hret] at q; cases q), fun fs hr => retOut X C.1 (C.2.2.2.2.2.2.1.trans hret) hnw (Or.inr (Or.inr (Or.inr (Or.inr ⟨rfl, ht, hw⟩)))) (hb C.2.1 hd) hr⟩
theorem r_retV (hd : decode bytes pc = .ok (.return_, 1)) (hret : ret = none) (hk : k ≤ R.cells) (hn : n ≤ R.slots) (hQ : Q none h) : Run l Z y bytes ml ret R n0 Q h k n pc Ls [] :=
  own_end hQ hk hn fun p e s m args below meth c T locs C X => ⟨fun _ => rfl, fun fs hr => X.returnOut C.1 (C.2.2.2.2.2.2.1.trans hret) (hb C.2.1 hd) hr⟩
/-! contracts and calls -/
def Con (l : Launch) (Z : State) (y : MethodName) (bytes : ByteArray) (ml : Nat) (ret : Option FieldType) (R : Room) (n0 : Nat) (as' : Array Value) (h : Heap) (Q : Option Value → Heap → Prop) (ws : List Jvm.Cond) : Prop :=
  MetFree l y (head1 (Jvm.Cond.code y bytes ml ret :: ws) R) (fun a U => a = as' ∧ Z.Warmed39 U.vm ∧ U.heap = h) (fun _ _ _ _ _ => True) (fun _ U o U' => ∃ v L, o = .returned v ∧ (Q v U'.heap ∧ Fr n0 L) ∧ FrameEnd U o U' L R.cells R.slots)
theorem Run.con {as' : Array Value} {ws : List Jvm.Cond} (hpn : plainName y.cls = true) (hL : Jvm.Sym.laidSlots as'.toList ++ List.replicate (ml - (Jvm.Sym.laidSlots as'.toList).length) .unset = Ls) (H : Run l Z y bytes ml ret R n0 Q h 0 0 0 Ls []) : Con l Z y bytes ml ret R n0 as' h Q ws := by
  refine MetFree.of_bodySF (plainFor_of_name hpn) hisR ?_
  intro p e s m args below meth c s₁ Bd hml0 hP hK
  obtain ⟨rfl, hZ, hh⟩ := hP
  have X0 : Stand p l e R s m args below meth c s₁ [] 0 0 := Stand.of_body Bd
  obtain ⟨s2, o, h1, h2, h3, v, L, h4, h5, h6⟩ := H p e s m args below meth c s₁ [] ⟨Bd.exec, Bd.bytes, hml0, hZ, findClass_of_methodNamed Bd.named, (name_of_methodNamed Bd.named Bd.method).1, Bd.returns, Bd.notSynchronized⟩ X0 (Fr.nil n0) (by rw [← hh, Bd.state]; rfl)
  exact ⟨s2, o, (XT.entry (Ls := Ls.toArray) hL).trans h1, h2, h3, v, L, h4, h5, h6⟩
section Calls
variable {i : Nat} {y' : MethodName} {bytes' : ByteArray} {ml' : Nat} {ret' : Option FieldType} {R' : Room} {as' : Array Value} {Q' : Option Value → Heap → Prop} {rest : List Value} {ps : List FieldType} {r' : Option FieldType}
theorem r_static (pc' : Nat) (hd : decode bytes pc = .ok (.invokestatic i, 3)) (hp : pc + 3 = pc') (hM : Con l Z y' bytes' ml' ret' R' n0 as' h Q' []) (w1 : (Jvm.Cond.methodLink y.cls i y').before a0 Z = true) (w2 : (Jvm.Cond.static y').before a0 Z = true) (w3 : (Jvm.Cond.initialized y'.cls).before a0 Z = true) (w4 : (Jvm.Cond.code y' bytes' ml' ret').before a0 Z = true)
    (hne : y'.cls ≠ "java/lang/invoke/MethodHandle" ∧ y'.cls ≠ "java/lang/invoke/VarHandle") (hpd : parseMethodDescriptor y'.desc = some ⟨ps, r'⟩) (hlen : as'.toList.length = ps.length) (hs : st = as'.toList.reverse ++ rest) (hml : Ls.length = ml) (hf : R'.frames + 1 ≤ R.frames) (hl : (rest.map fun v => v.category).sum + (ml' + 11) + R'.locals ≤ R.locals) (hc : k + R'.cells ≤ R.cells) (hn : n + R'.slots ≤ R.slots)
    (K : ∀ v h', Q' v h' → Run l Z y bytes ml ret R n0 Q h' (k + R'.cells) (n + R'.slots) pc' Ls (v.toList ++ rest)) : Run l Z y bytes ml ret R n0 Q h k n pc Ls st := fun p e s m args below meth c T locs C X N E => by
  subst hp
  obtain ⟨v, vm1, ⟨U, locs', k', n'⟩, hW, X', ⟨L, ⟨hQ, hL⟩, e1, e2, e3⟩, q⟩ := Jvm.LawKit.callS X C.1 (y := y') C.2.2.2.2.1 (mvT C.2.2.2.1 w1) (mvT C.2.2.2.1 w2) (mvT C.2.2.2.1 w3) (mvT C.2.2.2.1 w4) hne (backOf (Q := fun v h' L => Q' v h' ∧ Fr n0 L) (W := (rest.map fun v => v.category).sum) hM C.2.2.2.1 w4 w3 hf hl) (g := mkF m pc Ls.toArray st) rfl (by show Ls.toArray.size = _; rw [List.size_toArray, hml, C.2.2.1]) (argsL := as'.toList) (rest := rest) (lenOf hpd hlen) hs (by show 2 * 0 + _ ≤ _; omega) (hb C.2.1 hd) (fun _ _ => ⟨rfl, E, hc, hn⟩)
  dsimp only [Pt.U, Pt.locs, Pt.cells, Pt.slots] at X' hQ e1 e2 e3 q
  subst e1 e2 e3
  obtain ⟨s2, o, h1, h2⟩ := K v U.heap hQ p e s m args below meth c U _ C X' (Fr.app N hL) rfl
  exact ⟨s2, o, q _ h1, h2⟩
theorem r_special {a : Addr} {as1 : List Value} (pc' : Nat) (hd : decode bytes pc = .ok (.invokespecial i, 3)) (hp : pc + 3 = pc') (hM : Con l Z y' bytes' ml' none R' n0 as' h Q' []) (ha : as' = (.ref a :: as1).toArray) (hy1 : y'.name = "<init>") (w1 : (Jvm.Cond.methodLink y.cls i y').before a0 Z = true) (w2 : (Jvm.Cond.instanceMethod y').before a0 Z = true) (w3 : (Jvm.Cond.initialized y'.cls).before a0 Z = true) (w4 : (Jvm.Cond.code y' bytes' ml' none).before a0 Z = true)
    (hne : y'.cls ≠ "java/lang/invoke/MethodHandle" ∧ y'.cls ≠ "java/lang/invoke/VarHandle") (hpd : parseMethodDescriptor y'.desc = some ⟨ps, r'⟩) (hlen : as1.length = ps.length) (hs : st = as1.reverse ++ .ref a :: rest) (hml : Ls.length = ml) (hf : R'.frames + 1 ≤ R.frames) (hl : (rest.map fun v => v.category).sum + (ml' + 11) + R'.locals ≤ R.locals) (hc : k + R'.cells ≤ R.cells) (hn : n + R'.slots ≤ R.slots)
    (K : ∀ v h', Q' v h' → Run l Z y bytes ml ret R n0 Q h' (k + R'.cells) (n + R'.slots) pc' Ls (v.toList ++ rest)) : Run l Z y bytes ml ret R n0 Q h k n pc Ls st := fun p e s m args below meth c T locs C X N E => by
  subst hp ha
  obtain ⟨v, vm1, ⟨U, locs', k', n'⟩, hW, X', ⟨L, ⟨hQ, hL⟩, e1, e2, e3⟩, q⟩ := X.specialBack C.1 (y := y') hy1 C.2.2.2.2.1 (mvT C.2.2.2.1 w1) (mvT C.2.2.2.1 w2) (mvT C.2.2.2.1 w4) hne (backOf (Q := fun v h' L => Q' v h' ∧ Fr n0 L) (W := (rest.map fun v => v.category).sum) hM C.2.2.2.1 w4 w3 hf hl) (g := mkF m pc Ls.toArray st) rfl (by show Ls.toArray.size = _; rw [List.size_toArray, hml, C.2.2.1]) (Steps.refl _) (a := a) (argsL := as1) (rest := rest) (lenOf hpd hlen) hs (by show 2 * 0 + _ ≤ _; omega) (hb C.2.1 hd) (fun _ _ => ⟨rfl, E, hc, hn⟩)
  dsimp only [Pt.U, Pt.locs, Pt.cells, Pt.slots] at X' hQ e1 e2 e3 q
  subst e1 e2 e3
  obtain ⟨s2, o, h1, h2⟩ := K v U.heap hQ p e s m args below meth c U _ C X' (Fr.app N hL) rfl
  exact ⟨s2, o, q.trans h1, h2⟩
theorem r_virtual {a : Addr} {C' : String} {z' : MethodName} {as1 : List Value} (pc' : Nat) (hd : decode bytes pc = .ok (.invokevirtual i, 3)) (hp : pc + 3 = pc') (hM : Con l Z z' bytes' ml' ret' R' n0 as' h Q' []) (ha : as' = (.ref a :: as1).toArray) (w1 : (Jvm.Cond.methodLink y.cls i y').before a0 Z = true) (w2 : (Jvm.Cond.declares y').before a0 Z = true) (w5 : (Jvm.Cond.selects C' y' z').before a0 Z = true) (w6 : (Jvm.Cond.instanceMethod z').before a0 Z = true) (w3 : (Jvm.Cond.initialized z'.cls).before a0 Z = true) (w4 : (Jvm.Cond.code z' bytes' ml' ret').before a0 Z = true)
    (hne : y'.cls ≠ "java/lang/invoke/MethodHandle" ∧ y'.cls ≠ "java/lang/invoke/VarHandle") (hpd : parseMethodDescriptor y'.desc = some ⟨ps, r'⟩) (E1 : Exa Z h a C') (hlen : as1.length = ps.length) (hs : st = as1.reverse ++ .ref a :: rest) (hml : Ls.length = ml) (hf : R'.frames + 1 ≤ R.frames) (hl : (rest.map fun v => v.category).sum + (ml' + 11) + R'.locals ≤ R.locals) (hc : k + R'.cells ≤ R.cells) (hn : n + R'.slots ≤ R.slots)
    (hnf : ∀ (s : State) (args : Array Value), Z.Warmed39 s.vm → NotFace s y')
    (K : ∀ v h', Q' v h' → Run l Z y bytes ml ret R n0 Q h' (k + R'.cells) (n + R'.slots) pc' Ls (v.toList ++ rest)) : Run l Z y bytes ml ret R n0 Q h k n pc Ls st := fun p e s m args below meth c T locs C X N E => by
  subst hp ha
  obtain ⟨cq, kq, qa, qb, qc⟩ := isOf (s := s) C.2.2.2.1 E E1
  obtain ⟨v, vm1, ⟨U, locs', k', n'⟩, hW, X', ⟨L, ⟨hQ, hL⟩, e1, e2, e3⟩, q⟩ := X.virtualBack C.1 (y := y') (z := z') C.2.2.2.2.1 (mvT C.2.2.2.1 w1) (mvT C.2.2.2.1 w2) (hnf s args C.2.2.2.1) (mvT C.2.2.2.1 w5) (mvT C.2.2.2.1 w6) hne (backOf (Q := fun v h' L => Q' v h' ∧ Fr n0 L) (W := (rest.map fun v => v.category).sum) hM C.2.2.2.1 w4 w3 hf hl) qa qc (g := mkF m pc Ls.toArray st) rfl (by show Ls.toArray.size = _; rw [List.size_toArray, hml, C.2.2.1]) (Steps.refl _) (argsL := as1) (rest := rest) (lenOf hpd hlen) hs (by show 2 * 0 + _ ≤ _; omega) (hb C.2.1 hd) (fun _ _ => ⟨rfl, E, hc, hn⟩)
  dsimp only [Pt.U, Pt.locs, Pt.cells, Pt.slots] at X' hQ e1 e2 e3 q
  subst e1 e2 e3
  obtain ⟨s2, o, h1, h2⟩ := K v U.heap hQ p e s m args below meth c U _ C X' (Fr.app N hL) rfl
  exact ⟨s2, o, q.trans h1, h2⟩
end Calls
end Own

section Own5
variable {l : Launch} {Z : State} {y : MethodName} {bytes : ByteArray} {ml : Nat} {ret : Option FieldType} {R : Room} {n0 : Nat} {Q : Option Value → Heap → Prop} {h : Heap} {k n : Nat} {pc : Nat} {Ls : List Slot} {st : List Value} {a0 : Array Value}
/-! longs and doubles in locals -/
def own_two : Slot → Slot → Bool
  | .val (.long _), .second => true
  | .val (.double _), .second => true
  | x, z => own_one x && own_one z
theorem own_p1 {o : Slot} (h : own_one o = true) : Jvm.Free.Fl.Plain1 o := by
  cases o with
  | unset => trivial
  | second => cases h
  | val w => cases w <;> first | rfl | cases h
theorem own_two_spec {x z : Slot} (h : own_two x z = true) : (Jvm.Free.Fl.Plain1 x ∧ Jvm.Free.Fl.Plain1 z) ∨ ((∃ old, x = .val old ∧ old.category = 2) ∧ z = .second) := by
  unfold own_two at h
  split at h
  · exact Or.inr ⟨⟨_, rfl, rfl⟩, rfl⟩
  · exact Or.inr ⟨⟨_, rfl, rfl⟩, rfl⟩
  · rw [Bool.and_eq_true] at h
    exact Or.inl ⟨own_p1 h.1, own_p1 h.2⟩
theorem own_put2 {m : MethodId} {j : Nat} {v : Value} (h : (Ls[j]?.bind fun x => Ls[j + 1]?.map fun z => own_two x z) = some true) (hv : v.category = 2) : storeLocals (mkF m pc Ls.toArray st).locals j v = some ((Ls.set j (.val v)).set (j + 1) .second).toArray := by
  show storeLocals Ls.toArray j v = _
  cases hx : Ls[j]? with
  | none => rw [hx] at h; cases h
  | some x =>
    cases hz : Ls[j + 1]? with
    | none => rw [hx, hz] at h; cases h
    | some z =>
      rw [hx, hz] at h
      have q : own_two x z = true := Option.some.inj h
      have := Jvm.Free.Fl.storeLocals_cat2 (l := Ls.toArray) (i := j) (v := v) (x := x) (y := z) (by rw [List.getElem?_toArray]; exact hx) (by rw [List.getElem?_toArray]; exact hz) hv (own_two_spec q)
      rw [this, List.setIfInBounds_toArray, List.setIfInBounds_toArray]
theorem r_lstore {j : Nat} {v : Int64} (pc' : Nat) (hd : decode bytes pc = .ok (.lstore j, 2)) (hp : pc + 2 = pc') (hl : (Ls[j]?.bind fun x => Ls[j + 1]?.map fun z => own_two x z) = some true) (K : Run l Z y bytes ml ret R n0 Q h k n pc' ((Ls.set j (.val (.long v))).set (j + 1) .second) st) : Run l Z y bytes ml ret R n0 Q h k n pc Ls (.long v :: st) := by
  subst hp; exact K.step fun p e s m args below meth c T locs C X E t q => XT.lstore X.here C.1 rfl (hb C.2.1 hd) rfl (own_put2 hl rfl) q
theorem r_dstore {j : Nat} {v : UInt64} (pc' : Nat) (hd : decode bytes pc = .ok (.dstore j, 2)) (hp : pc + 2 = pc') (hl : (Ls[j]?.bind fun x => Ls[j + 1]?.map fun z => own_two x z) = some true) (K : Run l Z y bytes ml ret R n0 Q h k n pc' ((Ls.set j (.val (.double v))).set (j + 1) .second) st) : Run l Z y bytes ml ret R n0 Q h k n pc Ls (.double v :: st) := by
  subst hp; exact K.step fun p e s m args below meth c T locs C X E t q => XS.dstore X.here C.1 rfl (hb C.2.1 hd) rfl (own_put2 hl rfl) q
theorem r_dstoreN {j : Fin 4} {v : UInt64} (pc' : Nat) (hd : decode bytes pc = .ok (.dstore_n j, 1)) (hp : pc + 1 = pc') (hl : (Ls[j.val]?.bind fun x => Ls[j.val + 1]?.map fun z => own_two x z) = some true) (K : Run l Z y bytes ml ret R n0 Q h k n pc' ((Ls.set j.val (.val (.double v))).set (j.val + 1) .second) st) : Run l Z y bytes ml ret R n0 Q h k n pc Ls (.double v :: st) := by
  subst hp; exact K.step fun p e s m args below meth c T locs C X E t q => XS.dstoreN X.here C.1 rfl (hb C.2.1 hd) rfl (own_put2 hl rfl) q
theorem r_dloadN {j : Fin 4} {v : UInt64} (pc' : Nat) (hd : decode bytes pc = .ok (.dload_n j, 1)) (hp : pc + 1 = pc') (hl : Ls[j.val]? = some (.val (.double v))) (K : Run l Z y bytes ml ret R n0 Q h k n pc' Ls (.double v :: st)) : Run l Z y bytes ml ret R n0 Q h k n pc Ls st := by
  subst hp; exact K.step fun p e s m args below meth c T locs C X E t q => XS.dloadN X.here C.1 rfl (hb C.2.1 hd) (own_get hl) q
theorem r_dload {j : Nat} {v : UInt64} (pc' : Nat) (hd : decode bytes pc = .ok (.dload j, 2)) (hp : pc + 2 = pc') (hl : Ls[j]? = some (.val (.double v))) (K : Run l Z y bytes ml ret R n0 Q h k n pc' Ls (.double v :: st)) : Run l Z y bytes ml ret R n0 Q h k n pc Ls st := by
  subst hp; exact K.step fun p e s m args below meth c T locs C X E t q => XS.dload X.here C.1 rfl (hb C.2.1 hd) (own_get hl) q
theorem r_dconst0 (v : UInt64) (pc' : Nat) (hd : decode bytes pc = .ok (.dconst 0, 1)) (hp : pc + 1 = pc') (hv : FP.dconst0 = v) (K : Run l Z y bytes ml ret R n0 Q h k n pc' Ls (.double v :: st)) : Run l Z y bytes ml ret R n0 Q h k n pc Ls st := by
  subst hp; exact K.step fun p e s m args below meth c T locs C X E t q => XS.dconst0 X.here C.1 rfl (hb C.2.1 hd) hv q
theorem r_i2d {x : Int32} (v : UInt64) (pc' : Nat) (hd : decode bytes pc = .ok (.i2d, 1)) (hp : pc + 1 = pc') (hv : FP.i2d x = v) (K : Run l Z y bytes ml ret R n0 Q h k n pc' Ls (.double v :: st)) : Run l Z y bytes ml ret R n0 Q h k n pc Ls (.int x :: st) := by
  subst hp; exact K.step fun p e s m args below meth c T locs C X E t q => XS.i2dS X.here C.1 rfl (hb C.2.1 hd) rfl hv q
theorem r_l2d {x : Int64} (v : UInt64) (pc' : Nat) (hd : decode bytes pc = .ok (.l2d, 1)) (hp : pc + 1 = pc') (hv : FP.l2d x = v) (K : Run l Z y bytes ml ret R n0 Q h k n pc' Ls (.double v :: st)) : Run l Z y bytes ml ret R n0 Q h k n pc Ls (.long x :: st) := by
  subst hp; exact K.step fun p e s m args below meth c T locs C X E t q => XS.l2dS X.here C.1 rfl (hb C.2.1 hd) rfl hv q
theorem r_dcmp {o : CmpOp} {x z : UInt64} (v : Int32) (pc' : Nat) (hd : decode bytes pc = .ok (.dcmp o, 1)) (hp : pc + 1 = pc') (hv : cmpValue (FP.dcmp x z) o = v) (K : Run l Z y bytes ml ret R n0 Q h k n pc' Ls (.int v :: st)) : Run l Z y bytes ml ret R n0 Q h k n pc Ls (.double z :: .double x :: st) := by
  subst hp; exact K.step fun p e s m args below meth c T locs C X E t q => XS.dcmpS X.here C.1 rfl (hb C.2.1 hd) rfl hv q
theorem r_dadd {x z : UInt64} (v : UInt64) (pc' : Nat) (hd : decode bytes pc = .ok (.dadd, 1)) (hp : pc + 1 = pc') (hn : Jvm.Free.Fl.NoNaN64 (FP.dadd x z)) (hv : FP.dadd x z = v) (K : Run l Z y bytes ml ret R n0 Q h k n pc' Ls (.double v :: st)) : Run l Z y bytes ml ret R n0 Q h k n pc Ls (.double z :: .double x :: st) := by
  subst hp; exact K.step fun p e s m args below meth c T locs C X E t q => XS.daddS X.here C.1 rfl (hb C.2.1 hd) rfl hn hv q
theorem r_dmul {x z : UInt64} (v : UInt64) (pc' : Nat) (hd : decode bytes pc = .ok (.dmul, 1)) (hp : pc + 1 = pc') (hn : Jvm.Free.Fl.NoNaN64 (FP.dmul x z)) (hv : FP.dmul x z = v) (K : Run l Z y bytes ml ret R n0 Q h k n pc' Ls (.double v :: st)) : Run l Z y bytes ml ret R n0 Q h k n pc Ls (.double z :: .double x :: st) := by
  subst hp; exact K.step fun p e s m args below meth c T locs C X E t q => XS.dmulS X.here C.1 rfl (hb C.2.1 hd) rfl hn hv q
theorem r_daload {a : Addr} {cA : ClassId} {z j : Int32} {vs : List Value} {dv : Value} (i : Nat) (v : Value) (pc' : Nat) (hd : decode bytes pc = .ok (.daload, 1)) (hp : pc + 1 = pc') (A : Arv Z h a cA .double z vs dv) (hj : ¬ j < 0) (hi : j.toNatClampNeg = i) (hz : i < z.toNatClampNeg) (hv : vs.getD i dv = v) (K : Run l Z y bytes ml ret R n0 Q h k n pc' Ls (v :: st)) : Run l Z y bytes ml ret R n0 Q h k n pc Ls (.int j :: .ref a :: st) := by
  subst hp
  obtain ⟨cl, A1, -, S, -, H, -⟩ := A
  have hin := own_in S hj hi hz
  exact K.step fun p e s m args below meth c T locs C X E t q => X.daload C.1 (by rw [E]; exact A1.1) (State.isArrayOf_alike C.2.2.2.1.alike A1.2.1) A1.2.2 hin (Has.at H hin (by rw [hi]; exact hv)) (g := mkF m pc Ls.toArray (.int j :: .ref a :: st)) rfl rfl (hb C.2.1 hd) _ q
theorem r_dastore {a : Addr} {cA : ClassId} {z j : Int32} {x : UInt64} {vs : List Value} {dv : Value} (i : Nat) (pc' : Nat) (hd : decode bytes pc = .ok (.dastore, 1)) (hp : pc + 1 = pc') (A : Arv Z h a cA .double z vs dv) (hj : ¬ j < 0) (hi : j.toNatClampNeg = i) (hz : i < z.toNatClampNeg) (hl : i < vs.length) (ha : n0 ≤ a)
    (K : ∀ h', Wr h h' a i (.double x) → Arv Z h' a cA .double z (vs.set i (.double x)) dv → Run l Z y bytes ml ret R n0 Q h' k n pc' Ls st) : Run l Z y bytes ml ret R n0 Q h k n pc Ls (.double x :: .int j :: .ref a :: st) := fun p e s m args below meth c T locs C X N E => by
  subst hp
  obtain ⟨cl, A1, q1, S, q3, H, G⟩ := A
  have hin := own_in S hj hi hz
  obtain ⟨T', h', X', e', W, q⟩ := stD X C.1 C.2.2.2.1 E A1 hin (g := mkF m pc Ls.toArray (.double x :: .int j :: .ref a :: st)) rfl rfl (hb C.2.1 hd)
  obtain ⟨s2, o, h1, h2⟩ := K h' (hi ▸ W) (Arv.set A1 q1 S q3 H G rfl W i hi hl) p e s m args below meth c T' _ C X' (Fr.snoc X' N ha) e'
  exact ⟨s2, o, q _ h1, h2⟩
theorem r_retD {z : UInt64} (hd : decode bytes pc = .ok (.dreturn, 1)) (hret : ret = some .double) (hk : k ≤ R.cells) (hn : n ≤ R.slots) (hQ : Q (some (.double z)) h) : Run l Z y bytes ml ret R n0 Q h k n pc Ls (.double z :: st) :=
  own_end hQ hk hn fun p e s m args below meth c T locs C X => ⟨fun q => (by rw [C.2.2.2.2.2.2.1, hret] at q; cases q), fun fs hr => retOut X C.1 (C.2.2.2.2.2.2.1.trans hret) rfl (Or.inr (Or.inr (Or.inl ⟨rfl, rfl, _, rfl⟩))) (hb C.2.1 hd) hr⟩
/-- a method of a class of which the machine runs some itself -/
theorem Run.con2 {as' : Array Value} {ws : List Jvm.Cond} (hpn : plainFor y = true) (hL : Jvm.Sym.laidSlots as'.toList ++ List.replicate (ml - (Jvm.Sym.laidSlots as'.toList).length) .unset = Ls) (H : Run l Z y bytes ml ret R n0 Q h 0 0 0 Ls []) : Con l Z y bytes ml ret R n0 as' h Q ws := by
  refine MetFree.of_bodySF hpn hisR ?_
  intro p e s m args below meth c s₁ Bd hml0 hP hK
  obtain ⟨rfl, hZ, hh⟩ := hP
  have X0 : Stand p l e R s m args below meth c s₁ [] 0 0 := Stand.of_body Bd
  obtain ⟨s2, o, h1, h2, h3, v, L, h4, h5, h6⟩ := H p e s m args below meth c s₁ [] ⟨Bd.exec, Bd.bytes, hml0, hZ, findClass_of_methodNamed Bd.named, (name_of_methodNamed Bd.named Bd.method).1, Bd.returns, Bd.notSynchronized⟩ X0 (Fr.nil n0) (by rw [← hh, Bd.state]; rfl)
  exact ⟨s2, o, (XT.entry (Ls := Ls.toArray) hL).trans h1, h2, h3, v, L, h4, h5, h6⟩
end Own5
/-! numbers that a double holds exactly -/
def own_B (c : Int) (A : Int64) : Prop := -(c * 1099511627776) ≤ A.toInt ∧ A.toInt ≤ c * 1099511627776
theorem own_P {n f : Int32} (hn : 1 ≤ n.toInt) (h1 : -512 ≤ f.toInt) (h2 : f.toInt ≤ 511) : FP.dmul (FP.i2d n) (FP.l2d f.toInt64) = FP.l2d (n.toInt64 * f.toInt64) ∧ own_B 1 (n.toInt64 * f.toInt64) := by
  have r := rng32 n
  have e1 := c_i2l n
  have e2 := c_i2l f
  have hw := XT.wideMul n f
  refine ⟨?_, ?_⟩
  · rw [Jvm.RoadKit.i2d_w]
    refine Jvm.RoadKit.dmul_k (A := 2147483648) (B := 512) (by omega) (by omega) (by omega) (by omega) (by decide) (by decide) (by decide) ?_ ?_
    · rintro ⟨q, -⟩
      rw [q] at e1
      have : (0 : Int64).toInt = 0 := rfl
      omega
    · rintro ⟨-, q⟩
      rw [Int64.lt_iff_toInt_lt] at q
      have : (0 : Int64).toInt = 0 := rfl
      omega
  · have b1 : n.toInt * f.toInt ≤ 2147483648 * 512 := by
      refine Int.le_trans (Int.mul_le_mul_of_nonneg_left h2 (by omega)) ?_
      have : n.toInt * 511 ≤ 2147483648 * 511 := by omega
      omega
    have b2 : -(2147483648 * 512) ≤ n.toInt * f.toInt := by
      have q := Int.mul_le_mul_of_nonneg_left h1 (show 0 ≤ n.toInt by omega)
      omega
    unfold own_B
    rw [hw]
    omega
theorem own_A {c : Int} {A P : Int64} (hA : own_B c A) (hP : own_B 1 P) (h0 : 0 ≤ c) (hc : c ≤ 10) : FP.dadd (FP.l2d A) (FP.l2d P) = FP.l2d (A + P) ∧ own_B (c + 1) (A + P) := by
  obtain ⟨a1, a2⟩ := hA
  obtain ⟨p1, p2⟩ := hP
  have bA : Jvm.RoadKit.B53 A := by unfold Jvm.RoadKit.B53; omega
  have bP : Jvm.RoadKit.B53 P := by unfold Jvm.RoadKit.B53; omega
  refine ⟨Jvm.RoadKit.dadd_w bA bP, ?_⟩
  have e := Jvm.RoadKit.add64 bA bP
  unfold own_B
  omega


theorem own_ne {a b : Addr} {n : Nat} (h : a < n) (e : b = n) : a ≠ b := fun q => by
  subst q; subst e; exact Nat.lt_irrefl _ h
theorem own_ne' {t b : Addr} {n : Nat} (h : t < n) (e : n ≤ b) : b ≠ t := fun q => by
  subst q; exact absurd h (Nat.not_lt.mpr e)
theorem own_b0 : nar .boolean 0 = 0 := rfl
theorem own_b1 : nar .boolean 1 = 1 := rfl
theorem own_sta {C f d K : String} {args : Array Value} {s : State} (h : (Jvm.Cond.exactly (.static C f d) K).value args s none s [] = some true) (hi : (Jvm.Cond.initializedFor C f d).before args s = true ∨ ((Jvm.Cond.initialized C).before args s = true ∧ (Jvm.Cond.laysStatic C f d).before args s = true)) : ∃ a, (Term.static C f d).eval args s none [] s = some (.ref a) ∧ Sta s s.heap C f d (.ref a) ∧ Exa s s.heap a K := by
  obtain ⟨a, e⟩ := exa_v h
  exact ⟨a, e, Sta.start e hi, Exa.start e h⟩
theorem own_fldI {t : Term} {C f d : String} {z : Int32} {a : Addr} {args : Array Value} {s : State} (e : t.eval args s none [] s = some (.ref a)) (h : (Jvm.Cond.eq (.field t C f d) (.int z)).value args s none s [] = some true) : Fld s s.heap a C f d (.int z) := by
  obtain ⟨u, w, h1, h2, k1, k2⟩ := cmp_v (Or.inl h)
  rw [Term.int_eval] at h2
  cases h2
  obtain ⟨u', rfl⟩ := k2
  obtain rfl := gotT (Cond.eq_ints h1 (Term.int_eval z)) h
  rw [fld_at e] at h1
  exact Fld.start h1


theorem own_mod (x m : Int32) (hm : 0 < m.toInt) : 0 ≤ ((x &&& 2147483647) % m).toInt ∧ ((x &&& 2147483647) % m).toInt < m.toInt := by
  have h1 := c_mask x 2147483647 31 (by decide) (by decide)
  rw [Int32.toInt_mod, h1]
  have h2 : 0 ≤ x.toInt % ((2 ^ 31 : Nat) : Int) := Int.emod_nonneg _ (by decide)
  rw [Int.tmod_eq_emod_of_nonneg h2]
  exact ⟨Int.emod_nonneg _ (by omega), Int.emod_lt_of_pos _ hm⟩
theorem own_nat {K : Int32} {N : Nat} (h0 : 0 ≤ K.toInt) (h1 : K.toInt < N) : ∃ i : Nat, i < N ∧ K = Int32.ofNat i := by
  refine ⟨K.toInt.toNat, by omega, ?_⟩
  apply Int32.toInt_inj.mp
  have := K.toInt_lt
  rw [Int32.toInt_ofNat_small (by omega)]
  omega


theorem own_cl {i : Nat} (h : i < 2 ^ 31) : (Int32.ofNat i).toNatClampNeg = i := by
  show (Int32.ofNat i).toInt.toNat = i
  rw [Int32.toInt_ofNat_small h]; rfl
theorem own_nn {i : Nat} (h : i < 2 ^ 31) : ¬ Int32.ofNat i < 0 := by
  rw [Int32.lt_iff_toInt_lt, Int32.toInt_ofNat_small h]
  show ¬ (i : Int) < 0
  omega
theorem own_lt {i j : Nat} (hi : i < 2 ^ 31) (hj : j < 2 ^ 31) : Int32.ofNat i < Int32.ofNat j ↔ i < j := by
  rw [Int32.lt_iff_toInt_lt, Int32.toInt_ofNat_small hi, Int32.toInt_ofNat_small hj]; omega
theorem own_eq {i j : Nat} (hi : i < 2 ^ 31) (hj : j < 2 ^ 31) : Int32.ofNat i = Int32.ofNat j ↔ i = j := by
  rw [← Int32.toInt_inj, Int32.toInt_ofNat_small hi, Int32.toInt_ofNat_small hj]; omega
theorem own_pred {i : Nat} (h : i < 2 ^ 31) (h0 : 0 < i) : Int32.ofNat i - 1 = Int32.ofNat (i - 1) := by
  apply Int32.toInt_inj.mp
  have q := c_isub (Int32.ofNat i) 1
  rw [Int32.toInt_ofNat_small h] at q
  have r := rng32 (Int32.ofNat i - 1)
  have e1 : (1 : Int32).toInt = 1 := rfl
  rw [e1] at q
  rw [Int32.toInt_ofNat_small (by omega)]
  omega

theorem own_ext {h h' : Heap} (K : Keep h h' []) : Ext h h' := ⟨K.1, fun a c q => K.2.1 a c q nin0⟩
theorem own_keep {h h1 h2 : Heap} {a : Addr} (E : Ext h h1) (ha : a = h.size) (K : Keep h1 h2 [a]) : Ext h h2 :=
  own_ext (((Keep.refl h []).ext E).trans K fun x hx => Or.inr (by cases List.mem_singleton.mp hx; exact Nat.le_of_eq ha.symm))
theorem own_kext {h h1 : Heap} (E : Ext h h1) (ws : List Addr) : Keep h h1 ws := (Keep.refl h ws).ext E
theorem own_kt {h h1 h2 : Heap} {ws : List Addr} (K : Keep h h1 ws) (K' : Keep h1 h2 ws) : Keep h h2 ws := K.trans K' fun x hx => Or.inl hx
theorem d_jdk_29_method_65_code_0 : decode jdk_29_method_65_code 0 = .ok (.iload_n 0, 1) := by decide +kernel
theorem d_jdk_29_method_65_code_1 : decode jdk_29_method_65_code 1 = .ok (.iload_n 1, 1) := by decide +kernel
theorem d_jdk_29_method_65_code_2 : decode jdk_29_method_65_code 2 = .ok (.if_icmp .lt 7, 3) := by decide +kernel
theorem d_jdk_29_method_65_code_5 : decode jdk_29_method_65_code 5 = .ok (.iload_n 0, 1) := by decide +kernel
theorem d_jdk_29_method_65_code_6 : decode jdk_29_method_65_code 6 = .ok (.goto 4, 3) := by decide +kernel
theorem d_jdk_29_method_65_code_9 : decode jdk_29_method_65_code 9 = .ok (.iload_n 1, 1) := by decide +kernel
theorem d_jdk_29_method_65_code_10 : decode jdk_29_method_65_code 10 = .ok (.ireturn, 1) := by decide +kernel
theorem d_method_2_code_0 : decode method_2_code 0 = .ok (.lload_n 0, 1) := by decide +kernel
theorem d_method_2_code_1 : decode method_2_code 1 = .ok (.bipush 10, 2) := by decide +kernel
theorem d_method_2_code_3 : decode method_2_code 3 = .ok (.iload_n 2, 1) := by decide +kernel
theorem d_method_2_code_4 : decode method_2_code 4 = .ok (.imul, 1) := by decide +kernel
theorem d_method_2_code_5 : decode method_2_code 5 = .ok (.lushr, 1) := by decide +kernel
theorem d_method_2_code_6 : decode method_2_code 6 = .ok (.ldc2_w 7, 3) := by decide +kernel
theorem d_method_2_code_9 : decode method_2_code 9 = .ok (.land, 1) := by decide +kernel
theorem d_method_2_code_10 : decode method_2_code 10 = .ok (.l2i, 1) := by decide +kernel
theorem d_method_2_code_11 : decode method_2_code 11 = .ok (.sipush 512, 3) := by decide +kernel
theorem d_method_2_code_14 : decode method_2_code 14 = .ok (.isub, 1) := by decide +kernel
theorem d_method_2_code_15 : decode method_2_code 15 = .ok (.ireturn, 1) := by decide +kernel
theorem d_prog_58_method_1_code_0 : decode prog_58_method_1_code 0 = .ok (.aload_n 0, 1) := by decide +kernel
theorem d_prog_58_method_1_code_1 : decode prog_58_method_1_code 1 = .ok (.invokespecial 1, 3) := by decide +kernel
theorem d_prog_58_method_1_code_4 : decode prog_58_method_1_code 4 = .ok (.iconst 0, 1) := by decide +kernel
theorem d_prog_58_method_1_code_5 : decode prog_58_method_1_code 5 = .ok (.istore 5, 2) := by decide +kernel
theorem d_prog_58_method_1_code_7 : decode prog_58_method_1_code 7 = .ok (.iload_n 3, 1) := by decide +kernel
theorem d_prog_58_method_1_code_8 : decode prog_58_method_1_code 8 = .ok (.istore 6, 2) := by decide +kernel
theorem d_prog_58_method_1_code_10 : decode prog_58_method_1_code 10 = .ok (.iload 6, 2) := by decide +kernel
theorem d_prog_58_method_1_code_12 : decode prog_58_method_1_code 12 = .ok (.iload 4, 2) := by decide +kernel
theorem d_prog_58_method_1_code_14 : decode prog_58_method_1_code 14 = .ok (.if_icmp .ge 18, 3) := by decide +kernel
theorem d_prog_58_method_1_code_17 : decode prog_58_method_1_code 17 = .ok (.iload 5, 2) := by decide +kernel
theorem d_prog_58_method_1_code_19 : decode prog_58_method_1_code 19 = .ok (.aload_n 2, 1) := by decide +kernel
theorem d_prog_58_method_1_code_20 : decode prog_58_method_1_code 20 = .ok (.iload 6, 2) := by decide +kernel
theorem d_prog_58_method_1_code_22 : decode prog_58_method_1_code 22 = .ok (.iaload, 1) := by decide +kernel
theorem d_prog_58_method_1_code_23 : decode prog_58_method_1_code 23 = .ok (.iadd, 1) := by decide +kernel
theorem d_prog_58_method_1_code_24 : decode prog_58_method_1_code 24 = .ok (.istore 5, 2) := by decide +kernel
theorem d_prog_58_method_1_code_26 : decode prog_58_method_1_code 26 = .ok (.iinc 6 1, 3) := by decide +kernel
theorem d_prog_58_method_1_code_29 : decode prog_58_method_1_code 29 = .ok (.goto (-19), 3) := by decide +kernel
theorem d_prog_58_method_1_code_32 : decode prog_58_method_1_code 32 = .ok (.aload_n 0, 1) := by decide +kernel
theorem d_prog_58_method_1_code_33 : decode prog_58_method_1_code 33 = .ok (.aload_n 1, 1) := by decide +kernel
theorem d_prog_58_method_1_code_34 : decode prog_58_method_1_code 34 = .ok (.putfield 7, 3) := by decide +kernel
theorem d_prog_58_method_1_code_37 : decode prog_58_method_1_code 37 = .ok (.aload_n 0, 1) := by decide +kernel
theorem d_prog_58_method_1_code_38 : decode prog_58_method_1_code 38 = .ok (.aload_n 2, 1) := by decide +kernel
theorem d_prog_58_method_1_code_39 : decode prog_58_method_1_code 39 = .ok (.putfield 13, 3) := by decide +kernel
theorem d_prog_58_method_1_code_42 : decode prog_58_method_1_code 42 = .ok (.aload_n 0, 1) := by decide +kernel
theorem d_prog_58_method_1_code_43 : decode prog_58_method_1_code 43 = .ok (.iload_n 3, 1) := by decide +kernel
theorem d_prog_58_method_1_code_44 : decode prog_58_method_1_code 44 = .ok (.putfield 16, 3) := by decide +kernel
theorem d_prog_58_method_1_code_47 : decode prog_58_method_1_code 47 = .ok (.aload_n 0, 1) := by decide +kernel
theorem d_prog_58_method_1_code_48 : decode prog_58_method_1_code 48 = .ok (.iload 4, 2) := by decide +kernel
theorem d_prog_58_method_1_code_50 : decode prog_58_method_1_code 50 = .ok (.putfield 20, 3) := by decide +kernel
theorem d_prog_58_method_1_code_53 : decode prog_58_method_1_code 53 = .ok (.aload_n 0, 1) := by decide +kernel
theorem d_prog_58_method_1_code_54 : decode prog_58_method_1_code 54 = .ok (.iload 5, 2) := by decide +kernel
theorem d_prog_58_method_1_code_56 : decode prog_58_method_1_code 56 = .ok (.putfield 23, 3) := by decide +kernel
theorem d_prog_58_method_1_code_59 : decode prog_58_method_1_code 59 = .ok (.return_, 1) := by decide +kernel
theorem d_prog_58_method_9_code_0 : decode prog_58_method_9_code 0 = .ok (.dconst 0, 1) := by decide +kernel
theorem d_prog_58_method_9_code_1 : decode prog_58_method_9_code 1 = .ok (.dstore_n 2, 1) := by decide +kernel
theorem d_prog_58_method_9_code_2 : decode prog_58_method_9_code 2 = .ok (.aload_n 0, 1) := by decide +kernel
theorem d_prog_58_method_9_code_3 : decode prog_58_method_9_code 3 = .ok (.getfield 16, 3) := by decide +kernel
theorem d_prog_58_method_9_code_6 : decode prog_58_method_9_code 6 = .ok (.istore 4, 2) := by decide +kernel
theorem d_prog_58_method_9_code_8 : decode prog_58_method_9_code 8 = .ok (.iload 4, 2) := by decide +kernel
theorem d_prog_58_method_9_code_10 : decode prog_58_method_9_code 10 = .ok (.aload_n 0, 1) := by decide +kernel
theorem d_prog_58_method_9_code_11 : decode prog_58_method_9_code 11 = .ok (.getfield 20, 3) := by decide +kernel
theorem d_prog_58_method_9_code_14 : decode prog_58_method_9_code 14 = .ok (.if_icmp .ge 30, 3) := by decide +kernel
theorem d_prog_58_method_9_code_17 : decode prog_58_method_9_code 17 = .ok (.dload_n 2, 1) := by decide +kernel
theorem d_prog_58_method_9_code_18 : decode prog_58_method_9_code 18 = .ok (.aload_n 0, 1) := by decide +kernel
theorem d_prog_58_method_9_code_19 : decode prog_58_method_9_code 19 = .ok (.getfield 13, 3) := by decide +kernel
theorem d_prog_58_method_9_code_22 : decode prog_58_method_9_code 22 = .ok (.iload 4, 2) := by decide +kernel
theorem d_prog_58_method_9_code_24 : decode prog_58_method_9_code 24 = .ok (.iaload, 1) := by decide +kernel
theorem d_prog_58_method_9_code_25 : decode prog_58_method_9_code 25 = .ok (.i2d, 1) := by decide +kernel
theorem d_prog_58_method_9_code_26 : decode prog_58_method_9_code 26 = .ok (.aload_n 1, 1) := by decide +kernel
theorem d_prog_58_method_9_code_27 : decode prog_58_method_9_code 27 = .ok (.aload_n 0, 1) := by decide +kernel
theorem d_prog_58_method_9_code_28 : decode prog_58_method_9_code 28 = .ok (.getfield 7, 3) := by decide +kernel
theorem d_prog_58_method_9_code_31 : decode prog_58_method_9_code 31 = .ok (.iload 4, 2) := by decide +kernel
theorem d_prog_58_method_9_code_33 : decode prog_58_method_9_code 33 = .ok (.iaload, 1) := by decide +kernel
theorem d_prog_58_method_9_code_34 : decode prog_58_method_9_code 34 = .ok (.daload, 1) := by decide +kernel
theorem d_prog_58_method_9_code_35 : decode prog_58_method_9_code 35 = .ok (.dmul, 1) := by decide +kernel
theorem d_prog_58_method_9_code_36 : decode prog_58_method_9_code 36 = .ok (.dadd, 1) := by decide +kernel
theorem d_prog_58_method_9_code_37 : decode prog_58_method_9_code 37 = .ok (.dstore_n 2, 1) := by decide +kernel
theorem d_prog_58_method_9_code_38 : decode prog_58_method_9_code 38 = .ok (.iinc 4 1, 3) := by decide +kernel
theorem d_prog_58_method_9_code_41 : decode prog_58_method_9_code 41 = .ok (.goto (-33), 3) := by decide +kernel
theorem d_prog_58_method_9_code_44 : decode prog_58_method_9_code 44 = .ok (.dload_n 2, 1) := by decide +kernel
theorem d_prog_58_method_9_code_45 : decode prog_58_method_9_code 45 = .ok (.dreturn, 1) := by decide +kernel
theorem pn_law : plainName "com/example/genano/genano/ValueCountsWeightPinLaw" = true := by first | (simp [plainName, overriddenIn]; done) | decide +kernel
theorem pn_vc : plainName "com/example/genano/genano/ValueCounts" = true := by first | (simp [plainName, overriddenIn]; done) | decide +kernel
theorem pf_max : plainFor (⟨"java/lang/Math", "max", "(II)I"⟩ : MethodName) = true := by decide +kernel
set_option maxRecDepth 65536 in
set_option maxHeartbeats 40000000 in
theorem rm_max (l : Launch) (Z : State) (a0 : Array Value) (hw : ∀ d ∈ tables_1, d.before a0 Z = true) (h : Heap) (n0 : Nat) (z : Int32) : Con l Z (⟨"java/lang/Math", "max", "(II)I"⟩ : MethodName) jdk_29_method_65_code 2 (Option.some Jvm.ClassFile.FieldType.int) ({ frames := 0, cells := 0, slots := 0, locals := 0 } : Room) n0 #[.int 1, .int z] h (fun v h' => ∃ r : Int32, v = some (.int r) ∧ 1 ≤ r.toInt ∧ h' = h) [] := by
  refine Run.con2 pf_max (Ls := [.val (.int 1), .val (.int z)]) rfl ?_
  refine r_iloadN 1 d_jdk_29_method_65_code_0 rfl rfl ?_
  refine r_iloadN 2 d_jdk_29_method_65_code_1 rfl rfl ?_
  refine r_icmp_lt 9 5 d_jdk_29_method_65_code_2 (by decide) rfl (fun q2 => ?_) (fun q2 => ?_)
  · refine r_iloadN 10 d_jdk_29_method_65_code_9 rfl rfl ?_
    exact r_retI d_jdk_29_method_65_code_10 rfl (Nat.le_of_ble_eq_true rfl) (Nat.le_of_ble_eq_true rfl) (⟨_, rfl, by simp only [Int32.lt_iff_toInt_lt] at q2; have e : (1 : Int32).toInt = 1 := rfl; omega, rfl⟩)
  · refine r_iloadN 6 d_jdk_29_method_65_code_5 rfl rfl ?_
    refine r_goto 10 d_jdk_29_method_65_code_6 (by decide) ?_
    exact r_retI d_jdk_29_method_65_code_10 rfl (Nat.le_of_ble_eq_true rfl) (Nat.le_of_ble_eq_true rfl) (⟨_, rfl, by simp only [Int32.lt_iff_toInt_lt] at q2; have e : (1 : Int32).toInt = 1 := rfl; omega, rfl⟩)
def own_f (w : Int64) (i : Int32) : Int32 := (XT.ushrL w (10 * i) &&& 1023).toInt32 - 512
theorem own_fb (w : Int64) (i : Int32) : -512 ≤ (own_f w i).toInt ∧ (own_f w i).toInt ≤ 511 := by
  unfold own_f
  generalize XT.ushrL w (10 * i) = x
  have h1 := c_maskL x 1023 10 (by decide) (by decide)
  have h2 := c_l2i (x &&& 1023)
  have h3 := c_isub (x &&& 1023).toInt32 512
  have r1 := rng32 (x &&& 1023).toInt32
  have r2 := rng32 ((x &&& 1023).toInt32 - 512)
  have e : (512 : Int32).toInt = 512 := rfl
  have p : ((2 ^ 10 : Nat) : Int) = 1024 := rfl
  rw [p] at h1
  rw [e] at h3
  omega
set_option maxRecDepth 65536 in
set_option maxHeartbeats 40000000 in
theorem rm_f (l : Launch) (Z : State) (a0 : Array Value) (hw : ∀ d ∈ tables_1, d.before a0 Z = true) (h : Heap) (n0 : Nat) (w : Int64) (i : Int32) : Con l Z (⟨"com/example/genano/genano/ValueCountsWeightPinLaw", "field", "(JI)I"⟩ : MethodName) method_2_code 3 (Option.some Jvm.ClassFile.FieldType.int) ({ frames := 0, cells := 0, slots := 0, locals := 0 } : Room) n0 #[.long w, .int i] h (fun v h' => v = some (.int (own_f w i)) ∧ h' = h) [] := by
  refine Run.con pn_law (Ls := [.val (.long w), .second, .val (.int i)]) rfl ?_
  refine r_lloadN 1 d_method_2_code_0 rfl rfl ?_
  refine r_bipush 10 3 d_method_2_code_1 rfl rfl ?_
  refine r_iloadN 4 d_method_2_code_3 rfl rfl ?_
  refine r_imul 5 d_method_2_code_4 rfl ?_
  refine r_lushr 6 d_method_2_code_5 rfl ?_
  refine r_ldc2 9 d_method_2_code_6 rfl (hw _ (List.mem_of_getElem? (i := 10) rfl)) ?_
  refine r_land 10 d_method_2_code_9 rfl ?_
  refine r_l2i 11 d_method_2_code_10 rfl ?_
  refine r_sipush 512 14 d_method_2_code_11 rfl rfl ?_
  refine r_isub 15 d_method_2_code_14 rfl ?_
  exact r_retI d_method_2_code_15 rfl (Nat.le_of_ble_eq_true rfl) (Nat.le_of_ble_eq_true rfl) (⟨rfl, rfl⟩)
set_option maxRecDepth 65536 in
set_option maxHeartbeats 40000000 in
theorem rm_ini01 (l : Launch) (Z : State) (a0 : Array Value) (hw : ∀ d ∈ tables_1, d.before a0 Z = true) (h : Heap) (n0 : Nat) (a b2 b3 : Addr) (c3 : ClassId) (n0' n1' n2' : Int32) (A3 : Arv Z h b3 c3 .int 3 [.int n0', .int n1', .int n2'] (.int 0)) (G1 : Fld Z h a "com/example/genano/genano/ValueCounts" "codes" "[I" .null) (G2 : Fld Z h a "com/example/genano/genano/ValueCounts" "counts" "[I" .null) (G3 : Fld Z h a "com/example/genano/genano/ValueCounts" "start" "I" (.int 0)) (G4 : Fld Z h a "com/example/genano/genano/ValueCounts" "end" "I" (.int 0)) (G5 : Fld Z h a "com/example/genano/genano/ValueCounts" "size" "I" (.int 0)) (E1 : Exa Z h a "com/example/genano/genano/ValueCounts") (ha : n0 ≤ a) : Con l Z (⟨"com/example/genano/genano/ValueCounts", "<init>", "([I[III)V"⟩ : MethodName) prog_58_method_1_code 7 (Option.none : Option Jvm.ClassFile.FieldType) ({ frames := 1, cells := 0, slots := 0, locals := 12 } : Room) n0 #[.ref a, .ref b2, .ref b3, .int 0, .int 1] h (fun v h' => v = none ∧ Keep h h' [a] ∧ Exa Z h' a "com/example/genano/genano/ValueCounts" ∧ Fld Z h' a "com/example/genano/genano/ValueCounts" "codes" "[I" (.ref b2) ∧ Fld Z h' a "com/example/genano/genano/ValueCounts" "counts" "[I" (.ref b3) ∧ Fld Z h' a "com/example/genano/genano/ValueCounts" "start" "I" (.int 0) ∧ Fld Z h' a "com/example/genano/genano/ValueCounts" "end" "I" (.int 1)) [] := by
  refine Run.con pn_vc (Ls := [.val (.ref a), .val (.ref b2), .val (.ref b3), .val (.int 0), .val (.int 1), .unset, .unset]) rfl ?_
  have K1 : Keep h h [a] := Keep.refl _ _
  refine r_aloadN 1 d_prog_58_method_1_code_0 rfl rfl ?_
  refine r_initO 4 d_prog_58_method_1_code_1 rfl (hw _ (List.mem_of_getElem? (i := 18) rfl)) (hw _ (List.mem_of_getElem? (i := 19) rfl)) (hw _ (List.mem_of_getElem? (i := 20) rfl)) rfl (Nat.le_of_ble_eq_true rfl) (Nat.le_of_ble_eq_true rfl) ?_
  refine r_iconst 0 5 d_prog_58_method_1_code_4 rfl rfl ?_
  refine r_istore 7 d_prog_58_method_1_code_5 rfl rfl ?_
  refine r_iloadN 8 d_prog_58_method_1_code_7 rfl rfl ?_
  refine r_istore 10 d_prog_58_method_1_code_8 rfl rfl ?_
  refine r_iload 12 d_prog_58_method_1_code_10 rfl rfl ?_
  refine r_iload 14 d_prog_58_method_1_code_12 rfl rfl ?_
  refine r_icmp_ge 32 17 d_prog_58_method_1_code_14 (by decide) rfl (fun q14 => absurd q14 (by decide)) (fun q14 => ?_)
  refine r_iload 19 d_prog_58_method_1_code_17 rfl rfl ?_
  refine r_aloadN 20 d_prog_58_method_1_code_19 rfl rfl ?_
  refine r_iload 22 d_prog_58_method_1_code_20 rfl rfl ?_
  refine r_iaload 0 (.int n0') 23 d_prog_58_method_1_code_22 rfl A3 (by decide) (by decide) (by decide) rfl ?_
  refine r_iadd 24 d_prog_58_method_1_code_23 rfl ?_
  refine r_istore 26 d_prog_58_method_1_code_24 rfl rfl ?_
  refine r_iinc 1 29 d_prog_58_method_1_code_26 rfl rfl rfl ?_
  refine r_goto 10 d_prog_58_method_1_code_29 (by decide) ?_
  refine r_iload 12 d_prog_58_method_1_code_10 rfl rfl ?_
  refine r_iload 14 d_prog_58_method_1_code_12 rfl rfl ?_
  refine r_icmp_ge 32 17 d_prog_58_method_1_code_14 (by decide) rfl (fun q14 => ?_) (fun q14 => absurd q14 (by decide))
  refine r_aloadN 33 d_prog_58_method_1_code_32 rfl rfl ?_
  refine r_aloadN 34 d_prog_58_method_1_code_33 rfl rfl ?_
  refine r_putfield (host := "") 37 d_prog_58_method_1_code_34 rfl (Or.inl (hw _ (List.mem_of_getElem? (i := 21) rfl))) Via.refl (G1) (E1) (Or.inr ⟨(hw _ (List.mem_of_getElem? (i := 22) rfl)), rfl, rfl⟩) (hw _ (List.mem_of_getElem? (i := 13) rfl)) (ty := (.array .int)) (by decide) rfl rfl (ha) ?_
  intro h' W1
  replace E1 := E1.wr W1
  replace K1 := K1.wr W1 (Or.inl (List.mem_of_getElem? (i := 0) rfl))
  replace G1 := G1.same W1
  replace G2 := G2.other W1 (Or.inr (slot_ne (Or.inr (hw _ (List.mem_of_getElem? (i := 24) rfl))) (Or.inr (hw _ (List.mem_of_getElem? (i := 22) rfl))) (by decide) (t := (.array .int)) (t' := (.array .int)) (by decide) (by decide)))
  replace G3 := G3.other W1 (Or.inr (slot_ne (Or.inr (hw _ (List.mem_of_getElem? (i := 26) rfl))) (Or.inr (hw _ (List.mem_of_getElem? (i := 22) rfl))) (by decide) (t := .int) (t' := (.array .int)) (by decide) (by decide)))
  replace G4 := G4.other W1 (Or.inr (slot_ne (Or.inr (hw _ (List.mem_of_getElem? (i := 28) rfl))) (Or.inr (hw _ (List.mem_of_getElem? (i := 22) rfl))) (by decide) (t := .int) (t' := (.array .int)) (by decide) (by decide)))
  replace G5 := G5.other W1 (Or.inr (slot_ne (Or.inr (hw _ (List.mem_of_getElem? (i := 30) rfl))) (Or.inr (hw _ (List.mem_of_getElem? (i := 22) rfl))) (by decide) (t := .int) (t' := (.array .int)) (by decide) (by decide)))
  clear W1
  refine r_aloadN 38 d_prog_58_method_1_code_37 rfl rfl ?_
  refine r_aloadN 39 d_prog_58_method_1_code_38 rfl rfl ?_
  refine r_putfield (host := "") 42 d_prog_58_method_1_code_39 rfl (Or.inl (hw _ (List.mem_of_getElem? (i := 23) rfl))) Via.refl (G2) (E1) (Or.inr ⟨(hw _ (List.mem_of_getElem? (i := 24) rfl)), rfl, rfl⟩) (hw _ (List.mem_of_getElem? (i := 13) rfl)) (ty := (.array .int)) (by decide) rfl rfl (ha) ?_
  intro h' W1
  replace E1 := E1.wr W1
  replace K1 := K1.wr W1 (Or.inl (List.mem_of_getElem? (i := 0) rfl))
  replace G2 := G2.same W1
  replace G1 := G1.other W1 (Or.inr (slot_ne (Or.inr (hw _ (List.mem_of_getElem? (i := 22) rfl))) (Or.inr (hw _ (List.mem_of_getElem? (i := 24) rfl))) (by decide) (t := (.array .int)) (t' := (.array .int)) (by decide) (by decide)))
  replace G3 := G3.other W1 (Or.inr (slot_ne (Or.inr (hw _ (List.mem_of_getElem? (i := 26) rfl))) (Or.inr (hw _ (List.mem_of_getElem? (i := 24) rfl))) (by decide) (t := .int) (t' := (.array .int)) (by decide) (by decide)))
  replace G4 := G4.other W1 (Or.inr (slot_ne (Or.inr (hw _ (List.mem_of_getElem? (i := 28) rfl))) (Or.inr (hw _ (List.mem_of_getElem? (i := 24) rfl))) (by decide) (t := .int) (t' := (.array .int)) (by decide) (by decide)))
  replace G5 := G5.other W1 (Or.inr (slot_ne (Or.inr (hw _ (List.mem_of_getElem? (i := 30) rfl))) (Or.inr (hw _ (List.mem_of_getElem? (i := 24) rfl))) (by decide) (t := .int) (t' := (.array .int)) (by decide) (by decide)))
  clear W1
  refine r_aloadN 43 d_prog_58_method_1_code_42 rfl rfl ?_
  refine r_iloadN 44 d_prog_58_method_1_code_43 rfl rfl ?_
  refine r_putfield (host := "") 47 d_prog_58_method_1_code_44 rfl (Or.inl (hw _ (List.mem_of_getElem? (i := 25) rfl))) Via.refl (G3) (E1) (Or.inr ⟨(hw _ (List.mem_of_getElem? (i := 26) rfl)), rfl, rfl⟩) (hw _ (List.mem_of_getElem? (i := 13) rfl)) (ty := .int) (by decide) rfl rfl (ha) ?_
  intro h' W1
  replace E1 := E1.wr W1
  replace K1 := K1.wr W1 (Or.inl (List.mem_of_getElem? (i := 0) rfl))
  replace G3 := G3.same W1
  replace G1 := G1.other W1 (Or.inr (slot_ne (Or.inr (hw _ (List.mem_of_getElem? (i := 22) rfl))) (Or.inr (hw _ (List.mem_of_getElem? (i := 26) rfl))) (by decide) (t := (.array .int)) (t' := .int) (by decide) (by decide)))
  replace G2 := G2.other W1 (Or.inr (slot_ne (Or.inr (hw _ (List.mem_of_getElem? (i := 24) rfl))) (Or.inr (hw _ (List.mem_of_getElem? (i := 26) rfl))) (by decide) (t := (.array .int)) (t' := .int) (by decide) (by decide)))
  replace G4 := G4.other W1 (Or.inr (slot_ne (Or.inr (hw _ (List.mem_of_getElem? (i := 28) rfl))) (Or.inr (hw _ (List.mem_of_getElem? (i := 26) rfl))) (by decide) (t := .int) (t' := .int) (by decide) (by decide)))
  replace G5 := G5.other W1 (Or.inr (slot_ne (Or.inr (hw _ (List.mem_of_getElem? (i := 30) rfl))) (Or.inr (hw _ (List.mem_of_getElem? (i := 26) rfl))) (by decide) (t := .int) (t' := .int) (by decide) (by decide)))
  clear W1
  refine r_aloadN 48 d_prog_58_method_1_code_47 rfl rfl ?_
  refine r_iload 50 d_prog_58_method_1_code_48 rfl rfl ?_
  refine r_putfield (host := "") 53 d_prog_58_method_1_code_50 rfl (Or.inl (hw _ (List.mem_of_getElem? (i := 27) rfl))) Via.refl (G4) (E1) (Or.inr ⟨(hw _ (List.mem_of_getElem? (i := 28) rfl)), rfl, rfl⟩) (hw _ (List.mem_of_getElem? (i := 13) rfl)) (ty := .int) (by decide) rfl rfl (ha) ?_
  intro h' W1
  replace E1 := E1.wr W1
  replace K1 := K1.wr W1 (Or.inl (List.mem_of_getElem? (i := 0) rfl))
  replace G4 := G4.same W1
  replace G1 := G1.other W1 (Or.inr (slot_ne (Or.inr (hw _ (List.mem_of_getElem? (i := 22) rfl))) (Or.inr (hw _ (List.mem_of_getElem? (i := 28) rfl))) (by decide) (t := (.array .int)) (t' := .int) (by decide) (by decide)))
  replace G2 := G2.other W1 (Or.inr (slot_ne (Or.inr (hw _ (List.mem_of_getElem? (i := 24) rfl))) (Or.inr (hw _ (List.mem_of_getElem? (i := 28) rfl))) (by decide) (t := (.array .int)) (t' := .int) (by decide) (by decide)))
  replace G3 := G3.other W1 (Or.inr (slot_ne (Or.inr (hw _ (List.mem_of_getElem? (i := 26) rfl))) (Or.inr (hw _ (List.mem_of_getElem? (i := 28) rfl))) (by decide) (t := .int) (t' := .int) (by decide) (by decide)))
  replace G5 := G5.other W1 (Or.inr (slot_ne (Or.inr (hw _ (List.mem_of_getElem? (i := 30) rfl))) (Or.inr (hw _ (List.mem_of_getElem? (i := 28) rfl))) (by decide) (t := .int) (t' := .int) (by decide) (by decide)))
  clear W1
  refine r_aloadN 54 d_prog_58_method_1_code_53 rfl rfl ?_
  refine r_iload 56 d_prog_58_method_1_code_54 rfl rfl ?_
  refine r_putfield (host := "") 59 d_prog_58_method_1_code_56 rfl (Or.inl (hw _ (List.mem_of_getElem? (i := 29) rfl))) Via.refl (G5) (E1) (Or.inr ⟨(hw _ (List.mem_of_getElem? (i := 30) rfl)), rfl, rfl⟩) (hw _ (List.mem_of_getElem? (i := 13) rfl)) (ty := .int) (by decide) rfl rfl (ha) ?_
  intro h' W1
  replace E1 := E1.wr W1
  replace K1 := K1.wr W1 (Or.inl (List.mem_of_getElem? (i := 0) rfl))
  replace G5 := G5.same W1
  replace G1 := G1.other W1 (Or.inr (slot_ne (Or.inr (hw _ (List.mem_of_getElem? (i := 22) rfl))) (Or.inr (hw _ (List.mem_of_getElem? (i := 30) rfl))) (by decide) (t := (.array .int)) (t' := .int) (by decide) (by decide)))
  replace G2 := G2.other W1 (Or.inr (slot_ne (Or.inr (hw _ (List.mem_of_getElem? (i := 24) rfl))) (Or.inr (hw _ (List.mem_of_getElem? (i := 30) rfl))) (by decide) (t := (.array .int)) (t' := .int) (by decide) (by decide)))
  replace G3 := G3.other W1 (Or.inr (slot_ne (Or.inr (hw _ (List.mem_of_getElem? (i := 26) rfl))) (Or.inr (hw _ (List.mem_of_getElem? (i := 30) rfl))) (by decide) (t := .int) (t' := .int) (by decide) (by decide)))
  replace G4 := G4.other W1 (Or.inr (slot_ne (Or.inr (hw _ (List.mem_of_getElem? (i := 28) rfl))) (Or.inr (hw _ (List.mem_of_getElem? (i := 30) rfl))) (by decide) (t := .int) (t' := .int) (by decide) (by decide)))
  clear W1
  exact r_retV d_prog_58_method_1_code_59 rfl (Nat.le_of_ble_eq_true rfl) (Nat.le_of_ble_eq_true rfl) (⟨rfl, K1, E1, G1, G2, G3, G4⟩)
set_option maxRecDepth 65536 in
set_option maxHeartbeats 40000000 in
theorem rm_ini02 (l : Launch) (Z : State) (a0 : Array Value) (hw : ∀ d ∈ tables_1, d.before a0 Z = true) (h : Heap) (n0 : Nat) (a b2 b3 : Addr) (c3 : ClassId) (n0' n1' n2' : Int32) (A3 : Arv Z h b3 c3 .int 3 [.int n0', .int n1', .int n2'] (.int 0)) (G1 : Fld Z h a "com/example/genano/genano/ValueCounts" "codes" "[I" .null) (G2 : Fld Z h a "com/example/genano/genano/ValueCounts" "counts" "[I" .null) (G3 : Fld Z h a "com/example/genano/genano/ValueCounts" "start" "I" (.int 0)) (G4 : Fld Z h a "com/example/genano/genano/ValueCounts" "end" "I" (.int 0)) (G5 : Fld Z h a "com/example/genano/genano/ValueCounts" "size" "I" (.int 0)) (E1 : Exa Z h a "com/example/genano/genano/ValueCounts") (ha : n0 ≤ a) : Con l Z (⟨"com/example/genano/genano/ValueCounts", "<init>", "([I[III)V"⟩ : MethodName) prog_58_method_1_code 7 (Option.none : Option Jvm.ClassFile.FieldType) ({ frames := 1, cells := 0, slots := 0, locals := 12 } : Room) n0 #[.ref a, .ref b2, .ref b3, .int 0, .int 2] h (fun v h' => v = none ∧ Keep h h' [a] ∧ Exa Z h' a "com/example/genano/genano/ValueCounts" ∧ Fld Z h' a "com/example/genano/genano/ValueCounts" "codes" "[I" (.ref b2) ∧ Fld Z h' a "com/example/genano/genano/ValueCounts" "counts" "[I" (.ref b3) ∧ Fld Z h' a "com/example/genano/genano/ValueCounts" "start" "I" (.int 0) ∧ Fld Z h' a "com/example/genano/genano/ValueCounts" "end" "I" (.int 2)) [] := by
  refine Run.con pn_vc (Ls := [.val (.ref a), .val (.ref b2), .val (.ref b3), .val (.int 0), .val (.int 2), .unset, .unset]) rfl ?_
  have K1 : Keep h h [a] := Keep.refl _ _
  refine r_aloadN 1 d_prog_58_method_1_code_0 rfl rfl ?_
  refine r_initO 4 d_prog_58_method_1_code_1 rfl (hw _ (List.mem_of_getElem? (i := 18) rfl)) (hw _ (List.mem_of_getElem? (i := 19) rfl)) (hw _ (List.mem_of_getElem? (i := 20) rfl)) rfl (Nat.le_of_ble_eq_true rfl) (Nat.le_of_ble_eq_true rfl) ?_
  refine r_iconst 0 5 d_prog_58_method_1_code_4 rfl rfl ?_
  refine r_istore 7 d_prog_58_method_1_code_5 rfl rfl ?_
  refine r_iloadN 8 d_prog_58_method_1_code_7 rfl rfl ?_
  refine r_istore 10 d_prog_58_method_1_code_8 rfl rfl ?_
  refine r_iload 12 d_prog_58_method_1_code_10 rfl rfl ?_
  refine r_iload 14 d_prog_58_method_1_code_12 rfl rfl ?_
  refine r_icmp_ge 32 17 d_prog_58_method_1_code_14 (by decide) rfl (fun q14 => absurd q14 (by decide)) (fun q14 => ?_)
  refine r_iload 19 d_prog_58_method_1_code_17 rfl rfl ?_
  refine r_aloadN 20 d_prog_58_method_1_code_19 rfl rfl ?_
  refine r_iload 22 d_prog_58_method_1_code_20 rfl rfl ?_
  refine r_iaload 0 (.int n0') 23 d_prog_58_method_1_code_22 rfl A3 (by decide) (by decide) (by decide) rfl ?_
  refine r_iadd 24 d_prog_58_method_1_code_23 rfl ?_
  refine r_istore 26 d_prog_58_method_1_code_24 rfl rfl ?_
  refine r_iinc 1 29 d_prog_58_method_1_code_26 rfl rfl rfl ?_
  refine r_goto 10 d_prog_58_method_1_code_29 (by decide) ?_
  refine r_iload 12 d_prog_58_method_1_code_10 rfl rfl ?_
  refine r_iload 14 d_prog_58_method_1_code_12 rfl rfl ?_
  refine r_icmp_ge 32 17 d_prog_58_method_1_code_14 (by decide) rfl (fun q14 => absurd q14 (by decide)) (fun q14 => ?_)
  refine r_iload 19 d_prog_58_method_1_code_17 rfl rfl ?_
  refine r_aloadN 20 d_prog_58_method_1_code_19 rfl rfl ?_
  refine r_iload 22 d_prog_58_method_1_code_20 rfl rfl ?_
  refine r_iaload 1 (.int n1') 23 d_prog_58_method_1_code_22 rfl A3 (by decide) (by decide) (by decide) rfl ?_
  refine r_iadd 24 d_prog_58_method_1_code_23 rfl ?_
  refine r_istore 26 d_prog_58_method_1_code_24 rfl rfl ?_
  refine r_iinc 1 29 d_prog_58_method_1_code_26 rfl rfl rfl ?_
  refine r_goto 10 d_prog_58_method_1_code_29 (by decide) ?_
  refine r_iload 12 d_prog_58_method_1_code_10 rfl rfl ?_
  refine r_iload 14 d_prog_58_method_1_code_12 rfl rfl ?_
  refine r_icmp_ge 32 17 d_prog_58_method_1_code_14 (by decide) rfl (fun q14 => ?_) (fun q14 => absurd q14 (by decide))
  refine r_aloadN 33 d_prog_58_method_1_code_32 rfl rfl ?_
  refine r_aloadN 34 d_prog_58_method_1_code_33 rfl rfl ?_
  refine r_putfield (host := "") 37 d_prog_58_method_1_code_34 rfl (Or.inl (hw _ (List.mem_of_getElem? (i := 21) rfl))) Via.refl (G1) (E1) (Or.inr ⟨(hw _ (List.mem_of_getElem? (i := 22) rfl)), rfl, rfl⟩) (hw _ (List.mem_of_getElem? (i := 13) rfl)) (ty := (.array .int)) (by decide) rfl rfl (ha) ?_
  intro h' W1
  replace E1 := E1.wr W1
  replace K1 := K1.wr W1 (Or.inl (List.mem_of_getElem? (i := 0) rfl))
  replace G1 := G1.same W1
  replace G2 := G2.other W1 (Or.inr (slot_ne (Or.inr (hw _ (List.mem_of_getElem? (i := 24) rfl))) (Or.inr (hw _ (List.mem_of_getElem? (i := 22) rfl))) (by decide) (t := (.array .int)) (t' := (.array .int)) (by decide) (by decide)))
  replace G3 := G3.other W1 (Or.inr (slot_ne (Or.inr (hw _ (List.mem_of_getElem? (i := 26) rfl))) (Or.inr (hw _ (List.mem_of_getElem? (i := 22) rfl))) (by decide) (t := .int) (t' := (.array .int)) (by decide) (by decide)))
  replace G4 := G4.other W1 (Or.inr (slot_ne (Or.inr (hw _ (List.mem_of_getElem? (i := 28) rfl))) (Or.inr (hw _ (List.mem_of_getElem? (i := 22) rfl))) (by decide) (t := .int) (t' := (.array .int)) (by decide) (by decide)))
  replace G5 := G5.other W1 (Or.inr (slot_ne (Or.inr (hw _ (List.mem_of_getElem? (i := 30) rfl))) (Or.inr (hw _ (List.mem_of_getElem? (i := 22) rfl))) (by decide) (t := .int) (t' := (.array .int)) (by decide) (by decide)))
  clear W1
  refine r_aloadN 38 d_prog_58_method_1_code_37 rfl rfl ?_
  refine r_aloadN 39 d_prog_58_method_1_code_38 rfl rfl ?_
  refine r_putfield (host := "") 42 d_prog_58_method_1_code_39 rfl (Or.inl (hw _ (List.mem_of_getElem? (i := 23) rfl))) Via.refl (G2) (E1) (Or.inr ⟨(hw _ (List.mem_of_getElem? (i := 24) rfl)), rfl, rfl⟩) (hw _ (List.mem_of_getElem? (i := 13) rfl)) (ty := (.array .int)) (by decide) rfl rfl (ha) ?_
  intro h' W1
  replace E1 := E1.wr W1
  replace K1 := K1.wr W1 (Or.inl (List.mem_of_getElem? (i := 0) rfl))
  replace G2 := G2.same W1
  replace G1 := G1.other W1 (Or.inr (slot_ne (Or.inr (hw _ (List.mem_of_getElem? (i := 22) rfl))) (Or.inr (hw _ (List.mem_of_getElem? (i := 24) rfl))) (by decide) (t := (.array .int)) (t' := (.array .int)) (by decide) (by decide)))
  replace G3 := G3.other W1 (Or.inr (slot_ne (Or.inr (hw _ (List.mem_of_getElem? (i := 26) rfl))) (Or.inr (hw _ (List.mem_of_getElem? (i := 24) rfl))) (by decide) (t := .int) (t' := (.array .int)) (by decide) (by decide)))
  replace G4 := G4.other W1 (Or.inr (slot_ne (Or.inr (hw _ (List.mem_of_getElem? (i := 28) rfl))) (Or.inr (hw _ (List.mem_of_getElem? (i := 24) rfl))) (by decide) (t := .int) (t' := (.array .int)) (by decide) (by decide)))
  replace G5 := G5.other W1 (Or.inr (slot_ne (Or.inr (hw _ (List.mem_of_getElem? (i := 30) rfl))) (Or.inr (hw _ (List.mem_of_getElem? (i := 24) rfl))) (by decide) (t := .int) (t' := (.array .int)) (by decide) (by decide)))
  clear W1
  refine r_aloadN 43 d_prog_58_method_1_code_42 rfl rfl ?_
  refine r_iloadN 44 d_prog_58_method_1_code_43 rfl rfl ?_
  refine r_putfield (host := "") 47 d_prog_58_method_1_code_44 rfl (Or.inl (hw _ (List.mem_of_getElem? (i := 25) rfl))) Via.refl (G3) (E1) (Or.inr ⟨(hw _ (List.mem_of_getElem? (i := 26) rfl)), rfl, rfl⟩) (hw _ (List.mem_of_getElem? (i := 13) rfl)) (ty := .int) (by decide) rfl rfl (ha) ?_
  intro h' W1
  replace E1 := E1.wr W1
  replace K1 := K1.wr W1 (Or.inl (List.mem_of_getElem? (i := 0) rfl))
  replace G3 := G3.same W1
  replace G1 := G1.other W1 (Or.inr (slot_ne (Or.inr (hw _ (List.mem_of_getElem? (i := 22) rfl))) (Or.inr (hw _ (List.mem_of_getElem? (i := 26) rfl))) (by decide) (t := (.array .int)) (t' := .int) (by decide) (by decide)))
  replace G2 := G2.other W1 (Or.inr (slot_ne (Or.inr (hw _ (List.mem_of_getElem? (i := 24) rfl))) (Or.inr (hw _ (List.mem_of_getElem? (i := 26) rfl))) (by decide) (t := (.array .int)) (t' := .int) (by decide) (by decide)))
  replace G4 := G4.other W1 (Or.inr (slot_ne (Or.inr (hw _ (List.mem_of_getElem? (i := 28) rfl))) (Or.inr (hw _ (List.mem_of_getElem? (i := 26) rfl))) (by decide) (t := .int) (t' := .int) (by decide) (by decide)))
  replace G5 := G5.other W1 (Or.inr (slot_ne (Or.inr (hw _ (List.mem_of_getElem? (i := 30) rfl))) (Or.inr (hw _ (List.mem_of_getElem? (i := 26) rfl))) (by decide) (t := .int) (t' := .int) (by decide) (by decide)))
  clear W1
  refine r_aloadN 48 d_prog_58_method_1_code_47 rfl rfl ?_
  refine r_iload 50 d_prog_58_method_1_code_48 rfl rfl ?_
  refine r_putfield (host := "") 53 d_prog_58_method_1_code_50 rfl (Or.inl (hw _ (List.mem_of_getElem? (i := 27) rfl))) Via.refl (G4) (E1) (Or.inr ⟨(hw _ (List.mem_of_getElem? (i := 28) rfl)), rfl, rfl⟩) (hw _ (List.mem_of_getElem? (i := 13) rfl)) (ty := .int) (by decide) rfl rfl (ha) ?_
  intro h' W1
  replace E1 := E1.wr W1
  replace K1 := K1.wr W1 (Or.inl (List.mem_of_getElem? (i := 0) rfl))
  replace G4 := G4.same W1
  replace G1 := G1.other W1 (Or.inr (slot_ne (Or.inr (hw _ (List.mem_of_getElem? (i := 22) rfl))) (Or.inr (hw _ (List.mem_of_getElem? (i := 28) rfl))) (by decide) (t := (.array .int)) (t' := .int) (by decide) (by decide)))
  replace G2 := G2.other W1 (Or.inr (slot_ne (Or.inr (hw _ (List.mem_of_getElem? (i := 24) rfl))) (Or.inr (hw _ (List.mem_of_getElem? (i := 28) rfl))) (by decide) (t := (.array .int)) (t' := .int) (by decide) (by decide)))
  replace G3 := G3.other W1 (Or.inr (slot_ne (Or.inr (hw _ (List.mem_of_getElem? (i := 26) rfl))) (Or.inr (hw _ (List.mem_of_getElem? (i := 28) rfl))) (by decide) (t := .int) (t' := .int) (by decide) (by decide)))
  replace G5 := G5.other W1 (Or.inr (slot_ne (Or.inr (hw _ (List.mem_of_getElem? (i := 30) rfl))) (Or.inr (hw _ (List.mem_of_getElem? (i := 28) rfl))) (by decide) (t := .int) (t' := .int) (by decide) (by decide)))
  clear W1
  refine r_aloadN 54 d_prog_58_method_1_code_53 rfl rfl ?_
  refine r_iload 56 d_prog_58_method_1_code_54 rfl rfl ?_
  refine r_putfield (host := "") 59 d_prog_58_method_1_code_56 rfl (Or.inl (hw _ (List.mem_of_getElem? (i := 29) rfl))) Via.refl (G5) (E1) (Or.inr ⟨(hw _ (List.mem_of_getElem? (i := 30) rfl)), rfl, rfl⟩) (hw _ (List.mem_of_getElem? (i := 13) rfl)) (ty := .int) (by decide) rfl rfl (ha) ?_
  intro h' W1
  replace E1 := E1.wr W1
  replace K1 := K1.wr W1 (Or.inl (List.mem_of_getElem? (i := 0) rfl))
  replace G5 := G5.same W1
  replace G1 := G1.other W1 (Or.inr (slot_ne (Or.inr (hw _ (List.mem_of_getElem? (i := 22) rfl))) (Or.inr (hw _ (List.mem_of_getElem? (i := 30) rfl))) (by decide) (t := (.array .int)) (t' := .int) (by decide) (by decide)))
  replace G2 := G2.other W1 (Or.inr (slot_ne (Or.inr (hw _ (List.mem_of_getElem? (i := 24) rfl))) (Or.inr (hw _ (List.mem_of_getElem? (i := 30) rfl))) (by decide) (t := (.array .int)) (t' := .int) (by decide) (by decide)))
  replace G3 := G3.other W1 (Or.inr (slot_ne (Or.inr (hw _ (List.mem_of_getElem? (i := 26) rfl))) (Or.inr (hw _ (List.mem_of_getElem? (i := 30) rfl))) (by decide) (t := .int) (t' := .int) (by decide) (by decide)))
  replace G4 := G4.other W1 (Or.inr (slot_ne (Or.inr (hw _ (List.mem_of_getElem? (i := 28) rfl))) (Or.inr (hw _ (List.mem_of_getElem? (i := 30) rfl))) (by decide) (t := .int) (t' := .int) (by decide) (by decide)))
  clear W1
  exact r_retV d_prog_58_method_1_code_59 rfl (Nat.le_of_ble_eq_true rfl) (Nat.le_of_ble_eq_true rfl) (⟨rfl, K1, E1, G1, G2, G3, G4⟩)
set_option maxRecDepth 65536 in
set_option maxHeartbeats 40000000 in
theorem rm_ini03 (l : Launch) (Z : State) (a0 : Array Value) (hw : ∀ d ∈ tables_1, d.before a0 Z = true) (h : Heap) (n0 : Nat) (a b2 b3 : Addr) (c3 : ClassId) (n0' n1' n2' : Int32) (A3 : Arv Z h b3 c3 .int 3 [.int n0', .int n1', .int n2'] (.int 0)) (G1 : Fld Z h a "com/example/genano/genano/ValueCounts" "codes" "[I" .null) (G2 : Fld Z h a "com/example/genano/genano/ValueCounts" "counts" "[I" .null) (G3 : Fld Z h a "com/example/genano/genano/ValueCounts" "start" "I" (.int 0)) (G4 : Fld Z h a "com/example/genano/genano/ValueCounts" "end" "I" (.int 0)) (G5 : Fld Z h a "com/example/genano/genano/ValueCounts" "size" "I" (.int 0)) (E1 : Exa Z h a "com/example/genano/genano/ValueCounts") (ha : n0 ≤ a) : Con l Z (⟨"com/example/genano/genano/ValueCounts", "<init>", "([I[III)V"⟩ : MethodName) prog_58_method_1_code 7 (Option.none : Option Jvm.ClassFile.FieldType) ({ frames := 1, cells := 0, slots := 0, locals := 12 } : Room) n0 #[.ref a, .ref b2, .ref b3, .int 0, .int 3] h (fun v h' => v = none ∧ Keep h h' [a] ∧ Exa Z h' a "com/example/genano/genano/ValueCounts" ∧ Fld Z h' a "com/example/genano/genano/ValueCounts" "codes" "[I" (.ref b2) ∧ Fld Z h' a "com/example/genano/genano/ValueCounts" "counts" "[I" (.ref b3) ∧ Fld Z h' a "com/example/genano/genano/ValueCounts" "start" "I" (.int 0) ∧ Fld Z h' a "com/example/genano/genano/ValueCounts" "end" "I" (.int 3)) [] := by
  refine Run.con pn_vc (Ls := [.val (.ref a), .val (.ref b2), .val (.ref b3), .val (.int 0), .val (.int 3), .unset, .unset]) rfl ?_
  have K1 : Keep h h [a] := Keep.refl _ _
  refine r_aloadN 1 d_prog_58_method_1_code_0 rfl rfl ?_
  refine r_initO 4 d_prog_58_method_1_code_1 rfl (hw _ (List.mem_of_getElem? (i := 18) rfl)) (hw _ (List.mem_of_getElem? (i := 19) rfl)) (hw _ (List.mem_of_getElem? (i := 20) rfl)) rfl (Nat.le_of_ble_eq_true rfl) (Nat.le_of_ble_eq_true rfl) ?_
  refine r_iconst 0 5 d_prog_58_method_1_code_4 rfl rfl ?_
  refine r_istore 7 d_prog_58_method_1_code_5 rfl rfl ?_
  refine r_iloadN 8 d_prog_58_method_1_code_7 rfl rfl ?_
  refine r_istore 10 d_prog_58_method_1_code_8 rfl rfl ?_
  refine r_iload 12 d_prog_58_method_1_code_10 rfl rfl ?_
  refine r_iload 14 d_prog_58_method_1_code_12 rfl rfl ?_
  refine r_icmp_ge 32 17 d_prog_58_method_1_code_14 (by decide) rfl (fun q14 => absurd q14 (by decide)) (fun q14 => ?_)
  refine r_iload 19 d_prog_58_method_1_code_17 rfl rfl ?_
  refine r_aloadN 20 d_prog_58_method_1_code_19 rfl rfl ?_
  refine r_iload 22 d_prog_58_method_1_code_20 rfl rfl ?_
  refine r_iaload 0 (.int n0') 23 d_prog_58_method_1_code_22 rfl A3 (by decide) (by decide) (by decide) rfl ?_
  refine r_iadd 24 d_prog_58_method_1_code_23 rfl ?_
  refine r_istore 26 d_prog_58_method_1_code_24 rfl rfl ?_
  refine r_iinc 1 29 d_prog_58_method_1_code_26 rfl rfl rfl ?_
  refine r_goto 10 d_prog_58_method_1_code_29 (by decide) ?_
  refine r_iload 12 d_prog_58_method_1_code_10 rfl rfl ?_
  refine r_iload 14 d_prog_58_method_1_code_12 rfl rfl ?_
  refine r_icmp_ge 32 17 d_prog_58_method_1_code_14 (by decide) rfl (fun q14 => absurd q14 (by decide)) (fun q14 => ?_)
  refine r_iload 19 d_prog_58_method_1_code_17 rfl rfl ?_
  refine r_aloadN 20 d_prog_58_method_1_code_19 rfl rfl ?_
  refine r_iload 22 d_prog_58_method_1_code_20 rfl rfl ?_
  refine r_iaload 1 (.int n1') 23 d_prog_58_method_1_code_22 rfl A3 (by decide) (by decide) (by decide) rfl ?_
  refine r_iadd 24 d_prog_58_method_1_code_23 rfl ?_
  refine r_istore 26 d_prog_58_method_1_code_24 rfl rfl ?_
  refine r_iinc 1 29 d_prog_58_method_1_code_26 rfl rfl rfl ?_
  refine r_goto 10 d_prog_58_method_1_code_29 (by decide) ?_
  refine r_iload 12 d_prog_58_method_1_code_10 rfl rfl ?_
  refine r_iload 14 d_prog_58_method_1_code_12 rfl rfl ?_
  refine r_icmp_ge 32 17 d_prog_58_method_1_code_14 (by decide) rfl (fun q14 => absurd q14 (by decide)) (fun q14 => ?_)
  refine r_iload 19 d_prog_58_method_1_code_17 rfl rfl ?_
  refine r_aloadN 20 d_prog_58_method_1_code_19 rfl rfl ?_
  refine r_iload 22 d_prog_58_method_1_code_20 rfl rfl ?_
  refine r_iaload 2 (.int n2') 23 d_prog_58_method_1_code_22 rfl A3 (by decide) (by decide) (by decide) rfl ?_
  refine r_iadd 24 d_prog_58_method_1_code_23 rfl ?_
  refine r_istore 26 d_prog_58_method_1_code_24 rfl rfl ?_
  refine r_iinc 1 29 d_prog_58_method_1_code_26 rfl rfl rfl ?_
  refine r_goto 10 d_prog_58_method_1_code_29 (by decide) ?_
  refine r_iload 12 d_prog_58_method_1_code_10 rfl rfl ?_
  refine r_iload 14 d_prog_58_method_1_code_12 rfl rfl ?_
  refine r_icmp_ge 32 17 d_prog_58_method_1_code_14 (by decide) rfl (fun q14 => ?_) (fun q14 => absurd q14 (by decide))
  refine r_aloadN 33 d_prog_58_method_1_code_32 rfl rfl ?_
  refine r_aloadN 34 d_prog_58_method_1_code_33 rfl rfl ?_
  refine r_putfield (host := "") 37 d_prog_58_method_1_code_34 rfl (Or.inl (hw _ (List.mem_of_getElem? (i := 21) rfl))) Via.refl (G1) (E1) (Or.inr ⟨(hw _ (List.mem_of_getElem? (i := 22) rfl)), rfl, rfl⟩) (hw _ (List.mem_of_getElem? (i := 13) rfl)) (ty := (.array .int)) (by decide) rfl rfl (ha) ?_
  intro h' W1
  replace E1 := E1.wr W1
  replace K1 := K1.wr W1 (Or.inl (List.mem_of_getElem? (i := 0) rfl))
  replace G1 := G1.same W1
  replace G2 := G2.other W1 (Or.inr (slot_ne (Or.inr (hw _ (List.mem_of_getElem? (i := 24) rfl))) (Or.inr (hw _ (List.mem_of_getElem? (i := 22) rfl))) (by decide) (t := (.array .int)) (t' := (.array .int)) (by decide) (by decide)))
  replace G3 := G3.other W1 (Or.inr (slot_ne (Or.inr (hw _ (List.mem_of_getElem? (i := 26) rfl))) (Or.inr (hw _ (List.mem_of_getElem? (i := 22) rfl))) (by decide) (t := .int) (t' := (.array .int)) (by decide) (by decide)))
  replace G4 := G4.other W1 (Or.inr (slot_ne (Or.inr (hw _ (List.mem_of_getElem? (i := 28) rfl))) (Or.inr (hw _ (List.mem_of_getElem? (i := 22) rfl))) (by decide) (t := .int) (t' := (.array .int)) (by decide) (by decide)))
  replace G5 := G5.other W1 (Or.inr (slot_ne (Or.inr (hw _ (List.mem_of_getElem? (i := 30) rfl))) (Or.inr (hw _ (List.mem_of_getElem? (i := 22) rfl))) (by decide) (t := .int) (t' := (.array .int)) (by decide) (by decide)))
  clear W1
  refine r_aloadN 38 d_prog_58_method_1_code_37 rfl rfl ?_
  refine r_aloadN 39 d_prog_58_method_1_code_38 rfl rfl ?_
  refine r_putfield (host := "") 42 d_prog_58_method_1_code_39 rfl (Or.inl (hw _ (List.mem_of_getElem? (i := 23) rfl))) Via.refl (G2) (E1) (Or.inr ⟨(hw _ (List.mem_of_getElem? (i := 24) rfl)), rfl, rfl⟩) (hw _ (List.mem_of_getElem? (i := 13) rfl)) (ty := (.array .int)) (by decide) rfl rfl (ha) ?_
  intro h' W1
  replace E1 := E1.wr W1
  replace K1 := K1.wr W1 (Or.inl (List.mem_of_getElem? (i := 0) rfl))
  replace G2 := G2.same W1
  replace G1 := G1.other W1 (Or.inr (slot_ne (Or.inr (hw _ (List.mem_of_getElem? (i := 22) rfl))) (Or.inr (hw _ (List.mem_of_getElem? (i := 24) rfl))) (by decide) (t := (.array .int)) (t' := (.array .int)) (by decide) (by decide)))
  replace G3 := G3.other W1 (Or.inr (slot_ne (Or.inr (hw _ (List.mem_of_getElem? (i := 26) rfl))) (Or.inr (hw _ (List.mem_of_getElem? (i := 24) rfl))) (by decide) (t := .int) (t' := (.array .int)) (by decide) (by decide)))
  replace G4 := G4.other W1 (Or.inr (slot_ne (Or.inr (hw _ (List.mem_of_getElem? (i := 28) rfl))) (Or.inr (hw _ (List.mem_of_getElem? (i := 24) rfl))) (by decide) (t := .int) (t' := (.array .int)) (by decide) (by decide)))
  replace G5 := G5.other W1 (Or.inr (slot_ne (Or.inr (hw _ (List.mem_of_getElem? (i := 30) rfl))) (Or.inr (hw _ (List.mem_of_getElem? (i := 24) rfl))) (by decide) (t := .int) (t' := (.array .int)) (by decide) (by decide)))
  clear W1
  refine r_aloadN 43 d_prog_58_method_1_code_42 rfl rfl ?_
  refine r_iloadN 44 d_prog_58_method_1_code_43 rfl rfl ?_
  refine r_putfield (host := "") 47 d_prog_58_method_1_code_44 rfl (Or.inl (hw _ (List.mem_of_getElem? (i := 25) rfl))) Via.refl (G3) (E1) (Or.inr ⟨(hw _ (List.mem_of_getElem? (i := 26) rfl)), rfl, rfl⟩) (hw _ (List.mem_of_getElem? (i := 13) rfl)) (ty := .int) (by decide) rfl rfl (ha) ?_
  intro h' W1
  replace E1 := E1.wr W1
  replace K1 := K1.wr W1 (Or.inl (List.mem_of_getElem? (i := 0) rfl))
  replace G3 := G3.same W1
  replace G1 := G1.other W1 (Or.inr (slot_ne (Or.inr (hw _ (List.mem_of_getElem? (i := 22) rfl))) (Or.inr (hw _ (List.mem_of_getElem? (i := 26) rfl))) (by decide) (t := (.array .int)) (t' := .int) (by decide) (by decide)))
  replace G2 := G2.other W1 (Or.inr (slot_ne (Or.inr (hw _ (List.mem_of_getElem? (i := 24) rfl))) (Or.inr (hw _ (List.mem_of_getElem? (i := 26) rfl))) (by decide) (t := (.array .int)) (t' := .int) (by decide) (by decide)))
  replace G4 := G4.other W1 (Or.inr (slot_ne (Or.inr (hw _ (List.mem_of_getElem? (i := 28) rfl))) (Or.inr (hw _ (List.mem_of_getElem? (i := 26) rfl))) (by decide) (t := .int) (t' := .int) (by decide) (by decide)))
  replace G5 := G5.other W1 (Or.inr (slot_ne (Or.inr (hw _ (List.mem_of_getElem? (i := 30) rfl))) (Or.inr (hw _ (List.mem_of_getElem? (i := 26) rfl))) (by decide) (t := .int) (t' := .int) (by decide) (by decide)))
  clear W1
  refine r_aloadN 48 d_prog_58_method_1_code_47 rfl rfl ?_
  refine r_iload 50 d_prog_58_method_1_code_48 rfl rfl ?_
  refine r_putfield (host := "") 53 d_prog_58_method_1_code_50 rfl (Or.inl (hw _ (List.mem_of_getElem? (i := 27) rfl))) Via.refl (G4) (E1) (Or.inr ⟨(hw _ (List.mem_of_getElem? (i := 28) rfl)), rfl, rfl⟩) (hw _ (List.mem_of_getElem? (i := 13) rfl)) (ty := .int) (by decide) rfl rfl (ha) ?_
  intro h' W1
  replace E1 := E1.wr W1
  replace K1 := K1.wr W1 (Or.inl (List.mem_of_getElem? (i := 0) rfl))
  replace G4 := G4.same W1
  replace G1 := G1.other W1 (Or.inr (slot_ne (Or.inr (hw _ (List.mem_of_getElem? (i := 22) rfl))) (Or.inr (hw _ (List.mem_of_getElem? (i := 28) rfl))) (by decide) (t := (.array .int)) (t' := .int) (by decide) (by decide)))
  replace G2 := G2.other W1 (Or.inr (slot_ne (Or.inr (hw _ (List.mem_of_getElem? (i := 24) rfl))) (Or.inr (hw _ (List.mem_of_getElem? (i := 28) rfl))) (by decide) (t := (.array .int)) (t' := .int) (by decide) (by decide)))
  replace G3 := G3.other W1 (Or.inr (slot_ne (Or.inr (hw _ (List.mem_of_getElem? (i := 26) rfl))) (Or.inr (hw _ (List.mem_of_getElem? (i := 28) rfl))) (by decide) (t := .int) (t' := .int) (by decide) (by decide)))
  replace G5 := G5.other W1 (Or.inr (slot_ne (Or.inr (hw _ (List.mem_of_getElem? (i := 30) rfl))) (Or.inr (hw _ (List.mem_of_getElem? (i := 28) rfl))) (by decide) (t := .int) (t' := .int) (by decide) (by decide)))
  clear W1
  refine r_aloadN 54 d_prog_58_method_1_code_53 rfl rfl ?_
  refine r_iload 56 d_prog_58_method_1_code_54 rfl rfl ?_
  refine r_putfield (host := "") 59 d_prog_58_method_1_code_56 rfl (Or.inl (hw _ (List.mem_of_getElem? (i := 29) rfl))) Via.refl (G5) (E1) (Or.inr ⟨(hw _ (List.mem_of_getElem? (i := 30) rfl)), rfl, rfl⟩) (hw _ (List.mem_of_getElem? (i := 13) rfl)) (ty := .int) (by decide) rfl rfl (ha) ?_
  intro h' W1
  replace E1 := E1.wr W1
  replace K1 := K1.wr W1 (Or.inl (List.mem_of_getElem? (i := 0) rfl))
  replace G5 := G5.same W1
  replace G1 := G1.other W1 (Or.inr (slot_ne (Or.inr (hw _ (List.mem_of_getElem? (i := 22) rfl))) (Or.inr (hw _ (List.mem_of_getElem? (i := 30) rfl))) (by decide) (t := (.array .int)) (t' := .int) (by decide) (by decide)))
  replace G2 := G2.other W1 (Or.inr (slot_ne (Or.inr (hw _ (List.mem_of_getElem? (i := 24) rfl))) (Or.inr (hw _ (List.mem_of_getElem? (i := 30) rfl))) (by decide) (t := (.array .int)) (t' := .int) (by decide) (by decide)))
  replace G3 := G3.other W1 (Or.inr (slot_ne (Or.inr (hw _ (List.mem_of_getElem? (i := 26) rfl))) (Or.inr (hw _ (List.mem_of_getElem? (i := 30) rfl))) (by decide) (t := .int) (t' := .int) (by decide) (by decide)))
  replace G4 := G4.other W1 (Or.inr (slot_ne (Or.inr (hw _ (List.mem_of_getElem? (i := 28) rfl))) (Or.inr (hw _ (List.mem_of_getElem? (i := 30) rfl))) (by decide) (t := .int) (t' := .int) (by decide) (by decide)))
  clear W1
  exact r_retV d_prog_58_method_1_code_59 rfl (Nat.le_of_ble_eq_true rfl) (Nat.le_of_ble_eq_true rfl) (⟨rfl, K1, E1, G1, G2, G3, G4⟩)
set_option maxRecDepth 65536 in
set_option maxHeartbeats 40000000 in
theorem rm_ini12 (l : Launch) (Z : State) (a0 : Array Value) (hw : ∀ d ∈ tables_1, d.before a0 Z = true) (h : Heap) (n0 : Nat) (a b2 b3 : Addr) (c3 : ClassId) (n0' n1' n2' : Int32) (A3 : Arv Z h b3 c3 .int 3 [.int n0', .int n1', .int n2'] (.int 0)) (G1 : Fld Z h a "com/example/genano/genano/ValueCounts" "codes" "[I" .null) (G2 : Fld Z h a "com/example/genano/genano/ValueCounts" "counts" "[I" .null) (G3 : Fld Z h a "com/example/genano/genano/ValueCounts" "start" "I" (.int 0)) (G4 : Fld Z h a "com/example/genano/genano/ValueCounts" "end" "I" (.int 0)) (G5 : Fld Z h a "com/example/genano/genano/ValueCounts" "size" "I" (.int 0)) (E1 : Exa Z h a "com/example/genano/genano/ValueCounts") (ha : n0 ≤ a) : Con l Z (⟨"com/example/genano/genano/ValueCounts", "<init>", "([I[III)V"⟩ : MethodName) prog_58_method_1_code 7 (Option.none : Option Jvm.ClassFile.FieldType) ({ frames := 1, cells := 0, slots := 0, locals := 12 } : Room) n0 #[.ref a, .ref b2, .ref b3, .int 1, .int 2] h (fun v h' => v = none ∧ Keep h h' [a] ∧ Exa Z h' a "com/example/genano/genano/ValueCounts" ∧ Fld Z h' a "com/example/genano/genano/ValueCounts" "codes" "[I" (.ref b2) ∧ Fld Z h' a "com/example/genano/genano/ValueCounts" "counts" "[I" (.ref b3) ∧ Fld Z h' a "com/example/genano/genano/ValueCounts" "start" "I" (.int 1) ∧ Fld Z h' a "com/example/genano/genano/ValueCounts" "end" "I" (.int 2)) [] := by
  refine Run.con pn_vc (Ls := [.val (.ref a), .val (.ref b2), .val (.ref b3), .val (.int 1), .val (.int 2), .unset, .unset]) rfl ?_
  have K1 : Keep h h [a] := Keep.refl _ _
  refine r_aloadN 1 d_prog_58_method_1_code_0 rfl rfl ?_
  refine r_initO 4 d_prog_58_method_1_code_1 rfl (hw _ (List.mem_of_getElem? (i := 18) rfl)) (hw _ (List.mem_of_getElem? (i := 19) rfl)) (hw _ (List.mem_of_getElem? (i := 20) rfl)) rfl (Nat.le_of_ble_eq_true rfl) (Nat.le_of_ble_eq_true rfl) ?_
  refine r_iconst 0 5 d_prog_58_method_1_code_4 rfl rfl ?_
  refine r_istore 7 d_prog_58_method_1_code_5 rfl rfl ?_
  refine r_iloadN 8 d_prog_58_method_1_code_7 rfl rfl ?_
  refine r_istore 10 d_prog_58_method_1_code_8 rfl rfl ?_
  refine r_iload 12 d_prog_58_method_1_code_10 rfl rfl ?_
  refine r_iload 14 d_prog_58_method_1_code_12 rfl rfl ?_
  refine r_icmp_ge 32 17 d_prog_58_method_1_code_14 (by decide) rfl (fun q14 => absurd q14 (by decide)) (fun q14 => ?_)
  refine r_iload 19 d_prog_58_method_1_code_17 rfl rfl ?_
  refine r_aloadN 20 d_prog_58_method_1_code_19 rfl rfl ?_
  refine r_iload 22 d_prog_58_method_1_code_20 rfl rfl ?_
  refine r_iaload 1 (.int n1') 23 d_prog_58_method_1_code_22 rfl A3 (by decide) (by decide) (by decide) rfl ?_
  refine r_iadd 24 d_prog_58_method_1_code_23 rfl ?_
  refine r_istore 26 d_prog_58_method_1_code_24 rfl rfl ?_
  refine r_iinc 1 29 d_prog_58_method_1_code_26 rfl rfl rfl ?_
  refine r_goto 10 d_prog_58_method_1_code_29 (by decide) ?_
  refine r_iload 12 d_prog_58_method_1_code_10 rfl rfl ?_
  refine r_iload 14 d_prog_58_method_1_code_12 rfl rfl ?_
  refine r_icmp_ge 32 17 d_prog_58_method_1_code_14 (by decide) rfl (fun q14 => ?_) (fun q14 => absurd q14 (by decide))
  refine r_aloadN 33 d_prog_58_method_1_code_32 rfl rfl ?_
  refine r_aloadN 34 d_prog_58_method_1_code_33 rfl rfl ?_
  refine r_putfield (host := "") 37 d_prog_58_method_1_code_34 rfl (Or.inl (hw _ (List.mem_of_getElem? (i := 21) rfl))) Via.refl (G1) (E1) (Or.inr ⟨(hw _ (List.mem_of_getElem? (i := 22) rfl)), rfl, rfl⟩) (hw _ (List.mem_of_getElem? (i := 13) rfl)) (ty := (.array .int)) (by decide) rfl rfl (ha) ?_
  intro h' W1
  replace E1 := E1.wr W1
  replace K1 := K1.wr W1 (Or.inl (List.mem_of_getElem? (i := 0) rfl))
  replace G1 := G1.same W1
  replace G2 := G2.other W1 (Or.inr (slot_ne (Or.inr (hw _ (List.mem_of_getElem? (i := 24) rfl))) (Or.inr (hw _ (List.mem_of_getElem? (i := 22) rfl))) (by decide) (t := (.array .int)) (t' := (.array .int)) (by decide) (by decide)))
  replace G3 := G3.other W1 (Or.inr (slot_ne (Or.inr (hw _ (List.mem_of_getElem? (i := 26) rfl))) (Or.inr (hw _ (List.mem_of_getElem? (i := 22) rfl))) (by decide) (t := .int) (t' := (.array .int)) (by decide) (by decide)))
  replace G4 := G4.other W1 (Or.inr (slot_ne (Or.inr (hw _ (List.mem_of_getElem? (i := 28) rfl))) (Or.inr (hw _ (List.mem_of_getElem? (i := 22) rfl))) (by decide) (t := .int) (t' := (.array .int)) (by decide) (by decide)))
  replace G5 := G5.other W1 (Or.inr (slot_ne (Or.inr (hw _ (List.mem_of_getElem? (i := 30) rfl))) (Or.inr (hw _ (List.mem_of_getElem? (i := 22) rfl))) (by decide) (t := .int) (t' := (.array .int)) (by decide) (by decide)))
  clear W1
  refine r_aloadN 38 d_prog_58_method_1_code_37 rfl rfl ?_
  refine r_aloadN 39 d_prog_58_method_1_code_38 rfl rfl ?_
  refine r_putfield (host := "") 42 d_prog_58_method_1_code_39 rfl (Or.inl (hw _ (List.mem_of_getElem? (i := 23) rfl))) Via.refl (G2) (E1) (Or.inr ⟨(hw _ (List.mem_of_getElem? (i := 24) rfl)), rfl, rfl⟩) (hw _ (List.mem_of_getElem? (i := 13) rfl)) (ty := (.array .int)) (by decide) rfl rfl (ha) ?_
  intro h' W1
  replace E1 := E1.wr W1
  replace K1 := K1.wr W1 (Or.inl (List.mem_of_getElem? (i := 0) rfl))
  replace G2 := G2.same W1
  replace G1 := G1.other W1 (Or.inr (slot_ne (Or.inr (hw _ (List.mem_of_getElem? (i := 22) rfl))) (Or.inr (hw _ (List.mem_of_getElem? (i := 24) rfl))) (by decide) (t := (.array .int)) (t' := (.array .int)) (by decide) (by decide)))
  replace G3 := G3.other W1 (Or.inr (slot_ne (Or.inr (hw _ (List.mem_of_getElem? (i := 26) rfl))) (Or.inr (hw _ (List.mem_of_getElem? (i := 24) rfl))) (by decide) (t := .int) (t' := (.array .int)) (by decide) (by decide)))
  replace G4 := G4.other W1 (Or.inr (slot_ne (Or.inr (hw _ (List.mem_of_getElem? (i := 28) rfl))) (Or.inr (hw _ (List.mem_of_getElem? (i := 24) rfl))) (by decide) (t := .int) (t' := (.array .int)) (by decide) (by decide)))
  replace G5 := G5.other W1 (Or.inr (slot_ne (Or.inr (hw _ (List.mem_of_getElem? (i := 30) rfl))) (Or.inr (hw _ (List.mem_of_getElem? (i := 24) rfl))) (by decide) (t := .int) (t' := (.array .int)) (by decide) (by decide)))
  clear W1
  refine r_aloadN 43 d_prog_58_method_1_code_42 rfl rfl ?_
  refine r_iloadN 44 d_prog_58_method_1_code_43 rfl rfl ?_
  refine r_putfield (host := "") 47 d_prog_58_method_1_code_44 rfl (Or.inl (hw _ (List.mem_of_getElem? (i := 25) rfl))) Via.refl (G3) (E1) (Or.inr ⟨(hw _ (List.mem_of_getElem? (i := 26) rfl)), rfl, rfl⟩) (hw _ (List.mem_of_getElem? (i := 13) rfl)) (ty := .int) (by decide) rfl rfl (ha) ?_
  intro h' W1
  replace E1 := E1.wr W1
  replace K1 := K1.wr W1 (Or.inl (List.mem_of_getElem? (i := 0) rfl))
  replace G3 := G3.same W1
  replace G1 := G1.other W1 (Or.inr (slot_ne (Or.inr (hw _ (List.mem_of_getElem? (i := 22) rfl))) (Or.inr (hw _ (List.mem_of_getElem? (i := 26) rfl))) (by decide) (t := (.array .int)) (t' := .int) (by decide) (by decide)))
  replace G2 := G2.other W1 (Or.inr (slot_ne (Or.inr (hw _ (List.mem_of_getElem? (i := 24) rfl))) (Or.inr (hw _ (List.mem_of_getElem? (i := 26) rfl))) (by decide) (t := (.array .int)) (t' := .int) (by decide) (by decide)))
  replace G4 := G4.other W1 (Or.inr (slot_ne (Or.inr (hw _ (List.mem_of_getElem? (i := 28) rfl))) (Or.inr (hw _ (List.mem_of_getElem? (i := 26) rfl))) (by decide) (t := .int) (t' := .int) (by decide) (by decide)))
  replace G5 := G5.other W1 (Or.inr (slot_ne (Or.inr (hw _ (List.mem_of_getElem? (i := 30) rfl))) (Or.inr (hw _ (List.mem_of_getElem? (i := 26) rfl))) (by decide) (t := .int) (t' := .int) (by decide) (by decide)))
  clear W1
  refine r_aloadN 48 d_prog_58_method_1_code_47 rfl rfl ?_
  refine r_iload 50 d_prog_58_method_1_code_48 rfl rfl ?_
  refine r_putfield (host := "") 53 d_prog_58_method_1_code_50 rfl (Or.inl (hw _ (List.mem_of_getElem? (i := 27) rfl))) Via.refl (G4) (E1) (Or.inr ⟨(hw _ (List.mem_of_getElem? (i := 28) rfl)), rfl, rfl⟩) (hw _ (List.mem_of_getElem? (i := 13) rfl)) (ty := .int) (by decide) rfl rfl (ha) ?_
  intro h' W1
  replace E1 := E1.wr W1
  replace K1 := K1.wr W1 (Or.inl (List.mem_of_getElem? (i := 0) rfl))
  replace G4 := G4.same W1
  replace G1 := G1.other W1 (Or.inr (slot_ne (Or.inr (hw _ (List.mem_of_getElem? (i := 22) rfl))) (Or.inr (hw _ (List.mem_of_getElem? (i := 28) rfl))) (by decide) (t := (.array .int)) (t' := .int) (by decide) (by decide)))
  replace G2 := G2.other W1 (Or.inr (slot_ne (Or.inr (hw _ (List.mem_of_getElem? (i := 24) rfl))) (Or.inr (hw _ (List.mem_of_getElem? (i := 28) rfl))) (by decide) (t := (.array .int)) (t' := .int) (by decide) (by decide)))
  replace G3 := G3.other W1 (Or.inr (slot_ne (Or.inr (hw _ (List.mem_of_getElem? (i := 26) rfl))) (Or.inr (hw _ (List.mem_of_getElem? (i := 28) rfl))) (by decide) (t := .int) (t' := .int) (by decide) (by decide)))
  replace G5 := G5.other W1 (Or.inr (slot_ne (Or.inr (hw _ (List.mem_of_getElem? (i := 30) rfl))) (Or.inr (hw _ (List.mem_of_getElem? (i := 28) rfl))) (by decide) (t := .int) (t' := .int) (by decide) (by decide)))
  clear W1
  refine r_aloadN 54 d_prog_58_method_1_code_53 rfl rfl ?_
  refine r_iload 56 d_prog_58_method_1_code_54 rfl rfl ?_
  refine r_putfield (host := "") 59 d_prog_58_method_1_code_56 rfl (Or.inl (hw _ (List.mem_of_getElem? (i := 29) rfl))) Via.refl (G5) (E1) (Or.inr ⟨(hw _ (List.mem_of_getElem? (i := 30) rfl)), rfl, rfl⟩) (hw _ (List.mem_of_getElem? (i := 13) rfl)) (ty := .int) (by decide) rfl rfl (ha) ?_
  intro h' W1
  replace E1 := E1.wr W1
  replace K1 := K1.wr W1 (Or.inl (List.mem_of_getElem? (i := 0) rfl))
  replace G5 := G5.same W1
  replace G1 := G1.other W1 (Or.inr (slot_ne (Or.inr (hw _ (List.mem_of_getElem? (i := 22) rfl))) (Or.inr (hw _ (List.mem_of_getElem? (i := 30) rfl))) (by decide) (t := (.array .int)) (t' := .int) (by decide) (by decide)))
  replace G2 := G2.other W1 (Or.inr (slot_ne (Or.inr (hw _ (List.mem_of_getElem? (i := 24) rfl))) (Or.inr (hw _ (List.mem_of_getElem? (i := 30) rfl))) (by decide) (t := (.array .int)) (t' := .int) (by decide) (by decide)))
  replace G3 := G3.other W1 (Or.inr (slot_ne (Or.inr (hw _ (List.mem_of_getElem? (i := 26) rfl))) (Or.inr (hw _ (List.mem_of_getElem? (i := 30) rfl))) (by decide) (t := .int) (t' := .int) (by decide) (by decide)))
  replace G4 := G4.other W1 (Or.inr (slot_ne (Or.inr (hw _ (List.mem_of_getElem? (i := 28) rfl))) (Or.inr (hw _ (List.mem_of_getElem? (i := 30) rfl))) (by decide) (t := .int) (t' := .int) (by decide) (by decide)))
  clear W1
  exact r_retV d_prog_58_method_1_code_59 rfl (Nat.le_of_ble_eq_true rfl) (Nat.le_of_ble_eq_true rfl) (⟨rfl, K1, E1, G1, G2, G3, G4⟩)
set_option maxRecDepth 65536 in
set_option maxHeartbeats 40000000 in
theorem rm_ini13 (l : Launch) (Z : State) (a0 : Array Value) (hw : ∀ d ∈ tables_1, d.before a0 Z = true) (h : Heap) (n0 : Nat) (a b2 b3 : Addr) (c3 : ClassId) (n0' n1' n2' : Int32) (A3 : Arv Z h b3 c3 .int 3 [.int n0', .int n1', .int n2'] (.int 0)) (G1 : Fld Z h a "com/example/genano/genano/ValueCounts" "codes" "[I" .null) (G2 : Fld Z h a "com/example/genano/genano/ValueCounts" "counts" "[I" .null) (G3 : Fld Z h a "com/example/genano/genano/ValueCounts" "start" "I" (.int 0)) (G4 : Fld Z h a "com/example/genano/genano/ValueCounts" "end" "I" (.int 0)) (G5 : Fld Z h a "com/example/genano/genano/ValueCounts" "size" "I" (.int 0)) (E1 : Exa Z h a "com/example/genano/genano/ValueCounts") (ha : n0 ≤ a) : Con l Z (⟨"com/example/genano/genano/ValueCounts", "<init>", "([I[III)V"⟩ : MethodName) prog_58_method_1_code 7 (Option.none : Option Jvm.ClassFile.FieldType) ({ frames := 1, cells := 0, slots := 0, locals := 12 } : Room) n0 #[.ref a, .ref b2, .ref b3, .int 1, .int 3] h (fun v h' => v = none ∧ Keep h h' [a] ∧ Exa Z h' a "com/example/genano/genano/ValueCounts" ∧ Fld Z h' a "com/example/genano/genano/ValueCounts" "codes" "[I" (.ref b2) ∧ Fld Z h' a "com/example/genano/genano/ValueCounts" "counts" "[I" (.ref b3) ∧ Fld Z h' a "com/example/genano/genano/ValueCounts" "start" "I" (.int 1) ∧ Fld Z h' a "com/example/genano/genano/ValueCounts" "end" "I" (.int 3)) [] := by
  refine Run.con pn_vc (Ls := [.val (.ref a), .val (.ref b2), .val (.ref b3), .val (.int 1), .val (.int 3), .unset, .unset]) rfl ?_
  have K1 : Keep h h [a] := Keep.refl _ _
  refine r_aloadN 1 d_prog_58_method_1_code_0 rfl rfl ?_
  refine r_initO 4 d_prog_58_method_1_code_1 rfl (hw _ (List.mem_of_getElem? (i := 18) rfl)) (hw _ (List.mem_of_getElem? (i := 19) rfl)) (hw _ (List.mem_of_getElem? (i := 20) rfl)) rfl (Nat.le_of_ble_eq_true rfl) (Nat.le_of_ble_eq_true rfl) ?_
  refine r_iconst 0 5 d_prog_58_method_1_code_4 rfl rfl ?_
  refine r_istore 7 d_prog_58_method_1_code_5 rfl rfl ?_
  refine r_iloadN 8 d_prog_58_method_1_code_7 rfl rfl ?_
  refine r_istore 10 d_prog_58_method_1_code_8 rfl rfl ?_
  refine r_iload 12 d_prog_58_method_1_code_10 rfl rfl ?_
  refine r_iload 14 d_prog_58_method_1_code_12 rfl rfl ?_
  refine r_icmp_ge 32 17 d_prog_58_method_1_code_14 (by decide) rfl (fun q14 => absurd q14 (by decide)) (fun q14 => ?_)
  refine r_iload 19 d_prog_58_method_1_code_17 rfl rfl ?_
  refine r_aloadN 20 d_prog_58_method_1_code_19 rfl rfl ?_
  refine r_iload 22 d_prog_58_method_1_code_20 rfl rfl ?_
  refine r_iaload 1 (.int n1') 23 d_prog_58_method_1_code_22 rfl A3 (by decide) (by decide) (by decide) rfl ?_
  refine r_iadd 24 d_prog_58_method_1_code_23 rfl ?_
  refine r_istore 26 d_prog_58_method_1_code_24 rfl rfl ?_
  refine r_iinc 1 29 d_prog_58_method_1_code_26 rfl rfl rfl ?_
  refine r_goto 10 d_prog_58_method_1_code_29 (by decide) ?_
  refine r_iload 12 d_prog_58_method_1_code_10 rfl rfl ?_
  refine r_iload 14 d_prog_58_method_1_code_12 rfl rfl ?_
  refine r_icmp_ge 32 17 d_prog_58_method_1_code_14 (by decide) rfl (fun q14 => absurd q14 (by decide)) (fun q14 => ?_)
  refine r_iload 19 d_prog_58_method_1_code_17 rfl rfl ?_
  refine r_aloadN 20 d_prog_58_method_1_code_19 rfl rfl ?_
  refine r_iload 22 d_prog_58_method_1_code_20 rfl rfl ?_
  refine r_iaload 2 (.int n2') 23 d_prog_58_method_1_code_22 rfl A3 (by decide) (by decide) (by decide) rfl ?_
  refine r_iadd 24 d_prog_58_method_1_code_23 rfl ?_
  refine r_istore 26 d_prog_58_method_1_code_24 rfl rfl ?_
  refine r_iinc 1 29 d_prog_58_method_1_code_26 rfl rfl rfl ?_
  refine r_goto 10 d_prog_58_method_1_code_29 (by decide) ?_
  refine r_iload 12 d_prog_58_method_1_code_10 rfl rfl ?_
  refine r_iload 14 d_prog_58_method_1_code_12 rfl rfl ?_
  refine r_icmp_ge 32 17 d_prog_58_method_1_code_14 (by decide) rfl (fun q14 => ?_) (fun q14 => absurd q14 (by decide))
  refine r_aloadN 33 d_prog_58_method_1_code_32 rfl rfl ?_
  refine r_aloadN 34 d_prog_58_method_1_code_33 rfl rfl ?_
  refine r_putfield (host := "") 37 d_prog_58_method_1_code_34 rfl (Or.inl (hw _ (List.mem_of_getElem? (i := 21) rfl))) Via.refl (G1) (E1) (Or.inr ⟨(hw _ (List.mem_of_getElem? (i := 22) rfl)), rfl, rfl⟩) (hw _ (List.mem_of_getElem? (i := 13) rfl)) (ty := (.array .int)) (by decide) rfl rfl (ha) ?_
  intro h' W1
  replace E1 := E1.wr W1
  replace K1 := K1.wr W1 (Or.inl (List.mem_of_getElem? (i := 0) rfl))
  replace G1 := G1.same W1
  replace G2 := G2.other W1 (Or.inr (slot_ne (Or.inr (hw _ (List.mem_of_getElem? (i := 24) rfl))) (Or.inr (hw _ (List.mem_of_getElem? (i := 22) rfl))) (by decide) (t := (.array .int)) (t' := (.array .int)) (by decide) (by decide)))
  replace G3 := G3.other W1 (Or.inr (slot_ne (Or.inr (hw _ (List.mem_of_getElem? (i := 26) rfl))) (Or.inr (hw _ (List.mem_of_getElem? (i := 22) rfl))) (by decide) (t := .int) (t' := (.array .int)) (by decide) (by decide)))
  replace G4 := G4.other W1 (Or.inr (slot_ne (Or.inr (hw _ (List.mem_of_getElem? (i := 28) rfl))) (Or.inr (hw _ (List.mem_of_getElem? (i := 22) rfl))) (by decide) (t := .int) (t' := (.array .int)) (by decide) (by decide)))
  replace G5 := G5.other W1 (Or.inr (slot_ne (Or.inr (hw _ (List.mem_of_getElem? (i := 30) rfl))) (Or.inr (hw _ (List.mem_of_getElem? (i := 22) rfl))) (by decide) (t := .int) (t' := (.array .int)) (by decide) (by decide)))
  clear W1
  refine r_aloadN 38 d_prog_58_method_1_code_37 rfl rfl ?_
  refine r_aloadN 39 d_prog_58_method_1_code_38 rfl rfl ?_
  refine r_putfield (host := "") 42 d_prog_58_method_1_code_39 rfl (Or.inl (hw _ (List.mem_of_getElem? (i := 23) rfl))) Via.refl (G2) (E1) (Or.inr ⟨(hw _ (List.mem_of_getElem? (i := 24) rfl)), rfl, rfl⟩) (hw _ (List.mem_of_getElem? (i := 13) rfl)) (ty := (.array .int)) (by decide) rfl rfl (ha) ?_
  intro h' W1
  replace E1 := E1.wr W1
  replace K1 := K1.wr W1 (Or.inl (List.mem_of_getElem? (i := 0) rfl))
  replace G2 := G2.same W1
  replace G1 := G1.other W1 (Or.inr (slot_ne (Or.inr (hw _ (List.mem_of_getElem? (i := 22) rfl))) (Or.inr (hw _ (List.mem_of_getElem? (i := 24) rfl))) (by decide) (t := (.array .int)) (t' := (.array .int)) (by decide) (by decide)))
  replace G3 := G3.other W1 (Or.inr (slot_ne (Or.inr (hw _ (List.mem_of_getElem? (i := 26) rfl))) (Or.inr (hw _ (List.mem_of_getElem? (i := 24) rfl))) (by decide) (t := .int) (t' := (.array .int)) (by decide) (by decide)))
  replace G4 := G4.other W1 (Or.inr (slot_ne (Or.inr (hw _ (List.mem_of_getElem? (i := 28) rfl))) (Or.inr (hw _ (List.mem_of_getElem? (i := 24) rfl))) (by decide) (t := .int) (t' := (.array .int)) (by decide) (by decide)))
  replace G5 := G5.other W1 (Or.inr (slot_ne (Or.inr (hw _ (List.mem_of_getElem? (i := 30) rfl))) (Or.inr (hw _ (List.mem_of_getElem? (i := 24) rfl))) (by decide) (t := .int) (t' := (.array .int)) (by decide) (by decide)))
  clear W1
  refine r_aloadN 43 d_prog_58_method_1_code_42 rfl rfl ?_
  refine r_iloadN 44 d_prog_58_method_1_code_43 rfl rfl ?_
  refine r_putfield (host := "") 47 d_prog_58_method_1_code_44 rfl (Or.inl (hw _ (List.mem_of_getElem? (i := 25) rfl))) Via.refl (G3) (E1) (Or.inr ⟨(hw _ (List.mem_of_getElem? (i := 26) rfl)), rfl, rfl⟩) (hw _ (List.mem_of_getElem? (i := 13) rfl)) (ty := .int) (by decide) rfl rfl (ha) ?_
  intro h' W1
  replace E1 := E1.wr W1
  replace K1 := K1.wr W1 (Or.inl (List.mem_of_getElem? (i := 0) rfl))
  replace G3 := G3.same W1
  replace G1 := G1.other W1 (Or.inr (slot_ne (Or.inr (hw _ (List.mem_of_getElem? (i := 22) rfl))) (Or.inr (hw _ (List.mem_of_getElem? (i := 26) rfl))) (by decide) (t := (.array .int)) (t' := .int) (by decide) (by decide)))
  replace G2 := G2.other W1 (Or.inr (slot_ne (Or.inr (hw _ (List.mem_of_getElem? (i := 24) rfl))) (Or.inr (hw _ (List.mem_of_getElem? (i := 26) rfl))) (by decide) (t := (.array .int)) (t' := .int) (by decide) (by decide)))
  replace G4 := G4.other W1 (Or.inr (slot_ne (Or.inr (hw _ (List.mem_of_getElem? (i := 28) rfl))) (Or.inr (hw _ (List.mem_of_getElem? (i := 26) rfl))) (by decide) (t := .int) (t' := .int) (by decide) (by decide)))
  replace G5 := G5.other W1 (Or.inr (slot_ne (Or.inr (hw _ (List.mem_of_getElem? (i := 30) rfl))) (Or.inr (hw _ (List.mem_of_getElem? (i := 26) rfl))) (by decide) (t := .int) (t' := .int) (by decide) (by decide)))
  clear W1
  refine r_aloadN 48 d_prog_58_method_1_code_47 rfl rfl ?_
  refine r_iload 50 d_prog_58_method_1_code_48 rfl rfl ?_
  refine r_putfield (host := "") 53 d_prog_58_method_1_code_50 rfl (Or.inl (hw _ (List.mem_of_getElem? (i := 27) rfl))) Via.refl (G4) (E1) (Or.inr ⟨(hw _ (List.mem_of_getElem? (i := 28) rfl)), rfl, rfl⟩) (hw _ (List.mem_of_getElem? (i := 13) rfl)) (ty := .int) (by decide) rfl rfl (ha) ?_
  intro h' W1
  replace E1 := E1.wr W1
  replace K1 := K1.wr W1 (Or.inl (List.mem_of_getElem? (i := 0) rfl))
  replace G4 := G4.same W1
  replace G1 := G1.other W1 (Or.inr (slot_ne (Or.inr (hw _ (List.mem_of_getElem? (i := 22) rfl))) (Or.inr (hw _ (List.mem_of_getElem? (i := 28) rfl))) (by decide) (t := (.array .int)) (t' := .int) (by decide) (by decide)))
  replace G2 := G2.other W1 (Or.inr (slot_ne (Or.inr (hw _ (List.mem_of_getElem? (i := 24) rfl))) (Or.inr (hw _ (List.mem_of_getElem? (i := 28) rfl))) (by decide) (t := (.array .int)) (t' := .int) (by decide) (by decide)))
  replace G3 := G3.other W1 (Or.inr (slot_ne (Or.inr (hw _ (List.mem_of_getElem? (i := 26) rfl))) (Or.inr (hw _ (List.mem_of_getElem? (i := 28) rfl))) (by decide) (t := .int) (t' := .int) (by decide) (by decide)))
  replace G5 := G5.other W1 (Or.inr (slot_ne (Or.inr (hw _ (List.mem_of_getElem? (i := 30) rfl))) (Or.inr (hw _ (List.mem_of_getElem? (i := 28) rfl))) (by decide) (t := .int) (t' := .int) (by decide) (by decide)))
  clear W1
  refine r_aloadN 54 d_prog_58_method_1_code_53 rfl rfl ?_
  refine r_iload 56 d_prog_58_method_1_code_54 rfl rfl ?_
  refine r_putfield (host := "") 59 d_prog_58_method_1_code_56 rfl (Or.inl (hw _ (List.mem_of_getElem? (i := 29) rfl))) Via.refl (G5) (E1) (Or.inr ⟨(hw _ (List.mem_of_getElem? (i := 30) rfl)), rfl, rfl⟩) (hw _ (List.mem_of_getElem? (i := 13) rfl)) (ty := .int) (by decide) rfl rfl (ha) ?_
  intro h' W1
  replace E1 := E1.wr W1
  replace K1 := K1.wr W1 (Or.inl (List.mem_of_getElem? (i := 0) rfl))
  replace G5 := G5.same W1
  replace G1 := G1.other W1 (Or.inr (slot_ne (Or.inr (hw _ (List.mem_of_getElem? (i := 22) rfl))) (Or.inr (hw _ (List.mem_of_getElem? (i := 30) rfl))) (by decide) (t := (.array .int)) (t' := .int) (by decide) (by decide)))
  replace G2 := G2.other W1 (Or.inr (slot_ne (Or.inr (hw _ (List.mem_of_getElem? (i := 24) rfl))) (Or.inr (hw _ (List.mem_of_getElem? (i := 30) rfl))) (by decide) (t := (.array .int)) (t' := .int) (by decide) (by decide)))
  replace G3 := G3.other W1 (Or.inr (slot_ne (Or.inr (hw _ (List.mem_of_getElem? (i := 26) rfl))) (Or.inr (hw _ (List.mem_of_getElem? (i := 30) rfl))) (by decide) (t := .int) (t' := .int) (by decide) (by decide)))
  replace G4 := G4.other W1 (Or.inr (slot_ne (Or.inr (hw _ (List.mem_of_getElem? (i := 28) rfl))) (Or.inr (hw _ (List.mem_of_getElem? (i := 30) rfl))) (by decide) (t := .int) (t' := .int) (by decide) (by decide)))
  clear W1
  exact r_retV d_prog_58_method_1_code_59 rfl (Nat.le_of_ble_eq_true rfl) (Nat.le_of_ble_eq_true rfl) (⟨rfl, K1, E1, G1, G2, G3, G4⟩)
set_option maxRecDepth 65536 in
set_option maxHeartbeats 40000000 in
theorem rm_ini23 (l : Launch) (Z : State) (a0 : Array Value) (hw : ∀ d ∈ tables_1, d.before a0 Z = true) (h : Heap) (n0 : Nat) (a b2 b3 : Addr) (c3 : ClassId) (n0' n1' n2' : Int32) (A3 : Arv Z h b3 c3 .int 3 [.int n0', .int n1', .int n2'] (.int 0)) (G1 : Fld Z h a "com/example/genano/genano/ValueCounts" "codes" "[I" .null) (G2 : Fld Z h a "com/example/genano/genano/ValueCounts" "counts" "[I" .null) (G3 : Fld Z h a "com/example/genano/genano/ValueCounts" "start" "I" (.int 0)) (G4 : Fld Z h a "com/example/genano/genano/ValueCounts" "end" "I" (.int 0)) (G5 : Fld Z h a "com/example/genano/genano/ValueCounts" "size" "I" (.int 0)) (E1 : Exa Z h a "com/example/genano/genano/ValueCounts") (ha : n0 ≤ a) : Con l Z (⟨"com/example/genano/genano/ValueCounts", "<init>", "([I[III)V"⟩ : MethodName) prog_58_method_1_code 7 (Option.none : Option Jvm.ClassFile.FieldType) ({ frames := 1, cells := 0, slots := 0, locals := 12 } : Room) n0 #[.ref a, .ref b2, .ref b3, .int 2, .int 3] h (fun v h' => v = none ∧ Keep h h' [a] ∧ Exa Z h' a "com/example/genano/genano/ValueCounts" ∧ Fld Z h' a "com/example/genano/genano/ValueCounts" "codes" "[I" (.ref b2) ∧ Fld Z h' a "com/example/genano/genano/ValueCounts" "counts" "[I" (.ref b3) ∧ Fld Z h' a "com/example/genano/genano/ValueCounts" "start" "I" (.int 2) ∧ Fld Z h' a "com/example/genano/genano/ValueCounts" "end" "I" (.int 3)) [] := by
  refine Run.con pn_vc (Ls := [.val (.ref a), .val (.ref b2), .val (.ref b3), .val (.int 2), .val (.int 3), .unset, .unset]) rfl ?_
  have K1 : Keep h h [a] := Keep.refl _ _
  refine r_aloadN 1 d_prog_58_method_1_code_0 rfl rfl ?_
  refine r_initO 4 d_prog_58_method_1_code_1 rfl (hw _ (List.mem_of_getElem? (i := 18) rfl)) (hw _ (List.mem_of_getElem? (i := 19) rfl)) (hw _ (List.mem_of_getElem? (i := 20) rfl)) rfl (Nat.le_of_ble_eq_true rfl) (Nat.le_of_ble_eq_true rfl) ?_
  refine r_iconst 0 5 d_prog_58_method_1_code_4 rfl rfl ?_
  refine r_istore 7 d_prog_58_method_1_code_5 rfl rfl ?_
  refine r_iloadN 8 d_prog_58_method_1_code_7 rfl rfl ?_
  refine r_istore 10 d_prog_58_method_1_code_8 rfl rfl ?_
  refine r_iload 12 d_prog_58_method_1_code_10 rfl rfl ?_
  refine r_iload 14 d_prog_58_method_1_code_12 rfl rfl ?_
  refine r_icmp_ge 32 17 d_prog_58_method_1_code_14 (by decide) rfl (fun q14 => absurd q14 (by decide)) (fun q14 => ?_)
  refine r_iload 19 d_prog_58_method_1_code_17 rfl rfl ?_
  refine r_aloadN 20 d_prog_58_method_1_code_19 rfl rfl ?_
  refine r_iload 22 d_prog_58_method_1_code_20 rfl rfl ?_
  refine r_iaload 2 (.int n2') 23 d_prog_58_method_1_code_22 rfl A3 (by decide) (by decide) (by decide) rfl ?_
  refine r_iadd 24 d_prog_58_method_1_code_23 rfl ?_
  refine r_istore 26 d_prog_58_method_1_code_24 rfl rfl ?_
  refine r_iinc 1 29 d_prog_58_method_1_code_26 rfl rfl rfl ?_
  refine r_goto 10 d_prog_58_method_1_code_29 (by decide) ?_
  refine r_iload 12 d_prog_58_method_1_code_10 rfl rfl ?_
  refine r_iload 14 d_prog_58_method_1_code_12 rfl rfl ?_
  refine r_icmp_ge 32 17 d_prog_58_method_1_code_14 (by decide) rfl (fun q14 => ?_) (fun q14 => absurd q14 (by decide))
  refine r_aloadN 33 d_prog_58_method_1_code_32 rfl rfl ?_
  refine r_aloadN 34 d_prog_58_method_1_code_33 rfl rfl ?_
  refine r_putfield (host := "") 37 d_prog_58_method_1_code_34 rfl (Or.inl (hw _ (List.mem_of_getElem? (i := 21) rfl))) Via.refl (G1) (E1) (Or.inr ⟨(hw _ (List.mem_of_getElem? (i := 22) rfl)), rfl, rfl⟩) (hw _ (List.mem_of_getElem? (i := 13) rfl)) (ty := (.array .int)) (by decide) rfl rfl (ha) ?_
  intro h' W1
  replace E1 := E1.wr W1
  replace K1 := K1.wr W1 (Or.inl (List.mem_of_getElem? (i := 0) rfl))
  replace G1 := G1.same W1
  replace G2 := G2.other W1 (Or.inr (slot_ne (Or.inr (hw _ (List.mem_of_getElem? (i := 24) rfl))) (Or.inr (hw _ (List.mem_of_getElem? (i := 22) rfl))) (by decide) (t := (.array .int)) (t' := (.array .int)) (by decide) (by decide)))
  replace G3 := G3.other W1 (Or.inr (slot_ne (Or.inr (hw _ (List.mem_of_getElem? (i := 26) rfl))) (Or.inr (hw _ (List.mem_of_getElem? (i := 22) rfl))) (by decide) (t := .int) (t' := (.array .int)) (by decide) (by decide)))
  replace G4 := G4.other W1 (Or.inr (slot_ne (Or.inr (hw _ (List.mem_of_getElem? (i := 28) rfl))) (Or.inr (hw _ (List.mem_of_getElem? (i := 22) rfl))) (by decide) (t := .int) (t' := (.array .int)) (by decide) (by decide)))
  replace G5 := G5.other W1 (Or.inr (slot_ne (Or.inr (hw _ (List.mem_of_getElem? (i := 30) rfl))) (Or.inr (hw _ (List.mem_of_getElem? (i := 22) rfl))) (by decide) (t := .int) (t' := (.array .int)) (by decide) (by decide)))
  clear W1
  refine r_aloadN 38 d_prog_58_method_1_code_37 rfl rfl ?_
  refine r_aloadN 39 d_prog_58_method_1_code_38 rfl rfl ?_
  refine r_putfield (host := "") 42 d_prog_58_method_1_code_39 rfl (Or.inl (hw _ (List.mem_of_getElem? (i := 23) rfl))) Via.refl (G2) (E1) (Or.inr ⟨(hw _ (List.mem_of_getElem? (i := 24) rfl)), rfl, rfl⟩) (hw _ (List.mem_of_getElem? (i := 13) rfl)) (ty := (.array .int)) (by decide) rfl rfl (ha) ?_
  intro h' W1
  replace E1 := E1.wr W1
  replace K1 := K1.wr W1 (Or.inl (List.mem_of_getElem? (i := 0) rfl))
  replace G2 := G2.same W1
  replace G1 := G1.other W1 (Or.inr (slot_ne (Or.inr (hw _ (List.mem_of_getElem? (i := 22) rfl))) (Or.inr (hw _ (List.mem_of_getElem? (i := 24) rfl))) (by decide) (t := (.array .int)) (t' := (.array .int)) (by decide) (by decide)))
  replace G3 := G3.other W1 (Or.inr (slot_ne (Or.inr (hw _ (List.mem_of_getElem? (i := 26) rfl))) (Or.inr (hw _ (List.mem_of_getElem? (i := 24) rfl))) (by decide) (t := .int) (t' := (.array .int)) (by decide) (by decide)))
  replace G4 := G4.other W1 (Or.inr (slot_ne (Or.inr (hw _ (List.mem_of_getElem? (i := 28) rfl))) (Or.inr (hw _ (List.mem_of_getElem? (i := 24) rfl))) (by decide) (t := .int) (t' := (.array .int)) (by decide) (by decide)))
  replace G5 := G5.other W1 (Or.inr (slot_ne (Or.inr (hw _ (List.mem_of_getElem? (i := 30) rfl))) (Or.inr (hw _ (List.mem_of_getElem? (i := 24) rfl))) (by decide) (t := .int) (t' := (.array .int)) (by decide) (by decide)))
  clear W1
  refine r_aloadN 43 d_prog_58_method_1_code_42 rfl rfl ?_
  refine r_iloadN 44 d_prog_58_method_1_code_43 rfl rfl ?_
  refine r_putfield (host := "") 47 d_prog_58_method_1_code_44 rfl (Or.inl (hw _ (List.mem_of_getElem? (i := 25) rfl))) Via.refl (G3) (E1) (Or.inr ⟨(hw _ (List.mem_of_getElem? (i := 26) rfl)), rfl, rfl⟩) (hw _ (List.mem_of_getElem? (i := 13) rfl)) (ty := .int) (by decide) rfl rfl (ha) ?_
  intro h' W1
  replace E1 := E1.wr W1
  replace K1 := K1.wr W1 (Or.inl (List.mem_of_getElem? (i := 0) rfl))
  replace G3 := G3.same W1
  replace G1 := G1.other W1 (Or.inr (slot_ne (Or.inr (hw _ (List.mem_of_getElem? (i := 22) rfl))) (Or.inr (hw _ (List.mem_of_getElem? (i := 26) rfl))) (by decide) (t := (.array .int)) (t' := .int) (by decide) (by decide)))
  replace G2 := G2.other W1 (Or.inr (slot_ne (Or.inr (hw _ (List.mem_of_getElem? (i := 24) rfl))) (Or.inr (hw _ (List.mem_of_getElem? (i := 26) rfl))) (by decide) (t := (.array .int)) (t' := .int) (by decide) (by decide)))
  replace G4 := G4.other W1 (Or.inr (slot_ne (Or.inr (hw _ (List.mem_of_getElem? (i := 28) rfl))) (Or.inr (hw _ (List.mem_of_getElem? (i := 26) rfl))) (by decide) (t := .int) (t' := .int) (by decide) (by decide)))
  replace G5 := G5.other W1 (Or.inr (slot_ne (Or.inr (hw _ (List.mem_of_getElem? (i := 30) rfl))) (Or.inr (hw _ (List.mem_of_getElem? (i := 26) rfl))) (by decide) (t := .int) (t' := .int) (by decide) (by decide)))
  clear W1
  refine r_aloadN 48 d_prog_58_method_1_code_47 rfl rfl ?_
  refine r_iload 50 d_prog_58_method_1_code_48 rfl rfl ?_
  refine r_putfield (host := "") 53 d_prog_58_method_1_code_50 rfl (Or.inl (hw _ (List.mem_of_getElem? (i := 27) rfl))) Via.refl (G4) (E1) (Or.inr ⟨(hw _ (List.mem_of_getElem? (i := 28) rfl)), rfl, rfl⟩) (hw _ (List.mem_of_getElem? (i := 13) rfl)) (ty := .int) (by decide) rfl rfl (ha) ?_
  intro h' W1
  replace E1 := E1.wr W1
  replace K1 := K1.wr W1 (Or.inl (List.mem_of_getElem? (i := 0) rfl))
  replace G4 := G4.same W1
  replace G1 := G1.other W1 (Or.inr (slot_ne (Or.inr (hw _ (List.mem_of_getElem? (i := 22) rfl))) (Or.inr (hw _ (List.mem_of_getElem? (i := 28) rfl))) (by decide) (t := (.array .int)) (t' := .int) (by decide) (by decide)))
  replace G2 := G2.other W1 (Or.inr (slot_ne (Or.inr (hw _ (List.mem_of_getElem? (i := 24) rfl))) (Or.inr (hw _ (List.mem_of_getElem? (i := 28) rfl))) (by decide) (t := (.array .int)) (t' := .int) (by decide) (by decide)))
  replace G3 := G3.other W1 (Or.inr (slot_ne (Or.inr (hw _ (List.mem_of_getElem? (i := 26) rfl))) (Or.inr (hw _ (List.mem_of_getElem? (i := 28) rfl))) (by decide) (t := .int) (t' := .int) (by decide) (by decide)))
  replace G5 := G5.other W1 (Or.inr (slot_ne (Or.inr (hw _ (List.mem_of_getElem? (i := 30) rfl))) (Or.inr (hw _ (List.mem_of_getElem? (i := 28) rfl))) (by decide) (t := .int) (t' := .int) (by decide) (by decide)))
  clear W1
  refine r_aloadN 54 d_prog_58_method_1_code_53 rfl rfl ?_
  refine r_iload 56 d_prog_58_method_1_code_54 rfl rfl ?_
  refine r_putfield (host := "") 59 d_prog_58_method_1_code_56 rfl (Or.inl (hw _ (List.mem_of_getElem? (i := 29) rfl))) Via.refl (G5) (E1) (Or.inr ⟨(hw _ (List.mem_of_getElem? (i := 30) rfl)), rfl, rfl⟩) (hw _ (List.mem_of_getElem? (i := 13) rfl)) (ty := .int) (by decide) rfl rfl (ha) ?_
  intro h' W1
  replace E1 := E1.wr W1
  replace K1 := K1.wr W1 (Or.inl (List.mem_of_getElem? (i := 0) rfl))
  replace G5 := G5.same W1
  replace G1 := G1.other W1 (Or.inr (slot_ne (Or.inr (hw _ (List.mem_of_getElem? (i := 22) rfl))) (Or.inr (hw _ (List.mem_of_getElem? (i := 30) rfl))) (by decide) (t := (.array .int)) (t' := .int) (by decide) (by decide)))
  replace G2 := G2.other W1 (Or.inr (slot_ne (Or.inr (hw _ (List.mem_of_getElem? (i := 24) rfl))) (Or.inr (hw _ (List.mem_of_getElem? (i := 30) rfl))) (by decide) (t := (.array .int)) (t' := .int) (by decide) (by decide)))
  replace G3 := G3.other W1 (Or.inr (slot_ne (Or.inr (hw _ (List.mem_of_getElem? (i := 26) rfl))) (Or.inr (hw _ (List.mem_of_getElem? (i := 30) rfl))) (by decide) (t := .int) (t' := .int) (by decide) (by decide)))
  replace G4 := G4.other W1 (Or.inr (slot_ne (Or.inr (hw _ (List.mem_of_getElem? (i := 28) rfl))) (Or.inr (hw _ (List.mem_of_getElem? (i := 30) rfl))) (by decide) (t := .int) (t' := .int) (by decide) (by decide)))
  clear W1
  exact r_retV d_prog_58_method_1_code_59 rfl (Nat.le_of_ble_eq_true rfl) (Nat.le_of_ble_eq_true rfl) (⟨rfl, K1, E1, G1, G2, G3, G4⟩)
theorem own_d0 : FP.dconst0 = FP.l2d 0 := by decide +kernel
theorem own_B0 : own_B 0 0 := by unfold own_B; decide
def own_W (w : Int64) : List Value := [.double (FP.l2d (own_f w 0).toInt64), .double (FP.l2d (own_f w 1).toInt64), .double (FP.l2d (own_f w 2).toInt64), .double (FP.l2d (own_f w 3).toInt64), .double (FP.l2d (own_f w 4).toInt64), .double (FP.l2d (own_f w 5).toInt64)]
theorem own_Wv (w : Int64) (i : Nat) (hi : i < 6) (d : Value) : (own_W w).getD i d = .double (FP.l2d (own_f w (Int32.ofNat i)).toInt64) := by
  match i, hi with
  | 0, _ => rfl
  | 1, _ => rfl
  | 2, _ => rfl
  | 3, _ => rfl
  | 4, _ => rfl
  | 5, _ => rfl
set_option maxRecDepth 65536 in
set_option maxHeartbeats 40000000 in
theorem rm_wt01 (l : Launch) (Z : State) (a0 : Array Value) (hw : ∀ d ∈ tables_1, d.before a0 Z = true) (h : Heap) (n0 : Nat) (a b1 b2 b3 : Addr) (c1 c2 c3 : ClassId) (w : Int64) (n0' n1' n2' : Int32) (k0 k1 k2 : Nat) (hk0 : k0 < 6) (hk1 : k1 < 6) (hk2 : k2 < 6) (hn0 : 1 ≤ n0'.toInt) (hn1 : 1 ≤ n1'.toInt) (hn2 : 1 ≤ n2'.toInt) (A1 : Arv Z h b1 c1 .double 6 (own_W w) (.double 0)) (A2 : Arv Z h b2 c2 .int 3 [.int (Int32.ofNat k0), .int (Int32.ofNat k1), .int (Int32.ofNat k2)] (.int 0)) (A3 : Arv Z h b3 c3 .int 3 [.int n0', .int n1', .int n2'] (.int 0)) (G1 : Fld Z h a "com/example/genano/genano/ValueCounts" "codes" "[I" (.ref b2)) (G2 : Fld Z h a "com/example/genano/genano/ValueCounts" "counts" "[I" (.ref b3)) (G3 : Fld Z h a "com/example/genano/genano/ValueCounts" "start" "I" (.int 0)) (G4 : Fld Z h a "com/example/genano/genano/ValueCounts" "end" "I" (.int 1)) : Con l Z (⟨"com/example/genano/genano/ValueCounts", "weight", "([D)D"⟩ : MethodName) prog_58_method_9_code 5 (Option.some Jvm.ClassFile.FieldType.double) ({ frames := 0, cells := 0, slots := 0, locals := 0 } : Room) n0 #[.ref a, .ref b1] h (fun v h' => v = some (.double (FP.l2d ((0 : Int64) + (n0'.toInt64 * (own_f w (Int32.ofNat k0)).toInt64)))) ∧ True) [] := by
  refine Run.con pn_vc (Ls := [.val (.ref a), .val (.ref b1), .unset, .unset, .unset]) rfl ?_
  have P0 := own_P hn0 (own_fb w (Int32.ofNat k0)).1 (own_fb w (Int32.ofNat k0)).2
  have S0 := own_A own_B0 P0.2 (by decide) (by decide)
  refine r_dconst0 (FP.l2d 0) 1 d_prog_58_method_9_code_0 rfl own_d0 ?_
  refine r_dstoreN 2 d_prog_58_method_9_code_1 rfl rfl ?_
  refine r_aloadN 3 d_prog_58_method_9_code_2 rfl rfl ?_
  refine r_getfield (host := "") 6 d_prog_58_method_9_code_3 rfl (Or.inl (hw _ (List.mem_of_getElem? (i := 25) rfl))) Via.refl (G3) ?_
  refine r_istore 8 d_prog_58_method_9_code_6 rfl rfl ?_
  refine r_iload 10 d_prog_58_method_9_code_8 rfl rfl ?_
  refine r_aloadN 11 d_prog_58_method_9_code_10 rfl rfl ?_
  refine r_getfield (host := "") 14 d_prog_58_method_9_code_11 rfl (Or.inl (hw _ (List.mem_of_getElem? (i := 27) rfl))) Via.refl (G4) ?_
  refine r_icmp_ge 44 17 d_prog_58_method_9_code_14 (by decide) rfl (fun q14 => absurd q14 (by decide)) (fun q14 => ?_)
  refine r_dloadN 18 d_prog_58_method_9_code_17 rfl rfl ?_
  refine r_aloadN 19 d_prog_58_method_9_code_18 rfl rfl ?_
  refine r_getfield (host := "") 22 d_prog_58_method_9_code_19 rfl (Or.inl (hw _ (List.mem_of_getElem? (i := 23) rfl))) Via.refl (G2) ?_
  refine r_iload 24 d_prog_58_method_9_code_22 rfl rfl ?_
  refine r_iaload 0 (.int n0') 25 d_prog_58_method_9_code_24 rfl A3 (by decide) (by decide) (by decide) rfl ?_
  refine r_i2d _ 26 d_prog_58_method_9_code_25 rfl rfl ?_
  refine r_aloadN 27 d_prog_58_method_9_code_26 rfl rfl ?_
  refine r_aloadN 28 d_prog_58_method_9_code_27 rfl rfl ?_
  refine r_getfield (host := "") 31 d_prog_58_method_9_code_28 rfl (Or.inl (hw _ (List.mem_of_getElem? (i := 21) rfl))) Via.refl (G1) ?_
  refine r_iload 33 d_prog_58_method_9_code_31 rfl rfl ?_
  refine r_iaload 0 (.int (Int32.ofNat k0)) 34 d_prog_58_method_9_code_33 rfl A2 (by decide) (by decide) (by decide) rfl ?_
  refine r_daload k0 _ 35 d_prog_58_method_9_code_34 rfl A1 (own_nn (by omega)) (own_cl (by omega)) (by show k0 < 6; omega) (own_Wv w k0 (by omega) _) ?_
  refine r_dmul _ 36 d_prog_58_method_9_code_35 rfl (nn_w P0.1) P0.1 ?_
  refine r_dadd _ 37 d_prog_58_method_9_code_36 rfl (nn_w S0.1) S0.1 ?_
  refine r_dstoreN 38 d_prog_58_method_9_code_37 rfl rfl ?_
  refine r_iinc 1 41 d_prog_58_method_9_code_38 rfl rfl rfl ?_
  refine r_goto 8 d_prog_58_method_9_code_41 (by decide) ?_
  refine r_iload 10 d_prog_58_method_9_code_8 rfl rfl ?_
  refine r_aloadN 11 d_prog_58_method_9_code_10 rfl rfl ?_
  refine r_getfield (host := "") 14 d_prog_58_method_9_code_11 rfl (Or.inl (hw _ (List.mem_of_getElem? (i := 27) rfl))) Via.refl (G4) ?_
  refine r_icmp_ge 44 17 d_prog_58_method_9_code_14 (by decide) rfl (fun q14 => ?_) (fun q14 => absurd q14 (by decide))
  refine r_dloadN 45 d_prog_58_method_9_code_44 rfl rfl ?_
  exact r_retD d_prog_58_method_9_code_45 rfl (Nat.le_of_ble_eq_true rfl) (Nat.le_of_ble_eq_true rfl) ⟨rfl, trivial⟩
set_option maxRecDepth 65536 in
set_option maxHeartbeats 40000000 in
theorem rm_wt02 (l : Launch) (Z : State) (a0 : Array Value) (hw : ∀ d ∈ tables_1, d.before a0 Z = true) (h : Heap) (n0 : Nat) (a b1 b2 b3 : Addr) (c1 c2 c3 : ClassId) (w : Int64) (n0' n1' n2' : Int32) (k0 k1 k2 : Nat) (hk0 : k0 < 6) (hk1 : k1 < 6) (hk2 : k2 < 6) (hn0 : 1 ≤ n0'.toInt) (hn1 : 1 ≤ n1'.toInt) (hn2 : 1 ≤ n2'.toInt) (A1 : Arv Z h b1 c1 .double 6 (own_W w) (.double 0)) (A2 : Arv Z h b2 c2 .int 3 [.int (Int32.ofNat k0), .int (Int32.ofNat k1), .int (Int32.ofNat k2)] (.int 0)) (A3 : Arv Z h b3 c3 .int 3 [.int n0', .int n1', .int n2'] (.int 0)) (G1 : Fld Z h a "com/example/genano/genano/ValueCounts" "codes" "[I" (.ref b2)) (G2 : Fld Z h a "com/example/genano/genano/ValueCounts" "counts" "[I" (.ref b3)) (G3 : Fld Z h a "com/example/genano/genano/ValueCounts" "start" "I" (.int 0)) (G4 : Fld Z h a "com/example/genano/genano/ValueCounts" "end" "I" (.int 2)) : Con l Z (⟨"com/example/genano/genano/ValueCounts", "weight", "([D)D"⟩ : MethodName) prog_58_method_9_code 5 (Option.some Jvm.ClassFile.FieldType.double) ({ frames := 0, cells := 0, slots := 0, locals := 0 } : Room) n0 #[.ref a, .ref b1] h (fun v h' => v = some (.double (FP.l2d (((0 : Int64) + (n0'.toInt64 * (own_f w (Int32.ofNat k0)).toInt64)) + (n1'.toInt64 * (own_f w (Int32.ofNat k1)).toInt64)))) ∧ True) [] := by
  refine Run.con pn_vc (Ls := [.val (.ref a), .val (.ref b1), .unset, .unset, .unset]) rfl ?_
  have P0 := own_P hn0 (own_fb w (Int32.ofNat k0)).1 (own_fb w (Int32.ofNat k0)).2
  have S0 := own_A own_B0 P0.2 (by decide) (by decide)
  have P1 := own_P hn1 (own_fb w (Int32.ofNat k1)).1 (own_fb w (Int32.ofNat k1)).2
  have S1 := own_A S0.2 P1.2 (by decide) (by decide)
  refine r_dconst0 (FP.l2d 0) 1 d_prog_58_method_9_code_0 rfl own_d0 ?_
  refine r_dstoreN 2 d_prog_58_method_9_code_1 rfl rfl ?_
  refine r_aloadN 3 d_prog_58_method_9_code_2 rfl rfl ?_
  refine r_getfield (host := "") 6 d_prog_58_method_9_code_3 rfl (Or.inl (hw _ (List.mem_of_getElem? (i := 25) rfl))) Via.refl (G3) ?_
  refine r_istore 8 d_prog_58_method_9_code_6 rfl rfl ?_
  refine r_iload 10 d_prog_58_method_9_code_8 rfl rfl ?_
  refine r_aloadN 11 d_prog_58_method_9_code_10 rfl rfl ?_
  refine r_getfield (host := "") 14 d_prog_58_method_9_code_11 rfl (Or.inl (hw _ (List.mem_of_getElem? (i := 27) rfl))) Via.refl (G4) ?_
  refine r_icmp_ge 44 17 d_prog_58_method_9_code_14 (by decide) rfl (fun q14 => absurd q14 (by decide)) (fun q14 => ?_)
  refine r_dloadN 18 d_prog_58_method_9_code_17 rfl rfl ?_
  refine r_aloadN 19 d_prog_58_method_9_code_18 rfl rfl ?_
  refine r_getfield (host := "") 22 d_prog_58_method_9_code_19 rfl (Or.inl (hw _ (List.mem_of_getElem? (i := 23) rfl))) Via.refl (G2) ?_
  refine r_iload 24 d_prog_58_method_9_code_22 rfl rfl ?_
  refine r_iaload 0 (.int n0') 25 d_prog_58_method_9_code_24 rfl A3 (by decide) (by decide) (by decide) rfl ?_
  refine r_i2d _ 26 d_prog_58_method_9_code_25 rfl rfl ?_
  refine r_aloadN 27 d_prog_58_method_9_code_26 rfl rfl ?_
  refine r_aloadN 28 d_prog_58_method_9_code_27 rfl rfl ?_
  refine r_getfield (host := "") 31 d_prog_58_method_9_code_28 rfl (Or.inl (hw _ (List.mem_of_getElem? (i := 21) rfl))) Via.refl (G1) ?_
  refine r_iload 33 d_prog_58_method_9_code_31 rfl rfl ?_
  refine r_iaload 0 (.int (Int32.ofNat k0)) 34 d_prog_58_method_9_code_33 rfl A2 (by decide) (by decide) (by decide) rfl ?_
  refine r_daload k0 _ 35 d_prog_58_method_9_code_34 rfl A1 (own_nn (by omega)) (own_cl (by omega)) (by show k0 < 6; omega) (own_Wv w k0 (by omega) _) ?_
  refine r_dmul _ 36 d_prog_58_method_9_code_35 rfl (nn_w P0.1) P0.1 ?_
  refine r_dadd _ 37 d_prog_58_method_9_code_36 rfl (nn_w S0.1) S0.1 ?_
  refine r_dstoreN 38 d_prog_58_method_9_code_37 rfl rfl ?_
  refine r_iinc 1 41 d_prog_58_method_9_code_38 rfl rfl rfl ?_
  refine r_goto 8 d_prog_58_method_9_code_41 (by decide) ?_
  refine r_iload 10 d_prog_58_method_9_code_8 rfl rfl ?_
  refine r_aloadN 11 d_prog_58_method_9_code_10 rfl rfl ?_
  refine r_getfield (host := "") 14 d_prog_58_method_9_code_11 rfl (Or.inl (hw _ (List.mem_of_getElem? (i := 27) rfl))) Via.refl (G4) ?_
  refine r_icmp_ge 44 17 d_prog_58_method_9_code_14 (by decide) rfl (fun q14 => absurd q14 (by decide)) (fun q14 => ?_)
  refine r_dloadN 18 d_prog_58_method_9_code_17 rfl rfl ?_
  refine r_aloadN 19 d_prog_58_method_9_code_18 rfl rfl ?_
  refine r_getfield (host := "") 22 d_prog_58_method_9_code_19 rfl (Or.inl (hw _ (List.mem_of_getElem? (i := 23) rfl))) Via.refl (G2) ?_
  refine r_iload 24 d_prog_58_method_9_code_22 rfl rfl ?_
  refine r_iaload 1 (.int n1') 25 d_prog_58_method_9_code_24 rfl A3 (by decide) (by decide) (by decide) rfl ?_
  refine r_i2d _ 26 d_prog_58_method_9_code_25 rfl rfl ?_
  refine r_aloadN 27 d_prog_58_method_9_code_26 rfl rfl ?_
  refine r_aloadN 28 d_prog_58_method_9_code_27 rfl rfl ?_
  refine r_getfield (host := "") 31 d_prog_58_method_9_code_28 rfl (Or.inl (hw _ (List.mem_of_getElem? (i := 21) rfl))) Via.refl (G1) ?_
  refine r_iload 33 d_prog_58_method_9_code_31 rfl rfl ?_
  refine r_iaload 1 (.int (Int32.ofNat k1)) 34 d_prog_58_method_9_code_33 rfl A2 (by decide) (by decide) (by decide) rfl ?_
  refine r_daload k1 _ 35 d_prog_58_method_9_code_34 rfl A1 (own_nn (by omega)) (own_cl (by omega)) (by show k1 < 6; omega) (own_Wv w k1 (by omega) _) ?_
  refine r_dmul _ 36 d_prog_58_method_9_code_35 rfl (nn_w P1.1) P1.1 ?_
  refine r_dadd _ 37 d_prog_58_method_9_code_36 rfl (nn_w S1.1) S1.1 ?_
  refine r_dstoreN 38 d_prog_58_method_9_code_37 rfl rfl ?_
  refine r_iinc 1 41 d_prog_58_method_9_code_38 rfl rfl rfl ?_
  refine r_goto 8 d_prog_58_method_9_code_41 (by decide) ?_
  refine r_iload 10 d_prog_58_method_9_code_8 rfl rfl ?_
  refine r_aloadN 11 d_prog_58_method_9_code_10 rfl rfl ?_
  refine r_getfield (host := "") 14 d_prog_58_method_9_code_11 rfl (Or.inl (hw _ (List.mem_of_getElem? (i := 27) rfl))) Via.refl (G4) ?_
  refine r_icmp_ge 44 17 d_prog_58_method_9_code_14 (by decide) rfl (fun q14 => ?_) (fun q14 => absurd q14 (by decide))
  refine r_dloadN 45 d_prog_58_method_9_code_44 rfl rfl ?_
  exact r_retD d_prog_58_method_9_code_45 rfl (Nat.le_of_ble_eq_true rfl) (Nat.le_of_ble_eq_true rfl) ⟨rfl, trivial⟩
set_option maxRecDepth 65536 in
set_option maxHeartbeats 40000000 in
theorem rm_wt03 (l : Launch) (Z : State) (a0 : Array Value) (hw : ∀ d ∈ tables_1, d.before a0 Z = true) (h : Heap) (n0 : Nat) (a b1 b2 b3 : Addr) (c1 c2 c3 : ClassId) (w : Int64) (n0' n1' n2' : Int32) (k0 k1 k2 : Nat) (hk0 : k0 < 6) (hk1 : k1 < 6) (hk2 : k2 < 6) (hn0 : 1 ≤ n0'.toInt) (hn1 : 1 ≤ n1'.toInt) (hn2 : 1 ≤ n2'.toInt) (A1 : Arv Z h b1 c1 .double 6 (own_W w) (.double 0)) (A2 : Arv Z h b2 c2 .int 3 [.int (Int32.ofNat k0), .int (Int32.ofNat k1), .int (Int32.ofNat k2)] (.int 0)) (A3 : Arv Z h b3 c3 .int 3 [.int n0', .int n1', .int n2'] (.int 0)) (G1 : Fld Z h a "com/example/genano/genano/ValueCounts" "codes" "[I" (.ref b2)) (G2 : Fld Z h a "com/example/genano/genano/ValueCounts" "counts" "[I" (.ref b3)) (G3 : Fld Z h a "com/example/genano/genano/ValueCounts" "start" "I" (.int 0)) (G4 : Fld Z h a "com/example/genano/genano/ValueCounts" "end" "I" (.int 3)) : Con l Z (⟨"com/example/genano/genano/ValueCounts", "weight", "([D)D"⟩ : MethodName) prog_58_method_9_code 5 (Option.some Jvm.ClassFile.FieldType.double) ({ frames := 0, cells := 0, slots := 0, locals := 0 } : Room) n0 #[.ref a, .ref b1] h (fun v h' => v = some (.double (FP.l2d ((((0 : Int64) + (n0'.toInt64 * (own_f w (Int32.ofNat k0)).toInt64)) + (n1'.toInt64 * (own_f w (Int32.ofNat k1)).toInt64)) + (n2'.toInt64 * (own_f w (Int32.ofNat k2)).toInt64)))) ∧ True) [] := by
  refine Run.con pn_vc (Ls := [.val (.ref a), .val (.ref b1), .unset, .unset, .unset]) rfl ?_
  have P0 := own_P hn0 (own_fb w (Int32.ofNat k0)).1 (own_fb w (Int32.ofNat k0)).2
  have S0 := own_A own_B0 P0.2 (by decide) (by decide)
  have P1 := own_P hn1 (own_fb w (Int32.ofNat k1)).1 (own_fb w (Int32.ofNat k1)).2
  have S1 := own_A S0.2 P1.2 (by decide) (by decide)
  have P2 := own_P hn2 (own_fb w (Int32.ofNat k2)).1 (own_fb w (Int32.ofNat k2)).2
  have S2 := own_A S1.2 P2.2 (by decide) (by decide)
  refine r_dconst0 (FP.l2d 0) 1 d_prog_58_method_9_code_0 rfl own_d0 ?_
  refine r_dstoreN 2 d_prog_58_method_9_code_1 rfl rfl ?_
  refine r_aloadN 3 d_prog_58_method_9_code_2 rfl rfl ?_
  refine r_getfield (host := "") 6 d_prog_58_method_9_code_3 rfl (Or.inl (hw _ (List.mem_of_getElem? (i := 25) rfl))) Via.refl (G3) ?_
  refine r_istore 8 d_prog_58_method_9_code_6 rfl rfl ?_
  refine r_iload 10 d_prog_58_method_9_code_8 rfl rfl ?_
  refine r_aloadN 11 d_prog_58_method_9_code_10 rfl rfl ?_
  refine r_getfield (host := "") 14 d_prog_58_method_9_code_11 rfl (Or.inl (hw _ (List.mem_of_getElem? (i := 27) rfl))) Via.refl (G4) ?_
  refine r_icmp_ge 44 17 d_prog_58_method_9_code_14 (by decide) rfl (fun q14 => absurd q14 (by decide)) (fun q14 => ?_)
  refine r_dloadN 18 d_prog_58_method_9_code_17 rfl rfl ?_
  refine r_aloadN 19 d_prog_58_method_9_code_18 rfl rfl ?_
  refine r_getfield (host := "") 22 d_prog_58_method_9_code_19 rfl (Or.inl (hw _ (List.mem_of_getElem? (i := 23) rfl))) Via.refl (G2) ?_
  refine r_iload 24 d_prog_58_method_9_code_22 rfl rfl ?_
  refine r_iaload 0 (.int n0') 25 d_prog_58_method_9_code_24 rfl A3 (by decide) (by decide) (by decide) rfl ?_
  refine r_i2d _ 26 d_prog_58_method_9_code_25 rfl rfl ?_
  refine r_aloadN 27 d_prog_58_method_9_code_26 rfl rfl ?_
  refine r_aloadN 28 d_prog_58_method_9_code_27 rfl rfl ?_
  refine r_getfield (host := "") 31 d_prog_58_method_9_code_28 rfl (Or.inl (hw _ (List.mem_of_getElem? (i := 21) rfl))) Via.refl (G1) ?_
  refine r_iload 33 d_prog_58_method_9_code_31 rfl rfl ?_
  refine r_iaload 0 (.int (Int32.ofNat k0)) 34 d_prog_58_method_9_code_33 rfl A2 (by decide) (by decide) (by decide) rfl ?_
  refine r_daload k0 _ 35 d_prog_58_method_9_code_34 rfl A1 (own_nn (by omega)) (own_cl (by omega)) (by show k0 < 6; omega) (own_Wv w k0 (by omega) _) ?_
  refine r_dmul _ 36 d_prog_58_method_9_code_35 rfl (nn_w P0.1) P0.1 ?_
  refine r_dadd _ 37 d_prog_58_method_9_code_36 rfl (nn_w S0.1) S0.1 ?_
  refine r_dstoreN 38 d_prog_58_method_9_code_37 rfl rfl ?_
  refine r_iinc 1 41 d_prog_58_method_9_code_38 rfl rfl rfl ?_
  refine r_goto 8 d_prog_58_method_9_code_41 (by decide) ?_
  refine r_iload 10 d_prog_58_method_9_code_8 rfl rfl ?_
  refine r_aloadN 11 d_prog_58_method_9_code_10 rfl rfl ?_
  refine r_getfield (host := "") 14 d_prog_58_method_9_code_11 rfl (Or.inl (hw _ (List.mem_of_getElem? (i := 27) rfl))) Via.refl (G4) ?_
  refine r_icmp_ge 44 17 d_prog_58_method_9_code_14 (by decide) rfl (fun q14 => absurd q14 (by decide)) (fun q14 => ?_)
  refine r_dloadN 18 d_prog_58_method_9_code_17 rfl rfl ?_
  refine r_aloadN 19 d_prog_58_method_9_code_18 rfl rfl ?_
  refine r_getfield (host := "") 22 d_prog_58_method_9_code_19 rfl (Or.inl (hw _ (List.mem_of_getElem? (i := 23) rfl))) Via.refl (G2) ?_
  refine r_iload 24 d_prog_58_method_9_code_22 rfl rfl ?_
  refine r_iaload 1 (.int n1') 25 d_prog_58_method_9_code_24 rfl A3 (by decide) (by decide) (by decide) rfl ?_
  refine r_i2d _ 26 d_prog_58_method_9_code_25 rfl rfl ?_
  refine r_aloadN 27 d_prog_58_method_9_code_26 rfl rfl ?_
  refine r_aloadN 28 d_prog_58_method_9_code_27 rfl rfl ?_
  refine r_getfield (host := "") 31 d_prog_58_method_9_code_28 rfl (Or.inl (hw _ (List.mem_of_getElem? (i := 21) rfl))) Via.refl (G1) ?_
  refine r_iload 33 d_prog_58_method_9_code_31 rfl rfl ?_
  refine r_iaload 1 (.int (Int32.ofNat k1)) 34 d_prog_58_method_9_code_33 rfl A2 (by decide) (by decide) (by decide) rfl ?_
  refine r_daload k1 _ 35 d_prog_58_method_9_code_34 rfl A1 (own_nn (by omega)) (own_cl (by omega)) (by show k1 < 6; omega) (own_Wv w k1 (by omega) _) ?_
  refine r_dmul _ 36 d_prog_58_method_9_code_35 rfl (nn_w P1.1) P1.1 ?_
  refine r_dadd _ 37 d_prog_58_method_9_code_36 rfl (nn_w S1.1) S1.1 ?_
  refine r_dstoreN 38 d_prog_58_method_9_code_37 rfl rfl ?_
  refine r_iinc 1 41 d_prog_58_method_9_code_38 rfl rfl rfl ?_
  refine r_goto 8 d_prog_58_method_9_code_41 (by decide) ?_
  refine r_iload 10 d_prog_58_method_9_code_8 rfl rfl ?_
  refine r_aloadN 11 d_prog_58_method_9_code_10 rfl rfl ?_
  refine r_getfield (host := "") 14 d_prog_58_method_9_code_11 rfl (Or.inl (hw _ (List.mem_of_getElem? (i := 27) rfl))) Via.refl (G4) ?_
  refine r_icmp_ge 44 17 d_prog_58_method_9_code_14 (by decide) rfl (fun q14 => absurd q14 (by decide)) (fun q14 => ?_)
  refine r_dloadN 18 d_prog_58_method_9_code_17 rfl rfl ?_
  refine r_aloadN 19 d_prog_58_method_9_code_18 rfl rfl ?_
  refine r_getfield (host := "") 22 d_prog_58_method_9_code_19 rfl (Or.inl (hw _ (List.mem_of_getElem? (i := 23) rfl))) Via.refl (G2) ?_
  refine r_iload 24 d_prog_58_method_9_code_22 rfl rfl ?_
  refine r_iaload 2 (.int n2') 25 d_prog_58_method_9_code_24 rfl A3 (by decide) (by decide) (by decide) rfl ?_
  refine r_i2d _ 26 d_prog_58_method_9_code_25 rfl rfl ?_
  refine r_aloadN 27 d_prog_58_method_9_code_26 rfl rfl ?_
  refine r_aloadN 28 d_prog_58_method_9_code_27 rfl rfl ?_
  refine r_getfield (host := "") 31 d_prog_58_method_9_code_28 rfl (Or.inl (hw _ (List.mem_of_getElem? (i := 21) rfl))) Via.refl (G1) ?_
  refine r_iload 33 d_prog_58_method_9_code_31 rfl rfl ?_
  refine r_iaload 2 (.int (Int32.ofNat k2)) 34 d_prog_58_method_9_code_33 rfl A2 (by decide) (by decide) (by decide) rfl ?_
  refine r_daload k2 _ 35 d_prog_58_method_9_code_34 rfl A1 (own_nn (by omega)) (own_cl (by omega)) (by show k2 < 6; omega) (own_Wv w k2 (by omega) _) ?_
  refine r_dmul _ 36 d_prog_58_method_9_code_35 rfl (nn_w P2.1) P2.1 ?_
  refine r_dadd _ 37 d_prog_58_method_9_code_36 rfl (nn_w S2.1) S2.1 ?_
  refine r_dstoreN 38 d_prog_58_method_9_code_37 rfl rfl ?_
  refine r_iinc 1 41 d_prog_58_method_9_code_38 rfl rfl rfl ?_
  refine r_goto 8 d_prog_58_method_9_code_41 (by decide) ?_
  refine r_iload 10 d_prog_58_method_9_code_8 rfl rfl ?_
  refine r_aloadN 11 d_prog_58_method_9_code_10 rfl rfl ?_
  refine r_getfield (host := "") 14 d_prog_58_method_9_code_11 rfl (Or.inl (hw _ (List.mem_of_getElem? (i := 27) rfl))) Via.refl (G4) ?_
  refine r_icmp_ge 44 17 d_prog_58_method_9_code_14 (by decide) rfl (fun q14 => ?_) (fun q14 => absurd q14 (by decide))
  refine r_dloadN 45 d_prog_58_method_9_code_44 rfl rfl ?_
  exact r_retD d_prog_58_method_9_code_45 rfl (Nat.le_of_ble_eq_true rfl) (Nat.le_of_ble_eq_true rfl) ⟨rfl, trivial⟩
set_option maxRecDepth 65536 in
set_option maxHeartbeats 40000000 in
theorem rm_wt12 (l : Launch) (Z : State) (a0 : Array Value) (hw : ∀ d ∈ tables_1, d.before a0 Z = true) (h : Heap) (n0 : Nat) (a b1 b2 b3 : Addr) (c1 c2 c3 : ClassId) (w : Int64) (n0' n1' n2' : Int32) (k0 k1 k2 : Nat) (hk0 : k0 < 6) (hk1 : k1 < 6) (hk2 : k2 < 6) (hn0 : 1 ≤ n0'.toInt) (hn1 : 1 ≤ n1'.toInt) (hn2 : 1 ≤ n2'.toInt) (A1 : Arv Z h b1 c1 .double 6 (own_W w) (.double 0)) (A2 : Arv Z h b2 c2 .int 3 [.int (Int32.ofNat k0), .int (Int32.ofNat k1), .int (Int32.ofNat k2)] (.int 0)) (A3 : Arv Z h b3 c3 .int 3 [.int n0', .int n1', .int n2'] (.int 0)) (G1 : Fld Z h a "com/example/genano/genano/ValueCounts" "codes" "[I" (.ref b2)) (G2 : Fld Z h a "com/example/genano/genano/ValueCounts" "counts" "[I" (.ref b3)) (G3 : Fld Z h a "com/example/genano/genano/ValueCounts" "start" "I" (.int 1)) (G4 : Fld Z h a "com/example/genano/genano/ValueCounts" "end" "I" (.int 2)) : Con l Z (⟨"com/example/genano/genano/ValueCounts", "weight", "([D)D"⟩ : MethodName) prog_58_method_9_code 5 (Option.some Jvm.ClassFile.FieldType.double) ({ frames := 0, cells := 0, slots := 0, locals := 0 } : Room) n0 #[.ref a, .ref b1] h (fun v h' => v = some (.double (FP.l2d ((0 : Int64) + (n1'.toInt64 * (own_f w (Int32.ofNat k1)).toInt64)))) ∧ True) [] := by
  refine Run.con pn_vc (Ls := [.val (.ref a), .val (.ref b1), .unset, .unset, .unset]) rfl ?_
  have P1 := own_P hn1 (own_fb w (Int32.ofNat k1)).1 (own_fb w (Int32.ofNat k1)).2
  have S1 := own_A own_B0 P1.2 (by decide) (by decide)
  refine r_dconst0 (FP.l2d 0) 1 d_prog_58_method_9_code_0 rfl own_d0 ?_
  refine r_dstoreN 2 d_prog_58_method_9_code_1 rfl rfl ?_
  refine r_aloadN 3 d_prog_58_method_9_code_2 rfl rfl ?_
  refine r_getfield (host := "") 6 d_prog_58_method_9_code_3 rfl (Or.inl (hw _ (List.mem_of_getElem? (i := 25) rfl))) Via.refl (G3) ?_
  refine r_istore 8 d_prog_58_method_9_code_6 rfl rfl ?_
  refine r_iload 10 d_prog_58_method_9_code_8 rfl rfl ?_
  refine r_aloadN 11 d_prog_58_method_9_code_10 rfl rfl ?_
  refine r_getfield (host := "") 14 d_prog_58_method_9_code_11 rfl (Or.inl (hw _ (List.mem_of_getElem? (i := 27) rfl))) Via.refl (G4) ?_
  refine r_icmp_ge 44 17 d_prog_58_method_9_code_14 (by decide) rfl (fun q14 => absurd q14 (by decide)) (fun q14 => ?_)
  refine r_dloadN 18 d_prog_58_method_9_code_17 rfl rfl ?_
  refine r_aloadN 19 d_prog_58_method_9_code_18 rfl rfl ?_
  refine r_getfield (host := "") 22 d_prog_58_method_9_code_19 rfl (Or.inl (hw _ (List.mem_of_getElem? (i := 23) rfl))) Via.refl (G2) ?_
  refine r_iload 24 d_prog_58_method_9_code_22 rfl rfl ?_
  refine r_iaload 1 (.int n1') 25 d_prog_58_method_9_code_24 rfl A3 (by decide) (by decide) (by decide) rfl ?_
  refine r_i2d _ 26 d_prog_58_method_9_code_25 rfl rfl ?_
  refine r_aloadN 27 d_prog_58_method_9_code_26 rfl rfl ?_
  refine r_aloadN 28 d_prog_58_method_9_code_27 rfl rfl ?_
  refine r_getfield (host := "") 31 d_prog_58_method_9_code_28 rfl (Or.inl (hw _ (List.mem_of_getElem? (i := 21) rfl))) Via.refl (G1) ?_
  refine r_iload 33 d_prog_58_method_9_code_31 rfl rfl ?_
  refine r_iaload 1 (.int (Int32.ofNat k1)) 34 d_prog_58_method_9_code_33 rfl A2 (by decide) (by decide) (by decide) rfl ?_
  refine r_daload k1 _ 35 d_prog_58_method_9_code_34 rfl A1 (own_nn (by omega)) (own_cl (by omega)) (by show k1 < 6; omega) (own_Wv w k1 (by omega) _) ?_
  refine r_dmul _ 36 d_prog_58_method_9_code_35 rfl (nn_w P1.1) P1.1 ?_
  refine r_dadd _ 37 d_prog_58_method_9_code_36 rfl (nn_w S1.1) S1.1 ?_
  refine r_dstoreN 38 d_prog_58_method_9_code_37 rfl rfl ?_
  refine r_iinc 1 41 d_prog_58_method_9_code_38 rfl rfl rfl ?_
  refine r_goto 8 d_prog_58_method_9_code_41 (by decide) ?_
  refine r_iload 10 d_prog_58_method_9_code_8 rfl rfl ?_
  refine r_aloadN 11 d_prog_58_method_9_code_10 rfl rfl ?_
  refine r_getfield (host := "") 14 d_prog_58_method_9_code_11 rfl (Or.inl (hw _ (List.mem_of_getElem? (i := 27) rfl))) Via.refl (G4) ?_
  refine r_icmp_ge 44 17 d_prog_58_method_9_code_14 (by decide) rfl (fun q14 => ?_) (fun q14 => absurd q14 (by decide))
  refine r_dloadN 45 d_prog_58_method_9_code_44 rfl rfl ?_
  exact r_retD d_prog_58_method_9_code_45 rfl (Nat.le_of_ble_eq_true rfl) (Nat.le_of_ble_eq_true rfl) ⟨rfl, trivial⟩
set_option maxRecDepth 65536 in
set_option maxHeartbeats 40000000 in
theorem rm_wt13 (l : Launch) (Z : State) (a0 : Array Value) (hw : ∀ d ∈ tables_1, d.before a0 Z = true) (h : Heap) (n0 : Nat) (a b1 b2 b3 : Addr) (c1 c2 c3 : ClassId) (w : Int64) (n0' n1' n2' : Int32) (k0 k1 k2 : Nat) (hk0 : k0 < 6) (hk1 : k1 < 6) (hk2 : k2 < 6) (hn0 : 1 ≤ n0'.toInt) (hn1 : 1 ≤ n1'.toInt) (hn2 : 1 ≤ n2'.toInt) (A1 : Arv Z h b1 c1 .double 6 (own_W w) (.double 0)) (A2 : Arv Z h b2 c2 .int 3 [.int (Int32.ofNat k0), .int (Int32.ofNat k1), .int (Int32.ofNat k2)] (.int 0)) (A3 : Arv Z h b3 c3 .int 3 [.int n0', .int n1', .int n2'] (.int 0)) (G1 : Fld Z h a "com/example/genano/genano/ValueCounts" "codes" "[I" (.ref b2)) (G2 : Fld Z h a "com/example/genano/genano/ValueCounts" "counts" "[I" (.ref b3)) (G3 : Fld Z h a "com/example/genano/genano/ValueCounts" "start" "I" (.int 1)) (G4 : Fld Z h a "com/example/genano/genano/ValueCounts" "end" "I" (.int 3)) : Con l Z (⟨"com/example/genano/genano/ValueCounts", "weight", "([D)D"⟩ : MethodName) prog_58_method_9_code 5 (Option.some Jvm.ClassFile.FieldType.double) ({ frames := 0, cells := 0, slots := 0, locals := 0 } : Room) n0 #[.ref a, .ref b1] h (fun v h' => v = some (.double (FP.l2d (((0 : Int64) + (n1'.toInt64 * (own_f w (Int32.ofNat k1)).toInt64)) + (n2'.toInt64 * (own_f w (Int32.ofNat k2)).toInt64)))) ∧ True) [] := by
  refine Run.con pn_vc (Ls := [.val (.ref a), .val (.ref b1), .unset, .unset, .unset]) rfl ?_
  have P1 := own_P hn1 (own_fb w (Int32.ofNat k1)).1 (own_fb w (Int32.ofNat k1)).2
  have S1 := own_A own_B0 P1.2 (by decide) (by decide)
  have P2 := own_P hn2 (own_fb w (Int32.ofNat k2)).1 (own_fb w (Int32.ofNat k2)).2
  have S2 := own_A S1.2 P2.2 (by decide) (by decide)
  refine r_dconst0 (FP.l2d 0) 1 d_prog_58_method_9_code_0 rfl own_d0 ?_
  refine r_dstoreN 2 d_prog_58_method_9_code_1 rfl rfl ?_
  refine r_aloadN 3 d_prog_58_method_9_code_2 rfl rfl ?_
  refine r_getfield (host := "") 6 d_prog_58_method_9_code_3 rfl (Or.inl (hw _ (List.mem_of_getElem? (i := 25) rfl))) Via.refl (G3) ?_
  refine r_istore 8 d_prog_58_method_9_code_6 rfl rfl ?_
  refine r_iload 10 d_prog_58_method_9_code_8 rfl rfl ?_
  refine r_aloadN 11 d_prog_58_method_9_code_10 rfl rfl ?_
  refine r_getfield (host := "") 14 d_prog_58_method_9_code_11 rfl (Or.inl (hw _ (List.mem_of_getElem? (i := 27) rfl))) Via.refl (G4) ?_
  refine r_icmp_ge 44 17 d_prog_58_method_9_code_14 (by decide) rfl (fun q14 => absurd q14 (by decide)) (fun q14 => ?_)
  refine r_dloadN 18 d_prog_58_method_9_code_17 rfl rfl ?_
  refine r_aloadN 19 d_prog_58_method_9_code_18 rfl rfl ?_
  refine r_getfield (host := "") 22 d_prog_58_method_9_code_19 rfl (Or.inl (hw _ (List.mem_of_getElem? (i := 23) rfl))) Via.refl (G2) ?_
  refine r_iload 24 d_prog_58_method_9_code_22 rfl rfl ?_
  refine r_iaload 1 (.int n1') 25 d_prog_58_method_9_code_24 rfl A3 (by decide) (by decide) (by decide) rfl ?_
  refine r_i2d _ 26 d_prog_58_method_9_code_25 rfl rfl ?_
  refine r_aloadN 27 d_prog_58_method_9_code_26 rfl rfl ?_
  refine r_aloadN 28 d_prog_58_method_9_code_27 rfl rfl ?_
  refine r_getfield (host := "") 31 d_prog_58_method_9_code_28 rfl (Or.inl (hw _ (List.mem_of_getElem? (i := 21) rfl))) Via.refl (G1) ?_
  refine r_iload 33 d_prog_58_method_9_code_31 rfl rfl ?_
  refine r_iaload 1 (.int (Int32.ofNat k1)) 34 d_prog_58_method_9_code_33 rfl A2 (by decide) (by decide) (by decide) rfl ?_
  refine r_daload k1 _ 35 d_prog_58_method_9_code_34 rfl A1 (own_nn (by omega)) (own_cl (by omega)) (by show k1 < 6; omega) (own_Wv w k1 (by omega) _) ?_
  refine r_dmul _ 36 d_prog_58_method_9_code_35 rfl (nn_w P1.1) P1.1 ?_
  refine r_dadd _ 37 d_prog_58_method_9_code_36 rfl (nn_w S1.1) S1.1 ?_
  refine r_dstoreN 38 d_prog_58_method_9_code_37 rfl rfl ?_
  refine r_iinc 1 41 d_prog_58_method_9_code_38 rfl rfl rfl ?_
  refine r_goto 8 d_prog_58_method_9_code_41 (by decide) ?_
  refine r_iload 10 d_prog_58_method_9_code_8 rfl rfl ?_
  refine r_aloadN 11 d_prog_58_method_9_code_10 rfl rfl ?_
  refine r_getfield (host := "") 14 d_prog_58_method_9_code_11 rfl (Or.inl (hw _ (List.mem_of_getElem? (i := 27) rfl))) Via.refl (G4) ?_
  refine r_icmp_ge 44 17 d_prog_58_method_9_code_14 (by decide) rfl (fun q14 => absurd q14 (by decide)) (fun q14 => ?_)
  refine r_dloadN 18 d_prog_58_method_9_code_17 rfl rfl ?_
  refine r_aloadN 19 d_prog_58_method_9_code_18 rfl rfl ?_
  refine r_getfield (host := "") 22 d_prog_58_method_9_code_19 rfl (Or.inl (hw _ (List.mem_of_getElem? (i := 23) rfl))) Via.refl (G2) ?_
  refine r_iload 24 d_prog_58_method_9_code_22 rfl rfl ?_
  refine r_iaload 2 (.int n2') 25 d_prog_58_method_9_code_24 rfl A3 (by decide) (by decide) (by decide) rfl ?_
  refine r_i2d _ 26 d_prog_58_method_9_code_25 rfl rfl ?_
  refine r_aloadN 27 d_prog_58_method_9_code_26 rfl rfl ?_
  refine r_aloadN 28 d_prog_58_method_9_code_27 rfl rfl ?_
  refine r_getfield (host := "") 31 d_prog_58_method_9_code_28 rfl (Or.inl (hw _ (List.mem_of_getElem? (i := 21) rfl))) Via.refl (G1) ?_
  refine r_iload 33 d_prog_58_method_9_code_31 rfl rfl ?_
  refine r_iaload 2 (.int (Int32.ofNat k2)) 34 d_prog_58_method_9_code_33 rfl A2 (by decide) (by decide) (by decide) rfl ?_
  refine r_daload k2 _ 35 d_prog_58_method_9_code_34 rfl A1 (own_nn (by omega)) (own_cl (by omega)) (by show k2 < 6; omega) (own_Wv w k2 (by omega) _) ?_
  refine r_dmul _ 36 d_prog_58_method_9_code_35 rfl (nn_w P2.1) P2.1 ?_
  refine r_dadd _ 37 d_prog_58_method_9_code_36 rfl (nn_w S2.1) S2.1 ?_
  refine r_dstoreN 38 d_prog_58_method_9_code_37 rfl rfl ?_
  refine r_iinc 1 41 d_prog_58_method_9_code_38 rfl rfl rfl ?_
  refine r_goto 8 d_prog_58_method_9_code_41 (by decide) ?_
  refine r_iload 10 d_prog_58_method_9_code_8 rfl rfl ?_
  refine r_aloadN 11 d_prog_58_method_9_code_10 rfl rfl ?_
  refine r_getfield (host := "") 14 d_prog_58_method_9_code_11 rfl (Or.inl (hw _ (List.mem_of_getElem? (i := 27) rfl))) Via.refl (G4) ?_
  refine r_icmp_ge 44 17 d_prog_58_method_9_code_14 (by decide) rfl (fun q14 => ?_) (fun q14 => absurd q14 (by decide))
  refine r_dloadN 45 d_prog_58_method_9_code_44 rfl rfl ?_
  exact r_retD d_prog_58_method_9_code_45 rfl (Nat.le_of_ble_eq_true rfl) (Nat.le_of_ble_eq_true rfl) ⟨rfl, trivial⟩
set_option maxRecDepth 65536 in
set_option maxHeartbeats 40000000 in
theorem rm_wt23 (l : Launch) (Z : State) (a0 : Array Value) (hw : ∀ d ∈ tables_1, d.before a0 Z = true) (h : Heap) (n0 : Nat) (a b1 b2 b3 : Addr) (c1 c2 c3 : ClassId) (w : Int64) (n0' n1' n2' : Int32) (k0 k1 k2 : Nat) (hk0 : k0 < 6) (hk1 : k1 < 6) (hk2 : k2 < 6) (hn0 : 1 ≤ n0'.toInt) (hn1 : 1 ≤ n1'.toInt) (hn2 : 1 ≤ n2'.toInt) (A1 : Arv Z h b1 c1 .double 6 (own_W w) (.double 0)) (A2 : Arv Z h b2 c2 .int 3 [.int (Int32.ofNat k0), .int (Int32.ofNat k1), .int (Int32.ofNat k2)] (.int 0)) (A3 : Arv Z h b3 c3 .int 3 [.int n0', .int n1', .int n2'] (.int 0)) (G1 : Fld Z h a "com/example/genano/genano/ValueCounts" "codes" "[I" (.ref b2)) (G2 : Fld Z h a "com/example/genano/genano/ValueCounts" "counts" "[I" (.ref b3)) (G3 : Fld Z h a "com/example/genano/genano/ValueCounts" "start" "I" (.int 2)) (G4 : Fld Z h a "com/example/genano/genano/ValueCounts" "end" "I" (.int 3)) : Con l Z (⟨"com/example/genano/genano/ValueCounts", "weight", "([D)D"⟩ : MethodName) prog_58_method_9_code 5 (Option.some Jvm.ClassFile.FieldType.double) ({ frames := 0, cells := 0, slots := 0, locals := 0 } : Room) n0 #[.ref a, .ref b1] h (fun v h' => v = some (.double (FP.l2d ((0 : Int64) + (n2'.toInt64 * (own_f w (Int32.ofNat k2)).toInt64)))) ∧ True) [] := by
  refine Run.con pn_vc (Ls := [.val (.ref a), .val (.ref b1), .unset, .unset, .unset]) rfl ?_
  have P2 := own_P hn2 (own_fb w (Int32.ofNat k2)).1 (own_fb w (Int32.ofNat k2)).2
  have S2 := own_A own_B0 P2.2 (by decide) (by decide)
  refine r_dconst0 (FP.l2d 0) 1 d_prog_58_method_9_code_0 rfl own_d0 ?_
  refine r_dstoreN 2 d_prog_58_method_9_code_1 rfl rfl ?_
  refine r_aloadN 3 d_prog_58_method_9_code_2 rfl rfl ?_
  refine r_getfield (host := "") 6 d_prog_58_method_9_code_3 rfl (Or.inl (hw _ (List.mem_of_getElem? (i := 25) rfl))) Via.refl (G3) ?_
  refine r_istore 8 d_prog_58_method_9_code_6 rfl rfl ?_
  refine r_iload 10 d_prog_58_method_9_code_8 rfl rfl ?_
  refine r_aloadN 11 d_prog_58_method_9_code_10 rfl rfl ?_
  refine r_getfield (host := "") 14 d_prog_58_method_9_code_11 rfl (Or.inl (hw _ (List.mem_of_getElem? (i := 27) rfl))) Via.refl (G4) ?_
  refine r_icmp_ge 44 17 d_prog_58_method_9_code_14 (by decide) rfl (fun q14 => absurd q14 (by decide)) (fun q14 => ?_)
  refine r_dloadN 18 d_prog_58_method_9_code_17 rfl rfl ?_
  refine r_aloadN 19 d_prog_58_method_9_code_18 rfl rfl ?_
  refine r_getfield (host := "") 22 d_prog_58_method_9_code_19 rfl (Or.inl (hw _ (List.mem_of_getElem? (i := 23) rfl))) Via.refl (G2) ?_
  refine r_iload 24 d_prog_58_method_9_code_22 rfl rfl ?_
  refine r_iaload 2 (.int n2') 25 d_prog_58_method_9_code_24 rfl A3 (by decide) (by decide) (by decide) rfl ?_
  refine r_i2d _ 26 d_prog_58_method_9_code_25 rfl rfl ?_
  refine r_aloadN 27 d_prog_58_method_9_code_26 rfl rfl ?_
  refine r_aloadN 28 d_prog_58_method_9_code_27 rfl rfl ?_
  refine r_getfield (host := "") 31 d_prog_58_method_9_code_28 rfl (Or.inl (hw _ (List.mem_of_getElem? (i := 21) rfl))) Via.refl (G1) ?_
  refine r_iload 33 d_prog_58_method_9_code_31 rfl rfl ?_
  refine r_iaload 2 (.int (Int32.ofNat k2)) 34 d_prog_58_method_9_code_33 rfl A2 (by decide) (by decide) (by decide) rfl ?_
  refine r_daload k2 _ 35 d_prog_58_method_9_code_34 rfl A1 (own_nn (by omega)) (own_cl (by omega)) (by show k2 < 6; omega) (own_Wv w k2 (by omega) _) ?_
  refine r_dmul _ 36 d_prog_58_method_9_code_35 rfl (nn_w P2.1) P2.1 ?_
  refine r_dadd _ 37 d_prog_58_method_9_code_36 rfl (nn_w S2.1) S2.1 ?_
  refine r_dstoreN 38 d_prog_58_method_9_code_37 rfl rfl ?_
  refine r_iinc 1 41 d_prog_58_method_9_code_38 rfl rfl rfl ?_
  refine r_goto 8 d_prog_58_method_9_code_41 (by decide) ?_
  refine r_iload 10 d_prog_58_method_9_code_8 rfl rfl ?_
  refine r_aloadN 11 d_prog_58_method_9_code_10 rfl rfl ?_
  refine r_getfield (host := "") 14 d_prog_58_method_9_code_11 rfl (Or.inl (hw _ (List.mem_of_getElem? (i := 27) rfl))) Via.refl (G4) ?_
  refine r_icmp_ge 44 17 d_prog_58_method_9_code_14 (by decide) rfl (fun q14 => ?_) (fun q14 => absurd q14 (by decide))
  refine r_dloadN 45 d_prog_58_method_9_code_44 rfl rfl ?_
  exact r_retD d_prog_58_method_9_code_45 rfl (Nat.le_of_ble_eq_true rfl) (Nat.le_of_ble_eq_true rfl) ⟨rfl, trivial⟩
set_option maxRecDepth 65536 in
set_option maxHeartbeats 40000000 in
theorem run_130_01 (l : Launch) (Z : State) (a0 : Array Value) (hw : ∀ d ∈ tables_1, d.before a0 Z = true) (h : Heap) (n0 : Nat) (O : Old Z n0 h) (i0 i1 i2 i4 mm : Int32) (w : Int64) (n0' n1' n2' : Int32) (k0 k1 k2 : Nat) (hk0 : k0 < 6) (hk1 : k1 < 6) (hk2 : k2 < 6) (hn0 : 1 ≤ n0'.toInt) (hn1 : 1 ≤ n1'.toInt) (hn2 : 1 ≤ n2'.toInt) : Run l Z x code maxLocals ret room_1 n0 (fun v h' => v = some (.int 1) ∧ True) h 0 0 130 [.val (.int i0), .val (.int i1), .val (.int i2), .val (.long w), .second, .val (.int i4), .val (.int n0'), .val (.int n1'), .val (.int n2'), .val (.int mm), .val (.int 0), .val (.int 1), .val (.int (Int32.ofNat k0)), .val (.int (Int32.ofNat k1)), .val (.int (Int32.ofNat k2)), .unset, .unset, .unset, .unset, .unset, .unset, .unset, .unset] [] := by
  refine r_bipush 6 132 at_130 rfl rfl ?_
  refine r_newarray 6 "[D" 134 at_132 rfl (hw _ (List.mem_of_getElem? (i := 5) rfl)) (by decide) (by decide) (by decide) rfl (Nat.le_of_ble_eq_true rfl) (Nat.le_of_ble_eq_true rfl) ?_
  intro h1 b1 c1 hb1 E1 A1 X1
  have g1 : n0 ≤ b1 := by rw [hb1]; exact O.1 ▸ O.2.1
  replace O := O.ext E1
  replace A1 : Arv Z _ b1 c1 .double 6 (List.replicate 6 (.double 0)) (.double 0) := A1
  clear E1 X1
  refine r_astore 136 at_134 rfl rfl ?_
  refine r_aload 138 at_136 rfl rfl ?_
  refine r_iconst 0 139 at_138 rfl rfl ?_
  refine r_lloadN 140 at_139 rfl rfl ?_
  refine r_iconst 0 141 at_140 rfl rfl ?_
  refine r_static 144 at_141 rfl (rm_f l Z a0 hw _ n0 w 0) (hw _ (List.mem_of_getElem? (i := 6) rfl)) (hw _ (List.mem_of_getElem? (i := 7) rfl)) (hw _ (List.mem_of_getElem? (i := 8) rfl)) (hw _ (List.mem_of_getElem? (i := 9) rfl)) (by decide) (ps := [.long, .int]) (r' := (some .int)) (by decide +kernel) rfl rfl rfl (Nat.le_of_ble_eq_true rfl) (Nat.le_of_ble_eq_true rfl) (Nat.le_of_ble_eq_true rfl) (Nat.le_of_ble_eq_true rfl) ?_
  rintro v h' ⟨rfl, rfl⟩
  show Run _ _ _ _ _ _ _ _ _ _ _ _ _ _ [.int (own_f w 0), .int 0, .ref b1]
  refine r_i2d (FP.l2d (own_f w 0).toInt64) 145 at_144 rfl (i2d_w _) ?_
  refine r_dastore 0 146 at_145 rfl A1 (by decide) (by decide) (by decide) (by simp) g1 ?_
  intro h' W1 A1
  replace O := O.wr W1 g1
  clear W1
  refine r_aload 148 at_146 rfl rfl ?_
  refine r_iconst 1 149 at_148 rfl rfl ?_
  refine r_lloadN 150 at_149 rfl rfl ?_
  refine r_iconst 1 151 at_150 rfl rfl ?_
  refine r_static 154 at_151 rfl (rm_f l Z a0 hw _ n0 w 1) (hw _ (List.mem_of_getElem? (i := 6) rfl)) (hw _ (List.mem_of_getElem? (i := 7) rfl)) (hw _ (List.mem_of_getElem? (i := 8) rfl)) (hw _ (List.mem_of_getElem? (i := 9) rfl)) (by decide) (ps := [.long, .int]) (r' := (some .int)) (by decide +kernel) rfl rfl rfl (Nat.le_of_ble_eq_true rfl) (Nat.le_of_ble_eq_true rfl) (Nat.le_of_ble_eq_true rfl) (Nat.le_of_ble_eq_true rfl) ?_
  rintro v h' ⟨rfl, rfl⟩
  show Run _ _ _ _ _ _ _ _ _ _ _ _ _ _ [.int (own_f w 1), .int 1, .ref b1]
  refine r_i2d (FP.l2d (own_f w 1).toInt64) 155 at_154 rfl (i2d_w _) ?_
  refine r_dastore 1 156 at_155 rfl A1 (by decide) (by decide) (by decide) (by simp) g1 ?_
  intro h' W1 A1
  replace O := O.wr W1 g1
  clear W1
  refine r_aload 158 at_156 rfl rfl ?_
  refine r_iconst 2 159 at_158 rfl rfl ?_
  refine r_lloadN 160 at_159 rfl rfl ?_
  refine r_iconst 2 161 at_160 rfl rfl ?_
  refine r_static 164 at_161 rfl (rm_f l Z a0 hw _ n0 w 2) (hw _ (List.mem_of_getElem? (i := 6) rfl)) (hw _ (List.mem_of_getElem? (i := 7) rfl)) (hw _ (List.mem_of_getElem? (i := 8) rfl)) (hw _ (List.mem_of_getElem? (i := 9) rfl)) (by decide) (ps := [.long, .int]) (r' := (some .int)) (by decide +kernel) rfl rfl rfl (Nat.le_of_ble_eq_true rfl) (Nat.le_of_ble_eq_true rfl) (Nat.le_of_ble_eq_true rfl) (Nat.le_of_ble_eq_true rfl) ?_
  rintro v h' ⟨rfl, rfl⟩
  show Run _ _ _ _ _ _ _ _ _ _ _ _ _ _ [.int (own_f w 2), .int 2, .ref b1]
  refine r_i2d (FP.l2d (own_f w 2).toInt64) 165 at_164 rfl (i2d_w _) ?_
  refine r_dastore 2 166 at_165 rfl A1 (by decide) (by decide) (by decide) (by simp) g1 ?_
  intro h' W1 A1
  replace O := O.wr W1 g1
  clear W1
  refine r_aload 168 at_166 rfl rfl ?_
  refine r_iconst 3 169 at_168 rfl rfl ?_
  refine r_lloadN 170 at_169 rfl rfl ?_
  refine r_iconst 3 171 at_170 rfl rfl ?_
  refine r_static 174 at_171 rfl (rm_f l Z a0 hw _ n0 w 3) (hw _ (List.mem_of_getElem? (i := 6) rfl)) (hw _ (List.mem_of_getElem? (i := 7) rfl)) (hw _ (List.mem_of_getElem? (i := 8) rfl)) (hw _ (List.mem_of_getElem? (i := 9) rfl)) (by decide) (ps := [.long, .int]) (r' := (some .int)) (by decide +kernel) rfl rfl rfl (Nat.le_of_ble_eq_true rfl) (Nat.le_of_ble_eq_true rfl) (Nat.le_of_ble_eq_true rfl) (Nat.le_of_ble_eq_true rfl) ?_
  rintro v h' ⟨rfl, rfl⟩
  show Run _ _ _ _ _ _ _ _ _ _ _ _ _ _ [.int (own_f w 3), .int 3, .ref b1]
  refine r_i2d (FP.l2d (own_f w 3).toInt64) 175 at_174 rfl (i2d_w _) ?_
  refine r_dastore 3 176 at_175 rfl A1 (by decide) (by decide) (by decide) (by simp) g1 ?_
  intro h' W1 A1
  replace O := O.wr W1 g1
  clear W1
  refine r_aload 178 at_176 rfl rfl ?_
  refine r_iconst 4 179 at_178 rfl rfl ?_
  refine r_lloadN 180 at_179 rfl rfl ?_
  refine r_iconst 4 181 at_180 rfl rfl ?_
  refine r_static 184 at_181 rfl (rm_f l Z a0 hw _ n0 w 4) (hw _ (List.mem_of_getElem? (i := 6) rfl)) (hw _ (List.mem_of_getElem? (i := 7) rfl)) (hw _ (List.mem_of_getElem? (i := 8) rfl)) (hw _ (List.mem_of_getElem? (i := 9) rfl)) (by decide) (ps := [.long, .int]) (r' := (some .int)) (by decide +kernel) rfl rfl rfl (Nat.le_of_ble_eq_true rfl) (Nat.le_of_ble_eq_true rfl) (Nat.le_of_ble_eq_true rfl) (Nat.le_of_ble_eq_true rfl) ?_
  rintro v h' ⟨rfl, rfl⟩
  show Run _ _ _ _ _ _ _ _ _ _ _ _ _ _ [.int (own_f w 4), .int 4, .ref b1]
  refine r_i2d (FP.l2d (own_f w 4).toInt64) 185 at_184 rfl (i2d_w _) ?_
  refine r_dastore 4 186 at_185 rfl A1 (by decide) (by decide) (by decide) (by simp) g1 ?_
  intro h' W1 A1
  replace O := O.wr W1 g1
  clear W1
  refine r_aload 188 at_186 rfl rfl ?_
  refine r_iconst 5 189 at_188 rfl rfl ?_
  refine r_lloadN 190 at_189 rfl rfl ?_
  refine r_iconst 5 191 at_190 rfl rfl ?_
  refine r_static 194 at_191 rfl (rm_f l Z a0 hw _ n0 w 5) (hw _ (List.mem_of_getElem? (i := 6) rfl)) (hw _ (List.mem_of_getElem? (i := 7) rfl)) (hw _ (List.mem_of_getElem? (i := 8) rfl)) (hw _ (List.mem_of_getElem? (i := 9) rfl)) (by decide) (ps := [.long, .int]) (r' := (some .int)) (by decide +kernel) rfl rfl rfl (Nat.le_of_ble_eq_true rfl) (Nat.le_of_ble_eq_true rfl) (Nat.le_of_ble_eq_true rfl) (Nat.le_of_ble_eq_true rfl) ?_
  rintro v h' ⟨rfl, rfl⟩
  show Run _ _ _ _ _ _ _ _ _ _ _ _ _ _ [.int (own_f w 5), .int 5, .ref b1]
  refine r_i2d (FP.l2d (own_f w 5).toInt64) 195 at_194 rfl (i2d_w _) ?_
  refine r_dastore 5 196 at_195 rfl A1 (by decide) (by decide) (by decide) (by simp) g1 ?_
  intro h' W1 A1
  replace O := O.wr W1 g1
  clear W1
  replace A1 : Arv Z _ b1 c1 .double 6 (own_W w) (.double 0) := A1
  refine r_iconst 3 197 at_196 rfl rfl ?_
  refine r_newarray 3 "[I" 199 at_197 rfl (hw _ (List.mem_of_getElem? (i := 11) rfl)) (by decide) (by decide) (by decide) rfl (Nat.le_of_ble_eq_true rfl) (Nat.le_of_ble_eq_true rfl) ?_
  intro h1 b2 c2 hb2 E1 A2 X1
  have g2 : n0 ≤ b2 := by rw [hb2]; exact O.1 ▸ O.2.1
  replace O := O.ext E1
  have ne12 : b1 ≠ b2 := own_ne A1.lt hb2
  replace A1 := A1.ext E1
  replace A2 : Arv Z _ b2 c2 .int 3 (List.replicate 3 (.int 0)) (.int 0) := A2
  clear E1 X1
  refine r_dup 200 at_199 rfl rfl ?_
  refine r_iconst 0 201 at_200 rfl rfl ?_
  refine r_iload 203 at_201 rfl rfl ?_
  refine r_iastore 0 204 at_203 rfl A2 (by decide) (by decide) (by decide) (by simp) g2 ?_
  intro h' W1 A2
  replace O := O.wr W1 g2
  replace A1 := A1.other W1 ne12
  clear W1
  refine r_dup 205 at_204 rfl rfl ?_
  refine r_iconst 1 206 at_205 rfl rfl ?_
  refine r_iload 208 at_206 rfl rfl ?_
  refine r_iastore 1 209 at_208 rfl A2 (by decide) (by decide) (by decide) (by simp) g2 ?_
  intro h' W1 A2
  replace O := O.wr W1 g2
  replace A1 := A1.other W1 ne12
  clear W1
  refine r_dup 210 at_209 rfl rfl ?_
  refine r_iconst 2 211 at_210 rfl rfl ?_
  refine r_iload 213 at_211 rfl rfl ?_
  refine r_iastore 2 214 at_213 rfl A2 (by decide) (by decide) (by decide) (by simp) g2 ?_
  intro h' W1 A2
  replace O := O.wr W1 g2
  replace A1 := A1.other W1 ne12
  clear W1
  replace A2 : Arv Z _ b2 c2 .int 3 [.int (Int32.ofNat k0), .int (Int32.ofNat k1), .int (Int32.ofNat k2)] (.int 0) := A2
  refine r_astore 216 at_214 rfl rfl ?_
  refine r_iconst 3 217 at_216 rfl rfl ?_
  refine r_newarray 3 "[I" 219 at_217 rfl (hw _ (List.mem_of_getElem? (i := 11) rfl)) (by decide) (by decide) (by decide) rfl (Nat.le_of_ble_eq_true rfl) (Nat.le_of_ble_eq_true rfl) ?_
  intro h1 b3 c3 hb3 E1 A3 X1
  have g3 : n0 ≤ b3 := by rw [hb3]; exact O.1 ▸ O.2.1
  replace O := O.ext E1
  have ne13 : b1 ≠ b3 := own_ne A1.lt hb3
  replace A1 := A1.ext E1
  have ne23 : b2 ≠ b3 := own_ne A2.lt hb3
  replace A2 := A2.ext E1
  replace A3 : Arv Z _ b3 c3 .int 3 (List.replicate 3 (.int 0)) (.int 0) := A3
  clear E1 X1
  refine r_dup 220 at_219 rfl rfl ?_
  refine r_iconst 0 221 at_220 rfl rfl ?_
  refine r_iload 223 at_221 rfl rfl ?_
  refine r_iastore 0 224 at_223 rfl A3 (by decide) (by decide) (by decide) (by simp) g3 ?_
  intro h' W1 A3
  replace O := O.wr W1 g3
  replace A1 := A1.other W1 ne13
  replace A2 := A2.other W1 ne23
  clear W1
  refine r_dup 225 at_224 rfl rfl ?_
  refine r_iconst 1 226 at_225 rfl rfl ?_
  refine r_iload 228 at_226 rfl rfl ?_
  refine r_iastore 1 229 at_228 rfl A3 (by decide) (by decide) (by decide) (by simp) g3 ?_
  intro h' W1 A3
  replace O := O.wr W1 g3
  replace A1 := A1.other W1 ne13
  replace A2 := A2.other W1 ne23
  clear W1
  refine r_dup 230 at_229 rfl rfl ?_
  refine r_iconst 2 231 at_230 rfl rfl ?_
  refine r_iload 233 at_231 rfl rfl ?_
  refine r_iastore 2 234 at_233 rfl A3 (by decide) (by decide) (by decide) (by simp) g3 ?_
  intro h' W1 A3
  replace O := O.wr W1 g3
  replace A1 := A1.other W1 ne13
  replace A2 := A2.other W1 ne23
  clear W1
  replace A3 : Arv Z _ b3 c3 .int 3 [.int n0', .int n1', .int n2'] (.int 0) := A3
  refine r_astore 236 at_234 rfl rfl ?_
  refine r_new 239 at_236 rfl (hw _ (List.mem_of_getElem? (i := 12) rfl)) (hw _ (List.mem_of_getElem? (i := 13) rfl)) (hw _ (List.mem_of_getElem? (i := 14) rfl)) (Nat.le_of_ble_eq_true rfl) (Nat.le_of_ble_eq_true rfl) ?_
  intro h1 a ha E1 X1 D1
  have ga : n0 ≤ a := by rw [ha]; exact O.1 ▸ O.2.1
  have na1 : b1 ≠ a := own_ne A1.lt ha
  replace A1 := A1.ext E1
  have na2 : b2 ≠ a := own_ne A2.lt ha
  replace A2 := A2.ext E1
  have na3 : b3 ≠ a := own_ne A3.lt ha
  replace A3 := A3.ext E1
  refine r_dup 240 at_239 rfl rfl ?_
  refine r_aload 242 at_240 rfl rfl ?_
  refine r_aload 244 at_242 rfl rfl ?_
  refine r_iload 246 at_244 rfl rfl ?_
  refine r_iload 248 at_246 rfl rfl ?_
  refine r_special 251 at_248 rfl (rm_ini01 l Z a0 hw h1 n0 a b2 b3 c3 n0' n1' n2' A3 (D1 (Or.inr (hw _ (List.mem_of_getElem? (i := 22) rfl))) (ty := (.array .int)) (by decide)) (D1 (Or.inr (hw _ (List.mem_of_getElem? (i := 24) rfl))) (ty := (.array .int)) (by decide)) (D1 (Or.inr (hw _ (List.mem_of_getElem? (i := 26) rfl))) (ty := .int) (by decide)) (D1 (Or.inr (hw _ (List.mem_of_getElem? (i := 28) rfl))) (ty := .int) (by decide)) (D1 (Or.inr (hw _ (List.mem_of_getElem? (i := 30) rfl))) (ty := .int) (by decide)) X1 ga) (as1 := [.ref b2, .ref b3, .int 0, .int 1]) rfl rfl (hw _ (List.mem_of_getElem? (i := 15) rfl)) (hw _ (List.mem_of_getElem? (i := 16) rfl)) (hw _ (List.mem_of_getElem? (i := 14) rfl)) (hw _ (List.mem_of_getElem? (i := 17) rfl)) (by decide) (ps := [(.array .int), (.array .int), .int, .int]) (r' := none) (by decide +kernel) rfl rfl rfl (Nat.le_of_ble_eq_true rfl) (Nat.le_of_ble_eq_true rfl) (Nat.le_of_ble_eq_true rfl) (Nat.le_of_ble_eq_true rfl) ?_
  rintro v h2 ⟨rfl, K2, X2, G1, G2, G3, G4⟩
  replace A1 := A1.keep K2 (ninS na1 nin0)
  replace A2 := A2.keep K2 (ninS na2 nin0)
  replace A3 := A3.keep K2 (ninS na3 nin0)
  show Run _ _ _ _ _ _ _ _ _ _ _ _ _ _ [.ref a]
  refine r_astore 253 at_251 rfl rfl ?_
  refine r_aload 255 at_253 rfl rfl ?_
  refine r_aload 257 at_255 rfl rfl ?_
  refine r_virtual 260 at_257 rfl (rm_wt01 l Z a0 hw h2 n0 a b1 b2 b3 c1 c2 c3 w n0' n1' n2' k0 k1 k2 hk0 hk1 hk2 hn0 hn1 hn2 A1 A2 A3 G1 G2 G3 G4) (as1 := [.ref b1]) rfl (hw _ (List.mem_of_getElem? (i := 31) rfl)) (hw _ (List.mem_of_getElem? (i := 32) rfl)) (hw _ (List.mem_of_getElem? (i := 34) rfl)) (hw _ (List.mem_of_getElem? (i := 33) rfl)) (hw _ (List.mem_of_getElem? (i := 14) rfl)) (hw _ (List.mem_of_getElem? (i := 35) rfl)) (by decide) (ps := [(.array .double)]) (r' := (some .double)) (by decide +kernel) (X2) rfl rfl rfl (Nat.le_of_ble_eq_true rfl) (Nat.le_of_ble_eq_true rfl) (Nat.le_of_ble_eq_true rfl) (Nat.le_of_ble_eq_true rfl) (fun s args hZ => notFace_of_selects (args := args) (mvT hZ (hw _ (List.mem_of_getElem? (i := 34) rfl)))) ?_
  rintro v h3 ⟨rfl, -⟩
  show Run _ _ _ _ _ _ _ _ _ _ _ _ _ _ [.double (FP.l2d ((0 : Int64) + (n0'.toInt64 * (own_f w (Int32.ofNat k0)).toInt64)))]
  refine r_dstore 262 at_260 rfl rfl ?_
  refine r_lconst 0 263 at_262 rfl rfl ?_
  refine r_lstore 265 at_263 rfl rfl ?_
  refine r_iload 267 at_265 rfl rfl ?_
  refine r_if_gt 292 270 at_267 (by decide) rfl (fun q267 => absurd q267 (by decide)) (fun q267 => ?_)
  refine r_iconst 0 271 at_270 rfl rfl ?_
  refine r_iload 273 at_271 rfl rfl ?_
  refine r_icmp_ge 292 276 at_273 (by decide) rfl (fun q273 => absurd q273 (by decide)) (fun q273 => ?_)
  refine r_lload 278 at_276 rfl rfl ?_
  refine r_iload 280 at_278 rfl rfl ?_
  refine r_i2l 281 at_280 rfl ?_
  refine r_lloadN 282 at_281 rfl rfl ?_
  refine r_iload 284 at_282 rfl rfl ?_
  refine r_static 287 at_284 rfl (rm_f l Z a0 hw _ n0 w (Int32.ofNat k0)) (hw _ (List.mem_of_getElem? (i := 6) rfl)) (hw _ (List.mem_of_getElem? (i := 7) rfl)) (hw _ (List.mem_of_getElem? (i := 8) rfl)) (hw _ (List.mem_of_getElem? (i := 9) rfl)) (by decide) (ps := [.long, .int]) (r' := (some .int)) (by decide +kernel) rfl rfl rfl (Nat.le_of_ble_eq_true rfl) (Nat.le_of_ble_eq_true rfl) (Nat.le_of_ble_eq_true rfl) (Nat.le_of_ble_eq_true rfl) ?_
  rintro v h' ⟨rfl, rfl⟩
  show Run _ _ _ _ _ _ _ _ _ _ _ _ _ _ [.int (own_f w (Int32.ofNat k0)), .long n0'.toInt64, .long (0 : Int64)]
  refine r_i2l 288 at_287 rfl ?_
  refine r_lmul 289 at_288 rfl ?_
  refine r_ladd 290 at_289 rfl ?_
  refine r_lstore 292 at_290 rfl rfl ?_
  refine r_iload 294 at_292 rfl rfl ?_
  refine r_iconst 1 295 at_294 rfl rfl ?_
  refine r_icmp_gt 320 298 at_295 (by decide) rfl (fun q295 => absurd q295 (by decide)) (fun q295 => ?_)
  refine r_iconst 1 299 at_298 rfl rfl ?_
  refine r_iload 301 at_299 rfl rfl ?_
  refine r_icmp_ge 320 304 at_301 (by decide) rfl (fun q301 => ?_) (fun q301 => absurd q301 (by decide))
  refine r_iload 322 at_320 rfl rfl ?_
  refine r_iconst 2 323 at_322 rfl rfl ?_
  refine r_icmp_gt 348 326 at_323 (by decide) rfl (fun q323 => absurd q323 (by decide)) (fun q323 => ?_)
  refine r_iconst 2 327 at_326 rfl rfl ?_
  refine r_iload 329 at_327 rfl rfl ?_
  refine r_icmp_ge 348 332 at_329 (by decide) rfl (fun q329 => ?_) (fun q329 => absurd q329 (by decide))
  refine r_dload 350 at_348 rfl rfl ?_
  refine r_lload 352 at_350 rfl rfl ?_
  refine r_l2d _ 353 at_352 rfl rfl ?_
  refine r_dcmp 0 354 at_353 rfl (dcmpV_self (nn_w rfl) _) ?_
  refine r_if_ne 361 357 at_354 (by decide) rfl (fun q354 => absurd q354 (by decide)) (fun q354 => ?_)
  refine r_iconst 1 358 at_357 rfl rfl ?_
  refine r_goto 362 at_358 (by decide) ?_
  exact r_retN _ at_362 rfl (by simp) rfl (Nat.le_of_ble_eq_true rfl) (Nat.le_of_ble_eq_true rfl) (⟨rfl, trivial⟩)
set_option maxRecDepth 65536 in
set_option maxHeartbeats 40000000 in
theorem run_130_02 (l : Launch) (Z : State) (a0 : Array Value) (hw : ∀ d ∈ tables_1, d.before a0 Z = true) (h : Heap) (n0 : Nat) (O : Old Z n0 h) (i0 i1 i2 i4 mm : Int32) (w : Int64) (n0' n1' n2' : Int32) (k0 k1 k2 : Nat) (hk0 : k0 < 6) (hk1 : k1 < 6) (hk2 : k2 < 6) (hn0 : 1 ≤ n0'.toInt) (hn1 : 1 ≤ n1'.toInt) (hn2 : 1 ≤ n2'.toInt) : Run l Z x code maxLocals ret room_1 n0 (fun v h' => v = some (.int 1) ∧ True) h 0 0 130 [.val (.int i0), .val (.int i1), .val (.int i2), .val (.long w), .second, .val (.int i4), .val (.int n0'), .val (.int n1'), .val (.int n2'), .val (.int mm), .val (.int 0), .val (.int 2), .val (.int (Int32.ofNat k0)), .val (.int (Int32.ofNat k1)), .val (.int (Int32.ofNat k2)), .unset, .unset, .unset, .unset, .unset, .unset, .unset, .unset] [] := by
  refine r_bipush 6 132 at_130 rfl rfl ?_
  refine r_newarray 6 "[D" 134 at_132 rfl (hw _ (List.mem_of_getElem? (i := 5) rfl)) (by decide) (by decide) (by decide) rfl (Nat.le_of_ble_eq_true rfl) (Nat.le_of_ble_eq_true rfl) ?_
  intro h1 b1 c1 hb1 E1 A1 X1
  have g1 : n0 ≤ b1 := by rw [hb1]; exact O.1 ▸ O.2.1
  replace O := O.ext E1
  replace A1 : Arv Z _ b1 c1 .double 6 (List.replicate 6 (.double 0)) (.double 0) := A1
  clear E1 X1
  refine r_astore 136 at_134 rfl rfl ?_
  refine r_aload 138 at_136 rfl rfl ?_
  refine r_iconst 0 139 at_138 rfl rfl ?_
  refine r_lloadN 140 at_139 rfl rfl ?_
  refine r_iconst 0 141 at_140 rfl rfl ?_
  refine r_static 144 at_141 rfl (rm_f l Z a0 hw _ n0 w 0) (hw _ (List.mem_of_getElem? (i := 6) rfl)) (hw _ (List.mem_of_getElem? (i := 7) rfl)) (hw _ (List.mem_of_getElem? (i := 8) rfl)) (hw _ (List.mem_of_getElem? (i := 9) rfl)) (by decide) (ps := [.long, .int]) (r' := (some .int)) (by decide +kernel) rfl rfl rfl (Nat.le_of_ble_eq_true rfl) (Nat.le_of_ble_eq_true rfl) (Nat.le_of_ble_eq_true rfl) (Nat.le_of_ble_eq_true rfl) ?_
  rintro v h' ⟨rfl, rfl⟩
  show Run _ _ _ _ _ _ _ _ _ _ _ _ _ _ [.int (own_f w 0), .int 0, .ref b1]
  refine r_i2d (FP.l2d (own_f w 0).toInt64) 145 at_144 rfl (i2d_w _) ?_
  refine r_dastore 0 146 at_145 rfl A1 (by decide) (by decide) (by decide) (by simp) g1 ?_
  intro h' W1 A1
  replace O := O.wr W1 g1
  clear W1
  refine r_aload 148 at_146 rfl rfl ?_
  refine r_iconst 1 149 at_148 rfl rfl ?_
  refine r_lloadN 150 at_149 rfl rfl ?_
  refine r_iconst 1 151 at_150 rfl rfl ?_
  refine r_static 154 at_151 rfl (rm_f l Z a0 hw _ n0 w 1) (hw _ (List.mem_of_getElem? (i := 6) rfl)) (hw _ (List.mem_of_getElem? (i := 7) rfl)) (hw _ (List.mem_of_getElem? (i := 8) rfl)) (hw _ (List.mem_of_getElem? (i := 9) rfl)) (by decide) (ps := [.long, .int]) (r' := (some .int)) (by decide +kernel) rfl rfl rfl (Nat.le_of_ble_eq_true rfl) (Nat.le_of_ble_eq_true rfl) (Nat.le_of_ble_eq_true rfl) (Nat.le_of_ble_eq_true rfl) ?_
  rintro v h' ⟨rfl, rfl⟩
  show Run _ _ _ _ _ _ _ _ _ _ _ _ _ _ [.int (own_f w 1), .int 1, .ref b1]
  refine r_i2d (FP.l2d (own_f w 1).toInt64) 155 at_154 rfl (i2d_w _) ?_
  refine r_dastore 1 156 at_155 rfl A1 (by decide) (by decide) (by decide) (by simp) g1 ?_
  intro h' W1 A1
  replace O := O.wr W1 g1
  clear W1
  refine r_aload 158 at_156 rfl rfl ?_
  refine r_iconst 2 159 at_158 rfl rfl ?_
  refine r_lloadN 160 at_159 rfl rfl ?_
  refine r_iconst 2 161 at_160 rfl rfl ?_
  refine r_static 164 at_161 rfl (rm_f l Z a0 hw _ n0 w 2) (hw _ (List.mem_of_getElem? (i := 6) rfl)) (hw _ (List.mem_of_getElem? (i := 7) rfl)) (hw _ (List.mem_of_getElem? (i := 8) rfl)) (hw _ (List.mem_of_getElem? (i := 9) rfl)) (by decide) (ps := [.long, .int]) (r' := (some .int)) (by decide +kernel) rfl rfl rfl (Nat.le_of_ble_eq_true rfl) (Nat.le_of_ble_eq_true rfl) (Nat.le_of_ble_eq_true rfl) (Nat.le_of_ble_eq_true rfl) ?_
  rintro v h' ⟨rfl, rfl⟩
  show Run _ _ _ _ _ _ _ _ _ _ _ _ _ _ [.int (own_f w 2), .int 2, .ref b1]
  refine r_i2d (FP.l2d (own_f w 2).toInt64) 165 at_164 rfl (i2d_w _) ?_
  refine r_dastore 2 166 at_165 rfl A1 (by decide) (by decide) (by decide) (by simp) g1 ?_
  intro h' W1 A1
  replace O := O.wr W1 g1
  clear W1
  refine r_aload 168 at_166 rfl rfl ?_
  refine r_iconst 3 169 at_168 rfl rfl ?_
  refine r_lloadN 170 at_169 rfl rfl ?_
  refine r_iconst 3 171 at_170 rfl rfl ?_
  refine r_static 174 at_171 rfl (rm_f l Z a0 hw _ n0 w 3) (hw _ (List.mem_of_getElem? (i := 6) rfl)) (hw _ (List.mem_of_getElem? (i := 7) rfl)) (hw _ (List.mem_of_getElem? (i := 8) rfl)) (hw _ (List.mem_of_getElem? (i := 9) rfl)) (by decide) (ps := [.long, .int]) (r' := (some .int)) (by decide +kernel) rfl rfl rfl (Nat.le_of_ble_eq_true rfl) (Nat.le_of_ble_eq_true rfl) (Nat.le_of_ble_eq_true rfl) (Nat.le_of_ble_eq_true rfl) ?_
  rintro v h' ⟨rfl, rfl⟩
  show Run _ _ _ _ _ _ _ _ _ _ _ _ _ _ [.int (own_f w 3), .int 3, .ref b1]
  refine r_i2d (FP.l2d (own_f w 3).toInt64) 175 at_174 rfl (i2d_w _) ?_
  refine r_dastore 3 176 at_175 rfl A1 (by decide) (by decide) (by decide) (by simp) g1 ?_
  intro h' W1 A1
  replace O := O.wr W1 g1
  clear W1
  refine r_aload 178 at_176 rfl rfl ?_
  refine r_iconst 4 179 at_178 rfl rfl ?_
  refine r_lloadN 180 at_179 rfl rfl ?_
  refine r_iconst 4 181 at_180 rfl rfl ?_
  refine r_static 184 at_181 rfl (rm_f l Z a0 hw _ n0 w 4) (hw _ (List.mem_of_getElem? (i := 6) rfl)) (hw _ (List.mem_of_getElem? (i := 7) rfl)) (hw _ (List.mem_of_getElem? (i := 8) rfl)) (hw _ (List.mem_of_getElem? (i := 9) rfl)) (by decide) (ps := [.long, .int]) (r' := (some .int)) (by decide +kernel) rfl rfl rfl (Nat.le_of_ble_eq_true rfl) (Nat.le_of_ble_eq_true rfl) (Nat.le_of_ble_eq_true rfl) (Nat.le_of_ble_eq_true rfl) ?_
  rintro v h' ⟨rfl, rfl⟩
  show Run _ _ _ _ _ _ _ _ _ _ _ _ _ _ [.int (own_f w 4), .int 4, .ref b1]
  refine r_i2d (FP.l2d (own_f w 4).toInt64) 185 at_184 rfl (i2d_w _) ?_
  refine r_dastore 4 186 at_185 rfl A1 (by decide) (by decide) (by decide) (by simp) g1 ?_
  intro h' W1 A1
  replace O := O.wr W1 g1
  clear W1
  refine r_aload 188 at_186 rfl rfl ?_
  refine r_iconst 5 189 at_188 rfl rfl ?_
  refine r_lloadN 190 at_189 rfl rfl ?_
  refine r_iconst 5 191 at_190 rfl rfl ?_
  refine r_static 194 at_191 rfl (rm_f l Z a0 hw _ n0 w 5) (hw _ (List.mem_of_getElem? (i := 6) rfl)) (hw _ (List.mem_of_getElem? (i := 7) rfl)) (hw _ (List.mem_of_getElem? (i := 8) rfl)) (hw _ (List.mem_of_getElem? (i := 9) rfl)) (by decide) (ps := [.long, .int]) (r' := (some .int)) (by decide +kernel) rfl rfl rfl (Nat.le_of_ble_eq_true rfl) (Nat.le_of_ble_eq_true rfl) (Nat.le_of_ble_eq_true rfl) (Nat.le_of_ble_eq_true rfl) ?_
  rintro v h' ⟨rfl, rfl⟩
  show Run _ _ _ _ _ _ _ _ _ _ _ _ _ _ [.int (own_f w 5), .int 5, .ref b1]
  refine r_i2d (FP.l2d (own_f w 5).toInt64) 195 at_194 rfl (i2d_w _) ?_
  refine r_dastore 5 196 at_195 rfl A1 (by decide) (by decide) (by decide) (by simp) g1 ?_
  intro h' W1 A1
  replace O := O.wr W1 g1
  clear W1
  replace A1 : Arv Z _ b1 c1 .double 6 (own_W w) (.double 0) := A1
  refine r_iconst 3 197 at_196 rfl rfl ?_
  refine r_newarray 3 "[I" 199 at_197 rfl (hw _ (List.mem_of_getElem? (i := 11) rfl)) (by decide) (by decide) (by decide) rfl (Nat.le_of_ble_eq_true rfl) (Nat.le_of_ble_eq_true rfl) ?_
  intro h1 b2 c2 hb2 E1 A2 X1
  have g2 : n0 ≤ b2 := by rw [hb2]; exact O.1 ▸ O.2.1
  replace O := O.ext E1
  have ne12 : b1 ≠ b2 := own_ne A1.lt hb2
  replace A1 := A1.ext E1
  replace A2 : Arv Z _ b2 c2 .int 3 (List.replicate 3 (.int 0)) (.int 0) := A2
  clear E1 X1
  refine r_dup 200 at_199 rfl rfl ?_
  refine r_iconst 0 201 at_200 rfl rfl ?_
  refine r_iload 203 at_201 rfl rfl ?_
  refine r_iastore 0 204 at_203 rfl A2 (by decide) (by decide) (by decide) (by simp) g2 ?_
  intro h' W1 A2
  replace O := O.wr W1 g2
  replace A1 := A1.other W1 ne12
  clear W1
  refine r_dup 205 at_204 rfl rfl ?_
  refine r_iconst 1 206 at_205 rfl rfl ?_
  refine r_iload 208 at_206 rfl rfl ?_
  refine r_iastore 1 209 at_208 rfl A2 (by decide) (by decide) (by decide) (by simp) g2 ?_
  intro h' W1 A2
  replace O := O.wr W1 g2
  replace A1 := A1.other W1 ne12
  clear W1
  refine r_dup 210 at_209 rfl rfl ?_
  refine r_iconst 2 211 at_210 rfl rfl ?_
  refine r_iload 213 at_211 rfl rfl ?_
  refine r_iastore 2 214 at_213 rfl A2 (by decide) (by decide) (by decide) (by simp) g2 ?_
  intro h' W1 A2
  replace O := O.wr W1 g2
  replace A1 := A1.other W1 ne12
  clear W1
  replace A2 : Arv Z _ b2 c2 .int 3 [.int (Int32.ofNat k0), .int (Int32.ofNat k1), .int (Int32.ofNat k2)] (.int 0) := A2
  refine r_astore 216 at_214 rfl rfl ?_
  refine r_iconst 3 217 at_216 rfl rfl ?_
  refine r_newarray 3 "[I" 219 at_217 rfl (hw _ (List.mem_of_getElem? (i := 11) rfl)) (by decide) (by decide) (by decide) rfl (Nat.le_of_ble_eq_true rfl) (Nat.le_of_ble_eq_true rfl) ?_
  intro h1 b3 c3 hb3 E1 A3 X1
  have g3 : n0 ≤ b3 := by rw [hb3]; exact O.1 ▸ O.2.1
  replace O := O.ext E1
  have ne13 : b1 ≠ b3 := own_ne A1.lt hb3
  replace A1 := A1.ext E1
  have ne23 : b2 ≠ b3 := own_ne A2.lt hb3
  replace A2 := A2.ext E1
  replace A3 : Arv Z _ b3 c3 .int 3 (List.replicate 3 (.int 0)) (.int 0) := A3
  clear E1 X1
  refine r_dup 220 at_219 rfl rfl ?_
  refine r_iconst 0 221 at_220 rfl rfl ?_
  refine r_iload 223 at_221 rfl rfl ?_
  refine r_iastore 0 224 at_223 rfl A3 (by decide) (by decide) (by decide) (by simp) g3 ?_
  intro h' W1 A3
  replace O := O.wr W1 g3
  replace A1 := A1.other W1 ne13
  replace A2 := A2.other W1 ne23
  clear W1
  refine r_dup 225 at_224 rfl rfl ?_
  refine r_iconst 1 226 at_225 rfl rfl ?_
  refine r_iload 228 at_226 rfl rfl ?_
  refine r_iastore 1 229 at_228 rfl A3 (by decide) (by decide) (by decide) (by simp) g3 ?_
  intro h' W1 A3
  replace O := O.wr W1 g3
  replace A1 := A1.other W1 ne13
  replace A2 := A2.other W1 ne23
  clear W1
  refine r_dup 230 at_229 rfl rfl ?_
  refine r_iconst 2 231 at_230 rfl rfl ?_
  refine r_iload 233 at_231 rfl rfl ?_
  refine r_iastore 2 234 at_233 rfl A3 (by decide) (by decide) (by decide) (by simp) g3 ?_
  intro h' W1 A3
  replace O := O.wr W1 g3
  replace A1 := A1.other W1 ne13
  replace A2 := A2.other W1 ne23
  clear W1
  replace A3 : Arv Z _ b3 c3 .int 3 [.int n0', .int n1', .int n2'] (.int 0) := A3
  refine r_astore 236 at_234 rfl rfl ?_
  refine r_new 239 at_236 rfl (hw _ (List.mem_of_getElem? (i := 12) rfl)) (hw _ (List.mem_of_getElem? (i := 13) rfl)) (hw _ (List.mem_of_getElem? (i := 14) rfl)) (Nat.le_of_ble_eq_true rfl) (Nat.le_of_ble_eq_true rfl) ?_
  intro h1 a ha E1 X1 D1
  have ga : n0 ≤ a := by rw [ha]; exact O.1 ▸ O.2.1
  have na1 : b1 ≠ a := own_ne A1.lt ha
  replace A1 := A1.ext E1
  have na2 : b2 ≠ a := own_ne A2.lt ha
  replace A2 := A2.ext E1
  have na3 : b3 ≠ a := own_ne A3.lt ha
  replace A3 := A3.ext E1
  refine r_dup 240 at_239 rfl rfl ?_
  refine r_aload 242 at_240 rfl rfl ?_
  refine r_aload 244 at_242 rfl rfl ?_
  refine r_iload 246 at_244 rfl rfl ?_
  refine r_iload 248 at_246 rfl rfl ?_
  refine r_special 251 at_248 rfl (rm_ini02 l Z a0 hw h1 n0 a b2 b3 c3 n0' n1' n2' A3 (D1 (Or.inr (hw _ (List.mem_of_getElem? (i := 22) rfl))) (ty := (.array .int)) (by decide)) (D1 (Or.inr (hw _ (List.mem_of_getElem? (i := 24) rfl))) (ty := (.array .int)) (by decide)) (D1 (Or.inr (hw _ (List.mem_of_getElem? (i := 26) rfl))) (ty := .int) (by decide)) (D1 (Or.inr (hw _ (List.mem_of_getElem? (i := 28) rfl))) (ty := .int) (by decide)) (D1 (Or.inr (hw _ (List.mem_of_getElem? (i := 30) rfl))) (ty := .int) (by decide)) X1 ga) (as1 := [.ref b2, .ref b3, .int 0, .int 2]) rfl rfl (hw _ (List.mem_of_getElem? (i := 15) rfl)) (hw _ (List.mem_of_getElem? (i := 16) rfl)) (hw _ (List.mem_of_getElem? (i := 14) rfl)) (hw _ (List.mem_of_getElem? (i := 17) rfl)) (by decide) (ps := [(.array .int), (.array .int), .int, .int]) (r' := none) (by decide +kernel) rfl rfl rfl (Nat.le_of_ble_eq_true rfl) (Nat.le_of_ble_eq_true rfl) (Nat.le_of_ble_eq_true rfl) (Nat.le_of_ble_eq_true rfl) ?_
  rintro v h2 ⟨rfl, K2, X2, G1, G2, G3, G4⟩
  replace A1 := A1.keep K2 (ninS na1 nin0)
  replace A2 := A2.keep K2 (ninS na2 nin0)
  replace A3 := A3.keep K2 (ninS na3 nin0)
  show Run _ _ _ _ _ _ _ _ _ _ _ _ _ _ [.ref a]
  refine r_astore 253 at_251 rfl rfl ?_
  refine r_aload 255 at_253 rfl rfl ?_
  refine r_aload 257 at_255 rfl rfl ?_
  refine r_virtual 260 at_257 rfl (rm_wt02 l Z a0 hw h2 n0 a b1 b2 b3 c1 c2 c3 w n0' n1' n2' k0 k1 k2 hk0 hk1 hk2 hn0 hn1 hn2 A1 A2 A3 G1 G2 G3 G4) (as1 := [.ref b1]) rfl (hw _ (List.mem_of_getElem? (i := 31) rfl)) (hw _ (List.mem_of_getElem? (i := 32) rfl)) (hw _ (List.mem_of_getElem? (i := 34) rfl)) (hw _ (List.mem_of_getElem? (i := 33) rfl)) (hw _ (List.mem_of_getElem? (i := 14) rfl)) (hw _ (List.mem_of_getElem? (i := 35) rfl)) (by decide) (ps := [(.array .double)]) (r' := (some .double)) (by decide +kernel) (X2) rfl rfl rfl (Nat.le_of_ble_eq_true rfl) (Nat.le_of_ble_eq_true rfl) (Nat.le_of_ble_eq_true rfl) (Nat.le_of_ble_eq_true rfl) (fun s args hZ => notFace_of_selects (args := args) (mvT hZ (hw _ (List.mem_of_getElem? (i := 34) rfl)))) ?_
  rintro v h3 ⟨rfl, -⟩
  show Run _ _ _ _ _ _ _ _ _ _ _ _ _ _ [.double (FP.l2d (((0 : Int64) + (n0'.toInt64 * (own_f w (Int32.ofNat k0)).toInt64)) + (n1'.toInt64 * (own_f w (Int32.ofNat k1)).toInt64)))]
  refine r_dstore 262 at_260 rfl rfl ?_
  refine r_lconst 0 263 at_262 rfl rfl ?_
  refine r_lstore 265 at_263 rfl rfl ?_
  refine r_iload 267 at_265 rfl rfl ?_
  refine r_if_gt 292 270 at_267 (by decide) rfl (fun q267 => absurd q267 (by decide)) (fun q267 => ?_)
  refine r_iconst 0 271 at_270 rfl rfl ?_
  refine r_iload 273 at_271 rfl rfl ?_
  refine r_icmp_ge 292 276 at_273 (by decide) rfl (fun q273 => absurd q273 (by decide)) (fun q273 => ?_)
  refine r_lload 278 at_276 rfl rfl ?_
  refine r_iload 280 at_278 rfl rfl ?_
  refine r_i2l 281 at_280 rfl ?_
  refine r_lloadN 282 at_281 rfl rfl ?_
  refine r_iload 284 at_282 rfl rfl ?_
  refine r_static 287 at_284 rfl (rm_f l Z a0 hw _ n0 w (Int32.ofNat k0)) (hw _ (List.mem_of_getElem? (i := 6) rfl)) (hw _ (List.mem_of_getElem? (i := 7) rfl)) (hw _ (List.mem_of_getElem? (i := 8) rfl)) (hw _ (List.mem_of_getElem? (i := 9) rfl)) (by decide) (ps := [.long, .int]) (r' := (some .int)) (by decide +kernel) rfl rfl rfl (Nat.le_of_ble_eq_true rfl) (Nat.le_of_ble_eq_true rfl) (Nat.le_of_ble_eq_true rfl) (Nat.le_of_ble_eq_true rfl) ?_
  rintro v h' ⟨rfl, rfl⟩
  show Run _ _ _ _ _ _ _ _ _ _ _ _ _ _ [.int (own_f w (Int32.ofNat k0)), .long n0'.toInt64, .long (0 : Int64)]
  refine r_i2l 288 at_287 rfl ?_
  refine r_lmul 289 at_288 rfl ?_
  refine r_ladd 290 at_289 rfl ?_
  refine r_lstore 292 at_290 rfl rfl ?_
  refine r_iload 294 at_292 rfl rfl ?_
  refine r_iconst 1 295 at_294 rfl rfl ?_
  refine r_icmp_gt 320 298 at_295 (by decide) rfl (fun q295 => absurd q295 (by decide)) (fun q295 => ?_)
  refine r_iconst 1 299 at_298 rfl rfl ?_
  refine r_iload 301 at_299 rfl rfl ?_
  refine r_icmp_ge 320 304 at_301 (by decide) rfl (fun q301 => absurd q301 (by decide)) (fun q301 => ?_)
  refine r_lload 306 at_304 rfl rfl ?_
  refine r_iload 308 at_306 rfl rfl ?_
  refine r_i2l 309 at_308 rfl ?_
  refine r_lloadN 310 at_309 rfl rfl ?_
  refine r_iload 312 at_310 rfl rfl ?_
  refine r_static 315 at_312 rfl (rm_f l Z a0 hw _ n0 w (Int32.ofNat k1)) (hw _ (List.mem_of_getElem? (i := 6) rfl)) (hw _ (List.mem_of_getElem? (i := 7) rfl)) (hw _ (List.mem_of_getElem? (i := 8) rfl)) (hw _ (List.mem_of_getElem? (i := 9) rfl)) (by decide) (ps := [.long, .int]) (r' := (some .int)) (by decide +kernel) rfl rfl rfl (Nat.le_of_ble_eq_true rfl) (Nat.le_of_ble_eq_true rfl) (Nat.le_of_ble_eq_true rfl) (Nat.le_of_ble_eq_true rfl) ?_
  rintro v h' ⟨rfl, rfl⟩
  show Run _ _ _ _ _ _ _ _ _ _ _ _ _ _ [.int (own_f w (Int32.ofNat k1)), .long n1'.toInt64, .long ((0 : Int64) + (n0'.toInt64 * (own_f w (Int32.ofNat k0)).toInt64))]
  refine r_i2l 316 at_315 rfl ?_
  refine r_lmul 317 at_316 rfl ?_
  refine r_ladd 318 at_317 rfl ?_
  refine r_lstore 320 at_318 rfl rfl ?_
  refine r_iload 322 at_320 rfl rfl ?_
  refine r_iconst 2 323 at_322 rfl rfl ?_
  refine r_icmp_gt 348 326 at_323 (by decide) rfl (fun q323 => absurd q323 (by decide)) (fun q323 => ?_)
  refine r_iconst 2 327 at_326 rfl rfl ?_
  refine r_iload 329 at_327 rfl rfl ?_
  refine r_icmp_ge 348 332 at_329 (by decide) rfl (fun q329 => ?_) (fun q329 => absurd q329 (by decide))
  refine r_dload 350 at_348 rfl rfl ?_
  refine r_lload 352 at_350 rfl rfl ?_
  refine r_l2d _ 353 at_352 rfl rfl ?_
  refine r_dcmp 0 354 at_353 rfl (dcmpV_self (nn_w rfl) _) ?_
  refine r_if_ne 361 357 at_354 (by decide) rfl (fun q354 => absurd q354 (by decide)) (fun q354 => ?_)
  refine r_iconst 1 358 at_357 rfl rfl ?_
  refine r_goto 362 at_358 (by decide) ?_
  exact r_retN _ at_362 rfl (by simp) rfl (Nat.le_of_ble_eq_true rfl) (Nat.le_of_ble_eq_true rfl) (⟨rfl, trivial⟩)
set_option maxRecDepth 65536 in
set_option maxHeartbeats 40000000 in
theorem run_130_03 (l : Launch) (Z : State) (a0 : Array Value) (hw : ∀ d ∈ tables_1, d.before a0 Z = true) (h : Heap) (n0 : Nat) (O : Old Z n0 h) (i0 i1 i2 i4 mm : Int32) (w : Int64) (n0' n1' n2' : Int32) (k0 k1 k2 : Nat) (hk0 : k0 < 6) (hk1 : k1 < 6) (hk2 : k2 < 6) (hn0 : 1 ≤ n0'.toInt) (hn1 : 1 ≤ n1'.toInt) (hn2 : 1 ≤ n2'.toInt) : Run l Z x code maxLocals ret room_1 n0 (fun v h' => v = some (.int 1) ∧ True) h 0 0 130 [.val (.int i0), .val (.int i1), .val (.int i2), .val (.long w), .second, .val (.int i4), .val (.int n0'), .val (.int n1'), .val (.int n2'), .val (.int mm), .val (.int 0), .val (.int 3), .val (.int (Int32.ofNat k0)), .val (.int (Int32.ofNat k1)), .val (.int (Int32.ofNat k2)), .unset, .unset, .unset, .unset, .unset, .unset, .unset, .unset] [] := by
  refine r_bipush 6 132 at_130 rfl rfl ?_
  refine r_newarray 6 "[D" 134 at_132 rfl (hw _ (List.mem_of_getElem? (i := 5) rfl)) (by decide) (by decide) (by decide) rfl (Nat.le_of_ble_eq_true rfl) (Nat.le_of_ble_eq_true rfl) ?_
  intro h1 b1 c1 hb1 E1 A1 X1
  have g1 : n0 ≤ b1 := by rw [hb1]; exact O.1 ▸ O.2.1
  replace O := O.ext E1
  replace A1 : Arv Z _ b1 c1 .double 6 (List.replicate 6 (.double 0)) (.double 0) := A1
  clear E1 X1
  refine r_astore 136 at_134 rfl rfl ?_
  refine r_aload 138 at_136 rfl rfl ?_
  refine r_iconst 0 139 at_138 rfl rfl ?_
  refine r_lloadN 140 at_139 rfl rfl ?_
  refine r_iconst 0 141 at_140 rfl rfl ?_
  refine r_static 144 at_141 rfl (rm_f l Z a0 hw _ n0 w 0) (hw _ (List.mem_of_getElem? (i := 6) rfl)) (hw _ (List.mem_of_getElem? (i := 7) rfl)) (hw _ (List.mem_of_getElem? (i := 8) rfl)) (hw _ (List.mem_of_getElem? (i := 9) rfl)) (by decide) (ps := [.long, .int]) (r' := (some .int)) (by decide +kernel) rfl rfl rfl (Nat.le_of_ble_eq_true rfl) (Nat.le_of_ble_eq_true rfl) (Nat.le_of_ble_eq_true rfl) (Nat.le_of_ble_eq_true rfl) ?_
  rintro v h' ⟨rfl, rfl⟩
  show Run _ _ _ _ _ _ _ _ _ _ _ _ _ _ [.int (own_f w 0), .int 0, .ref b1]
  refine r_i2d (FP.l2d (own_f w 0).toInt64) 145 at_144 rfl (i2d_w _) ?_
  refine r_dastore 0 146 at_145 rfl A1 (by decide) (by decide) (by decide) (by simp) g1 ?_
  intro h' W1 A1
  replace O := O.wr W1 g1
  clear W1
  refine r_aload 148 at_146 rfl rfl ?_
  refine r_iconst 1 149 at_148 rfl rfl ?_
  refine r_lloadN 150 at_149 rfl rfl ?_
  refine r_iconst 1 151 at_150 rfl rfl ?_
  refine r_static 154 at_151 rfl (rm_f l Z a0 hw _ n0 w 1) (hw _ (List.mem_of_getElem? (i := 6) rfl)) (hw _ (List.mem_of_getElem? (i := 7) rfl)) (hw _ (List.mem_of_getElem? (i := 8) rfl)) (hw _ (List.mem_of_getElem? (i := 9) rfl)) (by decide) (ps := [.long, .int]) (r' := (some .int)) (by decide +kernel) rfl rfl rfl (Nat.le_of_ble_eq_true rfl) (Nat.le_of_ble_eq_true rfl) (Nat.le_of_ble_eq_true rfl) (Nat.le_of_ble_eq_true rfl) ?_
  rintro v h' ⟨rfl, rfl⟩
  show Run _ _ _ _ _ _ _ _ _ _ _ _ _ _ [.int (own_f w 1), .int 1, .ref b1]
  refine r_i2d (FP.l2d (own_f w 1).toInt64) 155 at_154 rfl (i2d_w _) ?_
  refine r_dastore 1 156 at_155 rfl A1 (by decide) (by decide) (by decide) (by simp) g1 ?_
  intro h' W1 A1
  replace O := O.wr W1 g1
  clear W1
  refine r_aload 158 at_156 rfl rfl ?_
  refine r_iconst 2 159 at_158 rfl rfl ?_
  refine r_lloadN 160 at_159 rfl rfl ?_
  refine r_iconst 2 161 at_160 rfl rfl ?_
  refine r_static 164 at_161 rfl (rm_f l Z a0 hw _ n0 w 2) (hw _ (List.mem_of_getElem? (i := 6) rfl)) (hw _ (List.mem_of_getElem? (i := 7) rfl)) (hw _ (List.mem_of_getElem? (i := 8) rfl)) (hw _ (List.mem_of_getElem? (i := 9) rfl)) (by decide) (ps := [.long, .int]) (r' := (some .int)) (by decide +kernel) rfl rfl rfl (Nat.le_of_ble_eq_true rfl) (Nat.le_of_ble_eq_true rfl) (Nat.le_of_ble_eq_true rfl) (Nat.le_of_ble_eq_true rfl) ?_
  rintro v h' ⟨rfl, rfl⟩
  show Run _ _ _ _ _ _ _ _ _ _ _ _ _ _ [.int (own_f w 2), .int 2, .ref b1]
  refine r_i2d (FP.l2d (own_f w 2).toInt64) 165 at_164 rfl (i2d_w _) ?_
  refine r_dastore 2 166 at_165 rfl A1 (by decide) (by decide) (by decide) (by simp) g1 ?_
  intro h' W1 A1
  replace O := O.wr W1 g1
  clear W1
  refine r_aload 168 at_166 rfl rfl ?_
  refine r_iconst 3 169 at_168 rfl rfl ?_
  refine r_lloadN 170 at_169 rfl rfl ?_
  refine r_iconst 3 171 at_170 rfl rfl ?_
  refine r_static 174 at_171 rfl (rm_f l Z a0 hw _ n0 w 3) (hw _ (List.mem_of_getElem? (i := 6) rfl)) (hw _ (List.mem_of_getElem? (i := 7) rfl)) (hw _ (List.mem_of_getElem? (i := 8) rfl)) (hw _ (List.mem_of_getElem? (i := 9) rfl)) (by decide) (ps := [.long, .int]) (r' := (some .int)) (by decide +kernel) rfl rfl rfl (Nat.le_of_ble_eq_true rfl) (Nat.le_of_ble_eq_true rfl) (Nat.le_of_ble_eq_true rfl) (Nat.le_of_ble_eq_true rfl) ?_
  rintro v h' ⟨rfl, rfl⟩
  show Run _ _ _ _ _ _ _ _ _ _ _ _ _ _ [.int (own_f w 3), .int 3, .ref b1]
  refine r_i2d (FP.l2d (own_f w 3).toInt64) 175 at_174 rfl (i2d_w _) ?_
  refine r_dastore 3 176 at_175 rfl A1 (by decide) (by decide) (by decide) (by simp) g1 ?_
  intro h' W1 A1
  replace O := O.wr W1 g1
  clear W1
  refine r_aload 178 at_176 rfl rfl ?_
  refine r_iconst 4 179 at_178 rfl rfl ?_
  refine r_lloadN 180 at_179 rfl rfl ?_
  refine r_iconst 4 181 at_180 rfl rfl ?_
  refine r_static 184 at_181 rfl (rm_f l Z a0 hw _ n0 w 4) (hw _ (List.mem_of_getElem? (i := 6) rfl)) (hw _ (List.mem_of_getElem? (i := 7) rfl)) (hw _ (List.mem_of_getElem? (i := 8) rfl)) (hw _ (List.mem_of_getElem? (i := 9) rfl)) (by decide) (ps := [.long, .int]) (r' := (some .int)) (by decide +kernel) rfl rfl rfl (Nat.le_of_ble_eq_true rfl) (Nat.le_of_ble_eq_true rfl) (Nat.le_of_ble_eq_true rfl) (Nat.le_of_ble_eq_true rfl) ?_
  rintro v h' ⟨rfl, rfl⟩
  show Run _ _ _ _ _ _ _ _ _ _ _ _ _ _ [.int (own_f w 4), .int 4, .ref b1]
  refine r_i2d (FP.l2d (own_f w 4).toInt64) 185 at_184 rfl (i2d_w _) ?_
  refine r_dastore 4 186 at_185 rfl A1 (by decide) (by decide) (by decide) (by simp) g1 ?_
  intro h' W1 A1
  replace O := O.wr W1 g1
  clear W1
  refine r_aload 188 at_186 rfl rfl ?_
  refine r_iconst 5 189 at_188 rfl rfl ?_
  refine r_lloadN 190 at_189 rfl rfl ?_
  refine r_iconst 5 191 at_190 rfl rfl ?_
  refine r_static 194 at_191 rfl (rm_f l Z a0 hw _ n0 w 5) (hw _ (List.mem_of_getElem? (i := 6) rfl)) (hw _ (List.mem_of_getElem? (i := 7) rfl)) (hw _ (List.mem_of_getElem? (i := 8) rfl)) (hw _ (List.mem_of_getElem? (i := 9) rfl)) (by decide) (ps := [.long, .int]) (r' := (some .int)) (by decide +kernel) rfl rfl rfl (Nat.le_of_ble_eq_true rfl) (Nat.le_of_ble_eq_true rfl) (Nat.le_of_ble_eq_true rfl) (Nat.le_of_ble_eq_true rfl) ?_
  rintro v h' ⟨rfl, rfl⟩
  show Run _ _ _ _ _ _ _ _ _ _ _ _ _ _ [.int (own_f w 5), .int 5, .ref b1]
  refine r_i2d (FP.l2d (own_f w 5).toInt64) 195 at_194 rfl (i2d_w _) ?_
  refine r_dastore 5 196 at_195 rfl A1 (by decide) (by decide) (by decide) (by simp) g1 ?_
  intro h' W1 A1
  replace O := O.wr W1 g1
  clear W1
  replace A1 : Arv Z _ b1 c1 .double 6 (own_W w) (.double 0) := A1
  refine r_iconst 3 197 at_196 rfl rfl ?_
  refine r_newarray 3 "[I" 199 at_197 rfl (hw _ (List.mem_of_getElem? (i := 11) rfl)) (by decide) (by decide) (by decide) rfl (Nat.le_of_ble_eq_true rfl) (Nat.le_of_ble_eq_true rfl) ?_
  intro h1 b2 c2 hb2 E1 A2 X1
  have g2 : n0 ≤ b2 := by rw [hb2]; exact O.1 ▸ O.2.1
  replace O := O.ext E1
  have ne12 : b1 ≠ b2 := own_ne A1.lt hb2
  replace A1 := A1.ext E1
  replace A2 : Arv Z _ b2 c2 .int 3 (List.replicate 3 (.int 0)) (.int 0) := A2
  clear E1 X1
  refine r_dup 200 at_199 rfl rfl ?_
  refine r_iconst 0 201 at_200 rfl rfl ?_
  refine r_iload 203 at_201 rfl rfl ?_
  refine r_iastore 0 204 at_203 rfl A2 (by decide) (by decide) (by decide) (by simp) g2 ?_
  intro h' W1 A2
  replace O := O.wr W1 g2
  replace A1 := A1.other W1 ne12
  clear W1
  refine r_dup 205 at_204 rfl rfl ?_
  refine r_iconst 1 206 at_205 rfl rfl ?_
  refine r_iload 208 at_206 rfl rfl ?_
  refine r_iastore 1 209 at_208 rfl A2 (by decide) (by decide) (by decide) (by simp) g2 ?_
  intro h' W1 A2
  replace O := O.wr W1 g2
  replace A1 := A1.other W1 ne12
  clear W1
  refine r_dup 210 at_209 rfl rfl ?_
  refine r_iconst 2 211 at_210 rfl rfl ?_
  refine r_iload 213 at_211 rfl rfl ?_
  refine r_iastore 2 214 at_213 rfl A2 (by decide) (by decide) (by decide) (by simp) g2 ?_
  intro h' W1 A2
  replace O := O.wr W1 g2
  replace A1 := A1.other W1 ne12
  clear W1
  replace A2 : Arv Z _ b2 c2 .int 3 [.int (Int32.ofNat k0), .int (Int32.ofNat k1), .int (Int32.ofNat k2)] (.int 0) := A2
  refine r_astore 216 at_214 rfl rfl ?_
  refine r_iconst 3 217 at_216 rfl rfl ?_
  refine r_newarray 3 "[I" 219 at_217 rfl (hw _ (List.mem_of_getElem? (i := 11) rfl)) (by decide) (by decide) (by decide) rfl (Nat.le_of_ble_eq_true rfl) (Nat.le_of_ble_eq_true rfl) ?_
  intro h1 b3 c3 hb3 E1 A3 X1
  have g3 : n0 ≤ b3 := by rw [hb3]; exact O.1 ▸ O.2.1
  replace O := O.ext E1
  have ne13 : b1 ≠ b3 := own_ne A1.lt hb3
  replace A1 := A1.ext E1
  have ne23 : b2 ≠ b3 := own_ne A2.lt hb3
  replace A2 := A2.ext E1
  replace A3 : Arv Z _ b3 c3 .int 3 (List.replicate 3 (.int 0)) (.int 0) := A3
  clear E1 X1
  refine r_dup 220 at_219 rfl rfl ?_
  refine r_iconst 0 221 at_220 rfl rfl ?_
  refine r_iload 223 at_221 rfl rfl ?_
  refine r_iastore 0 224 at_223 rfl A3 (by decide) (by decide) (by decide) (by simp) g3 ?_
  intro h' W1 A3
  replace O := O.wr W1 g3
  replace A1 := A1.other W1 ne13
  replace A2 := A2.other W1 ne23
  clear W1
  refine r_dup 225 at_224 rfl rfl ?_
  refine r_iconst 1 226 at_225 rfl rfl ?_
  refine r_iload 228 at_226 rfl rfl ?_
  refine r_iastore 1 229 at_228 rfl A3 (by decide) (by decide) (by decide) (by simp) g3 ?_
  intro h' W1 A3
  replace O := O.wr W1 g3
  replace A1 := A1.other W1 ne13
  replace A2 := A2.other W1 ne23
  clear W1
  refine r_dup 230 at_229 rfl rfl ?_
  refine r_iconst 2 231 at_230 rfl rfl ?_
  refine r_iload 233 at_231 rfl rfl ?_
  refine r_iastore 2 234 at_233 rfl A3 (by decide) (by decide) (by decide) (by simp) g3 ?_
  intro h' W1 A3
  replace O := O.wr W1 g3
  replace A1 := A1.other W1 ne13
  replace A2 := A2.other W1 ne23
  clear W1
  replace A3 : Arv Z _ b3 c3 .int 3 [.int n0', .int n1', .int n2'] (.int 0) := A3
  refine r_astore 236 at_234 rfl rfl ?_
  refine r_new 239 at_236 rfl (hw _ (List.mem_of_getElem? (i := 12) rfl)) (hw _ (List.mem_of_getElem? (i := 13) rfl)) (hw _ (List.mem_of_getElem? (i := 14) rfl)) (Nat.le_of_ble_eq_true rfl) (Nat.le_of_ble_eq_true rfl) ?_
  intro h1 a ha E1 X1 D1
  have ga : n0 ≤ a := by rw [ha]; exact O.1 ▸ O.2.1
  have na1 : b1 ≠ a := own_ne A1.lt ha
  replace A1 := A1.ext E1
  have na2 : b2 ≠ a := own_ne A2.lt ha
  replace A2 := A2.ext E1
  have na3 : b3 ≠ a := own_ne A3.lt ha
  replace A3 := A3.ext E1
  refine r_dup 240 at_239 rfl rfl ?_
  refine r_aload 242 at_240 rfl rfl ?_
  refine r_aload 244 at_242 rfl rfl ?_
  refine r_iload 246 at_244 rfl rfl ?_
  refine r_iload 248 at_246 rfl rfl ?_
  refine r_special 251 at_248 rfl (rm_ini03 l Z a0 hw h1 n0 a b2 b3 c3 n0' n1' n2' A3 (D1 (Or.inr (hw _ (List.mem_of_getElem? (i := 22) rfl))) (ty := (.array .int)) (by decide)) (D1 (Or.inr (hw _ (List.mem_of_getElem? (i := 24) rfl))) (ty := (.array .int)) (by decide)) (D1 (Or.inr (hw _ (List.mem_of_getElem? (i := 26) rfl))) (ty := .int) (by decide)) (D1 (Or.inr (hw _ (List.mem_of_getElem? (i := 28) rfl))) (ty := .int) (by decide)) (D1 (Or.inr (hw _ (List.mem_of_getElem? (i := 30) rfl))) (ty := .int) (by decide)) X1 ga) (as1 := [.ref b2, .ref b3, .int 0, .int 3]) rfl rfl (hw _ (List.mem_of_getElem? (i := 15) rfl)) (hw _ (List.mem_of_getElem? (i := 16) rfl)) (hw _ (List.mem_of_getElem? (i := 14) rfl)) (hw _ (List.mem_of_getElem? (i := 17) rfl)) (by decide) (ps := [(.array .int), (.array .int), .int, .int]) (r' := none) (by decide +kernel) rfl rfl rfl (Nat.le_of_ble_eq_true rfl) (Nat.le_of_ble_eq_true rfl) (Nat.le_of_ble_eq_true rfl) (Nat.le_of_ble_eq_true rfl) ?_
  rintro v h2 ⟨rfl, K2, X2, G1, G2, G3, G4⟩
  replace A1 := A1.keep K2 (ninS na1 nin0)
  replace A2 := A2.keep K2 (ninS na2 nin0)
  replace A3 := A3.keep K2 (ninS na3 nin0)
  show Run _ _ _ _ _ _ _ _ _ _ _ _ _ _ [.ref a]
  refine r_astore 253 at_251 rfl rfl ?_
  refine r_aload 255 at_253 rfl rfl ?_
  refine r_aload 257 at_255 rfl rfl ?_
  refine r_virtual 260 at_257 rfl (rm_wt03 l Z a0 hw h2 n0 a b1 b2 b3 c1 c2 c3 w n0' n1' n2' k0 k1 k2 hk0 hk1 hk2 hn0 hn1 hn2 A1 A2 A3 G1 G2 G3 G4) (as1 := [.ref b1]) rfl (hw _ (List.mem_of_getElem? (i := 31) rfl)) (hw _ (List.mem_of_getElem? (i := 32) rfl)) (hw _ (List.mem_of_getElem? (i := 34) rfl)) (hw _ (List.mem_of_getElem? (i := 33) rfl)) (hw _ (List.mem_of_getElem? (i := 14) rfl)) (hw _ (List.mem_of_getElem? (i := 35) rfl)) (by decide) (ps := [(.array .double)]) (r' := (some .double)) (by decide +kernel) (X2) rfl rfl rfl (Nat.le_of_ble_eq_true rfl) (Nat.le_of_ble_eq_true rfl) (Nat.le_of_ble_eq_true rfl) (Nat.le_of_ble_eq_true rfl) (fun s args hZ => notFace_of_selects (args := args) (mvT hZ (hw _ (List.mem_of_getElem? (i := 34) rfl)))) ?_
  rintro v h3 ⟨rfl, -⟩
  show Run _ _ _ _ _ _ _ _ _ _ _ _ _ _ [.double (FP.l2d ((((0 : Int64) + (n0'.toInt64 * (own_f w (Int32.ofNat k0)).toInt64)) + (n1'.toInt64 * (own_f w (Int32.ofNat k1)).toInt64)) + (n2'.toInt64 * (own_f w (Int32.ofNat k2)).toInt64)))]
  refine r_dstore 262 at_260 rfl rfl ?_
  refine r_lconst 0 263 at_262 rfl rfl ?_
  refine r_lstore 265 at_263 rfl rfl ?_
  refine r_iload 267 at_265 rfl rfl ?_
  refine r_if_gt 292 270 at_267 (by decide) rfl (fun q267 => absurd q267 (by decide)) (fun q267 => ?_)
  refine r_iconst 0 271 at_270 rfl rfl ?_
  refine r_iload 273 at_271 rfl rfl ?_
  refine r_icmp_ge 292 276 at_273 (by decide) rfl (fun q273 => absurd q273 (by decide)) (fun q273 => ?_)
  refine r_lload 278 at_276 rfl rfl ?_
  refine r_iload 280 at_278 rfl rfl ?_
  refine r_i2l 281 at_280 rfl ?_
  refine r_lloadN 282 at_281 rfl rfl ?_
  refine r_iload 284 at_282 rfl rfl ?_
  refine r_static 287 at_284 rfl (rm_f l Z a0 hw _ n0 w (Int32.ofNat k0)) (hw _ (List.mem_of_getElem? (i := 6) rfl)) (hw _ (List.mem_of_getElem? (i := 7) rfl)) (hw _ (List.mem_of_getElem? (i := 8) rfl)) (hw _ (List.mem_of_getElem? (i := 9) rfl)) (by decide) (ps := [.long, .int]) (r' := (some .int)) (by decide +kernel) rfl rfl rfl (Nat.le_of_ble_eq_true rfl) (Nat.le_of_ble_eq_true rfl) (Nat.le_of_ble_eq_true rfl) (Nat.le_of_ble_eq_true rfl) ?_
  rintro v h' ⟨rfl, rfl⟩
  show Run _ _ _ _ _ _ _ _ _ _ _ _ _ _ [.int (own_f w (Int32.ofNat k0)), .long n0'.toInt64, .long (0 : Int64)]
  refine r_i2l 288 at_287 rfl ?_
  refine r_lmul 289 at_288 rfl ?_
  refine r_ladd 290 at_289 rfl ?_
  refine r_lstore 292 at_290 rfl rfl ?_
  refine r_iload 294 at_292 rfl rfl ?_
  refine r_iconst 1 295 at_294 rfl rfl ?_
  refine r_icmp_gt 320 298 at_295 (by decide) rfl (fun q295 => absurd q295 (by decide)) (fun q295 => ?_)
  refine r_iconst 1 299 at_298 rfl rfl ?_
  refine r_iload 301 at_299 rfl rfl ?_
  refine r_icmp_ge 320 304 at_301 (by decide) rfl (fun q301 => absurd q301 (by decide)) (fun q301 => ?_)
  refine r_lload 306 at_304 rfl rfl ?_
  refine r_iload 308 at_306 rfl rfl ?_
  refine r_i2l 309 at_308 rfl ?_
  refine r_lloadN 310 at_309 rfl rfl ?_
  refine r_iload 312 at_310 rfl rfl ?_
  refine r_static 315 at_312 rfl (rm_f l Z a0 hw _ n0 w (Int32.ofNat k1)) (hw _ (List.mem_of_getElem? (i := 6) rfl)) (hw _ (List.mem_of_getElem? (i := 7) rfl)) (hw _ (List.mem_of_getElem? (i := 8) rfl)) (hw _ (List.mem_of_getElem? (i := 9) rfl)) (by decide) (ps := [.long, .int]) (r' := (some .int)) (by decide +kernel) rfl rfl rfl (Nat.le_of_ble_eq_true rfl) (Nat.le_of_ble_eq_true rfl) (Nat.le_of_ble_eq_true rfl) (Nat.le_of_ble_eq_true rfl) ?_
  rintro v h' ⟨rfl, rfl⟩
  show Run _ _ _ _ _ _ _ _ _ _ _ _ _ _ [.int (own_f w (Int32.ofNat k1)), .long n1'.toInt64, .long ((0 : Int64) + (n0'.toInt64 * (own_f w (Int32.ofNat k0)).toInt64))]
  refine r_i2l 316 at_315 rfl ?_
  refine r_lmul 317 at_316 rfl ?_
  refine r_ladd 318 at_317 rfl ?_
  refine r_lstore 320 at_318 rfl rfl ?_
  refine r_iload 322 at_320 rfl rfl ?_
  refine r_iconst 2 323 at_322 rfl rfl ?_
  refine r_icmp_gt 348 326 at_323 (by decide) rfl (fun q323 => absurd q323 (by decide)) (fun q323 => ?_)
  refine r_iconst 2 327 at_326 rfl rfl ?_
  refine r_iload 329 at_327 rfl rfl ?_
  refine r_icmp_ge 348 332 at_329 (by decide) rfl (fun q329 => absurd q329 (by decide)) (fun q329 => ?_)
  refine r_lload 334 at_332 rfl rfl ?_
  refine r_iload 336 at_334 rfl rfl ?_
  refine r_i2l 337 at_336 rfl ?_
  refine r_lloadN 338 at_337 rfl rfl ?_
  refine r_iload 340 at_338 rfl rfl ?_
  refine r_static 343 at_340 rfl (rm_f l Z a0 hw _ n0 w (Int32.ofNat k2)) (hw _ (List.mem_of_getElem? (i := 6) rfl)) (hw _ (List.mem_of_getElem? (i := 7) rfl)) (hw _ (List.mem_of_getElem? (i := 8) rfl)) (hw _ (List.mem_of_getElem? (i := 9) rfl)) (by decide) (ps := [.long, .int]) (r' := (some .int)) (by decide +kernel) rfl rfl rfl (Nat.le_of_ble_eq_true rfl) (Nat.le_of_ble_eq_true rfl) (Nat.le_of_ble_eq_true rfl) (Nat.le_of_ble_eq_true rfl) ?_
  rintro v h' ⟨rfl, rfl⟩
  show Run _ _ _ _ _ _ _ _ _ _ _ _ _ _ [.int (own_f w (Int32.ofNat k2)), .long n2'.toInt64, .long (((0 : Int64) + (n0'.toInt64 * (own_f w (Int32.ofNat k0)).toInt64)) + (n1'.toInt64 * (own_f w (Int32.ofNat k1)).toInt64))]
  refine r_i2l 344 at_343 rfl ?_
  refine r_lmul 345 at_344 rfl ?_
  refine r_ladd 346 at_345 rfl ?_
  refine r_lstore 348 at_346 rfl rfl ?_
  refine r_dload 350 at_348 rfl rfl ?_
  refine r_lload 352 at_350 rfl rfl ?_
  refine r_l2d _ 353 at_352 rfl rfl ?_
  refine r_dcmp 0 354 at_353 rfl (dcmpV_self (nn_w rfl) _) ?_
  refine r_if_ne 361 357 at_354 (by decide) rfl (fun q354 => absurd q354 (by decide)) (fun q354 => ?_)
  refine r_iconst 1 358 at_357 rfl rfl ?_
  refine r_goto 362 at_358 (by decide) ?_
  exact r_retN _ at_362 rfl (by simp) rfl (Nat.le_of_ble_eq_true rfl) (Nat.le_of_ble_eq_true rfl) (⟨rfl, trivial⟩)
set_option maxRecDepth 65536 in
set_option maxHeartbeats 40000000 in
theorem run_130_12 (l : Launch) (Z : State) (a0 : Array Value) (hw : ∀ d ∈ tables_1, d.before a0 Z = true) (h : Heap) (n0 : Nat) (O : Old Z n0 h) (i0 i1 i2 i4 mm : Int32) (w : Int64) (n0' n1' n2' : Int32) (k0 k1 k2 : Nat) (hk0 : k0 < 6) (hk1 : k1 < 6) (hk2 : k2 < 6) (hn0 : 1 ≤ n0'.toInt) (hn1 : 1 ≤ n1'.toInt) (hn2 : 1 ≤ n2'.toInt) : Run l Z x code maxLocals ret room_1 n0 (fun v h' => v = some (.int 1) ∧ True) h 0 0 130 [.val (.int i0), .val (.int i1), .val (.int i2), .val (.long w), .second, .val (.int i4), .val (.int n0'), .val (.int n1'), .val (.int n2'), .val (.int mm), .val (.int 1), .val (.int 2), .val (.int (Int32.ofNat k0)), .val (.int (Int32.ofNat k1)), .val (.int (Int32.ofNat k2)), .unset, .unset, .unset, .unset, .unset, .unset, .unset, .unset] [] := by
  refine r_bipush 6 132 at_130 rfl rfl ?_
  refine r_newarray 6 "[D" 134 at_132 rfl (hw _ (List.mem_of_getElem? (i := 5) rfl)) (by decide) (by decide) (by decide) rfl (Nat.le_of_ble_eq_true rfl) (Nat.le_of_ble_eq_true rfl) ?_
  intro h1 b1 c1 hb1 E1 A1 X1
  have g1 : n0 ≤ b1 := by rw [hb1]; exact O.1 ▸ O.2.1
  replace O := O.ext E1
  replace A1 : Arv Z _ b1 c1 .double 6 (List.replicate 6 (.double 0)) (.double 0) := A1
  clear E1 X1
  refine r_astore 136 at_134 rfl rfl ?_
  refine r_aload 138 at_136 rfl rfl ?_
  refine r_iconst 0 139 at_138 rfl rfl ?_
  refine r_lloadN 140 at_139 rfl rfl ?_
  refine r_iconst 0 141 at_140 rfl rfl ?_
  refine r_static 144 at_141 rfl (rm_f l Z a0 hw _ n0 w 0) (hw _ (List.mem_of_getElem? (i := 6) rfl)) (hw _ (List.mem_of_getElem? (i := 7) rfl)) (hw _ (List.mem_of_getElem? (i := 8) rfl)) (hw _ (List.mem_of_getElem? (i := 9) rfl)) (by decide) (ps := [.long, .int]) (r' := (some .int)) (by decide +kernel) rfl rfl rfl (Nat.le_of_ble_eq_true rfl) (Nat.le_of_ble_eq_true rfl) (Nat.le_of_ble_eq_true rfl) (Nat.le_of_ble_eq_true rfl) ?_
  rintro v h' ⟨rfl, rfl⟩
  show Run _ _ _ _ _ _ _ _ _ _ _ _ _ _ [.int (own_f w 0), .int 0, .ref b1]
  refine r_i2d (FP.l2d (own_f w 0).toInt64) 145 at_144 rfl (i2d_w _) ?_
  refine r_dastore 0 146 at_145 rfl A1 (by decide) (by decide) (by decide) (by simp) g1 ?_
  intro h' W1 A1
  replace O := O.wr W1 g1
  clear W1
  refine r_aload 148 at_146 rfl rfl ?_
  refine r_iconst 1 149 at_148 rfl rfl ?_
  refine r_lloadN 150 at_149 rfl rfl ?_
  refine r_iconst 1 151 at_150 rfl rfl ?_
  refine r_static 154 at_151 rfl (rm_f l Z a0 hw _ n0 w 1) (hw _ (List.mem_of_getElem? (i := 6) rfl)) (hw _ (List.mem_of_getElem? (i := 7) rfl)) (hw _ (List.mem_of_getElem? (i := 8) rfl)) (hw _ (List.mem_of_getElem? (i := 9) rfl)) (by decide) (ps := [.long, .int]) (r' := (some .int)) (by decide +kernel) rfl rfl rfl (Nat.le_of_ble_eq_true rfl) (Nat.le_of_ble_eq_true rfl) (Nat.le_of_ble_eq_true rfl) (Nat.le_of_ble_eq_true rfl) ?_
  rintro v h' ⟨rfl, rfl⟩
  show Run _ _ _ _ _ _ _ _ _ _ _ _ _ _ [.int (own_f w 1), .int 1, .ref b1]
  refine r_i2d (FP.l2d (own_f w 1).toInt64) 155 at_154 rfl (i2d_w _) ?_
  refine r_dastore 1 156 at_155 rfl A1 (by decide) (by decide) (by decide) (by simp) g1 ?_
  intro h' W1 A1
  replace O := O.wr W1 g1
  clear W1
  refine r_aload 158 at_156 rfl rfl ?_
  refine r_iconst 2 159 at_158 rfl rfl ?_
  refine r_lloadN 160 at_159 rfl rfl ?_
  refine r_iconst 2 161 at_160 rfl rfl ?_
  refine r_static 164 at_161 rfl (rm_f l Z a0 hw _ n0 w 2) (hw _ (List.mem_of_getElem? (i := 6) rfl)) (hw _ (List.mem_of_getElem? (i := 7) rfl)) (hw _ (List.mem_of_getElem? (i := 8) rfl)) (hw _ (List.mem_of_getElem? (i := 9) rfl)) (by decide) (ps := [.long, .int]) (r' := (some .int)) (by decide +kernel) rfl rfl rfl (Nat.le_of_ble_eq_true rfl) (Nat.le_of_ble_eq_true rfl) (Nat.le_of_ble_eq_true rfl) (Nat.le_of_ble_eq_true rfl) ?_
  rintro v h' ⟨rfl, rfl⟩
  show Run _ _ _ _ _ _ _ _ _ _ _ _ _ _ [.int (own_f w 2), .int 2, .ref b1]
  refine r_i2d (FP.l2d (own_f w 2).toInt64) 165 at_164 rfl (i2d_w _) ?_
  refine r_dastore 2 166 at_165 rfl A1 (by decide) (by decide) (by decide) (by simp) g1 ?_
  intro h' W1 A1
  replace O := O.wr W1 g1
  clear W1
  refine r_aload 168 at_166 rfl rfl ?_
  refine r_iconst 3 169 at_168 rfl rfl ?_
  refine r_lloadN 170 at_169 rfl rfl ?_
  refine r_iconst 3 171 at_170 rfl rfl ?_
  refine r_static 174 at_171 rfl (rm_f l Z a0 hw _ n0 w 3) (hw _ (List.mem_of_getElem? (i := 6) rfl)) (hw _ (List.mem_of_getElem? (i := 7) rfl)) (hw _ (List.mem_of_getElem? (i := 8) rfl)) (hw _ (List.mem_of_getElem? (i := 9) rfl)) (by decide) (ps := [.long, .int]) (r' := (some .int)) (by decide +kernel) rfl rfl rfl (Nat.le_of_ble_eq_true rfl) (Nat.le_of_ble_eq_true rfl) (Nat.le_of_ble_eq_true rfl) (Nat.le_of_ble_eq_true rfl) ?_
  rintro v h' ⟨rfl, rfl⟩
  show Run _ _ _ _ _ _ _ _ _ _ _ _ _ _ [.int (own_f w 3), .int 3, .ref b1]
  refine r_i2d (FP.l2d (own_f w 3).toInt64) 175 at_174 rfl (i2d_w _) ?_
  refine r_dastore 3 176 at_175 rfl A1 (by decide) (by decide) (by decide) (by simp) g1 ?_
  intro h' W1 A1
  replace O := O.wr W1 g1
  clear W1
  refine r_aload 178 at_176 rfl rfl ?_
  refine r_iconst 4 179 at_178 rfl rfl ?_
  refine r_lloadN 180 at_179 rfl rfl ?_
  refine r_iconst 4 181 at_180 rfl rfl ?_
  refine r_static 184 at_181 rfl (rm_f l Z a0 hw _ n0 w 4) (hw _ (List.mem_of_getElem? (i := 6) rfl)) (hw _ (List.mem_of_getElem? (i := 7) rfl)) (hw _ (List.mem_of_getElem? (i := 8) rfl)) (hw _ (List.mem_of_getElem? (i := 9) rfl)) (by decide) (ps := [.long, .int]) (r' := (some .int)) (by decide +kernel) rfl rfl rfl (Nat.le_of_ble_eq_true rfl) (Nat.le_of_ble_eq_true rfl) (Nat.le_of_ble_eq_true rfl) (Nat.le_of_ble_eq_true rfl) ?_
  rintro v h' ⟨rfl, rfl⟩
  show Run _ _ _ _ _ _ _ _ _ _ _ _ _ _ [.int (own_f w 4), .int 4, .ref b1]
  refine r_i2d (FP.l2d (own_f w 4).toInt64) 185 at_184 rfl (i2d_w _) ?_
  refine r_dastore 4 186 at_185 rfl A1 (by decide) (by decide) (by decide) (by simp) g1 ?_
  intro h' W1 A1
  replace O := O.wr W1 g1
  clear W1
  refine r_aload 188 at_186 rfl rfl ?_
  refine r_iconst 5 189 at_188 rfl rfl ?_
  refine r_lloadN 190 at_189 rfl rfl ?_
  refine r_iconst 5 191 at_190 rfl rfl ?_
  refine r_static 194 at_191 rfl (rm_f l Z a0 hw _ n0 w 5) (hw _ (List.mem_of_getElem? (i := 6) rfl)) (hw _ (List.mem_of_getElem? (i := 7) rfl)) (hw _ (List.mem_of_getElem? (i := 8) rfl)) (hw _ (List.mem_of_getElem? (i := 9) rfl)) (by decide) (ps := [.long, .int]) (r' := (some .int)) (by decide +kernel) rfl rfl rfl (Nat.le_of_ble_eq_true rfl) (Nat.le_of_ble_eq_true rfl) (Nat.le_of_ble_eq_true rfl) (Nat.le_of_ble_eq_true rfl) ?_
  rintro v h' ⟨rfl, rfl⟩
  show Run _ _ _ _ _ _ _ _ _ _ _ _ _ _ [.int (own_f w 5), .int 5, .ref b1]
  refine r_i2d (FP.l2d (own_f w 5).toInt64) 195 at_194 rfl (i2d_w _) ?_
  refine r_dastore 5 196 at_195 rfl A1 (by decide) (by decide) (by decide) (by simp) g1 ?_
  intro h' W1 A1
  replace O := O.wr W1 g1
  clear W1
  replace A1 : Arv Z _ b1 c1 .double 6 (own_W w) (.double 0) := A1
  refine r_iconst 3 197 at_196 rfl rfl ?_
  refine r_newarray 3 "[I" 199 at_197 rfl (hw _ (List.mem_of_getElem? (i := 11) rfl)) (by decide) (by decide) (by decide) rfl (Nat.le_of_ble_eq_true rfl) (Nat.le_of_ble_eq_true rfl) ?_
  intro h1 b2 c2 hb2 E1 A2 X1
  have g2 : n0 ≤ b2 := by rw [hb2]; exact O.1 ▸ O.2.1
  replace O := O.ext E1
  have ne12 : b1 ≠ b2 := own_ne A1.lt hb2
  replace A1 := A1.ext E1
  replace A2 : Arv Z _ b2 c2 .int 3 (List.replicate 3 (.int 0)) (.int 0) := A2
  clear E1 X1
  refine r_dup 200 at_199 rfl rfl ?_
  refine r_iconst 0 201 at_200 rfl rfl ?_
  refine r_iload 203 at_201 rfl rfl ?_
  refine r_iastore 0 204 at_203 rfl A2 (by decide) (by decide) (by decide) (by simp) g2 ?_
  intro h' W1 A2
  replace O := O.wr W1 g2
  replace A1 := A1.other W1 ne12
  clear W1
  refine r_dup 205 at_204 rfl rfl ?_
  refine r_iconst 1 206 at_205 rfl rfl ?_
  refine r_iload 208 at_206 rfl rfl ?_
  refine r_iastore 1 209 at_208 rfl A2 (by decide) (by decide) (by decide) (by simp) g2 ?_
  intro h' W1 A2
  replace O := O.wr W1 g2
  replace A1 := A1.other W1 ne12
  clear W1
  refine r_dup 210 at_209 rfl rfl ?_
  refine r_iconst 2 211 at_210 rfl rfl ?_
  refine r_iload 213 at_211 rfl rfl ?_
  refine r_iastore 2 214 at_213 rfl A2 (by decide) (by decide) (by decide) (by simp) g2 ?_
  intro h' W1 A2
  replace O := O.wr W1 g2
  replace A1 := A1.other W1 ne12
  clear W1
  replace A2 : Arv Z _ b2 c2 .int 3 [.int (Int32.ofNat k0), .int (Int32.ofNat k1), .int (Int32.ofNat k2)] (.int 0) := A2
  refine r_astore 216 at_214 rfl rfl ?_
  refine r_iconst 3 217 at_216 rfl rfl ?_
  refine r_newarray 3 "[I" 219 at_217 rfl (hw _ (List.mem_of_getElem? (i := 11) rfl)) (by decide) (by decide) (by decide) rfl (Nat.le_of_ble_eq_true rfl) (Nat.le_of_ble_eq_true rfl) ?_
  intro h1 b3 c3 hb3 E1 A3 X1
  have g3 : n0 ≤ b3 := by rw [hb3]; exact O.1 ▸ O.2.1
  replace O := O.ext E1
  have ne13 : b1 ≠ b3 := own_ne A1.lt hb3
  replace A1 := A1.ext E1
  have ne23 : b2 ≠ b3 := own_ne A2.lt hb3
  replace A2 := A2.ext E1
  replace A3 : Arv Z _ b3 c3 .int 3 (List.replicate 3 (.int 0)) (.int 0) := A3
  clear E1 X1
  refine r_dup 220 at_219 rfl rfl ?_
  refine r_iconst 0 221 at_220 rfl rfl ?_
  refine r_iload 223 at_221 rfl rfl ?_
  refine r_iastore 0 224 at_223 rfl A3 (by decide) (by decide) (by decide) (by simp) g3 ?_
  intro h' W1 A3
  replace O := O.wr W1 g3
  replace A1 := A1.other W1 ne13
  replace A2 := A2.other W1 ne23
  clear W1
  refine r_dup 225 at_224 rfl rfl ?_
  refine r_iconst 1 226 at_225 rfl rfl ?_
  refine r_iload 228 at_226 rfl rfl ?_
  refine r_iastore 1 229 at_228 rfl A3 (by decide) (by decide) (by decide) (by simp) g3 ?_
  intro h' W1 A3
  replace O := O.wr W1 g3
  replace A1 := A1.other W1 ne13
  replace A2 := A2.other W1 ne23
  clear W1
  refine r_dup 230 at_229 rfl rfl ?_
  refine r_iconst 2 231 at_230 rfl rfl ?_
  refine r_iload 233 at_231 rfl rfl ?_
  refine r_iastore 2 234 at_233 rfl A3 (by decide) (by decide) (by decide) (by simp) g3 ?_
  intro h' W1 A3
  replace O := O.wr W1 g3
  replace A1 := A1.other W1 ne13
  replace A2 := A2.other W1 ne23
  clear W1
  replace A3 : Arv Z _ b3 c3 .int 3 [.int n0', .int n1', .int n2'] (.int 0) := A3
  refine r_astore 236 at_234 rfl rfl ?_
  refine r_new 239 at_236 rfl (hw _ (List.mem_of_getElem? (i := 12) rfl)) (hw _ (List.mem_of_getElem? (i := 13) rfl)) (hw _ (List.mem_of_getElem? (i := 14) rfl)) (Nat.le_of_ble_eq_true rfl) (Nat.le_of_ble_eq_true rfl) ?_
  intro h1 a ha E1 X1 D1
  have ga : n0 ≤ a := by rw [ha]; exact O.1 ▸ O.2.1
  have na1 : b1 ≠ a := own_ne A1.lt ha
  replace A1 := A1.ext E1
  have na2 : b2 ≠ a := own_ne A2.lt ha
  replace A2 := A2.ext E1
  have na3 : b3 ≠ a := own_ne A3.lt ha
  replace A3 := A3.ext E1
  refine r_dup 240 at_239 rfl rfl ?_
  refine r_aload 242 at_240 rfl rfl ?_
  refine r_aload 244 at_242 rfl rfl ?_
  refine r_iload 246 at_244 rfl rfl ?_
  refine r_iload 248 at_246 rfl rfl ?_
  refine r_special 251 at_248 rfl (rm_ini12 l Z a0 hw h1 n0 a b2 b3 c3 n0' n1' n2' A3 (D1 (Or.inr (hw _ (List.mem_of_getElem? (i := 22) rfl))) (ty := (.array .int)) (by decide)) (D1 (Or.inr (hw _ (List.mem_of_getElem? (i := 24) rfl))) (ty := (.array .int)) (by decide)) (D1 (Or.inr (hw _ (List.mem_of_getElem? (i := 26) rfl))) (ty := .int) (by decide)) (D1 (Or.inr (hw _ (List.mem_of_getElem? (i := 28) rfl))) (ty := .int) (by decide)) (D1 (Or.inr (hw _ (List.mem_of_getElem? (i := 30) rfl))) (ty := .int) (by decide)) X1 ga) (as1 := [.ref b2, .ref b3, .int 1, .int 2]) rfl rfl (hw _ (List.mem_of_getElem? (i := 15) rfl)) (hw _ (List.mem_of_getElem? (i := 16) rfl)) (hw _ (List.mem_of_getElem? (i := 14) rfl)) (hw _ (List.mem_of_getElem? (i := 17) rfl)) (by decide) (ps := [(.array .int), (.array .int), .int, .int]) (r' := none) (by decide +kernel) rfl rfl rfl (Nat.le_of_ble_eq_true rfl) (Nat.le_of_ble_eq_true rfl) (Nat.le_of_ble_eq_true rfl) (Nat.le_of_ble_eq_true rfl) ?_
  rintro v h2 ⟨rfl, K2, X2, G1, G2, G3, G4⟩
  replace A1 := A1.keep K2 (ninS na1 nin0)
  replace A2 := A2.keep K2 (ninS na2 nin0)
  replace A3 := A3.keep K2 (ninS na3 nin0)
  show Run _ _ _ _ _ _ _ _ _ _ _ _ _ _ [.ref a]
  refine r_astore 253 at_251 rfl rfl ?_
  refine r_aload 255 at_253 rfl rfl ?_
  refine r_aload 257 at_255 rfl rfl ?_
  refine r_virtual 260 at_257 rfl (rm_wt12 l Z a0 hw h2 n0 a b1 b2 b3 c1 c2 c3 w n0' n1' n2' k0 k1 k2 hk0 hk1 hk2 hn0 hn1 hn2 A1 A2 A3 G1 G2 G3 G4) (as1 := [.ref b1]) rfl (hw _ (List.mem_of_getElem? (i := 31) rfl)) (hw _ (List.mem_of_getElem? (i := 32) rfl)) (hw _ (List.mem_of_getElem? (i := 34) rfl)) (hw _ (List.mem_of_getElem? (i := 33) rfl)) (hw _ (List.mem_of_getElem? (i := 14) rfl)) (hw _ (List.mem_of_getElem? (i := 35) rfl)) (by decide) (ps := [(.array .double)]) (r' := (some .double)) (by decide +kernel) (X2) rfl rfl rfl (Nat.le_of_ble_eq_true rfl) (Nat.le_of_ble_eq_true rfl) (Nat.le_of_ble_eq_true rfl) (Nat.le_of_ble_eq_true rfl) (fun s args hZ => notFace_of_selects (args := args) (mvT hZ (hw _ (List.mem_of_getElem? (i := 34) rfl)))) ?_
  rintro v h3 ⟨rfl, -⟩
  show Run _ _ _ _ _ _ _ _ _ _ _ _ _ _ [.double (FP.l2d ((0 : Int64) + (n1'.toInt64 * (own_f w (Int32.ofNat k1)).toInt64)))]
  refine r_dstore 262 at_260 rfl rfl ?_
  refine r_lconst 0 263 at_262 rfl rfl ?_
  refine r_lstore 265 at_263 rfl rfl ?_
  refine r_iload 267 at_265 rfl rfl ?_
  refine r_if_gt 292 270 at_267 (by decide) rfl (fun q267 => ?_) (fun q267 => absurd q267 (by decide))
  refine r_iload 294 at_292 rfl rfl ?_
  refine r_iconst 1 295 at_294 rfl rfl ?_
  refine r_icmp_gt 320 298 at_295 (by decide) rfl (fun q295 => absurd q295 (by decide)) (fun q295 => ?_)
  refine r_iconst 1 299 at_298 rfl rfl ?_
  refine r_iload 301 at_299 rfl rfl ?_
  refine r_icmp_ge 320 304 at_301 (by decide) rfl (fun q301 => absurd q301 (by decide)) (fun q301 => ?_)
  refine r_lload 306 at_304 rfl rfl ?_
  refine r_iload 308 at_306 rfl rfl ?_
  refine r_i2l 309 at_308 rfl ?_
  refine r_lloadN 310 at_309 rfl rfl ?_
  refine r_iload 312 at_310 rfl rfl ?_
  refine r_static 315 at_312 rfl (rm_f l Z a0 hw _ n0 w (Int32.ofNat k1)) (hw _ (List.mem_of_getElem? (i := 6) rfl)) (hw _ (List.mem_of_getElem? (i := 7) rfl)) (hw _ (List.mem_of_getElem? (i := 8) rfl)) (hw _ (List.mem_of_getElem? (i := 9) rfl)) (by decide) (ps := [.long, .int]) (r' := (some .int)) (by decide +kernel) rfl rfl rfl (Nat.le_of_ble_eq_true rfl) (Nat.le_of_ble_eq_true rfl) (Nat.le_of_ble_eq_true rfl) (Nat.le_of_ble_eq_true rfl) ?_
  rintro v h' ⟨rfl, rfl⟩
  show Run _ _ _ _ _ _ _ _ _ _ _ _ _ _ [.int (own_f w (Int32.ofNat k1)), .long n1'.toInt64, .long (0 : Int64)]
  refine r_i2l 316 at_315 rfl ?_
  refine r_lmul 317 at_316 rfl ?_
  refine r_ladd 318 at_317 rfl ?_
  refine r_lstore 320 at_318 rfl rfl ?_
  refine r_iload 322 at_320 rfl rfl ?_
  refine r_iconst 2 323 at_322 rfl rfl ?_
  refine r_icmp_gt 348 326 at_323 (by decide) rfl (fun q323 => absurd q323 (by decide)) (fun q323 => ?_)
  refine r_iconst 2 327 at_326 rfl rfl ?_
  refine r_iload 329 at_327 rfl rfl ?_
  refine r_icmp_ge 348 332 at_329 (by decide) rfl (fun q329 => ?_) (fun q329 => absurd q329 (by decide))
  refine r_dload 350 at_348 rfl rfl ?_
  refine r_lload 352 at_350 rfl rfl ?_
  refine r_l2d _ 353 at_352 rfl rfl ?_
  refine r_dcmp 0 354 at_353 rfl (dcmpV_self (nn_w rfl) _) ?_
  refine r_if_ne 361 357 at_354 (by decide) rfl (fun q354 => absurd q354 (by decide)) (fun q354 => ?_)
  refine r_iconst 1 358 at_357 rfl rfl ?_
  refine r_goto 362 at_358 (by decide) ?_
  exact r_retN _ at_362 rfl (by simp) rfl (Nat.le_of_ble_eq_true rfl) (Nat.le_of_ble_eq_true rfl) (⟨rfl, trivial⟩)
set_option maxRecDepth 65536 in
set_option maxHeartbeats 40000000 in
theorem run_130_13 (l : Launch) (Z : State) (a0 : Array Value) (hw : ∀ d ∈ tables_1, d.before a0 Z = true) (h : Heap) (n0 : Nat) (O : Old Z n0 h) (i0 i1 i2 i4 mm : Int32) (w : Int64) (n0' n1' n2' : Int32) (k0 k1 k2 : Nat) (hk0 : k0 < 6) (hk1 : k1 < 6) (hk2 : k2 < 6) (hn0 : 1 ≤ n0'.toInt) (hn1 : 1 ≤ n1'.toInt) (hn2 : 1 ≤ n2'.toInt) : Run l Z x code maxLocals ret room_1 n0 (fun v h' => v = some (.int 1) ∧ True) h 0 0 130 [.val (.int i0), .val (.int i1), .val (.int i2), .val (.long w), .second, .val (.int i4), .val (.int n0'), .val (.int n1'), .val (.int n2'), .val (.int mm), .val (.int 1), .val (.int 3), .val (.int (Int32.ofNat k0)), .val (.int (Int32.ofNat k1)), .val (.int (Int32.ofNat k2)), .unset, .unset, .unset, .unset, .unset, .unset, .unset, .unset] [] := by
  refine r_bipush 6 132 at_130 rfl rfl ?_
  refine r_newarray 6 "[D" 134 at_132 rfl (hw _ (List.mem_of_getElem? (i := 5) rfl)) (by decide) (by decide) (by decide) rfl (Nat.le_of_ble_eq_true rfl) (Nat.le_of_ble_eq_true rfl) ?_
  intro h1 b1 c1 hb1 E1 A1 X1
  have g1 : n0 ≤ b1 := by rw [hb1]; exact O.1 ▸ O.2.1
  replace O := O.ext E1
  replace A1 : Arv Z _ b1 c1 .double 6 (List.replicate 6 (.double 0)) (.double 0) := A1
  clear E1 X1
  refine r_astore 136 at_134 rfl rfl ?_
  refine r_aload 138 at_136 rfl rfl ?_
  refine r_iconst 0 139 at_138 rfl rfl ?_
  refine r_lloadN 140 at_139 rfl rfl ?_
  refine r_iconst 0 141 at_140 rfl rfl ?_
  refine r_static 144 at_141 rfl (rm_f l Z a0 hw _ n0 w 0) (hw _ (List.mem_of_getElem? (i := 6) rfl)) (hw _ (List.mem_of_getElem? (i := 7) rfl)) (hw _ (List.mem_of_getElem? (i := 8) rfl)) (hw _ (List.mem_of_getElem? (i := 9) rfl)) (by decide) (ps := [.long, .int]) (r' := (some .int)) (by decide +kernel) rfl rfl rfl (Nat.le_of_ble_eq_true rfl) (Nat.le_of_ble_eq_true rfl) (Nat.le_of_ble_eq_true rfl) (Nat.le_of_ble_eq_true rfl) ?_
  rintro v h' ⟨rfl, rfl⟩
  show Run _ _ _ _ _ _ _ _ _ _ _ _ _ _ [.int (own_f w 0), .int 0, .ref b1]
  refine r_i2d (FP.l2d (own_f w 0).toInt64) 145 at_144 rfl (i2d_w _) ?_
  refine r_dastore 0 146 at_145 rfl A1 (by decide) (by decide) (by decide) (by simp) g1 ?_
  intro h' W1 A1
  replace O := O.wr W1 g1
  clear W1
  refine r_aload 148 at_146 rfl rfl ?_
  refine r_iconst 1 149 at_148 rfl rfl ?_
  refine r_lloadN 150 at_149 rfl rfl ?_
  refine r_iconst 1 151 at_150 rfl rfl ?_
  refine r_static 154 at_151 rfl (rm_f l Z a0 hw _ n0 w 1) (hw _ (List.mem_of_getElem? (i := 6) rfl)) (hw _ (List.mem_of_getElem? (i := 7) rfl)) (hw _ (List.mem_of_getElem? (i := 8) rfl)) (hw _ (List.mem_of_getElem? (i := 9) rfl)) (by decide) (ps := [.long, .int]) (r' := (some .int)) (by decide +kernel) rfl rfl rfl (Nat.le_of_ble_eq_true rfl) (Nat.le_of_ble_eq_true rfl) (Nat.le_of_ble_eq_true rfl) (Nat.le_of_ble_eq_true rfl) ?_
  rintro v h' ⟨rfl, rfl⟩
  show Run _ _ _ _ _ _ _ _ _ _ _ _ _ _ [.int (own_f w 1), .int 1, .ref b1]
  refine r_i2d (FP.l2d (own_f w 1).toInt64) 155 at_154 rfl (i2d_w _) ?_
  refine r_dastore 1 156 at_155 rfl A1 (by decide) (by decide) (by decide) (by simp) g1 ?_
  intro h' W1 A1
  replace O := O.wr W1 g1
  clear W1
  refine r_aload 158 at_156 rfl rfl ?_
  refine r_iconst 2 159 at_158 rfl rfl ?_
  refine r_lloadN 160 at_159 rfl rfl ?_
  refine r_iconst 2 161 at_160 rfl rfl ?_
  refine r_static 164 at_161 rfl (rm_f l Z a0 hw _ n0 w 2) (hw _ (List.mem_of_getElem? (i := 6) rfl)) (hw _ (List.mem_of_getElem? (i := 7) rfl)) (hw _ (List.mem_of_getElem? (i := 8) rfl)) (hw _ (List.mem_of_getElem? (i := 9) rfl)) (by decide) (ps := [.long, .int]) (r' := (some .int)) (by decide +kernel) rfl rfl rfl (Nat.le_of_ble_eq_true rfl) (Nat.le_of_ble_eq_true rfl) (Nat.le_of_ble_eq_true rfl) (Nat.le_of_ble_eq_true rfl) ?_
  rintro v h' ⟨rfl, rfl⟩
  show Run _ _ _ _ _ _ _ _ _ _ _ _ _ _ [.int (own_f w 2), .int 2, .ref b1]
  refine r_i2d (FP.l2d (own_f w 2).toInt64) 165 at_164 rfl (i2d_w _) ?_
  refine r_dastore 2 166 at_165 rfl A1 (by decide) (by decide) (by decide) (by simp) g1 ?_
  intro h' W1 A1
  replace O := O.wr W1 g1
  clear W1
  refine r_aload 168 at_166 rfl rfl ?_
  refine r_iconst 3 169 at_168 rfl rfl ?_
  refine r_lloadN 170 at_169 rfl rfl ?_
  refine r_iconst 3 171 at_170 rfl rfl ?_
  refine r_static 174 at_171 rfl (rm_f l Z a0 hw _ n0 w 3) (hw _ (List.mem_of_getElem? (i := 6) rfl)) (hw _ (List.mem_of_getElem? (i := 7) rfl)) (hw _ (List.mem_of_getElem? (i := 8) rfl)) (hw _ (List.mem_of_getElem? (i := 9) rfl)) (by decide) (ps := [.long, .int]) (r' := (some .int)) (by decide +kernel) rfl rfl rfl (Nat.le_of_ble_eq_true rfl) (Nat.le_of_ble_eq_true rfl) (Nat.le_of_ble_eq_true rfl) (Nat.le_of_ble_eq_true rfl) ?_
  rintro v h' ⟨rfl, rfl⟩
  show Run _ _ _ _ _ _ _ _ _ _ _ _ _ _ [.int (own_f w 3), .int 3, .ref b1]
  refine r_i2d (FP.l2d (own_f w 3).toInt64) 175 at_174 rfl (i2d_w _) ?_
  refine r_dastore 3 176 at_175 rfl A1 (by decide) (by decide) (by decide) (by simp) g1 ?_
  intro h' W1 A1
  replace O := O.wr W1 g1
  clear W1
  refine r_aload 178 at_176 rfl rfl ?_
  refine r_iconst 4 179 at_178 rfl rfl ?_
  refine r_lloadN 180 at_179 rfl rfl ?_
  refine r_iconst 4 181 at_180 rfl rfl ?_
  refine r_static 184 at_181 rfl (rm_f l Z a0 hw _ n0 w 4) (hw _ (List.mem_of_getElem? (i := 6) rfl)) (hw _ (List.mem_of_getElem? (i := 7) rfl)) (hw _ (List.mem_of_getElem? (i := 8) rfl)) (hw _ (List.mem_of_getElem? (i := 9) rfl)) (by decide) (ps := [.long, .int]) (r' := (some .int)) (by decide +kernel) rfl rfl rfl (Nat.le_of_ble_eq_true rfl) (Nat.le_of_ble_eq_true rfl) (Nat.le_of_ble_eq_true rfl) (Nat.le_of_ble_eq_true rfl) ?_
  rintro v h' ⟨rfl, rfl⟩
  show Run _ _ _ _ _ _ _ _ _ _ _ _ _ _ [.int (own_f w 4), .int 4, .ref b1]
  refine r_i2d (FP.l2d (own_f w 4).toInt64) 185 at_184 rfl (i2d_w _) ?_
  refine r_dastore 4 186 at_185 rfl A1 (by decide) (by decide) (by decide) (by simp) g1 ?_
  intro h' W1 A1
  replace O := O.wr W1 g1
  clear W1
  refine r_aload 188 at_186 rfl rfl ?_
  refine r_iconst 5 189 at_188 rfl rfl ?_
  refine r_lloadN 190 at_189 rfl rfl ?_
  refine r_iconst 5 191 at_190 rfl rfl ?_
  refine r_static 194 at_191 rfl (rm_f l Z a0 hw _ n0 w 5) (hw _ (List.mem_of_getElem? (i := 6) rfl)) (hw _ (List.mem_of_getElem? (i := 7) rfl)) (hw _ (List.mem_of_getElem? (i := 8) rfl)) (hw _ (List.mem_of_getElem? (i := 9) rfl)) (by decide) (ps := [.long, .int]) (r' := (some .int)) (by decide +kernel) rfl rfl rfl (Nat.le_of_ble_eq_true rfl) (Nat.le_of_ble_eq_true rfl) (Nat.le_of_ble_eq_true rfl) (Nat.le_of_ble_eq_true rfl) ?_
  rintro v h' ⟨rfl, rfl⟩
  show Run _ _ _ _ _ _ _ _ _ _ _ _ _ _ [.int (own_f w 5), .int 5, .ref b1]
  refine r_i2d (FP.l2d (own_f w 5).toInt64) 195 at_194 rfl (i2d_w _) ?_
  refine r_dastore 5 196 at_195 rfl A1 (by decide) (by decide) (by decide) (by simp) g1 ?_
  intro h' W1 A1
  replace O := O.wr W1 g1
  clear W1
  replace A1 : Arv Z _ b1 c1 .double 6 (own_W w) (.double 0) := A1
  refine r_iconst 3 197 at_196 rfl rfl ?_
  refine r_newarray 3 "[I" 199 at_197 rfl (hw _ (List.mem_of_getElem? (i := 11) rfl)) (by decide) (by decide) (by decide) rfl (Nat.le_of_ble_eq_true rfl) (Nat.le_of_ble_eq_true rfl) ?_
  intro h1 b2 c2 hb2 E1 A2 X1
  have g2 : n0 ≤ b2 := by rw [hb2]; exact O.1 ▸ O.2.1
  replace O := O.ext E1
  have ne12 : b1 ≠ b2 := own_ne A1.lt hb2
  replace A1 := A1.ext E1
  replace A2 : Arv Z _ b2 c2 .int 3 (List.replicate 3 (.int 0)) (.int 0) := A2
  clear E1 X1
  refine r_dup 200 at_199 rfl rfl ?_
  refine r_iconst 0 201 at_200 rfl rfl ?_
  refine r_iload 203 at_201 rfl rfl ?_
  refine r_iastore 0 204 at_203 rfl A2 (by decide) (by decide) (by decide) (by simp) g2 ?_
  intro h' W1 A2
  replace O := O.wr W1 g2
  replace A1 := A1.other W1 ne12
  clear W1
  refine r_dup 205 at_204 rfl rfl ?_
  refine r_iconst 1 206 at_205 rfl rfl ?_
  refine r_iload 208 at_206 rfl rfl ?_
  refine r_iastore 1 209 at_208 rfl A2 (by decide) (by decide) (by decide) (by simp) g2 ?_
  intro h' W1 A2
  replace O := O.wr W1 g2
  replace A1 := A1.other W1 ne12
  clear W1
  refine r_dup 210 at_209 rfl rfl ?_
  refine r_iconst 2 211 at_210 rfl rfl ?_
  refine r_iload 213 at_211 rfl rfl ?_
  refine r_iastore 2 214 at_213 rfl A2 (by decide) (by decide) (by decide) (by simp) g2 ?_
  intro h' W1 A2
  replace O := O.wr W1 g2
  replace A1 := A1.other W1 ne12
  clear W1
  replace A2 : Arv Z _ b2 c2 .int 3 [.int (Int32.ofNat k0), .int (Int32.ofNat k1), .int (Int32.ofNat k2)] (.int 0) := A2
  refine r_astore 216 at_214 rfl rfl ?_
  refine r_iconst 3 217 at_216 rfl rfl ?_
  refine r_newarray 3 "[I" 219 at_217 rfl (hw _ (List.mem_of_getElem? (i := 11) rfl)) (by decide) (by decide) (by decide) rfl (Nat.le_of_ble_eq_true rfl) (Nat.le_of_ble_eq_true rfl) ?_
  intro h1 b3 c3 hb3 E1 A3 X1
  have g3 : n0 ≤ b3 := by rw [hb3]; exact O.1 ▸ O.2.1
  replace O := O.ext E1
  have ne13 : b1 ≠ b3 := own_ne A1.lt hb3
  replace A1 := A1.ext E1
  have ne23 : b2 ≠ b3 := own_ne A2.lt hb3
  replace A2 := A2.ext E1
  replace A3 : Arv Z _ b3 c3 .int 3 (List.replicate 3 (.int 0)) (.int 0) := A3
  clear E1 X1
  refine r_dup 220 at_219 rfl rfl ?_
  refine r_iconst 0 221 at_220 rfl rfl ?_
  refine r_iload 223 at_221 rfl rfl ?_
  refine r_iastore 0 224 at_223 rfl A3 (by decide) (by decide) (by decide) (by simp) g3 ?_
  intro h' W1 A3
  replace O := O.wr W1 g3
  replace A1 := A1.other W1 ne13
  replace A2 := A2.other W1 ne23
  clear W1
  refine r_dup 225 at_224 rfl rfl ?_
  refine r_iconst 1 226 at_225 rfl rfl ?_
  refine r_iload 228 at_226 rfl rfl ?_
  refine r_iastore 1 229 at_228 rfl A3 (by decide) (by decide) (by decide) (by simp) g3 ?_
  intro h' W1 A3
  replace O := O.wr W1 g3
  replace A1 := A1.other W1 ne13
  replace A2 := A2.other W1 ne23
  clear W1
  refine r_dup 230 at_229 rfl rfl ?_
  refine r_iconst 2 231 at_230 rfl rfl ?_
  refine r_iload 233 at_231 rfl rfl ?_
  refine r_iastore 2 234 at_233 rfl A3 (by decide) (by decide) (by decide) (by simp) g3 ?_
  intro h' W1 A3
  replace O := O.wr W1 g3
  replace A1 := A1.other W1 ne13
  replace A2 := A2.other W1 ne23
  clear W1
  replace A3 : Arv Z _ b3 c3 .int 3 [.int n0', .int n1', .int n2'] (.int 0) := A3
  refine r_astore 236 at_234 rfl rfl ?_
  refine r_new 239 at_236 rfl (hw _ (List.mem_of_getElem? (i := 12) rfl)) (hw _ (List.mem_of_getElem? (i := 13) rfl)) (hw _ (List.mem_of_getElem? (i := 14) rfl)) (Nat.le_of_ble_eq_true rfl) (Nat.le_of_ble_eq_true rfl) ?_
  intro h1 a ha E1 X1 D1
  have ga : n0 ≤ a := by rw [ha]; exact O.1 ▸ O.2.1
  have na1 : b1 ≠ a := own_ne A1.lt ha
  replace A1 := A1.ext E1
  have na2 : b2 ≠ a := own_ne A2.lt ha
  replace A2 := A2.ext E1
  have na3 : b3 ≠ a := own_ne A3.lt ha
  replace A3 := A3.ext E1
  refine r_dup 240 at_239 rfl rfl ?_
  refine r_aload 242 at_240 rfl rfl ?_
  refine r_aload 244 at_242 rfl rfl ?_
  refine r_iload 246 at_244 rfl rfl ?_
  refine r_iload 248 at_246 rfl rfl ?_
  refine r_special 251 at_248 rfl (rm_ini13 l Z a0 hw h1 n0 a b2 b3 c3 n0' n1' n2' A3 (D1 (Or.inr (hw _ (List.mem_of_getElem? (i := 22) rfl))) (ty := (.array .int)) (by decide)) (D1 (Or.inr (hw _ (List.mem_of_getElem? (i := 24) rfl))) (ty := (.array .int)) (by decide)) (D1 (Or.inr (hw _ (List.mem_of_getElem? (i := 26) rfl))) (ty := .int) (by decide)) (D1 (Or.inr (hw _ (List.mem_of_getElem? (i := 28) rfl))) (ty := .int) (by decide)) (D1 (Or.inr (hw _ (List.mem_of_getElem? (i := 30) rfl))) (ty := .int) (by decide)) X1 ga) (as1 := [.ref b2, .ref b3, .int 1, .int 3]) rfl rfl (hw _ (List.mem_of_getElem? (i := 15) rfl)) (hw _ (List.mem_of_getElem? (i := 16) rfl)) (hw _ (List.mem_of_getElem? (i := 14) rfl)) (hw _ (List.mem_of_getElem? (i := 17) rfl)) (by decide) (ps := [(.array .int), (.array .int), .int, .int]) (r' := none) (by decide +kernel) rfl rfl rfl (Nat.le_of_ble_eq_true rfl) (Nat.le_of_ble_eq_true rfl) (Nat.le_of_ble_eq_true rfl) (Nat.le_of_ble_eq_true rfl) ?_
  rintro v h2 ⟨rfl, K2, X2, G1, G2, G3, G4⟩
  replace A1 := A1.keep K2 (ninS na1 nin0)
  replace A2 := A2.keep K2 (ninS na2 nin0)
  replace A3 := A3.keep K2 (ninS na3 nin0)
  show Run _ _ _ _ _ _ _ _ _ _ _ _ _ _ [.ref a]
  refine r_astore 253 at_251 rfl rfl ?_
  refine r_aload 255 at_253 rfl rfl ?_
  refine r_aload 257 at_255 rfl rfl ?_
  refine r_virtual 260 at_257 rfl (rm_wt13 l Z a0 hw h2 n0 a b1 b2 b3 c1 c2 c3 w n0' n1' n2' k0 k1 k2 hk0 hk1 hk2 hn0 hn1 hn2 A1 A2 A3 G1 G2 G3 G4) (as1 := [.ref b1]) rfl (hw _ (List.mem_of_getElem? (i := 31) rfl)) (hw _ (List.mem_of_getElem? (i := 32) rfl)) (hw _ (List.mem_of_getElem? (i := 34) rfl)) (hw _ (List.mem_of_getElem? (i := 33) rfl)) (hw _ (List.mem_of_getElem? (i := 14) rfl)) (hw _ (List.mem_of_getElem? (i := 35) rfl)) (by decide) (ps := [(.array .double)]) (r' := (some .double)) (by decide +kernel) (X2) rfl rfl rfl (Nat.le_of_ble_eq_true rfl) (Nat.le_of_ble_eq_true rfl) (Nat.le_of_ble_eq_true rfl) (Nat.le_of_ble_eq_true rfl) (fun s args hZ => notFace_of_selects (args := args) (mvT hZ (hw _ (List.mem_of_getElem? (i := 34) rfl)))) ?_
  rintro v h3 ⟨rfl, -⟩
  show Run _ _ _ _ _ _ _ _ _ _ _ _ _ _ [.double (FP.l2d (((0 : Int64) + (n1'.toInt64 * (own_f w (Int32.ofNat k1)).toInt64)) + (n2'.toInt64 * (own_f w (Int32.ofNat k2)).toInt64)))]
  refine r_dstore 262 at_260 rfl rfl ?_
  refine r_lconst 0 263 at_262 rfl rfl ?_
  refine r_lstore 265 at_263 rfl rfl ?_
  refine r_iload 267 at_265 rfl rfl ?_
  refine r_if_gt 292 270 at_267 (by decide) rfl (fun q267 => ?_) (fun q267 => absurd q267 (by decide))
  refine r_iload 294 at_292 rfl rfl ?_
  refine r_iconst 1 295 at_294 rfl rfl ?_
  refine r_icmp_gt 320 298 at_295 (by decide) rfl (fun q295 => absurd q295 (by decide)) (fun q295 => ?_)
  refine r_iconst 1 299 at_298 rfl rfl ?_
  refine r_iload 301 at_299 rfl rfl ?_
  refine r_icmp_ge 320 304 at_301 (by decide) rfl (fun q301 => absurd q301 (by decide)) (fun q301 => ?_)
  refine r_lload 306 at_304 rfl rfl ?_
  refine r_iload 308 at_306 rfl rfl ?_
  refine r_i2l 309 at_308 rfl ?_
  refine r_lloadN 310 at_309 rfl rfl ?_
  refine r_iload 312 at_310 rfl rfl ?_
  refine r_static 315 at_312 rfl (rm_f l Z a0 hw _ n0 w (Int32.ofNat k1)) (hw _ (List.mem_of_getElem? (i := 6) rfl)) (hw _ (List.mem_of_getElem? (i := 7) rfl)) (hw _ (List.mem_of_getElem? (i := 8) rfl)) (hw _ (List.mem_of_getElem? (i := 9) rfl)) (by decide) (ps := [.long, .int]) (r' := (some .int)) (by decide +kernel) rfl rfl rfl (Nat.le_of_ble_eq_true rfl) (Nat.le_of_ble_eq_true rfl) (Nat.le_of_ble_eq_true rfl) (Nat.le_of_ble_eq_true rfl) ?_
  rintro v h' ⟨rfl, rfl⟩
  show Run _ _ _ _ _ _ _ _ _ _ _ _ _ _ [.int (own_f w (Int32.ofNat k1)), .long n1'.toInt64, .long (0 : Int64)]
  refine r_i2l 316 at_315 rfl ?_
  refine r_lmul 317 at_316 rfl ?_
  refine r_ladd 318 at_317 rfl ?_
  refine r_lstore 320 at_318 rfl rfl ?_
  refine r_iload 322 at_320 rfl rfl ?_
  refine r_iconst 2 323 at_322 rfl rfl ?_
  refine r_icmp_gt 348 326 at_323 (by decide) rfl (fun q323 => absurd q323 (by decide)) (fun q323 => ?_)
  refine r_iconst 2 327 at_326 rfl rfl ?_
  refine r_iload 329 at_327 rfl rfl ?_
  refine r_icmp_ge 348 332 at_329 (by decide) rfl (fun q329 => absurd q329 (by decide)) (fun q329 => ?_)
  refine r_lload 334 at_332 rfl rfl ?_
  refine r_iload 336 at_334 rfl rfl ?_
  refine r_i2l 337 at_336 rfl ?_
  refine r_lloadN 338 at_337 rfl rfl ?_
  refine r_iload 340 at_338 rfl rfl ?_
  refine r_static 343 at_340 rfl (rm_f l Z a0 hw _ n0 w (Int32.ofNat k2)) (hw _ (List.mem_of_getElem? (i := 6) rfl)) (hw _ (List.mem_of_getElem? (i := 7) rfl)) (hw _ (List.mem_of_getElem? (i := 8) rfl)) (hw _ (List.mem_of_getElem? (i := 9) rfl)) (by decide) (ps := [.long, .int]) (r' := (some .int)) (by decide +kernel) rfl rfl rfl (Nat.le_of_ble_eq_true rfl) (Nat.le_of_ble_eq_true rfl) (Nat.le_of_ble_eq_true rfl) (Nat.le_of_ble_eq_true rfl) ?_
  rintro v h' ⟨rfl, rfl⟩
  show Run _ _ _ _ _ _ _ _ _ _ _ _ _ _ [.int (own_f w (Int32.ofNat k2)), .long n2'.toInt64, .long ((0 : Int64) + (n1'.toInt64 * (own_f w (Int32.ofNat k1)).toInt64))]
  refine r_i2l 344 at_343 rfl ?_
  refine r_lmul 345 at_344 rfl ?_
  refine r_ladd 346 at_345 rfl ?_
  refine r_lstore 348 at_346 rfl rfl ?_
  refine r_dload 350 at_348 rfl rfl ?_
  refine r_lload 352 at_350 rfl rfl ?_
  refine r_l2d _ 353 at_352 rfl rfl ?_
  refine r_dcmp 0 354 at_353 rfl (dcmpV_self (nn_w rfl) _) ?_
  refine r_if_ne 361 357 at_354 (by decide) rfl (fun q354 => absurd q354 (by decide)) (fun q354 => ?_)
  refine r_iconst 1 358 at_357 rfl rfl ?_
  refine r_goto 362 at_358 (by decide) ?_
  exact r_retN _ at_362 rfl (by simp) rfl (Nat.le_of_ble_eq_true rfl) (Nat.le_of_ble_eq_true rfl) (⟨rfl, trivial⟩)
set_option maxRecDepth 65536 in
set_option maxHeartbeats 40000000 in
theorem run_130_23 (l : Launch) (Z : State) (a0 : Array Value) (hw : ∀ d ∈ tables_1, d.before a0 Z = true) (h : Heap) (n0 : Nat) (O : Old Z n0 h) (i0 i1 i2 i4 mm : Int32) (w : Int64) (n0' n1' n2' : Int32) (k0 k1 k2 : Nat) (hk0 : k0 < 6) (hk1 : k1 < 6) (hk2 : k2 < 6) (hn0 : 1 ≤ n0'.toInt) (hn1 : 1 ≤ n1'.toInt) (hn2 : 1 ≤ n2'.toInt) : Run l Z x code maxLocals ret room_1 n0 (fun v h' => v = some (.int 1) ∧ True) h 0 0 130 [.val (.int i0), .val (.int i1), .val (.int i2), .val (.long w), .second, .val (.int i4), .val (.int n0'), .val (.int n1'), .val (.int n2'), .val (.int mm), .val (.int 2), .val (.int 3), .val (.int (Int32.ofNat k0)), .val (.int (Int32.ofNat k1)), .val (.int (Int32.ofNat k2)), .unset, .unset, .unset, .unset, .unset, .unset, .unset, .unset] [] := by
  refine r_bipush 6 132 at_130 rfl rfl ?_
  refine r_newarray 6 "[D" 134 at_132 rfl (hw _ (List.mem_of_getElem? (i := 5) rfl)) (by decide) (by decide) (by decide) rfl (Nat.le_of_ble_eq_true rfl) (Nat.le_of_ble_eq_true rfl) ?_
  intro h1 b1 c1 hb1 E1 A1 X1
  have g1 : n0 ≤ b1 := by rw [hb1]; exact O.1 ▸ O.2.1
  replace O := O.ext E1
  replace A1 : Arv Z _ b1 c1 .double 6 (List.replicate 6 (.double 0)) (.double 0) := A1
  clear E1 X1
  refine r_astore 136 at_134 rfl rfl ?_
  refine r_aload 138 at_136 rfl rfl ?_
  refine r_iconst 0 139 at_138 rfl rfl ?_
  refine r_lloadN 140 at_139 rfl rfl ?_
  refine r_iconst 0 141 at_140 rfl rfl ?_
  refine r_static 144 at_141 rfl (rm_f l Z a0 hw _ n0 w 0) (hw _ (List.mem_of_getElem? (i := 6) rfl)) (hw _ (List.mem_of_getElem? (i := 7) rfl)) (hw _ (List.mem_of_getElem? (i := 8) rfl)) (hw _ (List.mem_of_getElem? (i := 9) rfl)) (by decide) (ps := [.long, .int]) (r' := (some .int)) (by decide +kernel) rfl rfl rfl (Nat.le_of_ble_eq_true rfl) (Nat.le_of_ble_eq_true rfl) (Nat.le_of_ble_eq_true rfl) (Nat.le_of_ble_eq_true rfl) ?_
  rintro v h' ⟨rfl, rfl⟩
  show Run _ _ _ _ _ _ _ _ _ _ _ _ _ _ [.int (own_f w 0), .int 0, .ref b1]
  refine r_i2d (FP.l2d (own_f w 0).toInt64) 145 at_144 rfl (i2d_w _) ?_
  refine r_dastore 0 146 at_145 rfl A1 (by decide) (by decide) (by decide) (by simp) g1 ?_
  intro h' W1 A1
  replace O := O.wr W1 g1
  clear W1
  refine r_aload 148 at_146 rfl rfl ?_
  refine r_iconst 1 149 at_148 rfl rfl ?_
  refine r_lloadN 150 at_149 rfl rfl ?_
  refine r_iconst 1 151 at_150 rfl rfl ?_
  refine r_static 154 at_151 rfl (rm_f l Z a0 hw _ n0 w 1) (hw _ (List.mem_of_getElem? (i := 6) rfl)) (hw _ (List.mem_of_getElem? (i := 7) rfl)) (hw _ (List.mem_of_getElem? (i := 8) rfl)) (hw _ (List.mem_of_getElem? (i := 9) rfl)) (by decide) (ps := [.long, .int]) (r' := (some .int)) (by decide +kernel) rfl rfl rfl (Nat.le_of_ble_eq_true rfl) (Nat.le_of_ble_eq_true rfl) (Nat.le_of_ble_eq_true rfl) (Nat.le_of_ble_eq_true rfl) ?_
  rintro v h' ⟨rfl, rfl⟩
  show Run _ _ _ _ _ _ _ _ _ _ _ _ _ _ [.int (own_f w 1), .int 1, .ref b1]
  refine r_i2d (FP.l2d (own_f w 1).toInt64) 155 at_154 rfl (i2d_w _) ?_
  refine r_dastore 1 156 at_155 rfl A1 (by decide) (by decide) (by decide) (by simp) g1 ?_
  intro h' W1 A1
  replace O := O.wr W1 g1
  clear W1
  refine r_aload 158 at_156 rfl rfl ?_
  refine r_iconst 2 159 at_158 rfl rfl ?_
  refine r_lloadN 160 at_159 rfl rfl ?_
  refine r_iconst 2 161 at_160 rfl rfl ?_
  refine r_static 164 at_161 rfl (rm_f l Z a0 hw _ n0 w 2) (hw _ (List.mem_of_getElem? (i := 6) rfl)) (hw _ (List.mem_of_getElem? (i := 7) rfl)) (hw _ (List.mem_of_getElem? (i := 8) rfl)) (hw _ (List.mem_of_getElem? (i := 9) rfl)) (by decide) (ps := [.long, .int]) (r' := (some .int)) (by decide +kernel) rfl rfl rfl (Nat.le_of_ble_eq_true rfl) (Nat.le_of_ble_eq_true rfl) (Nat.le_of_ble_eq_true rfl) (Nat.le_of_ble_eq_true rfl) ?_
  rintro v h' ⟨rfl, rfl⟩
  show Run _ _ _ _ _ _ _ _ _ _ _ _ _ _ [.int (own_f w 2), .int 2, .ref b1]
  refine r_i2d (FP.l2d (own_f w 2).toInt64) 165 at_164 rfl (i2d_w _) ?_
  refine r_dastore 2 166 at_165 rfl A1 (by decide) (by decide) (by decide) (by simp) g1 ?_
  intro h' W1 A1
  replace O := O.wr W1 g1
  clear W1
  refine r_aload 168 at_166 rfl rfl ?_
  refine r_iconst 3 169 at_168 rfl rfl ?_
  refine r_lloadN 170 at_169 rfl rfl ?_
  refine r_iconst 3 171 at_170 rfl rfl ?_
  refine r_static 174 at_171 rfl (rm_f l Z a0 hw _ n0 w 3) (hw _ (List.mem_of_getElem? (i := 6) rfl)) (hw _ (List.mem_of_getElem? (i := 7) rfl)) (hw _ (List.mem_of_getElem? (i := 8) rfl)) (hw _ (List.mem_of_getElem? (i := 9) rfl)) (by decide) (ps := [.long, .int]) (r' := (some .int)) (by decide +kernel) rfl rfl rfl (Nat.le_of_ble_eq_true rfl) (Nat.le_of_ble_eq_true rfl) (Nat.le_of_ble_eq_true rfl) (Nat.le_of_ble_eq_true rfl) ?_
  rintro v h' ⟨rfl, rfl⟩
  show Run _ _ _ _ _ _ _ _ _ _ _ _ _ _ [.int (own_f w 3), .int 3, .ref b1]
  refine r_i2d (FP.l2d (own_f w 3).toInt64) 175 at_174 rfl (i2d_w _) ?_
  refine r_dastore 3 176 at_175 rfl A1 (by decide) (by decide) (by decide) (by simp) g1 ?_
  intro h' W1 A1
  replace O := O.wr W1 g1
  clear W1
  refine r_aload 178 at_176 rfl rfl ?_
  refine r_iconst 4 179 at_178 rfl rfl ?_
  refine r_lloadN 180 at_179 rfl rfl ?_
  refine r_iconst 4 181 at_180 rfl rfl ?_
  refine r_static 184 at_181 rfl (rm_f l Z a0 hw _ n0 w 4) (hw _ (List.mem_of_getElem? (i := 6) rfl)) (hw _ (List.mem_of_getElem? (i := 7) rfl)) (hw _ (List.mem_of_getElem? (i := 8) rfl)) (hw _ (List.mem_of_getElem? (i := 9) rfl)) (by decide) (ps := [.long, .int]) (r' := (some .int)) (by decide +kernel) rfl rfl rfl (Nat.le_of_ble_eq_true rfl) (Nat.le_of_ble_eq_true rfl) (Nat.le_of_ble_eq_true rfl) (Nat.le_of_ble_eq_true rfl) ?_
  rintro v h' ⟨rfl, rfl⟩
  show Run _ _ _ _ _ _ _ _ _ _ _ _ _ _ [.int (own_f w 4), .int 4, .ref b1]
  refine r_i2d (FP.l2d (own_f w 4).toInt64) 185 at_184 rfl (i2d_w _) ?_
  refine r_dastore 4 186 at_185 rfl A1 (by decide) (by decide) (by decide) (by simp) g1 ?_
  intro h' W1 A1
  replace O := O.wr W1 g1
  clear W1
  refine r_aload 188 at_186 rfl rfl ?_
  refine r_iconst 5 189 at_188 rfl rfl ?_
  refine r_lloadN 190 at_189 rfl rfl ?_
  refine r_iconst 5 191 at_190 rfl rfl ?_
  refine r_static 194 at_191 rfl (rm_f l Z a0 hw _ n0 w 5) (hw _ (List.mem_of_getElem? (i := 6) rfl)) (hw _ (List.mem_of_getElem? (i := 7) rfl)) (hw _ (List.mem_of_getElem? (i := 8) rfl)) (hw _ (List.mem_of_getElem? (i := 9) rfl)) (by decide) (ps := [.long, .int]) (r' := (some .int)) (by decide +kernel) rfl rfl rfl (Nat.le_of_ble_eq_true rfl) (Nat.le_of_ble_eq_true rfl) (Nat.le_of_ble_eq_true rfl) (Nat.le_of_ble_eq_true rfl) ?_
  rintro v h' ⟨rfl, rfl⟩
  show Run _ _ _ _ _ _ _ _ _ _ _ _ _ _ [.int (own_f w 5), .int 5, .ref b1]
  refine r_i2d (FP.l2d (own_f w 5).toInt64) 195 at_194 rfl (i2d_w _) ?_
  refine r_dastore 5 196 at_195 rfl A1 (by decide) (by decide) (by decide) (by simp) g1 ?_
  intro h' W1 A1
  replace O := O.wr W1 g1
  clear W1
  replace A1 : Arv Z _ b1 c1 .double 6 (own_W w) (.double 0) := A1
  refine r_iconst 3 197 at_196 rfl rfl ?_
  refine r_newarray 3 "[I" 199 at_197 rfl (hw _ (List.mem_of_getElem? (i := 11) rfl)) (by decide) (by decide) (by decide) rfl (Nat.le_of_ble_eq_true rfl) (Nat.le_of_ble_eq_true rfl) ?_
  intro h1 b2 c2 hb2 E1 A2 X1
  have g2 : n0 ≤ b2 := by rw [hb2]; exact O.1 ▸ O.2.1
  replace O := O.ext E1
  have ne12 : b1 ≠ b2 := own_ne A1.lt hb2
  replace A1 := A1.ext E1
  replace A2 : Arv Z _ b2 c2 .int 3 (List.replicate 3 (.int 0)) (.int 0) := A2
  clear E1 X1
  refine r_dup 200 at_199 rfl rfl ?_
  refine r_iconst 0 201 at_200 rfl rfl ?_
  refine r_iload 203 at_201 rfl rfl ?_
  refine r_iastore 0 204 at_203 rfl A2 (by decide) (by decide) (by decide) (by simp) g2 ?_
  intro h' W1 A2
  replace O := O.wr W1 g2
  replace A1 := A1.other W1 ne12
  clear W1
  refine r_dup 205 at_204 rfl rfl ?_
  refine r_iconst 1 206 at_205 rfl rfl ?_
  refine r_iload 208 at_206 rfl rfl ?_
  refine r_iastore 1 209 at_208 rfl A2 (by decide) (by decide) (by decide) (by simp) g2 ?_
  intro h' W1 A2
  replace O := O.wr W1 g2
  replace A1 := A1.other W1 ne12
  clear W1
  refine r_dup 210 at_209 rfl rfl ?_
  refine r_iconst 2 211 at_210 rfl rfl ?_
  refine r_iload 213 at_211 rfl rfl ?_
  refine r_iastore 2 214 at_213 rfl A2 (by decide) (by decide) (by decide) (by simp) g2 ?_
  intro h' W1 A2
  replace O := O.wr W1 g2
  replace A1 := A1.other W1 ne12
  clear W1
  replace A2 : Arv Z _ b2 c2 .int 3 [.int (Int32.ofNat k0), .int (Int32.ofNat k1), .int (Int32.ofNat k2)] (.int 0) := A2
  refine r_astore 216 at_214 rfl rfl ?_
  refine r_iconst 3 217 at_216 rfl rfl ?_
  refine r_newarray 3 "[I" 219 at_217 rfl (hw _ (List.mem_of_getElem? (i := 11) rfl)) (by decide) (by decide) (by decide) rfl (Nat.le_of_ble_eq_true rfl) (Nat.le_of_ble_eq_true rfl) ?_
  intro h1 b3 c3 hb3 E1 A3 X1
  have g3 : n0 ≤ b3 := by rw [hb3]; exact O.1 ▸ O.2.1
  replace O := O.ext E1
  have ne13 : b1 ≠ b3 := own_ne A1.lt hb3
  replace A1 := A1.ext E1
  have ne23 : b2 ≠ b3 := own_ne A2.lt hb3
  replace A2 := A2.ext E1
  replace A3 : Arv Z _ b3 c3 .int 3 (List.replicate 3 (.int 0)) (.int 0) := A3
  clear E1 X1
  refine r_dup 220 at_219 rfl rfl ?_
  refine r_iconst 0 221 at_220 rfl rfl ?_
  refine r_iload 223 at_221 rfl rfl ?_
  refine r_iastore 0 224 at_223 rfl A3 (by decide) (by decide) (by decide) (by simp) g3 ?_
  intro h' W1 A3
  replace O := O.wr W1 g3
  replace A1 := A1.other W1 ne13
  replace A2 := A2.other W1 ne23
  clear W1
  refine r_dup 225 at_224 rfl rfl ?_
  refine r_iconst 1 226 at_225 rfl rfl ?_
  refine r_iload 228 at_226 rfl rfl ?_
  refine r_iastore 1 229 at_228 rfl A3 (by decide) (by decide) (by decide) (by simp) g3 ?_
  intro h' W1 A3
  replace O := O.wr W1 g3
  replace A1 := A1.other W1 ne13
  replace A2 := A2.other W1 ne23
  clear W1
  refine r_dup 230 at_229 rfl rfl ?_
  refine r_iconst 2 231 at_230 rfl rfl ?_
  refine r_iload 233 at_231 rfl rfl ?_
  refine r_iastore 2 234 at_233 rfl A3 (by decide) (by decide) (by decide) (by simp) g3 ?_
  intro h' W1 A3
  replace O := O.wr W1 g3
  replace A1 := A1.other W1 ne13
  replace A2 := A2.other W1 ne23
  clear W1
  replace A3 : Arv Z _ b3 c3 .int 3 [.int n0', .int n1', .int n2'] (.int 0) := A3
  refine r_astore 236 at_234 rfl rfl ?_
  refine r_new 239 at_236 rfl (hw _ (List.mem_of_getElem? (i := 12) rfl)) (hw _ (List.mem_of_getElem? (i := 13) rfl)) (hw _ (List.mem_of_getElem? (i := 14) rfl)) (Nat.le_of_ble_eq_true rfl) (Nat.le_of_ble_eq_true rfl) ?_
  intro h1 a ha E1 X1 D1
  have ga : n0 ≤ a := by rw [ha]; exact O.1 ▸ O.2.1
  have na1 : b1 ≠ a := own_ne A1.lt ha
  replace A1 := A1.ext E1
  have na2 : b2 ≠ a := own_ne A2.lt ha
  replace A2 := A2.ext E1
  have na3 : b3 ≠ a := own_ne A3.lt ha
  replace A3 := A3.ext E1
  refine r_dup 240 at_239 rfl rfl ?_
  refine r_aload 242 at_240 rfl rfl ?_
  refine r_aload 244 at_242 rfl rfl ?_
  refine r_iload 246 at_244 rfl rfl ?_
  refine r_iload 248 at_246 rfl rfl ?_
  refine r_special 251 at_248 rfl (rm_ini23 l Z a0 hw h1 n0 a b2 b3 c3 n0' n1' n2' A3 (D1 (Or.inr (hw _ (List.mem_of_getElem? (i := 22) rfl))) (ty := (.array .int)) (by decide)) (D1 (Or.inr (hw _ (List.mem_of_getElem? (i := 24) rfl))) (ty := (.array .int)) (by decide)) (D1 (Or.inr (hw _ (List.mem_of_getElem? (i := 26) rfl))) (ty := .int) (by decide)) (D1 (Or.inr (hw _ (List.mem_of_getElem? (i := 28) rfl))) (ty := .int) (by decide)) (D1 (Or.inr (hw _ (List.mem_of_getElem? (i := 30) rfl))) (ty := .int) (by decide)) X1 ga) (as1 := [.ref b2, .ref b3, .int 2, .int 3]) rfl rfl (hw _ (List.mem_of_getElem? (i := 15) rfl)) (hw _ (List.mem_of_getElem? (i := 16) rfl)) (hw _ (List.mem_of_getElem? (i := 14) rfl)) (hw _ (List.mem_of_getElem? (i := 17) rfl)) (by decide) (ps := [(.array .int), (.array .int), .int, .int]) (r' := none) (by decide +kernel) rfl rfl rfl (Nat.le_of_ble_eq_true rfl) (Nat.le_of_ble_eq_true rfl) (Nat.le_of_ble_eq_true rfl) (Nat.le_of_ble_eq_true rfl) ?_
  rintro v h2 ⟨rfl, K2, X2, G1, G2, G3, G4⟩
  replace A1 := A1.keep K2 (ninS na1 nin0)
  replace A2 := A2.keep K2 (ninS na2 nin0)
  replace A3 := A3.keep K2 (ninS na3 nin0)
  show Run _ _ _ _ _ _ _ _ _ _ _ _ _ _ [.ref a]
  refine r_astore 253 at_251 rfl rfl ?_
  refine r_aload 255 at_253 rfl rfl ?_
  refine r_aload 257 at_255 rfl rfl ?_
  refine r_virtual 260 at_257 rfl (rm_wt23 l Z a0 hw h2 n0 a b1 b2 b3 c1 c2 c3 w n0' n1' n2' k0 k1 k2 hk0 hk1 hk2 hn0 hn1 hn2 A1 A2 A3 G1 G2 G3 G4) (as1 := [.ref b1]) rfl (hw _ (List.mem_of_getElem? (i := 31) rfl)) (hw _ (List.mem_of_getElem? (i := 32) rfl)) (hw _ (List.mem_of_getElem? (i := 34) rfl)) (hw _ (List.mem_of_getElem? (i := 33) rfl)) (hw _ (List.mem_of_getElem? (i := 14) rfl)) (hw _ (List.mem_of_getElem? (i := 35) rfl)) (by decide) (ps := [(.array .double)]) (r' := (some .double)) (by decide +kernel) (X2) rfl rfl rfl (Nat.le_of_ble_eq_true rfl) (Nat.le_of_ble_eq_true rfl) (Nat.le_of_ble_eq_true rfl) (Nat.le_of_ble_eq_true rfl) (fun s args hZ => notFace_of_selects (args := args) (mvT hZ (hw _ (List.mem_of_getElem? (i := 34) rfl)))) ?_
  rintro v h3 ⟨rfl, -⟩
  show Run _ _ _ _ _ _ _ _ _ _ _ _ _ _ [.double (FP.l2d ((0 : Int64) + (n2'.toInt64 * (own_f w (Int32.ofNat k2)).toInt64)))]
  refine r_dstore 262 at_260 rfl rfl ?_
  refine r_lconst 0 263 at_262 rfl rfl ?_
  refine r_lstore 265 at_263 rfl rfl ?_
  refine r_iload 267 at_265 rfl rfl ?_
  refine r_if_gt 292 270 at_267 (by decide) rfl (fun q267 => ?_) (fun q267 => absurd q267 (by decide))
  refine r_iload 294 at_292 rfl rfl ?_
  refine r_iconst 1 295 at_294 rfl rfl ?_
  refine r_icmp_gt 320 298 at_295 (by decide) rfl (fun q295 => ?_) (fun q295 => absurd q295 (by decide))
  refine r_iload 322 at_320 rfl rfl ?_
  refine r_iconst 2 323 at_322 rfl rfl ?_
  refine r_icmp_gt 348 326 at_323 (by decide) rfl (fun q323 => absurd q323 (by decide)) (fun q323 => ?_)
  refine r_iconst 2 327 at_326 rfl rfl ?_
  refine r_iload 329 at_327 rfl rfl ?_
  refine r_icmp_ge 348 332 at_329 (by decide) rfl (fun q329 => absurd q329 (by decide)) (fun q329 => ?_)
  refine r_lload 334 at_332 rfl rfl ?_
  refine r_iload 336 at_334 rfl rfl ?_
  refine r_i2l 337 at_336 rfl ?_
  refine r_lloadN 338 at_337 rfl rfl ?_
  refine r_iload 340 at_338 rfl rfl ?_
  refine r_static 343 at_340 rfl (rm_f l Z a0 hw _ n0 w (Int32.ofNat k2)) (hw _ (List.mem_of_getElem? (i := 6) rfl)) (hw _ (List.mem_of_getElem? (i := 7) rfl)) (hw _ (List.mem_of_getElem? (i := 8) rfl)) (hw _ (List.mem_of_getElem? (i := 9) rfl)) (by decide) (ps := [.long, .int]) (r' := (some .int)) (by decide +kernel) rfl rfl rfl (Nat.le_of_ble_eq_true rfl) (Nat.le_of_ble_eq_true rfl) (Nat.le_of_ble_eq_true rfl) (Nat.le_of_ble_eq_true rfl) ?_
  rintro v h' ⟨rfl, rfl⟩
  show Run _ _ _ _ _ _ _ _ _ _ _ _ _ _ [.int (own_f w (Int32.ofNat k2)), .long n2'.toInt64, .long (0 : Int64)]
  refine r_i2l 344 at_343 rfl ?_
  refine r_lmul 345 at_344 rfl ?_
  refine r_ladd 346 at_345 rfl ?_
  refine r_lstore 348 at_346 rfl rfl ?_
  refine r_dload 350 at_348 rfl rfl ?_
  refine r_lload 352 at_350 rfl rfl ?_
  refine r_l2d _ 353 at_352 rfl rfl ?_
  refine r_dcmp 0 354 at_353 rfl (dcmpV_self (nn_w rfl) _) ?_
  refine r_if_ne 361 357 at_354 (by decide) rfl (fun q354 => absurd q354 (by decide)) (fun q354 => ?_)
  refine r_iconst 1 358 at_357 rfl rfl ?_
  refine r_goto 362 at_358 (by decide) ?_
  exact r_retN _ at_362 rfl (by simp) rfl (Nat.le_of_ble_eq_true rfl) (Nat.le_of_ble_eq_true rfl) (⟨rfl, trivial⟩)
theorem own_bit (x : Int32) : ∃ b : Nat, b < 2 ∧ x &&& 1 = Int32.ofNat b := own_nat (N := 2) (c_and x 1 (by decide)).1 (by have := (c_and x 1 (by decide)).2; have e : (1 : Int32).toInt = 1 := rfl; omega)
theorem own_k {a b : Nat} (ha : a < 4) (hb : b < 2) : Int32.ofNat a + 1 + Int32.ofNat b = Int32.ofNat (a + 1 + b) := by
  have q : ∀ a : Fin 4, ∀ b : Fin 2, Int32.ofNat a.val + 1 + Int32.ofNat b.val = Int32.ofNat (a.val + 1 + b.val) := by decide
  exact q ⟨a, ha⟩ ⟨b, hb⟩
theorem own_mod6 (x : Int32) : ∃ b : Nat, b < 6 ∧ (x &&& 255) % 6 = Int32.ofNat b := by
  have h0 := c_and x 255 (by decide)
  have h1 := c_iremV (x &&& 255) 6
  have e : (6 : Int32).toInt = 6 := rfl
  have q := h1.1 h0.1 (by decide)
  exact own_nat (N := 6) q.1 (by have := q.2.1; rw [e] at this; exact this)
set_option maxRecDepth 65536 in
set_option maxHeartbeats 40000000 in
theorem run_41_0 (l : Launch) (Z : State) (a0 : Array Value) (hw : ∀ d ∈ tables_1, d.before a0 Z = true) (h : Heap) (n0 : Nat) (O : Old Z n0 h) (i0 i1 i2 i4 : Int32) (w : Int64) (n0' n1' n2' : Int32) (hn0 : 1 ≤ n0'.toInt) (hn1 : 1 ≤ n1'.toInt) (hn2 : 1 ≤ n2'.toInt) : Run l Z x code maxLocals ret room_1 n0 (fun v h' => v = some (.int 1) ∧ True) h 0 0 41 [.val (.int i0), .val (.int i1), .val (.int i2), .val (.long w), .second, .val (.int i4), .val (.int n0'), .val (.int n1'), .val (.int n2'), .val (.int 0), .unset, .unset, .unset, .unset, .unset, .unset, .unset, .unset, .unset, .unset, .unset, .unset, .unset] [] := by
  refine r_iload 43 at_41 rfl rfl ?_
  refine r_iconst 3 44 at_43 rfl rfl ?_
  refine r_icmp_ge 51 47 at_44 (by decide) rfl (fun q44 => absurd q44 (by decide)) (fun q44 => ?_)
  refine r_iconst 0 48 at_47 rfl rfl ?_
  refine r_goto 62 at_48 (by decide) ?_
  refine r_istore 64 at_62 rfl rfl ?_
  refine r_iload 66 at_64 rfl rfl ?_
  refine r_iconst 3 67 at_66 rfl rfl ?_
  refine r_icmp_ge 77 70 at_67 (by decide) rfl (fun q67 => absurd q67 (by decide)) (fun q67 => ?_)
  refine r_iload 72 at_70 rfl rfl ?_
  refine r_iconst 1 73 at_72 rfl rfl ?_
  refine r_iadd 74 at_73 rfl ?_
  refine r_goto 91 at_74 (by decide) ?_
  rw [show (0 : Int32) + 1 = 1 from rfl]
  refine r_istore 93 at_91 rfl rfl ?_
  refine r_iload 95 at_93 rfl rfl ?_
  refine r_bipush 8 97 at_95 rfl rfl ?_
  refine r_iushr 98 at_97 rfl ?_
  refine r_iconst 1 99 at_98 rfl rfl ?_
  refine r_iand 100 at_99 rfl ?_
  obtain ⟨ka, hka, ea⟩ := own_bit (XT.ushr i4 8)
  rw [ea]
  refine r_istore 102 at_100 rfl rfl ?_
  refine r_iload 104 at_102 rfl rfl ?_
  refine r_iconst 1 105 at_104 rfl rfl ?_
  refine r_iadd 106 at_105 rfl ?_
  refine r_iload 108 at_106 rfl rfl ?_
  refine r_bipush 9 110 at_108 rfl rfl ?_
  refine r_iushr 111 at_110 rfl ?_
  refine r_iconst 1 112 at_111 rfl rfl ?_
  refine r_iand 113 at_112 rfl ?_
  refine r_iadd 114 at_113 rfl ?_
  obtain ⟨kb, hkb, eb⟩ := own_bit (XT.ushr i4 9)
  rw [eb, own_k (by omega) hkb]
  refine r_istore 116 at_114 rfl rfl ?_
  refine r_iload 118 at_116 rfl rfl ?_
  refine r_iconst 1 119 at_118 rfl rfl ?_
  refine r_iadd 120 at_119 rfl ?_
  refine r_iload 122 at_120 rfl rfl ?_
  refine r_bipush 10 124 at_122 rfl rfl ?_
  refine r_iushr 125 at_124 rfl ?_
  refine r_iconst 1 126 at_125 rfl rfl ?_
  refine r_iand 127 at_126 rfl ?_
  refine r_iadd 128 at_127 rfl ?_
  obtain ⟨kc, hkc, ec⟩ := own_bit (XT.ushr i4 10)
  rw [ec, own_k (by omega) hkc]
  refine r_istore 130 at_128 rfl rfl ?_
  exact run_130_01 l Z a0 hw h n0 O i0 i1 i2 i4 _ w n0' n1' n2' ka (ka + 1 + kb) (ka + 1 + kb + 1 + kc) (by omega) (by omega) (by omega) hn0 hn1 hn2
set_option maxRecDepth 65536 in
set_option maxHeartbeats 40000000 in
theorem run_41_1 (l : Launch) (Z : State) (a0 : Array Value) (hw : ∀ d ∈ tables_1, d.before a0 Z = true) (h : Heap) (n0 : Nat) (O : Old Z n0 h) (i0 i1 i2 i4 : Int32) (w : Int64) (n0' n1' n2' : Int32) (hn0 : 1 ≤ n0'.toInt) (hn1 : 1 ≤ n1'.toInt) (hn2 : 1 ≤ n2'.toInt) : Run l Z x code maxLocals ret room_1 n0 (fun v h' => v = some (.int 1) ∧ True) h 0 0 41 [.val (.int i0), .val (.int i1), .val (.int i2), .val (.long w), .second, .val (.int i4), .val (.int n0'), .val (.int n1'), .val (.int n2'), .val (.int 1), .unset, .unset, .unset, .unset, .unset, .unset, .unset, .unset, .unset, .unset, .unset, .unset, .unset] [] := by
  refine r_iload 43 at_41 rfl rfl ?_
  refine r_iconst 3 44 at_43 rfl rfl ?_
  refine r_icmp_ge 51 47 at_44 (by decide) rfl (fun q44 => absurd q44 (by decide)) (fun q44 => ?_)
  refine r_iconst 0 48 at_47 rfl rfl ?_
  refine r_goto 62 at_48 (by decide) ?_
  refine r_istore 64 at_62 rfl rfl ?_
  refine r_iload 66 at_64 rfl rfl ?_
  refine r_iconst 3 67 at_66 rfl rfl ?_
  refine r_icmp_ge 77 70 at_67 (by decide) rfl (fun q67 => absurd q67 (by decide)) (fun q67 => ?_)
  refine r_iload 72 at_70 rfl rfl ?_
  refine r_iconst 1 73 at_72 rfl rfl ?_
  refine r_iadd 74 at_73 rfl ?_
  refine r_goto 91 at_74 (by decide) ?_
  rw [show (1 : Int32) + 1 = 2 from rfl]
  refine r_istore 93 at_91 rfl rfl ?_
  refine r_iload 95 at_93 rfl rfl ?_
  refine r_bipush 8 97 at_95 rfl rfl ?_
  refine r_iushr 98 at_97 rfl ?_
  refine r_iconst 1 99 at_98 rfl rfl ?_
  refine r_iand 100 at_99 rfl ?_
  obtain ⟨ka, hka, ea⟩ := own_bit (XT.ushr i4 8)
  rw [ea]
  refine r_istore 102 at_100 rfl rfl ?_
  refine r_iload 104 at_102 rfl rfl ?_
  refine r_iconst 1 105 at_104 rfl rfl ?_
  refine r_iadd 106 at_105 rfl ?_
  refine r_iload 108 at_106 rfl rfl ?_
  refine r_bipush 9 110 at_108 rfl rfl ?_
  refine r_iushr 111 at_110 rfl ?_
  refine r_iconst 1 112 at_111 rfl rfl ?_
  refine r_iand 113 at_112 rfl ?_
  refine r_iadd 114 at_113 rfl ?_
  obtain ⟨kb, hkb, eb⟩ := own_bit (XT.ushr i4 9)
  rw [eb, own_k (by omega) hkb]
  refine r_istore 116 at_114 rfl rfl ?_
  refine r_iload 118 at_116 rfl rfl ?_
  refine r_iconst 1 119 at_118 rfl rfl ?_
  refine r_iadd 120 at_119 rfl ?_
  refine r_iload 122 at_120 rfl rfl ?_
  refine r_bipush 10 124 at_122 rfl rfl ?_
  refine r_iushr 125 at_124 rfl ?_
  refine r_iconst 1 126 at_125 rfl rfl ?_
  refine r_iand 127 at_126 rfl ?_
  refine r_iadd 128 at_127 rfl ?_
  obtain ⟨kc, hkc, ec⟩ := own_bit (XT.ushr i4 10)
  rw [ec, own_k (by omega) hkc]
  refine r_istore 130 at_128 rfl rfl ?_
  exact run_130_02 l Z a0 hw h n0 O i0 i1 i2 i4 _ w n0' n1' n2' ka (ka + 1 + kb) (ka + 1 + kb + 1 + kc) (by omega) (by omega) (by omega) hn0 hn1 hn2
set_option maxRecDepth 65536 in
set_option maxHeartbeats 40000000 in
theorem run_41_2 (l : Launch) (Z : State) (a0 : Array Value) (hw : ∀ d ∈ tables_1, d.before a0 Z = true) (h : Heap) (n0 : Nat) (O : Old Z n0 h) (i0 i1 i2 i4 : Int32) (w : Int64) (n0' n1' n2' : Int32) (hn0 : 1 ≤ n0'.toInt) (hn1 : 1 ≤ n1'.toInt) (hn2 : 1 ≤ n2'.toInt) : Run l Z x code maxLocals ret room_1 n0 (fun v h' => v = some (.int 1) ∧ True) h 0 0 41 [.val (.int i0), .val (.int i1), .val (.int i2), .val (.long w), .second, .val (.int i4), .val (.int n0'), .val (.int n1'), .val (.int n2'), .val (.int 2), .unset, .unset, .unset, .unset, .unset, .unset, .unset, .unset, .unset, .unset, .unset, .unset, .unset] [] := by
  refine r_iload 43 at_41 rfl rfl ?_
  refine r_iconst 3 44 at_43 rfl rfl ?_
  refine r_icmp_ge 51 47 at_44 (by decide) rfl (fun q44 => absurd q44 (by decide)) (fun q44 => ?_)
  refine r_iconst 0 48 at_47 rfl rfl ?_
  refine r_goto 62 at_48 (by decide) ?_
  refine r_istore 64 at_62 rfl rfl ?_
  refine r_iload 66 at_64 rfl rfl ?_
  refine r_iconst 3 67 at_66 rfl rfl ?_
  refine r_icmp_ge 77 70 at_67 (by decide) rfl (fun q67 => absurd q67 (by decide)) (fun q67 => ?_)
  refine r_iload 72 at_70 rfl rfl ?_
  refine r_iconst 1 73 at_72 rfl rfl ?_
  refine r_iadd 74 at_73 rfl ?_
  refine r_goto 91 at_74 (by decide) ?_
  rw [show (2 : Int32) + 1 = 3 from rfl]
  refine r_istore 93 at_91 rfl rfl ?_
  refine r_iload 95 at_93 rfl rfl ?_
  refine r_bipush 8 97 at_95 rfl rfl ?_
  refine r_iushr 98 at_97 rfl ?_
  refine r_iconst 1 99 at_98 rfl rfl ?_
  refine r_iand 100 at_99 rfl ?_
  obtain ⟨ka, hka, ea⟩ := own_bit (XT.ushr i4 8)
  rw [ea]
  refine r_istore 102 at_100 rfl rfl ?_
  refine r_iload 104 at_102 rfl rfl ?_
  refine r_iconst 1 105 at_104 rfl rfl ?_
  refine r_iadd 106 at_105 rfl ?_
  refine r_iload 108 at_106 rfl rfl ?_
  refine r_bipush 9 110 at_108 rfl rfl ?_
  refine r_iushr 111 at_110 rfl ?_
  refine r_iconst 1 112 at_111 rfl rfl ?_
  refine r_iand 113 at_112 rfl ?_
  refine r_iadd 114 at_113 rfl ?_
  obtain ⟨kb, hkb, eb⟩ := own_bit (XT.ushr i4 9)
  rw [eb, own_k (by omega) hkb]
  refine r_istore 116 at_114 rfl rfl ?_
  refine r_iload 118 at_116 rfl rfl ?_
  refine r_iconst 1 119 at_118 rfl rfl ?_
  refine r_iadd 120 at_119 rfl ?_
  refine r_iload 122 at_120 rfl rfl ?_
  refine r_bipush 10 124 at_122 rfl rfl ?_
  refine r_iushr 125 at_124 rfl ?_
  refine r_iconst 1 126 at_125 rfl rfl ?_
  refine r_iand 127 at_126 rfl ?_
  refine r_iadd 128 at_127 rfl ?_
  obtain ⟨kc, hkc, ec⟩ := own_bit (XT.ushr i4 10)
  rw [ec, own_k (by omega) hkc]
  refine r_istore 130 at_128 rfl rfl ?_
  exact run_130_03 l Z a0 hw h n0 O i0 i1 i2 i4 _ w n0' n1' n2' ka (ka + 1 + kb) (ka + 1 + kb + 1 + kc) (by omega) (by omega) (by omega) hn0 hn1 hn2
set_option maxRecDepth 65536 in
set_option maxHeartbeats 40000000 in
theorem run_41_3 (l : Launch) (Z : State) (a0 : Array Value) (hw : ∀ d ∈ tables_1, d.before a0 Z = true) (h : Heap) (n0 : Nat) (O : Old Z n0 h) (i0 i1 i2 i4 : Int32) (w : Int64) (n0' n1' n2' : Int32) (hn0 : 1 ≤ n0'.toInt) (hn1 : 1 ≤ n1'.toInt) (hn2 : 1 ≤ n2'.toInt) : Run l Z x code maxLocals ret room_1 n0 (fun v h' => v = some (.int 1) ∧ True) h 0 0 41 [.val (.int i0), .val (.int i1), .val (.int i2), .val (.long w), .second, .val (.int i4), .val (.int n0'), .val (.int n1'), .val (.int n2'), .val (.int 3), .unset, .unset, .unset, .unset, .unset, .unset, .unset, .unset, .unset, .unset, .unset, .unset, .unset] [] := by
  refine r_iload 43 at_41 rfl rfl ?_
  refine r_iconst 3 44 at_43 rfl rfl ?_
  refine r_icmp_ge 51 47 at_44 (by decide) rfl (fun q44 => ?_) (fun q44 => absurd q44 (by decide))
  refine r_iload 53 at_51 rfl rfl ?_
  refine r_iconst 5 54 at_53 rfl rfl ?_
  refine r_icmp_ge 61 57 at_54 (by decide) rfl (fun q54 => absurd q54 (by decide)) (fun q54 => ?_)
  refine r_iconst 1 58 at_57 rfl rfl ?_
  refine r_goto 62 at_58 (by decide) ?_
  refine r_istore 64 at_62 rfl rfl ?_
  refine r_iload 66 at_64 rfl rfl ?_
  refine r_iconst 3 67 at_66 rfl rfl ?_
  refine r_icmp_ge 77 70 at_67 (by decide) rfl (fun q67 => ?_) (fun q67 => absurd q67 (by decide))
  refine r_iload 79 at_77 rfl rfl ?_
  refine r_iconst 5 80 at_79 rfl rfl ?_
  refine r_icmp_ge 90 83 at_80 (by decide) rfl (fun q80 => absurd q80 (by decide)) (fun q80 => ?_)
  refine r_iload 85 at_83 rfl rfl ?_
  refine r_iconst 1 86 at_85 rfl rfl ?_
  refine r_isub 87 at_86 rfl ?_
  refine r_goto 91 at_87 (by decide) ?_
  rw [show (3 : Int32) - 1 = 2 from rfl]
  refine r_istore 93 at_91 rfl rfl ?_
  refine r_iload 95 at_93 rfl rfl ?_
  refine r_bipush 8 97 at_95 rfl rfl ?_
  refine r_iushr 98 at_97 rfl ?_
  refine r_iconst 1 99 at_98 rfl rfl ?_
  refine r_iand 100 at_99 rfl ?_
  obtain ⟨ka, hka, ea⟩ := own_bit (XT.ushr i4 8)
  rw [ea]
  refine r_istore 102 at_100 rfl rfl ?_
  refine r_iload 104 at_102 rfl rfl ?_
  refine r_iconst 1 105 at_104 rfl rfl ?_
  refine r_iadd 106 at_105 rfl ?_
  refine r_iload 108 at_106 rfl rfl ?_
  refine r_bipush 9 110 at_108 rfl rfl ?_
  refine r_iushr 111 at_110 rfl ?_
  refine r_iconst 1 112 at_111 rfl rfl ?_
  refine r_iand 113 at_112 rfl ?_
  refine r_iadd 114 at_113 rfl ?_
  obtain ⟨kb, hkb, eb⟩ := own_bit (XT.ushr i4 9)
  rw [eb, own_k (by omega) hkb]
  refine r_istore 116 at_114 rfl rfl ?_
  refine r_iload 118 at_116 rfl rfl ?_
  refine r_iconst 1 119 at_118 rfl rfl ?_
  refine r_iadd 120 at_119 rfl ?_
  refine r_iload 122 at_120 rfl rfl ?_
  refine r_bipush 10 124 at_122 rfl rfl ?_
  refine r_iushr 125 at_124 rfl ?_
  refine r_iconst 1 126 at_125 rfl rfl ?_
  refine r_iand 127 at_126 rfl ?_
  refine r_iadd 128 at_127 rfl ?_
  obtain ⟨kc, hkc, ec⟩ := own_bit (XT.ushr i4 10)
  rw [ec, own_k (by omega) hkc]
  refine r_istore 130 at_128 rfl rfl ?_
  exact run_130_12 l Z a0 hw h n0 O i0 i1 i2 i4 _ w n0' n1' n2' ka (ka + 1 + kb) (ka + 1 + kb + 1 + kc) (by omega) (by omega) (by omega) hn0 hn1 hn2
set_option maxRecDepth 65536 in
set_option maxHeartbeats 40000000 in
theorem run_41_4 (l : Launch) (Z : State) (a0 : Array Value) (hw : ∀ d ∈ tables_1, d.before a0 Z = true) (h : Heap) (n0 : Nat) (O : Old Z n0 h) (i0 i1 i2 i4 : Int32) (w : Int64) (n0' n1' n2' : Int32) (hn0 : 1 ≤ n0'.toInt) (hn1 : 1 ≤ n1'.toInt) (hn2 : 1 ≤ n2'.toInt) : Run l Z x code maxLocals ret room_1 n0 (fun v h' => v = some (.int 1) ∧ True) h 0 0 41 [.val (.int i0), .val (.int i1), .val (.int i2), .val (.long w), .second, .val (.int i4), .val (.int n0'), .val (.int n1'), .val (.int n2'), .val (.int 4), .unset, .unset, .unset, .unset, .unset, .unset, .unset, .unset, .unset, .unset, .unset, .unset, .unset] [] := by
  refine r_iload 43 at_41 rfl rfl ?_
  refine r_iconst 3 44 at_43 rfl rfl ?_
  refine r_icmp_ge 51 47 at_44 (by decide) rfl (fun q44 => ?_) (fun q44 => absurd q44 (by decide))
  refine r_iload 53 at_51 rfl rfl ?_
  refine r_iconst 5 54 at_53 rfl rfl ?_
  refine r_icmp_ge 61 57 at_54 (by decide) rfl (fun q54 => absurd q54 (by decide)) (fun q54 => ?_)
  refine r_iconst 1 58 at_57 rfl rfl ?_
  refine r_goto 62 at_58 (by decide) ?_
  refine r_istore 64 at_62 rfl rfl ?_
  refine r_iload 66 at_64 rfl rfl ?_
  refine r_iconst 3 67 at_66 rfl rfl ?_
  refine r_icmp_ge 77 70 at_67 (by decide) rfl (fun q67 => ?_) (fun q67 => absurd q67 (by decide))
  refine r_iload 79 at_77 rfl rfl ?_
  refine r_iconst 5 80 at_79 rfl rfl ?_
  refine r_icmp_ge 90 83 at_80 (by decide) rfl (fun q80 => absurd q80 (by decide)) (fun q80 => ?_)
  refine r_iload 85 at_83 rfl rfl ?_
  refine r_iconst 1 86 at_85 rfl rfl ?_
  refine r_isub 87 at_86 rfl ?_
  refine r_goto 91 at_87 (by decide) ?_
  rw [show (4 : Int32) - 1 = 3 from rfl]
  refine r_istore 93 at_91 rfl rfl ?_
  refine r_iload 95 at_93 rfl rfl ?_
  refine r_bipush 8 97 at_95 rfl rfl ?_
  refine r_iushr 98 at_97 rfl ?_
  refine r_iconst 1 99 at_98 rfl rfl ?_
  refine r_iand 100 at_99 rfl ?_
  obtain ⟨ka, hka, ea⟩ := own_bit (XT.ushr i4 8)
  rw [ea]
  refine r_istore 102 at_100 rfl rfl ?_
  refine r_iload 104 at_102 rfl rfl ?_
  refine r_iconst 1 105 at_104 rfl rfl ?_
  refine r_iadd 106 at_105 rfl ?_
  refine r_iload 108 at_106 rfl rfl ?_
  refine r_bipush 9 110 at_108 rfl rfl ?_
  refine r_iushr 111 at_110 rfl ?_
  refine r_iconst 1 112 at_111 rfl rfl ?_
  refine r_iand 113 at_112 rfl ?_
  refine r_iadd 114 at_113 rfl ?_
  obtain ⟨kb, hkb, eb⟩ := own_bit (XT.ushr i4 9)
  rw [eb, own_k (by omega) hkb]
  refine r_istore 116 at_114 rfl rfl ?_
  refine r_iload 118 at_116 rfl rfl ?_
  refine r_iconst 1 119 at_118 rfl rfl ?_
  refine r_iadd 120 at_119 rfl ?_
  refine r_iload 122 at_120 rfl rfl ?_
  refine r_bipush 10 124 at_122 rfl rfl ?_
  refine r_iushr 125 at_124 rfl ?_
  refine r_iconst 1 126 at_125 rfl rfl ?_
  refine r_iand 127 at_126 rfl ?_
  refine r_iadd 128 at_127 rfl ?_
  obtain ⟨kc, hkc, ec⟩ := own_bit (XT.ushr i4 10)
  rw [ec, own_k (by omega) hkc]
  refine r_istore 130 at_128 rfl rfl ?_
  exact run_130_13 l Z a0 hw h n0 O i0 i1 i2 i4 _ w n0' n1' n2' ka (ka + 1 + kb) (ka + 1 + kb + 1 + kc) (by omega) (by omega) (by omega) hn0 hn1 hn2
set_option maxRecDepth 65536 in
set_option maxHeartbeats 40000000 in
theorem run_41_5 (l : Launch) (Z : State) (a0 : Array Value) (hw : ∀ d ∈ tables_1, d.before a0 Z = true) (h : Heap) (n0 : Nat) (O : Old Z n0 h) (i0 i1 i2 i4 : Int32) (w : Int64) (n0' n1' n2' : Int32) (hn0 : 1 ≤ n0'.toInt) (hn1 : 1 ≤ n1'.toInt) (hn2 : 1 ≤ n2'.toInt) : Run l Z x code maxLocals ret room_1 n0 (fun v h' => v = some (.int 1) ∧ True) h 0 0 41 [.val (.int i0), .val (.int i1), .val (.int i2), .val (.long w), .second, .val (.int i4), .val (.int n0'), .val (.int n1'), .val (.int n2'), .val (.int 5), .unset, .unset, .unset, .unset, .unset, .unset, .unset, .unset, .unset, .unset, .unset, .unset, .unset] [] := by
  refine r_iload 43 at_41 rfl rfl ?_
  refine r_iconst 3 44 at_43 rfl rfl ?_
  refine r_icmp_ge 51 47 at_44 (by decide) rfl (fun q44 => ?_) (fun q44 => absurd q44 (by decide))
  refine r_iload 53 at_51 rfl rfl ?_
  refine r_iconst 5 54 at_53 rfl rfl ?_
  refine r_icmp_ge 61 57 at_54 (by decide) rfl (fun q54 => ?_) (fun q54 => absurd q54 (by decide))
  refine r_iconst 2 62 at_61 rfl rfl ?_
  refine r_istore 64 at_62 rfl rfl ?_
  refine r_iload 66 at_64 rfl rfl ?_
  refine r_iconst 3 67 at_66 rfl rfl ?_
  refine r_icmp_ge 77 70 at_67 (by decide) rfl (fun q67 => ?_) (fun q67 => absurd q67 (by decide))
  refine r_iload 79 at_77 rfl rfl ?_
  refine r_iconst 5 80 at_79 rfl rfl ?_
  refine r_icmp_ge 90 83 at_80 (by decide) rfl (fun q80 => ?_) (fun q80 => absurd q80 (by decide))
  refine r_iconst 3 91 at_90 rfl rfl ?_
  refine r_istore 93 at_91 rfl rfl ?_
  refine r_iload 95 at_93 rfl rfl ?_
  refine r_bipush 8 97 at_95 rfl rfl ?_
  refine r_iushr 98 at_97 rfl ?_
  refine r_iconst 1 99 at_98 rfl rfl ?_
  refine r_iand 100 at_99 rfl ?_
  obtain ⟨ka, hka, ea⟩ := own_bit (XT.ushr i4 8)
  rw [ea]
  refine r_istore 102 at_100 rfl rfl ?_
  refine r_iload 104 at_102 rfl rfl ?_
  refine r_iconst 1 105 at_104 rfl rfl ?_
  refine r_iadd 106 at_105 rfl ?_
  refine r_iload 108 at_106 rfl rfl ?_
  refine r_bipush 9 110 at_108 rfl rfl ?_
  refine r_iushr 111 at_110 rfl ?_
  refine r_iconst 1 112 at_111 rfl rfl ?_
  refine r_iand 113 at_112 rfl ?_
  refine r_iadd 114 at_113 rfl ?_
  obtain ⟨kb, hkb, eb⟩ := own_bit (XT.ushr i4 9)
  rw [eb, own_k (by omega) hkb]
  refine r_istore 116 at_114 rfl rfl ?_
  refine r_iload 118 at_116 rfl rfl ?_
  refine r_iconst 1 119 at_118 rfl rfl ?_
  refine r_iadd 120 at_119 rfl ?_
  refine r_iload 122 at_120 rfl rfl ?_
  refine r_bipush 10 124 at_122 rfl rfl ?_
  refine r_iushr 125 at_124 rfl ?_
  refine r_iconst 1 126 at_125 rfl rfl ?_
  refine r_iand 127 at_126 rfl ?_
  refine r_iadd 128 at_127 rfl ?_
  obtain ⟨kc, hkc, ec⟩ := own_bit (XT.ushr i4 10)
  rw [ec, own_k (by omega) hkc]
  refine r_istore 130 at_128 rfl rfl ?_
  exact run_130_23 l Z a0 hw h n0 O i0 i1 i2 i4 _ w n0' n1' n2' ka (ka + 1 + kb) (ka + 1 + kb + 1 + kc) (by omega) (by omega) (by omega) hn0 hn1 hn2
set_option maxRecDepth 65536 in
set_option maxHeartbeats 40000000 in
theorem rm_law (l : Launch) (Z : State) (a0 : Array Value) (hw : ∀ d ∈ tables_1, d.before a0 Z = true) (h : Heap) (n0 : Nat) (O : Old Z n0 h) (i0 i1 i2 : Int32) (w : Int64) (i4 : Int32) : Con l Z x code maxLocals ret room_1 n0 #[.int i0, .int i1, .int i2, .long w, .int i4] h (fun v h' => v = some (.int 1) ∧ True) tables_1 := by
  refine Run.con pn_law (Ls := [.val (.int i0), .val (.int i1), .val (.int i2), .val (.long w), .second, .val (.int i4), .unset, .unset, .unset, .unset, .unset, .unset, .unset, .unset, .unset, .unset, .unset, .unset, .unset, .unset, .unset, .unset, .unset]) rfl ?_
  refine r_iconst 1 1 at_0 rfl rfl ?_
  refine r_iloadN 2 at_1 rfl rfl ?_
  refine r_ldc 4 at_2 rfl (hw _ (List.mem_of_getElem? (i := 0) rfl)) ?_
  refine r_iand 5 at_4 rfl ?_
  refine r_static 8 at_5 rfl (rm_max l Z a0 hw _ n0 (i0 &&& 2147483647)) (hw _ (List.mem_of_getElem? (i := 1) rfl)) (hw _ (List.mem_of_getElem? (i := 2) rfl)) (hw _ (List.mem_of_getElem? (i := 3) rfl)) (hw _ (List.mem_of_getElem? (i := 4) rfl)) (by decide) (ps := [.int, .int]) (r' := (some .int)) (by decide +kernel) rfl rfl rfl (Nat.le_of_ble_eq_true rfl) (Nat.le_of_ble_eq_true rfl) (Nat.le_of_ble_eq_true rfl) (Nat.le_of_ble_eq_true rfl) ?_
  rintro v h' ⟨n0', rfl, hn0, rfl⟩
  show Run _ _ _ _ _ _ _ _ _ _ _ _ _ _ [.int n0']
  refine r_istore 10 at_8 rfl rfl ?_
  refine r_iconst 1 11 at_10 rfl rfl ?_
  refine r_iloadN 12 at_11 rfl rfl ?_
  refine r_ldc 14 at_12 rfl (hw _ (List.mem_of_getElem? (i := 0) rfl)) ?_
  refine r_iand 15 at_14 rfl ?_
  refine r_static 18 at_15 rfl (rm_max l Z a0 hw _ n0 (i1 &&& 2147483647)) (hw _ (List.mem_of_getElem? (i := 1) rfl)) (hw _ (List.mem_of_getElem? (i := 2) rfl)) (hw _ (List.mem_of_getElem? (i := 3) rfl)) (hw _ (List.mem_of_getElem? (i := 4) rfl)) (by decide) (ps := [.int, .int]) (r' := (some .int)) (by decide +kernel) rfl rfl rfl (Nat.le_of_ble_eq_true rfl) (Nat.le_of_ble_eq_true rfl) (Nat.le_of_ble_eq_true rfl) (Nat.le_of_ble_eq_true rfl) ?_
  rintro v h' ⟨n1', rfl, hn1, rfl⟩
  show Run _ _ _ _ _ _ _ _ _ _ _ _ _ _ [.int n1']
  refine r_istore 20 at_18 rfl rfl ?_
  refine r_iconst 1 21 at_20 rfl rfl ?_
  refine r_iloadN 22 at_21 rfl rfl ?_
  refine r_ldc 24 at_22 rfl (hw _ (List.mem_of_getElem? (i := 0) rfl)) ?_
  refine r_iand 25 at_24 rfl ?_
  refine r_static 28 at_25 rfl (rm_max l Z a0 hw _ n0 (i2 &&& 2147483647)) (hw _ (List.mem_of_getElem? (i := 1) rfl)) (hw _ (List.mem_of_getElem? (i := 2) rfl)) (hw _ (List.mem_of_getElem? (i := 3) rfl)) (hw _ (List.mem_of_getElem? (i := 4) rfl)) (by decide) (ps := [.int, .int]) (r' := (some .int)) (by decide +kernel) rfl rfl rfl (Nat.le_of_ble_eq_true rfl) (Nat.le_of_ble_eq_true rfl) (Nat.le_of_ble_eq_true rfl) (Nat.le_of_ble_eq_true rfl) ?_
  rintro v h' ⟨n2', rfl, hn2, rfl⟩
  show Run _ _ _ _ _ _ _ _ _ _ _ _ _ _ [.int n2']
  refine r_istore 30 at_28 rfl rfl ?_
  refine r_iload 32 at_30 rfl rfl ?_
  refine r_sipush 255 35 at_32 rfl rfl ?_
  refine r_iand 36 at_35 rfl ?_
  refine r_bipush 6 38 at_36 rfl rfl ?_
  refine r_irem 39 at_38 rfl (by decide) ?_
  obtain ⟨mm, hmm, em⟩ := own_mod6 i4
  rw [em]
  refine r_istore 41 at_39 rfl rfl ?_
  match mm, hmm with
  | 0, _ => exact run_41_0 l Z a0 hw _ n0 O i0 i1 i2 i4 w n0' n1' n2' hn0 hn1 hn2
  | 1, _ => exact run_41_1 l Z a0 hw _ n0 O i0 i1 i2 i4 w n0' n1' n2' hn0 hn1 hn2
  | 2, _ => exact run_41_2 l Z a0 hw _ n0 O i0 i1 i2 i4 w n0' n1' n2' hn0 hn1 hn2
  | 3, _ => exact run_41_3 l Z a0 hw _ n0 O i0 i1 i2 i4 w n0' n1' n2' hn0 hn1 hn2
  | 4, _ => exact run_41_4 l Z a0 hw _ n0 O i0 i1 i2 i4 w n0' n1' n2' hn0 hn1 hn2
  | 5, _ => exact run_41_5 l Z a0 hw _ n0 O i0 i1 i2 i4 w n0' n1' n2' hn0 hn1 hn2
set_option maxRecDepth 65536 in
set_option maxHeartbeats 40000000 in
theorem comes_1 {Post : Tables → Env → Array Value → State → Outcome → State → Prop} (hpost : ∀ tb e args s v u, (limb_1_1.after args s (.returned v) u = true ∧ limb_1_2.after args s (.returned v) u = true ∧ True) → FrameEnd s (.returned v) u (Jvm.fieldLocs frame_1_writes args s ++ Jvm.arrayLocs frame_1_arrays args s ++ Jvm.staticLocs frame_1_statics s) 16 128 → Post tb e args s (.returned v) u) :
    ArmFor flags0 classFile x code maxLocals ret World_1 tables_1 room_1 Calls_1 rest_1 Pre_1 Post := by
  intro l hfl _ _ p e ha hc hk s m args below hf hA hF happ hP
  obtain ⟨hcalls, hrest, hpre⟩ := hP
  obtain ⟨-, -, -, hnamed, -, -, -, hat⟩ := (Spec.applies_iff hf).mp happ
  obtain ⟨hg, hn⟩ := and_e (Cond.before_iff.mp (show (Jvm.Cond.and given_1 narrow_1).before args s = true from hpre))
  obtain ⟨hcount, hg⟩ := and_e hg
  obtain ⟨g0, hg⟩ := and_e hg
  obtain ⟨g1, hg⟩ := and_e hg
  obtain ⟨g2, hg⟩ := and_e hg
  obtain ⟨g3, hg⟩ := and_e hg
  have g4 := hg
  obtain ⟨w0, w1, w2, w3, w4, rfl⟩ : ∃ w0 w1 w2 w3 w4 : Value, args = #[w0, w1, w2, w3, w4] := by
    have hs : args.size = 5 := by simpa [Cond.value, given_1] using hcount
    obtain ⟨L⟩ := args
    match L, hs with
    | [w0, w1, w2, w3, w4], _ => exact ⟨w0, w1, w2, w3, w4, rfl⟩
  have hw := fun d (hd : d ∈ tables_1) => atoms_spec (ws := Jvm.Cond.code x code maxLocals ret :: tables_1) hat d (List.mem_cons_of_mem _ hd)
  have hfit : Fit s := fun {y c} hc i hi => by
    obtain ⟨ha, rfl⟩ := Array.getElem?_eq_some_iff.mp hc
    have q := List.all_eq_true.mp ((Array.all_eq_true_iff_forall_mem.mp hF) _ (Array.getElem_mem ha)) i (List.mem_range.mpr hi)
    simpa [Array.getElem?_eq_getElem hi] using q
  obtain ⟨i0, ea0⟩ := is_v g0
  obtain rfl : w0 = (.int i0) := Option.some.inj ea0
  obtain ⟨i1, ea1⟩ := is_v g1
  obtain rfl : w1 = (.int i1) := Option.some.inj ea1
  obtain ⟨i2, ea2⟩ := is_v g2
  obtain rfl : w2 = (.int i2) := Option.some.inj ea2
  obtain ⟨i3, ea3⟩ := isL_v g3
  obtain rfl : w3 = (.long i3) := Option.some.inj ea3
  obtain ⟨i4, ea4⟩ := is_v g4
  obtain rfl : w4 = (.int i4) := Option.some.inj ea4
  obtain ⟨nn, o, h1, h2, h3, _, L, rfl, ⟨⟨rfl, -⟩, N⟩, hq⟩ := rm_law l s _ hw s.heap s.heap.size (Old.start s) i0 i1 i2 i3 i4 p e ha hc hk s m _ below hf ((Spec.applies_iff_loose hf).mp happ).1 ⟨rfl, State.Warmed39.refl s, rfl⟩ trivial
  refine ⟨nn, _, h1, h2, h3, hpost _ _ _ _ _ _ ⟨Cond.after_iff.mpr rfl, Cond.after_iff.mpr (eq_i res_at (Term.int_eval (1)) rfl), trivial⟩ ⟨hq.1, hq.2.1, (hq.2.2.sift fun y hy => Or.inr (N y hy)).mono (by decide) (by decide)⟩⟩
theorem main_1_1 : Claimed_1_1 := comes_1 fun _ _ _ _ _ _ h hF => ⟨h.1, hF⟩
theorem main_1_2 : Claimed_1_2 := comes_1 fun _ _ _ _ _ _ h hF => ⟨h.2.1, hF⟩
end Jvm.Pilot.@@N@@
namespace Jvm.Pilot.@@N@@
open Jvm Jvm.ClassFile Sem Op Lib Jvm.Free Jvm.Stand Jvm.Pilot.@@N@@.Jvm.D
/-! MADE BY PROGRAM (witnessworld.py) out of the Statement's table words and the real class files: 10 classes; the members and pool entries that the words name. The judged class is class 1, her method 2. -/
namespace start1
open Jvm.ClassFile
def u (s : String) : CpInfo := .utf8 (stringToUtf16 s)
/-- a pool by its gaps: so many unusable entries, then the entry; so many at the end -/
def gap : Nat → List CpInfo → List CpInfo
  | 0, r => r
  | n + 1, r => .unusable :: gap n r
def poolList (es : List (Nat × CpInfo)) (last : Nat) : List CpInfo := es.foldr (fun e r => gap e.1 (e.2 :: r)) (gap last [])
def pool (es : List (Nat × CpInfo)) (last : Nat) : Array CpInfo := ⟨poolList es last⟩
def fileOf (pool : Array CpInfo) (this : Nat) (attrs : Array Attribute := #[]) (ms : Array MethodInfo := #[]) (fl : Nat := 33) (sup : Nat := 0) (ifs : Array Nat := #[]) (fds : Array FieldInfo := #[]) : ClassFile where
  minorVersion := 0
  majorVersion := 65
  constantPool := pool
  accessFlags := fl
  thisClass := this
  superClass := sup
  interfaces := ifs
  fields := fds
  methods := ms
  attributes := attrs
def plain (name : String) (sup : Option ClassId) : Class where
  name := name
  kind := .ordinary
  loader := none
  accessFlags := 33
  super := sup
  interfaces := #[]
  cf := none
  fields := #[]
  methods := #[]
  instanceTypes := #[]
  staticTypes := #[]
  resolved := #[]
  callSites := []
  init := .initialized
  statics := none
  mirror := none

def pool0 : Array CpInfo := pool [(5, u "<init>"), (0, u "()V"), (1, .class_ 10), (1, u "java/lang/Object")] 113

def k0c0 : Code := { maxStack := 0, maxLocals := 1, code := object_method_1_code, exceptionTable := #[], attributes := #[] }
def k0m0 : Method := { name := "<init>", desc := "()V", sig := { parameters := [], returnType := none }, accessFlags := 1, code := some k0c0 }
/-- java/lang/Object -/
def k0 : Class := { plain "java/lang/Object" none with
  accessFlags := 33
  interfaces := #[]
  cf := some (fileOf pool0 8 #[] #[{ accessFlags := 1, nameIndex := 5, descriptorIndex := 6, attributes := #[] }] 33 0 #[] #[])
  fields := #[]
  methods := #[k0m0]
  instanceTypes := #[]
  staticTypes := #[]
  resolved := Array.replicate 124 none
  statics := none }

def pool1 : Array CpInfo := pool [(2, .class_ 4), (1, u "java/lang/Object"), (0, u "<init>"), (0, u "()V"), (0, .long 1023), (1, .integer 2147483647), (0, .methodref 11 12), (0, .class_ 13), (0, .nameAndType 14 15), (0, u "java/lang/Math"), (0, u "max"), (0, u "(II)I"), (0, .methodref 17 18), (0, .class_ 19), (0, .nameAndType 20 21), (0, u "com/example/genano/genano/ValueCountsWeightPinLaw"), (0, u "field"), (0, u "(JI)I"), (0, .class_ 23), (0, u "com/example/genano/genano/ValueCounts"), (0, .methodref 22 25), (0, .nameAndType 5 26), (0, u "([I[III)V"), (0, .methodref 22 28), (0, .nameAndType 29 30), (0, u "weight"), (0, u "([D)D"), (2, u "law"), (0, u "(IIIJI)Z")] 7

def k1m0 : Method := { name := "<init>", desc := "()V", sig := { parameters := [], returnType := none }, accessFlags := 1, code := none }
def k1c1 : Code := { maxStack := 4, maxLocals := 3, code := method_2_code, exceptionTable := #[], attributes := #[] }
def k1m1 : Method := { name := "field", desc := "(JI)I", sig := { parameters := [.long, .int], returnType := some .int }, accessFlags := 10, code := some k1c1 }
def k1c2 : Code := { maxStack := 7, maxLocals := 23, code := code, exceptionTable := #[], attributes := #[] }
def k1m2 : Method := { name := "law", desc := "(IIIJI)Z", sig := { parameters := [.int, .int, .int, .long, .int], returnType := some .boolean }, accessFlags := 9, code := some k1c2 }
/-- com/example/genano/genano/ValueCountsWeightPinLaw -/
def k1 : Class := { plain "com/example/genano/genano/ValueCountsWeightPinLaw" (some 0) with
  accessFlags := 49
  interfaces := #[]
  cf := some (fileOf pool1 17 #[] #[{ accessFlags := 1, nameIndex := 5, descriptorIndex := 6, attributes := #[] }, { accessFlags := 10, nameIndex := 20, descriptorIndex := 21, attributes := #[] }, { accessFlags := 9, nameIndex := 33, descriptorIndex := 34, attributes := #[] }] 49 2 #[] #[])
  fields := #[]
  methods := #[k1m0, k1m1, k1m2]
  instanceTypes := #[]
  staticTypes := #[]
  resolved := Array.replicate 42 none
  statics := none }

def pool2 : Array CpInfo := pool [(1, .class_ 2), (0, u "java/lang/Math"), (1, .class_ 6), (1, u "java/lang/Object"), (0, u "<init>"), (0, u "()V"), (89, .class_ 100), (1, u "java/lang/Math$RandomNumberGeneratorHolder"), (71, u "negativeZeroFloatBits"), (0, u "J"), (2, u "negativeZeroDoubleBits"), (21, u "max"), (46, u "$assertionsDisabled"), (0, u "Z"), (88, u "(II)I"), (2, u "twoToTheDoubleScaleDown"), (0, u "D"), (4, u "twoToTheDoubleScaleUp"), (9, u "E"), (3, u "PI"), (2, u "TAU"), (2, u "DEGREES_TO_RADIANS"), (0, u "RADIANS_TO_DEGREES")] 94

def k2m0 : Method := { name := "<init>", desc := "()V", sig := { parameters := [], returnType := none }, accessFlags := 2, code := none }
def k2c1 : Code := { maxStack := 2, maxLocals := 2, code := jdk_29_method_65_code, exceptionTable := #[], attributes := #[] }
def k2m1 : Method := { name := "max", desc := "(II)I", sig := { parameters := [.int, .int], returnType := some .int }, accessFlags := 9, code := some k2c1 }
/-- java/lang/Math -/
def k2 : Class := { plain "java/lang/Math" (some 0) with
  accessFlags := 49
  interfaces := #[]
  cf := some (fileOf pool2 1 #[.nestMembers #[98]] #[{ accessFlags := 2, nameIndex := 7, descriptorIndex := 8, attributes := #[] }, { accessFlags := 9, nameIndex := 198, descriptorIndex := 335, attributes := #[] }] 49 4 #[] #[{ accessFlags := 25, nameIndex := 354, descriptorIndex := 339, attributes := #[] }, { accessFlags := 25, nameIndex := 358, descriptorIndex := 339, attributes := #[] }, { accessFlags := 25, nameIndex := 361, descriptorIndex := 339, attributes := #[] }, { accessFlags := 26, nameIndex := 364, descriptorIndex := 339, attributes := #[] }, { accessFlags := 26, nameIndex := 365, descriptorIndex := 339, attributes := #[] }, { accessFlags := 26, nameIndex := 172, descriptorIndex := 173, attributes := #[] }, { accessFlags := 26, nameIndex := 176, descriptorIndex := 173, attributes := #[] }, { accessFlags := 8, nameIndex := 344, descriptorIndex := 339, attributes := #[] }, { accessFlags := 8, nameIndex := 338, descriptorIndex := 339, attributes := #[] }, { accessFlags := 4120, nameIndex := 245, descriptorIndex := 246, attributes := #[] }])
  fields := #[{ name := "E", type := .double, accessFlags := 25, slot := 0, constantValue := 0 }, { name := "PI", type := .double, accessFlags := 25, slot := 1, constantValue := 0 }, { name := "TAU", type := .double, accessFlags := 25, slot := 2, constantValue := 0 }, { name := "DEGREES_TO_RADIANS", type := .double, accessFlags := 26, slot := 3, constantValue := 0 }, { name := "RADIANS_TO_DEGREES", type := .double, accessFlags := 26, slot := 4, constantValue := 0 }, { name := "negativeZeroFloatBits", type := .long, accessFlags := 26, slot := 5, constantValue := 0 }, { name := "negativeZeroDoubleBits", type := .long, accessFlags := 26, slot := 6, constantValue := 0 }, { name := "twoToTheDoubleScaleUp", type := .double, accessFlags := 8, slot := 7, constantValue := 0 }, { name := "twoToTheDoubleScaleDown", type := .double, accessFlags := 8, slot := 8, constantValue := 0 }, { name := "$assertionsDisabled", type := .boolean, accessFlags := 4120, slot := 9, constantValue := 0 }]
  methods := #[k2m0, k2m1]
  instanceTypes := #[]
  staticTypes := #[.double, .double, .double, .double, .double, .long, .long, .double, .double, .boolean]
  resolved := Array.replicate 460 none
  statics := none }

def pool3 : Array CpInfo := pool [(1, .methodref 2 3), (0, .class_ 4), (0, .nameAndType 5 6), (0, u "java/lang/Object"), (0, u "<init>"), (0, u "()V"), (0, .fieldref 8 9), (0, .class_ 10), (0, .nameAndType 11 12), (0, u "com/example/genano/genano/ValueCounts"), (0, u "codes"), (0, u "[I"), (0, .fieldref 8 14), (0, .nameAndType 15 12), (0, u "counts"), (0, .fieldref 8 17), (0, .nameAndType 18 19), (0, u "start"), (0, u "I"), (0, .fieldref 8 21), (0, .nameAndType 22 19), (0, u "end"), (0, .fieldref 8 24), (0, .nameAndType 25 19), (0, u "size"), (21, u "([I[III)V"), (19, u "weight"), (0, u "([D)D")] 3

def k3c0 : Code := { maxStack := 3, maxLocals := 7, code := prog_58_method_1_code, exceptionTable := #[], attributes := #[] }
def k3m0 : Method := { name := "<init>", desc := "([I[III)V", sig := { parameters := [(.array .int), (.array .int), .int, .int], returnType := none }, accessFlags := 0, code := some k3c0 }
def k3c1 : Code := { maxStack := 7, maxLocals := 5, code := prog_58_method_9_code, exceptionTable := #[], attributes := #[] }
def k3m1 : Method := { name := "weight", desc := "([D)D", sig := { parameters := [(.array .double)], returnType := some .double }, accessFlags := 0, code := some k3c1 }
/-- com/example/genano/genano/ValueCounts -/
def k3 : Class := { plain "com/example/genano/genano/ValueCounts" (some 0) with
  accessFlags := 48
  interfaces := #[]
  cf := some (fileOf pool3 8 #[] #[{ accessFlags := 0, nameIndex := 5, descriptorIndex := 47, attributes := #[] }, { accessFlags := 0, nameIndex := 67, descriptorIndex := 68, attributes := #[] }] 48 2 #[] #[{ accessFlags := 18, nameIndex := 11, descriptorIndex := 12, attributes := #[] }, { accessFlags := 18, nameIndex := 15, descriptorIndex := 12, attributes := #[] }, { accessFlags := 18, nameIndex := 18, descriptorIndex := 19, attributes := #[] }, { accessFlags := 18, nameIndex := 22, descriptorIndex := 19, attributes := #[] }, { accessFlags := 18, nameIndex := 25, descriptorIndex := 19, attributes := #[] }])
  fields := #[{ name := "codes", type := (.array .int), accessFlags := 18, slot := 0, constantValue := 0 }, { name := "counts", type := (.array .int), accessFlags := 18, slot := 1, constantValue := 0 }, { name := "start", type := .int, accessFlags := 18, slot := 2, constantValue := 0 }, { name := "end", type := .int, accessFlags := 18, slot := 3, constantValue := 0 }, { name := "size", type := .int, accessFlags := 18, slot := 4, constantValue := 0 }]
  methods := #[k3m0, k3m1]
  instanceTypes := #[(.array .int), (.array .int), .int, .int, .int]
  staticTypes := #[]
  resolved := Array.replicate 72 none
  statics := none }

def pool4 : Array CpInfo := pool [(1, u "java/lang/Cloneable"), (0, .class_ 1), (0, u "java/lang/Object"), (0, .class_ 3)] 3

/-- java/lang/Cloneable -/
def k4 : Class := { plain "java/lang/Cloneable" (some 0) with
  accessFlags := 1537
  interfaces := #[]
  cf := some (fileOf pool4 2 #[] #[] 1537 4 #[] #[])
  fields := #[]
  methods := #[]
  instanceTypes := #[]
  staticTypes := #[]
  resolved := Array.replicate 8 none
  statics := none }

def pool5 : Array CpInfo := pool [(1, u "java/io/Serializable"), (0, .class_ 1), (0, u "java/lang/Object"), (0, .class_ 3)] 3

/-- java/io/Serializable -/
def k5 : Class := { plain "java/io/Serializable" (some 0) with
  accessFlags := 1537
  interfaces := #[]
  cf := some (fileOf pool5 2 #[] #[] 1537 4 #[] #[])
  fields := #[]
  methods := #[]
  instanceTypes := #[]
  staticTypes := #[]
  resolved := Array.replicate 8 none
  statics := none }

/-- the primitive byte -/
def k6 : Class := { plain "byte" none with kind := .primitive 'B', accessFlags := 0x411 }
/-- [B -/
def k7 : Class := { plain "[B" (some 0) with kind := .array 6 .byte, interfaces := #[4, 5], accessFlags := 1041 }

/-- the primitive int -/
def k8 : Class := { plain "int" none with kind := .primitive 'I', accessFlags := 0x411 }
/-- [I -/
def k9 : Class := { plain "[I" (some 0) with kind := .array 8 .int, interfaces := #[4, 5], accessFlags := 1041 }

/-- the primitive double -/
def k10 : Class := { plain "double" none with kind := .primitive 'D', accessFlags := 0x411 }
/-- [D -/
def k11 : Class := { plain "[D" (some 0) with kind := .array 10 .double, interfaces := #[4, 5], accessFlags := 1041 }

def heap : Heap := #[]
def classes : Array Class := #[k0, k1, k2, k3, k4, k5, k6, k7, k8, k9, k10, k11]
def interned : List (Array UInt16 × Addr) := []
def slotsUsed : Nat := 0
def theMethod : MethodId := ⟨1, 2⟩
def args0 : Array Value := #[.int 6, .int 5, .int 9, .long 123456789, .int 300]
def aboutOver (below : List Frame) : State where
  vm := { classes := classes, interned := interned.toArray }
  heap := heap
  slotsUsed := slotsUsed
  threads := #[{ frames := .invoking theMethod args0 :: below }]
def below0 : List Frame := [.native { method := ⟨0, 0⟩, args := #[] }]
def about1 : State := aboutOver below0
def p0 : Program := .bare "" "" ""
def e0 : Env := launch0.env 0 0 0
theorem w_frames : about1.frames = Frame.invoking theMethod args0 :: below0 := rfl
set_option maxRecDepth 65536 in
theorem w_args : argsFit about1.vm theMethod args0 = true := by decide +kernel
set_option maxRecDepth 65536 in
theorem w_heap : heapFits about1 = true := by decide +kernel
set_option maxRecDepth 65536 in
theorem w_runnable : about1.curStatus? = some .runnable := by decide +kernel
set_option maxRecDepth 65536 in
theorem w_alone : about1.alone = true := by decide +kernel
set_option maxRecDepth 65536 in
theorem w_named : about1.methodNamed? x = some theMethod := by decide +kernel
set_option maxRecDepth 65536 in
theorem w_hears : about1.hears theMethod below0 = true := by decide +kernel
set_option maxRecDepth 65536 in
theorem w_ripe : about1.ripe theMethod args0 below0 = true := by decide +kernel
theorem w_running : about1.status = .running := rfl
set_option maxRecDepth 65536 in
theorem w_room : about1.hasRoom e0.platform room_1 = true :=
  launch0.hasRoom_least _ room_1 (by decide +kernel) (by decide +kernel) (by decide +kernel) (by decide +kernel) (by decide +kernel) (by decide +kernel)
theorem allAtoms_all (ts : List Jvm.Cond) (a : Array Jvm.Value) (st : Jvm.State) : (allAtoms ts).before a st = ts.all (fun c => c.before a st) := by
  induction ts with
  | nil => rfl
  | cons c t ih =>
    show (Jvm.Cond.and c (allAtoms t)).before a st = _
    rw [Jvm.Cond.before_and, ih, List.all_cons]
def words1 : List Jvm.Cond := Jvm.Cond.code x code maxLocals ret :: tables_1
/-- a 'code' word, met by the world's own term for the bytes: nothing is compared byte by byte -/
theorem code_word {y : MethodName} {bytes : ByteArray} {mx : Nat} {rt : Option FieldType} {a : Array Value} {s : State} {m : MethodId} {meth : Method} {c : Code} (h1 : s.methodNamed? y = some m) (h2 : s.vm.method? m = some meth) (h3 : meth.code = some c) (h4 : c.code = bytes)
    (h5 : (c.maxLocals == mx && c.exceptionTable.isEmpty && decide (c.maxStack ≤ mostOperands) && decide (meth.sig.returnType = rt) && !meth.locks && decide (parseMethodDescriptor y.desc = some meth.sig)) = true) : (Jvm.Cond.code y bytes mx rt).before a s = true := by
  simp only [Bool.and_eq_true, beq_iff_eq, Bool.not_eq_true', decide_eq_true_eq] at h5
  obtain ⟨⟨⟨⟨⟨g1, g2⟩, g3⟩, g4⟩, g5⟩, g6⟩ := h5
  simp [Cond.before, Cond.holds, Cond.value, h1, h2, h3, h4, g1, g2, g3, g4, g5, g6]
def isCode : Jvm.Cond → Bool
  | .code _ _ _ _ => true
  | _ => false
theorem all_split {L : List Jvm.Cond} {P : Jvm.Cond → Bool} (h1 : L.all (fun c => isCode c || P c) = true) (h2 : ∀ c ∈ L.filter isCode, P c = true) : L.all P = true := by
  refine List.all_eq_true.mpr fun c hc => ?_
  have h := List.all_eq_true.mp h1 c hc
  rcases Bool.eq_false_or_eq_true (isCode c) with hi | hi
  · exact h2 c (List.mem_filter.mpr ⟨hc, hi⟩)
  · simpa [hi] using h
set_option maxRecDepth 65536 in
theorem w_c0 : (Jvm.Cond.code x code maxLocals ret).before args0 about1 = true := code_word (m := ⟨1, 2⟩) (meth := k1m2) (c := k1c2) (by decide +kernel) rfl rfl rfl (by decide +kernel)
set_option maxRecDepth 65536 in
theorem w_c1 : (Jvm.Cond.code ({ cls := "java/lang/Math", name := "max", desc := "(II)I" } : Jvm.MethodName) jdk_29_method_65_code (2 : Nat) (Option.some Jvm.ClassFile.FieldType.int)).before args0 about1 = true := code_word (m := ⟨2, 1⟩) (meth := k2m1) (c := k2c1) (by decide +kernel) rfl rfl rfl (by decide +kernel)
set_option maxRecDepth 65536 in
theorem w_c2 : (Jvm.Cond.code ({ cls := "com/example/genano/genano/ValueCountsWeightPinLaw", name := "field", desc := "(JI)I" } : Jvm.MethodName) method_2_code (3 : Nat) (Option.some Jvm.ClassFile.FieldType.int)).before args0 about1 = true := code_word (m := ⟨1, 1⟩) (meth := k1m1) (c := k1c1) (by decide +kernel) rfl rfl rfl (by decide +kernel)
set_option maxRecDepth 65536 in
theorem w_c3 : (Jvm.Cond.code ({ cls := "com/example/genano/genano/ValueCounts", name := "<init>", desc := "([I[III)V" } : Jvm.MethodName) prog_58_method_1_code (7 : Nat) (Option.none : Option Jvm.ClassFile.FieldType)).before args0 about1 = true := code_word (m := ⟨3, 0⟩) (meth := k3m0) (c := k3c0) (by decide +kernel) rfl rfl rfl (by decide +kernel)
set_option maxRecDepth 65536 in
theorem w_c4 : (Jvm.Cond.code ({ cls := "java/lang/Object", name := "<init>", desc := "()V" } : Jvm.MethodName) object_method_1_code (1 : Nat) (Option.none : Option Jvm.ClassFile.FieldType)).before args0 about1 = true := code_word (m := ⟨0, 0⟩) (meth := k0m0) (c := k0c0) (by decide +kernel) rfl rfl rfl (by decide +kernel)
set_option maxRecDepth 65536 in
theorem w_c5 : (Jvm.Cond.code ({ cls := "com/example/genano/genano/ValueCounts", name := "weight", desc := "([D)D" } : Jvm.MethodName) prog_58_method_9_code (5 : Nat) (Option.some Jvm.ClassFile.FieldType.double)).before args0 about1 = true := code_word (m := ⟨3, 1⟩) (meth := k3m1) (c := k3c1) (by decide +kernel) rfl rfl rfl (by decide +kernel)
def codes1 : List Jvm.Cond := [Jvm.Cond.code x code maxLocals ret, Jvm.Cond.code ({ cls := "java/lang/Math", name := "max", desc := "(II)I" } : Jvm.MethodName) jdk_29_method_65_code (2 : Nat) (Option.some Jvm.ClassFile.FieldType.int), Jvm.Cond.code ({ cls := "com/example/genano/genano/ValueCountsWeightPinLaw", name := "field", desc := "(JI)I" } : Jvm.MethodName) method_2_code (3 : Nat) (Option.some Jvm.ClassFile.FieldType.int), Jvm.Cond.code ({ cls := "com/example/genano/genano/ValueCounts", name := "<init>", desc := "([I[III)V" } : Jvm.MethodName) prog_58_method_1_code (7 : Nat) (Option.none : Option Jvm.ClassFile.FieldType), Jvm.Cond.code ({ cls := "java/lang/Object", name := "<init>", desc := "()V" } : Jvm.MethodName) object_method_1_code (1 : Nat) (Option.none : Option Jvm.ClassFile.FieldType), Jvm.Cond.code ({ cls := "com/example/genano/genano/ValueCounts", name := "weight", desc := "([D)D" } : Jvm.MethodName) prog_58_method_9_code (5 : Nat) (Option.some Jvm.ClassFile.FieldType.double)]
set_option maxRecDepth 65536 in
theorem codes_eq : words1.filter isCode = codes1 := rfl
theorem w_codes : ∀ c ∈ words1.filter isCode, c.before args0 about1 = true := by
  rw [codes_eq]
  intro c hc
  simp only [codes1, List.mem_cons, List.not_mem_nil, or_false] at hc
  rcases hc with rfl | rfl | rfl | rfl | rfl | rfl
  · exact w_c0
  · exact w_c1
  · exact w_c2
  · exact w_c3
  · exact w_c4
  · exact w_c5
set_option maxRecDepth 65536 in
theorem w_t1 : (words1.take 24).all (fun c => isCode c || c.before args0 about1) = true := by decide +kernel
set_option maxRecDepth 65536 in
theorem w_t2 : (words1.drop 24).all (fun c => isCode c || c.before args0 about1) = true := by decide +kernel
theorem w_tables : (allAtoms (Jvm.Cond.code x code maxLocals ret :: tables_1)).before args0 about1 = true := by
  rw [allAtoms_all]
  show words1.all (fun c => c.before args0 about1) = true
  refine all_split ?_ w_codes
  rw [← List.take_append_drop 24 words1, List.all_append, w_t1, w_t2]
  rfl
set_option maxRecDepth 65536 in
theorem w_case : (Jvm.Cond.and given_1 narrow_1).before args0 about1 = true := by decide +kernel
theorem w_applies : (headSpec (Jvm.Cond.code x code maxLocals ret :: tables_1) room_1).applies x e0.platform about1 = true :=
  (Spec.applies_iff w_frames).mpr ⟨w_running, w_runnable, w_alone, w_named, w_hears, w_ripe, w_room, w_tables⟩
theorem atStart : AtStart classFile x code maxLocals ret World_1 tables_1 room_1 Calls_1 rest_1 Pre_1 launch0 p0 e0 about1 theMethod args0 below0 :=
  ⟨lists_1, trivial, launch0.admits_env _ _ _, launch0.least_env, fairChoices_fair.cas, fairChoices_fair.clock, w_frames, w_args, w_heap, w_applies, trivial, trivial, w_case⟩
end start1
theorem witness_1 : WitnessClaimed_1 := ⟨start1.p0, start1.e0, start1.about1, start1.theMethod, start1.args0, start1.below0, start1.atStart⟩
end Jvm.Pilot.@@N@@

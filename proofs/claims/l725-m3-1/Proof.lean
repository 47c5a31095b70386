import JvmDerived
import JvmDerived.Pilot.@@N@@Statement
import JvmDerived.Pilot.@@N@@Code
set_option linter.unusedVariables false
set_option linter.unusedSimpArgs false
namespace Jvm.Pilot.@@N@@
open Jvm Jvm.ClassFile Sem Op Lib Jvm.Free Jvm.Stand Jvm.LawKit Jvm.RoadKit Bundle Jvm.Pilot.@@N@@.Jvm.D
/-! A small calculus of my own over the library's laws: Run .. pc Ls st says: from every state at which this body stands with that heap, that pc, those locals and that stack the invocation comes back, and Q holds of what it returns and of the heap. -/
section Own
variable {l : Launch} {Z : State} {y : MethodName} {bytes : ByteArray} {ml : Nat} {ret : Option FieldType} {R : Room} {n0 : Nat} {Q : Option Value → Heap → Prop} {h : Heap} {k n : Nat} {pc : Nat} {Ls : List Slot} {st : List Value} {a0 : Array Value}

def own_Ctx (p : Program) (s : State) (m : MethodId) (meth : Method) (c : Code) (Z : State) (y : MethodName) (bytes : ByteArray) (ml : Nat) (ret : Option FieldType) : Prop :=
  p.tables.exec = Jvm.exec ∧ c.code = bytes ∧ c.maxLocals = ml ∧ Z.Warmed39 s.vm ∧ s.vm.findClass y.cls = some m.cls ∧ meth.name = y.name ∧ meth.sig.returnType = ret ∧ meth.locks = false

def Run (l : Launch) (Z : State) (y : MethodName) (bytes : ByteArray) (ml : Nat) (ret : Option FieldType) (R : Room) (n0 : Nat) (Q : Option Value → Heap → Prop) (h : Heap) (k n : Nat) (pc : Nat) (Ls : List Slot) (st : List Value) : Prop :=
  ∀ (p : Program) (e : Env) (s : State) (m : MethodId) (args : Array Value) (below : List Frame) (meth : Method) (c : Code) (T : State) (locs : List Loc),
    own_Ctx p s m meth c Z y bytes ml ret → Stand p l e R s m args below meth c T locs k n → Fr n0 locs → T.heap = h →
    ∃ s₂ o, Steps p.tables e below (T.setTop (mkF m pc Ls.toArray st)) s₂ ∧ s₂.status = .running ∧ Ended s₂ below o ∧ ∃ v L, o = .returned v ∧ (Q v s₂.heap ∧ Fr n0 L) ∧ FrameEnd s o s₂ L R.cells R.slots

/-- a step that leaves the state as it is -/
theorem Run.step {pc' : Nat} {Ls' : List Slot} {st' : List Value} (K : Run l Z y bytes ml ret R n0 Q h k n pc' Ls' st')
    (H : ∀ (p : Program) (e : Env) (s : State) (m : MethodId) (args : Array Value) (below : List Frame) (meth : Method) (c : Code) (T : State) (locs : List Loc),
      own_Ctx p s m meth c Z y bytes ml ret → Stand p l e R s m args below meth c T locs k n → T.heap = h → ∀ t, Steps p.tables e below (T.setTop (mkF m pc' Ls'.toArray st')) t → Steps p.tables e below (T.setTop (mkF m pc Ls.toArray st)) t) :
    Run l Z y bytes ml ret R n0 Q h k n pc Ls st := fun p e s m args below meth c T locs C X N E => by
  obtain ⟨s2, o, h1, h2⟩ := K p e s m args below meth c T locs C X N E
  exact ⟨s2, o, H p e s m args below meth c T locs C X E _ h1, h2⟩

/-- a step that moves the state -/
theorem Run.move {pc' : Nat} {Ls' : List Slot} {st' : List Value} {h' : Heap} {k' n' : Nat} (K : Run l Z y bytes ml ret R n0 Q h' k' n' pc' Ls' st')
    (H : ∀ (p : Program) (e : Env) (s : State) (m : MethodId) (args : Array Value) (below : List Frame) (meth : Method) (c : Code) (T : State) (locs : List Loc),
      own_Ctx p s m meth c Z y bytes ml ret → Stand p l e R s m args below meth c T locs k n → Fr n0 locs → T.heap = h →
        ∃ T' locs', Stand p l e R s m args below meth c T' locs' k' n' ∧ Fr n0 locs' ∧ T'.heap = h' ∧ ∀ t, Steps p.tables e below (T'.setTop (mkF m pc' Ls'.toArray st')) t → Steps p.tables e below (T.setTop (mkF m pc Ls.toArray st)) t) :
    Run l Z y bytes ml ret R n0 Q h k n pc Ls st := fun p e s m args below meth c T locs C X N E => by
  obtain ⟨T', locs', X', N', E', st'⟩ := H p e s m args below meth c T locs C X N E
  obtain ⟨s2, o, h1, h2⟩ := K p e s m args below meth c T' locs' C X' N' E'
  exact ⟨s2, o, st' _ h1, h2⟩

/-! loads, constants -/
theorem own_get {m : MethodId} {j : Nat} {v : Value} (h : Ls[j]? = some (.val v)) : (mkF m pc Ls.toArray st).locals[j]? = some (.val v) := by
  show Ls.toArray[j]? = _; rw [List.getElem?_toArray]; exact h
theorem r_aloadN {j : Fin 4} {a : Addr} (pc' : Nat) (hd : decode bytes pc = .ok (.aload_n j, 1)) (hp : pc + 1 = pc') (hl : Ls[j.val]? = some (.val (.ref a))) (K : Run l Z y bytes ml ret R n0 Q h k n pc' Ls (.ref a :: st)) : Run l Z y bytes ml ret R n0 Q h k n pc Ls st := by
  subst hp; exact K.step fun p e s m args below meth c T locs C X E t q => XS.aloadN X.here C.1 rfl (hb C.2.1 hd) (own_get hl) rfl q
theorem r_aload {j : Nat} {a : Addr} (pc' : Nat) (hd : decode bytes pc = .ok (.aload j, 2)) (hp : pc + 2 = pc') (hl : Ls[j]? = some (.val (.ref a))) (K : Run l Z y bytes ml ret R n0 Q h k n pc' Ls (.ref a :: st)) : Run l Z y bytes ml ret R n0 Q h k n pc Ls st := by
  subst hp; exact K.step fun p e s m args below meth c T locs C X E t q => XS.aload X.here C.1 rfl (hb C.2.1 hd) (own_get hl) rfl q
theorem r_aloadNV {j : Fin 4} {v : Value} (pc' : Nat) (hd : decode bytes pc = .ok (.aload_n j, 1)) (hp : pc + 1 = pc') (hl : Ls[j.val]? = some (.val v)) (hv : v.isRef = true) (K : Run l Z y bytes ml ret R n0 Q h k n pc' Ls (v :: st)) : Run l Z y bytes ml ret R n0 Q h k n pc Ls st := by
  subst hp; exact K.step fun p e s m args below meth c T locs C X E t q => XS.aloadN X.here C.1 rfl (hb C.2.1 hd) (own_get hl) hv q
theorem r_aloadV {j : Nat} {v : Value} (pc' : Nat) (hd : decode bytes pc = .ok (.aload j, 2)) (hp : pc + 2 = pc') (hl : Ls[j]? = some (.val v)) (hv : v.isRef = true) (K : Run l Z y bytes ml ret R n0 Q h k n pc' Ls (v :: st)) : Run l Z y bytes ml ret R n0 Q h k n pc Ls st := by
  subst hp; exact K.step fun p e s m args below meth c T locs C X E t q => XS.aload X.here C.1 rfl (hb C.2.1 hd) (own_get hl) hv q
theorem r_iloadN {j : Fin 4} {v : Int32} (pc' : Nat) (hd : decode bytes pc = .ok (.iload_n j, 1)) (hp : pc + 1 = pc') (hl : Ls[j.val]? = some (.val (.int v))) (K : Run l Z y bytes ml ret R n0 Q h k n pc' Ls (.int v :: st)) : Run l Z y bytes ml ret R n0 Q h k n pc Ls st := by
  subst hp; exact K.step fun p e s m args below meth c T locs C X E t q => XS.iloadN X.here C.1 rfl (hb C.2.1 hd) (own_get hl) q
theorem r_iload {j : Nat} {v : Int32} (pc' : Nat) (hd : decode bytes pc = .ok (.iload j, 2)) (hp : pc + 2 = pc') (hl : Ls[j]? = some (.val (.int v))) (K : Run l Z y bytes ml ret R n0 Q h k n pc' Ls (.int v :: st)) : Run l Z y bytes ml ret R n0 Q h k n pc Ls st := by
  subst hp; exact K.step fun p e s m args below meth c T locs C X E t q => XS.iload X.here C.1 rfl (hb C.2.1 hd) (own_get hl) q
theorem r_lloadN {j : Fin 4} {v : Int64} (pc' : Nat) (hd : decode bytes pc = .ok (.lload_n j, 1)) (hp : pc + 1 = pc') (hl : Ls[j.val]? = some (.val (.long v))) (K : Run l Z y bytes ml ret R n0 Q h k n pc' Ls (.long v :: st)) : Run l Z y bytes ml ret R n0 Q h k n pc Ls st := by
  subst hp; exact K.step fun p e s m args below meth c T locs C X E t q => XT.lloadN X.here C.1 rfl (hb C.2.1 hd) (own_get hl) q
theorem r_lload {j : Nat} {v : Int64} (pc' : Nat) (hd : decode bytes pc = .ok (.lload j, 2)) (hp : pc + 2 = pc') (hl : Ls[j]? = some (.val (.long v))) (K : Run l Z y bytes ml ret R n0 Q h k n pc' Ls (.long v :: st)) : Run l Z y bytes ml ret R n0 Q h k n pc Ls st := by
  subst hp; exact K.step fun p e s m args below meth c T locs C X E t q => XT.lload X.here C.1 rfl (hb C.2.1 hd) (own_get hl) q
theorem r_iconst {i : Int} (v : Int32) (pc' : Nat) (hd : decode bytes pc = .ok (.iconst i, 1)) (hp : pc + 1 = pc') (hv : Int32.ofInt i = v) (K : Run l Z y bytes ml ret R n0 Q h k n pc' Ls (.int v :: st)) : Run l Z y bytes ml ret R n0 Q h k n pc Ls st := by
  subst hp hv; exact K.step fun p e s m args below meth c T locs C X E t q => XS.iconst X.here C.1 rfl (hb C.2.1 hd) q
theorem r_bipush {i : Int} (v : Int32) (pc' : Nat) (hd : decode bytes pc = .ok (.bipush i, 2)) (hp : pc + 2 = pc') (hv : (Int8.ofInt i).toInt32 = v) (K : Run l Z y bytes ml ret R n0 Q h k n pc' Ls (.int v :: st)) : Run l Z y bytes ml ret R n0 Q h k n pc Ls st := by
  subst hp hv; exact K.step fun p e s m args below meth c T locs C X E t q => XS.bipush X.here C.1 rfl (hb C.2.1 hd) q
theorem r_sipush {i : Int} (v : Int32) (pc' : Nat) (hd : decode bytes pc = .ok (.sipush i, 3)) (hp : pc + 3 = pc') (hv : (Int16.ofInt i).toInt32 = v) (K : Run l Z y bytes ml ret R n0 Q h k n pc' Ls (.int v :: st)) : Run l Z y bytes ml ret R n0 Q h k n pc Ls st := by
  subst hp hv; exact K.step fun p e s m args below meth c T locs C X E t q => XS.sipush X.here C.1 rfl (hb C.2.1 hd) q
theorem r_lconst {i : Fin 2} (v : Int64) (pc' : Nat) (hd : decode bytes pc = .ok (.lconst i, 1)) (hp : pc + 1 = pc') (hv : Int64.ofNat i = v) (K : Run l Z y bytes ml ret R n0 Q h k n pc' Ls (.long v :: st)) : Run l Z y bytes ml ret R n0 Q h k n pc Ls st := by
  subst hp hv; exact K.step fun p e s m args below meth c T locs C X E t q => XT.lconst X.here C.1 rfl (hb C.2.1 hd) q
theorem r_null (pc' : Nat) (hd : decode bytes pc = .ok (.aconst_null, 1)) (hp : pc + 1 = pc') (K : Run l Z y bytes ml ret R n0 Q h k n pc' Ls (.null :: st)) : Run l Z y bytes ml ret R n0 Q h k n pc Ls st := by
  subst hp; exact K.step fun p e s m args below meth c T locs C X E t q => XS.aconstNull X.here C.1 rfl (hb C.2.1 hd) q
theorem r_ldc {i : Nat} {v : Int32} (pc' : Nat) (hd : decode bytes pc = .ok (.ldc i, 2)) (hp : pc + 2 = pc') (w : (Jvm.Cond.constant y.cls i v).before a0 Z = true) (K : Run l Z y bytes ml ret R n0 Q h k n pc' Ls (.int v :: st)) : Run l Z y bytes ml ret R n0 Q h k n pc Ls st := by
  subst hp; exact K.step fun p e s m args below meth c T locs C X E t q => X.ldcInt C.1 C.2.2.2.2.1 (mvT C.2.2.2.1 w) (g := mkF m pc Ls.toArray st) rfl (hb C.2.1 hd) _ q
theorem r_ldc2 {i : Nat} {v : Int64} (pc' : Nat) (hd : decode bytes pc = .ok (.ldc2_w i, 3)) (hp : pc + 3 = pc') (w : (Jvm.Cond.constantLong y.cls i v).before a0 Z = true) (K : Run l Z y bytes ml ret R n0 Q h k n pc' Ls (.long v :: st)) : Run l Z y bytes ml ret R n0 Q h k n pc Ls st := by
  subst hp; exact K.step fun p e s m args below meth c T locs C X E t q => X.ldc2Long C.1 C.2.2.2.2.1 (mvT C.2.2.2.1 w) (g := mkF m pc Ls.toArray st) rfl (hb C.2.1 hd) _ q
/-! stores -/
def own_one : Slot → Bool
  | .unset => true
  | .val (.int _) => true
  | .val (.float _) => true
  | .val .null => true
  | .val (.ref _) => true
  | .val (.retAddr _) => true
  | _ => false
theorem own_one_spec {o : Slot} (h : own_one o = true) : o = .unset ∨ ∃ w, o = .val w ∧ w.category = 1 := by
  cases o with
  | unset => exact Or.inl rfl
  | second => cases h
  | val w => cases w <;> first | exact Or.inr ⟨_, rfl, rfl⟩ | cases h
theorem own_put {m : MethodId} {j : Nat} {v : Value} (h : Ls[j]?.map own_one = some true) (hv : v.category = 1) : storeLocals (mkF m pc Ls.toArray st).locals j v = some (Ls.set j (.val v)).toArray := by
  show storeLocals Ls.toArray j v = _
  cases ho : Ls[j]? with
  | none => rw [ho] at h; cases h
  | some o =>
    rw [ho] at h
    have := XS.store1 (l := Ls.toArray) (i := j) (v := v) (o := o) (by rw [List.getElem?_toArray]; exact ho) (own_one_spec (Option.some.inj h)) hv
    rw [this, List.setIfInBounds_toArray]
theorem r_istoreN {j : Fin 4} {v : Int32} (pc' : Nat) (hd : decode bytes pc = .ok (.istore_n j, 1)) (hp : pc + 1 = pc') (hl : Ls[j.val]?.map own_one = some true) (K : Run l Z y bytes ml ret R n0 Q h k n pc' (Ls.set j.val (.val (.int v))) st) : Run l Z y bytes ml ret R n0 Q h k n pc Ls (.int v :: st) := by
  subst hp; exact K.step fun p e s m args below meth c T locs C X E t q => XS.istoreN X.here C.1 rfl (hb C.2.1 hd) rfl (own_put hl rfl) q
theorem r_istore {j : Nat} {v : Int32} (pc' : Nat) (hd : decode bytes pc = .ok (.istore j, 2)) (hp : pc + 2 = pc') (hl : Ls[j]?.map own_one = some true) (K : Run l Z y bytes ml ret R n0 Q h k n pc' (Ls.set j (.val (.int v))) st) : Run l Z y bytes ml ret R n0 Q h k n pc Ls (.int v :: st) := by
  subst hp; exact K.step fun p e s m args below meth c T locs C X E t q => XS.istore X.here C.1 rfl (hb C.2.1 hd) rfl (own_put hl rfl) q
theorem r_astoreN {j : Fin 4} {a : Addr} (pc' : Nat) (hd : decode bytes pc = .ok (.astore_n j, 1)) (hp : pc + 1 = pc') (hl : Ls[j.val]?.map own_one = some true) (K : Run l Z y bytes ml ret R n0 Q h k n pc' (Ls.set j.val (.val (.ref a))) st) : Run l Z y bytes ml ret R n0 Q h k n pc Ls (.ref a :: st) := by
  subst hp; exact K.step fun p e s m args below meth c T locs C X E t q => XS.astoreN X.here C.1 rfl (hb C.2.1 hd) rfl rfl (own_put hl rfl) q
theorem r_astore {j : Nat} {a : Addr} (pc' : Nat) (hd : decode bytes pc = .ok (.astore j, 2)) (hp : pc + 2 = pc') (hl : Ls[j]?.map own_one = some true) (K : Run l Z y bytes ml ret R n0 Q h k n pc' (Ls.set j (.val (.ref a))) st) : Run l Z y bytes ml ret R n0 Q h k n pc Ls (.ref a :: st) := by
  subst hp; exact K.step fun p e s m args below meth c T locs C X E t q => XS.astore X.here C.1 rfl (hb C.2.1 hd) rfl rfl (own_put hl rfl) q
theorem own_cat {v : Value} (hv : v.isRef = true) : v.category = 1 := by cases v <;> first | rfl | cases hv
theorem r_astoreNV {j : Fin 4} {v : Value} (pc' : Nat) (hd : decode bytes pc = .ok (.astore_n j, 1)) (hp : pc + 1 = pc') (hl : Ls[j.val]?.map own_one = some true) (hv : v.isRef = true) (K : Run l Z y bytes ml ret R n0 Q h k n pc' (Ls.set j.val (.val v)) st) : Run l Z y bytes ml ret R n0 Q h k n pc Ls (v :: st) := by
  subst hp; exact K.step fun p e s m args below meth c T locs C X E t q => XS.astoreN X.here C.1 rfl (hb C.2.1 hd) rfl hv (own_put hl (own_cat hv)) q
theorem r_astoreV {j : Nat} {v : Value} (pc' : Nat) (hd : decode bytes pc = .ok (.astore j, 2)) (hp : pc + 2 = pc') (hl : Ls[j]?.map own_one = some true) (hv : v.isRef = true) (K : Run l Z y bytes ml ret R n0 Q h k n pc' (Ls.set j (.val v)) st) : Run l Z y bytes ml ret R n0 Q h k n pc Ls (v :: st) := by
  subst hp; exact K.step fun p e s m args below meth c T locs C X E t q => XS.astore X.here C.1 rfl (hb C.2.1 hd) rfl hv (own_put hl (own_cat hv)) q
theorem r_iinc {j : Nat} {cst : Int} {x : Int32} (v : Int32) (pc' : Nat) (hd : decode bytes pc = .ok (.iinc j cst, 3)) (hp : pc + 3 = pc') (hv : Int32.ofInt cst = v) (hl : Ls[j]? = some (.val (.int x))) (K : Run l Z y bytes ml ret R n0 Q h k n pc' (Ls.set j (.val (.int (x + v)))) st) : Run l Z y bytes ml ret R n0 Q h k n pc Ls st := by
  subst hp hv; exact K.step fun p e s m args below meth c T locs C X E t q => XS.iinc X.here C.1 rfl (hb C.2.1 hd) (own_get hl) (own_put (by rw [hl]; rfl) rfl) q
theorem r_iadd {x : Int32} {z : Int32} (pc' : Nat) (hd : decode bytes pc = .ok (.iadd, 1)) (hp : pc + 1 = pc') (K : Run l Z y bytes ml ret R n0 Q h k n pc' Ls (.int (x + z) :: st)) : Run l Z y bytes ml ret R n0 Q h k n pc Ls (.int z :: .int x :: st) := by
  subst hp; exact K.step fun p e s m args below meth c T locs C X E t q => XS.iadd X.here C.1 rfl (hb C.2.1 hd) rfl q
theorem r_isub {x : Int32} {z : Int32} (pc' : Nat) (hd : decode bytes pc = .ok (.isub, 1)) (hp : pc + 1 = pc') (K : Run l Z y bytes ml ret R n0 Q h k n pc' Ls (.int (x - z) :: st)) : Run l Z y bytes ml ret R n0 Q h k n pc Ls (.int z :: .int x :: st) := by
  subst hp; exact K.step fun p e s m args below meth c T locs C X E t q => XS.isub X.here C.1 rfl (hb C.2.1 hd) rfl q
theorem r_imul {x : Int32} {z : Int32} (pc' : Nat) (hd : decode bytes pc = .ok (.imul, 1)) (hp : pc + 1 = pc') (K : Run l Z y bytes ml ret R n0 Q h k n pc' Ls (.int (x * z) :: st)) : Run l Z y bytes ml ret R n0 Q h k n pc Ls (.int z :: .int x :: st) := by
  subst hp; exact K.step fun p e s m args below meth c T locs C X E t q => XS.imul X.here C.1 rfl (hb C.2.1 hd) rfl q
theorem r_iand {x : Int32} {z : Int32} (pc' : Nat) (hd : decode bytes pc = .ok (.iand, 1)) (hp : pc + 1 = pc') (K : Run l Z y bytes ml ret R n0 Q h k n pc' Ls (.int (x &&& z) :: st)) : Run l Z y bytes ml ret R n0 Q h k n pc Ls (.int z :: .int x :: st) := by
  subst hp; exact K.step fun p e s m args below meth c T locs C X E t q => XS.iand X.here C.1 rfl (hb C.2.1 hd) rfl q
theorem r_ior {x : Int32} {z : Int32} (pc' : Nat) (hd : decode bytes pc = .ok (.ior, 1)) (hp : pc + 1 = pc') (K : Run l Z y bytes ml ret R n0 Q h k n pc' Ls (.int (x ||| z) :: st)) : Run l Z y bytes ml ret R n0 Q h k n pc Ls (.int z :: .int x :: st) := by
  subst hp; exact K.step fun p e s m args below meth c T locs C X E t q => XT.ior X.here C.1 rfl (hb C.2.1 hd) rfl q
theorem r_ixor {x : Int32} {z : Int32} (pc' : Nat) (hd : decode bytes pc = .ok (.ixor, 1)) (hp : pc + 1 = pc') (K : Run l Z y bytes ml ret R n0 Q h k n pc' Ls (.int (x ^^^ z) :: st)) : Run l Z y bytes ml ret R n0 Q h k n pc Ls (.int z :: .int x :: st) := by
  subst hp; exact K.step fun p e s m args below meth c T locs C X E t q => XT.ixor X.here C.1 rfl (hb C.2.1 hd) rfl q
theorem r_ladd {x : Int64} {z : Int64} (pc' : Nat) (hd : decode bytes pc = .ok (.ladd, 1)) (hp : pc + 1 = pc') (K : Run l Z y bytes ml ret R n0 Q h k n pc' Ls (.long (x + z) :: st)) : Run l Z y bytes ml ret R n0 Q h k n pc Ls (.long z :: .long x :: st) := by
  subst hp; exact K.step fun p e s m args below meth c T locs C X E t q => XT.ladd X.here C.1 rfl (hb C.2.1 hd) rfl q
theorem r_lsub {x : Int64} {z : Int64} (pc' : Nat) (hd : decode bytes pc = .ok (.lsub, 1)) (hp : pc + 1 = pc') (K : Run l Z y bytes ml ret R n0 Q h k n pc' Ls (.long (x - z) :: st)) : Run l Z y bytes ml ret R n0 Q h k n pc Ls (.long z :: .long x :: st) := by
  subst hp; exact K.step fun p e s m args below meth c T locs C X E t q => XT.lsub X.here C.1 rfl (hb C.2.1 hd) rfl q
theorem r_lmul {x : Int64} {z : Int64} (pc' : Nat) (hd : decode bytes pc = .ok (.lmul, 1)) (hp : pc + 1 = pc') (K : Run l Z y bytes ml ret R n0 Q h k n pc' Ls (.long (x * z) :: st)) : Run l Z y bytes ml ret R n0 Q h k n pc Ls (.long z :: .long x :: st) := by
  subst hp; exact K.step fun p e s m args below meth c T locs C X E t q => XT.lmul X.here C.1 rfl (hb C.2.1 hd) rfl q
theorem r_land {x : Int64} {z : Int64} (pc' : Nat) (hd : decode bytes pc = .ok (.land, 1)) (hp : pc + 1 = pc') (K : Run l Z y bytes ml ret R n0 Q h k n pc' Ls (.long (x &&& z) :: st)) : Run l Z y bytes ml ret R n0 Q h k n pc Ls (.long z :: .long x :: st) := by
  subst hp; exact K.step fun p e s m args below meth c T locs C X E t q => XT.land X.here C.1 rfl (hb C.2.1 hd) rfl q
theorem r_lor {x : Int64} {z : Int64} (pc' : Nat) (hd : decode bytes pc = .ok (.lor, 1)) (hp : pc + 1 = pc') (K : Run l Z y bytes ml ret R n0 Q h k n pc' Ls (.long (x ||| z) :: st)) : Run l Z y bytes ml ret R n0 Q h k n pc Ls (.long z :: .long x :: st) := by
  subst hp; exact K.step fun p e s m args below meth c T locs C X E t q => XT.lor X.here C.1 rfl (hb C.2.1 hd) rfl q
theorem r_lxor {x : Int64} {z : Int64} (pc' : Nat) (hd : decode bytes pc = .ok (.lxor, 1)) (hp : pc + 1 = pc') (K : Run l Z y bytes ml ret R n0 Q h k n pc' Ls (.long (x ^^^ z) :: st)) : Run l Z y bytes ml ret R n0 Q h k n pc Ls (.long z :: .long x :: st) := by
  subst hp; exact K.step fun p e s m args below meth c T locs C X E t q => XT.lxor X.here C.1 rfl (hb C.2.1 hd) rfl q
theorem r_ishl {x : Int32} {z : Int32} (pc' : Nat) (hd : decode bytes pc = .ok (.ishl, 1)) (hp : pc + 1 = pc') (K : Run l Z y bytes ml ret R n0 Q h k n pc' Ls (.int (x <<< (z &&& 31)) :: st)) : Run l Z y bytes ml ret R n0 Q h k n pc Ls (.int z :: .int x :: st) := by
  subst hp; exact K.step fun p e s m args below meth c T locs C X E t q => XT.ishl X.here C.1 rfl (hb C.2.1 hd) rfl q
theorem r_ishr {x : Int32} {z : Int32} (pc' : Nat) (hd : decode bytes pc = .ok (.ishr, 1)) (hp : pc + 1 = pc') (K : Run l Z y bytes ml ret R n0 Q h k n pc' Ls (.int (x >>> (z &&& 31)) :: st)) : Run l Z y bytes ml ret R n0 Q h k n pc Ls (.int z :: .int x :: st) := by
  subst hp; exact K.step fun p e s m args below meth c T locs C X E t q => XT.ishr X.here C.1 rfl (hb C.2.1 hd) rfl q
theorem r_iushr {x : Int32} {z : Int32} (pc' : Nat) (hd : decode bytes pc = .ok (.iushr, 1)) (hp : pc + 1 = pc') (K : Run l Z y bytes ml ret R n0 Q h k n pc' Ls (.int (XT.ushr x z) :: st)) : Run l Z y bytes ml ret R n0 Q h k n pc Ls (.int z :: .int x :: st) := by
  subst hp; exact K.step fun p e s m args below meth c T locs C X E t q => XT.iushr X.here C.1 rfl (hb C.2.1 hd) rfl q
theorem r_lshl {x : Int64} {z : Int32} (pc' : Nat) (hd : decode bytes pc = .ok (.lshl, 1)) (hp : pc + 1 = pc') (K : Run l Z y bytes ml ret R n0 Q h k n pc' Ls (.long (x <<< (z.toInt64 &&& 63)) :: st)) : Run l Z y bytes ml ret R n0 Q h k n pc Ls (.int z :: .long x :: st) := by
  subst hp; exact K.step fun p e s m args below meth c T locs C X E t q => XT.lshl X.here C.1 rfl (hb C.2.1 hd) rfl q
theorem r_lshr {x : Int64} {z : Int32} (pc' : Nat) (hd : decode bytes pc = .ok (.lshr, 1)) (hp : pc + 1 = pc') (K : Run l Z y bytes ml ret R n0 Q h k n pc' Ls (.long (x >>> (z.toInt64 &&& 63)) :: st)) : Run l Z y bytes ml ret R n0 Q h k n pc Ls (.int z :: .long x :: st) := by
  subst hp; exact K.step fun p e s m args below meth c T locs C X E t q => XT.lshr X.here C.1 rfl (hb C.2.1 hd) rfl q
theorem r_lushr {x : Int64} {z : Int32} (pc' : Nat) (hd : decode bytes pc = .ok (.lushr, 1)) (hp : pc + 1 = pc') (K : Run l Z y bytes ml ret R n0 Q h k n pc' Ls (.long (XT.ushrL x z) :: st)) : Run l Z y bytes ml ret R n0 Q h k n pc Ls (.int z :: .long x :: st) := by
  subst hp; exact K.step fun p e s m args below meth c T locs C X E t q => XT.lushr X.here C.1 rfl (hb C.2.1 hd) rfl q
theorem r_idiv {x : Int32} {z : Int32} (pc' : Nat) (hd : decode bytes pc = .ok (.idiv, 1)) (hp : pc + 1 = pc') (hy : z ≠ 0) (K : Run l Z y bytes ml ret R n0 Q h k n pc' Ls (.int (x / z) :: st)) : Run l Z y bytes ml ret R n0 Q h k n pc Ls (.int z :: .int x :: st) := by
  subst hp; exact K.step fun p e s m args below meth c T locs C X E t q => XS.idiv X.here C.1 rfl (hb C.2.1 hd) rfl hy q
theorem r_lcmp {x : Int64} {z : Int64} (pc' : Nat) (hd : decode bytes pc = .ok (.lcmp, 1)) (hp : pc + 1 = pc') (K : Run l Z y bytes ml ret R n0 Q h k n pc' Ls (.int (XT.cmpL x z) :: st)) : Run l Z y bytes ml ret R n0 Q h k n pc Ls (.long z :: .long x :: st) := by
  subst hp; exact K.step fun p e s m args below meth c T locs C X E t q => XT.lcmp X.here C.1 rfl (hb C.2.1 hd) rfl q
theorem r_irem {x z : Int32} (pc' : Nat) (hd : decode bytes pc = .ok (.irem, 1)) (hp : pc + 1 = pc') (hy : z ≠ 0) (K : Run l Z y bytes ml ret R n0 Q h k n pc' Ls (.int (x % z) :: st)) : Run l Z y bytes ml ret R n0 Q h k n pc Ls (.int z :: .int x :: st) := by
  subst hp; exact K.step fun p e s m args below meth c T locs C X E t q => iremM X C.1 rfl (hb C.2.1 hd) rfl hy q
theorem r_ineg {x : Int32} (pc' : Nat) (hd : decode bytes pc = .ok (.ineg, 1)) (hp : pc + 1 = pc') (K : Run l Z y bytes ml ret R n0 Q h k n pc' Ls (.int (-x) :: st)) : Run l Z y bytes ml ret R n0 Q h k n pc Ls (.int x :: st) := by
  subst hp; exact K.step fun p e s m args below meth c T locs C X E t q => XS.ineg X.here C.1 rfl (hb C.2.1 hd) rfl q
theorem r_i2l {x : Int32} (pc' : Nat) (hd : decode bytes pc = .ok (.i2l, 1)) (hp : pc + 1 = pc') (K : Run l Z y bytes ml ret R n0 Q h k n pc' Ls (.long x.toInt64 :: st)) : Run l Z y bytes ml ret R n0 Q h k n pc Ls (.int x :: st) := by
  subst hp; exact K.step fun p e s m args below meth c T locs C X E t q => XT.i2l X.here C.1 rfl (hb C.2.1 hd) rfl q
theorem r_l2i {x : Int64} (pc' : Nat) (hd : decode bytes pc = .ok (.l2i, 1)) (hp : pc + 1 = pc') (K : Run l Z y bytes ml ret R n0 Q h k n pc' Ls (.int x.toInt32 :: st)) : Run l Z y bytes ml ret R n0 Q h k n pc Ls (.long x :: st) := by
  subst hp; exact K.step fun p e s m args below meth c T locs C X E t q => XT.l2i X.here C.1 rfl (hb C.2.1 hd) rfl q
theorem r_i2b {x : Int32} (pc' : Nat) (hd : decode bytes pc = .ok (.i2b, 1)) (hp : pc + 1 = pc') (K : Run l Z y bytes ml ret R n0 Q h k n pc' Ls (.int x.toInt8.toInt32 :: st)) : Run l Z y bytes ml ret R n0 Q h k n pc Ls (.int x :: st) := by
  subst hp; exact K.step fun p e s m args below meth c T locs C X E t q => XT.i2b X.here C.1 rfl (hb C.2.1 hd) rfl q
theorem r_i2c {x : Int32} (pc' : Nat) (hd : decode bytes pc = .ok (.i2c, 1)) (hp : pc + 1 = pc') (K : Run l Z y bytes ml ret R n0 Q h k n pc' Ls (.int x.toUInt32.toUInt16.toUInt32.toInt32 :: st)) : Run l Z y bytes ml ret R n0 Q h k n pc Ls (.int x :: st) := by
  subst hp; exact K.step fun p e s m args below meth c T locs C X E t q => XT.i2c X.here C.1 rfl (hb C.2.1 hd) rfl q
theorem r_i2s {x : Int32} (pc' : Nat) (hd : decode bytes pc = .ok (.i2s, 1)) (hp : pc + 1 = pc') (K : Run l Z y bytes ml ret R n0 Q h k n pc' Ls (.int x.toInt16.toInt32 :: st)) : Run l Z y bytes ml ret R n0 Q h k n pc Ls (.int x :: st) := by
  subst hp; exact K.step fun p e s m args below meth c T locs C X E t q => XT.i2s X.here C.1 rfl (hb C.2.1 hd) rfl q
theorem r_dup {x : Value} (pc' : Nat) (hd : decode bytes pc = .ok (.dup, 1)) (hp : pc + 1 = pc') (hc : x.category = 1) (K : Run l Z y bytes ml ret R n0 Q h k n pc' Ls (x :: x :: st)) : Run l Z y bytes ml ret R n0 Q h k n pc Ls (x :: st) := by
  subst hp; exact K.step fun p e s m args below meth c T locs C X E t q => XS.dup X.here C.1 rfl (hb C.2.1 hd) rfl hc q
theorem r_dupX1 {x z : Value} (pc' : Nat) (hd : decode bytes pc = .ok (.dup_x1, 1)) (hp : pc + 1 = pc') (hc : x.category = 1) (hc' : z.category = 1) (K : Run l Z y bytes ml ret R n0 Q h k n pc' Ls (x :: z :: x :: st)) : Run l Z y bytes ml ret R n0 Q h k n pc Ls (x :: z :: st) := by
  subst hp; exact K.step fun p e s m args below meth c T locs C X E t q => XT.dupX1 X.here C.1 rfl (hb C.2.1 hd) rfl hc hc' q
theorem r_pop {x : Value} (pc' : Nat) (hd : decode bytes pc = .ok (.pop, 1)) (hp : pc + 1 = pc') (hc : x.category = 1) (K : Run l Z y bytes ml ret R n0 Q h k n pc' Ls st) : Run l Z y bytes ml ret R n0 Q h k n pc Ls (x :: st) := by
  subst hp; exact K.step fun p e s m args below meth c T locs C X E t q => XT.pop X.here C.1 rfl (hb C.2.1 hd) rfl hc q
theorem r_goto {o : Int} (pc' : Nat) (hd : decode bytes pc = .ok (.goto o, 3)) (hp : (0 : Int) ≤ (pc : Int) + o ∧ ((pc : Int) + o).toNat = pc') (K : Run l Z y bytes ml ret R n0 Q h k n pc' Ls st) : Run l Z y bytes ml ret R n0 Q h k n pc Ls st :=
  K.step fun p e s m args below meth c T locs C X E t q => XS.goto X.here C.1 rfl rfl (hb C.2.1 hd) hp.1 hp.2 q
theorem r_icmp_eq {x z : Int32} {o : Int} (pc' pc'' : Nat) (hd : decode bytes pc = .ok (.if_icmp .eq o, 3)) (hp : (0 : Int) ≤ (pc : Int) + o ∧ ((pc : Int) + o).toNat = pc') (hq : pc + 3 = pc'') (K1 : x = z → Run l Z y bytes ml ret R n0 Q h k n pc' Ls st) (K2 : ¬ x = z → Run l Z y bytes ml ret R n0 Q h k n pc'' Ls st) : Run l Z y bytes ml ret R n0 Q h k n pc Ls (.int z :: .int x :: st) := by
  subst hq
  by_cases q' : x = z
  · exact (K1 q').step fun p e s m args below meth c T locs C X E t q => XS.icmpYes X.here C.1 rfl rfl (hb C.2.1 hd) rfl (teq q').1 hp.1 hp.2 q
  · exact (K2 q').step fun p e s m args below meth c T locs C X E t q => XS.icmpNo X.here C.1 rfl (hb C.2.1 hd) rfl (feq q').1 q
theorem r_if_eq {x : Int32} {o : Int} (pc' pc'' : Nat) (hd : decode bytes pc = .ok (.ifCond .eq o, 3)) (hp : (0 : Int) ≤ (pc : Int) + o ∧ ((pc : Int) + o).toNat = pc') (hq : pc + 3 = pc'') (K1 : x = 0 → Run l Z y bytes ml ret R n0 Q h k n pc' Ls st) (K2 : ¬ x = 0 → Run l Z y bytes ml ret R n0 Q h k n pc'' Ls st) : Run l Z y bytes ml ret R n0 Q h k n pc Ls (.int x :: st) := by
  subst hq
  by_cases q' : x = 0
  · exact (K1 q').step fun p e s m args below meth c T locs C X E t q => XS.ifYes X.here C.1 rfl rfl (hb C.2.1 hd) rfl ((if0 _ _).trans (teq q').1) hp.1 hp.2 q
  · exact (K2 q').step fun p e s m args below meth c T locs C X E t q => XS.ifNo X.here C.1 rfl (hb C.2.1 hd) rfl ((if0 _ _).trans (feq q').1) q
theorem r_icmp_ne {x z : Int32} {o : Int} (pc' pc'' : Nat) (hd : decode bytes pc = .ok (.if_icmp .ne o, 3)) (hp : (0 : Int) ≤ (pc : Int) + o ∧ ((pc : Int) + o).toNat = pc') (hq : pc + 3 = pc'') (K1 : ¬ x = z → Run l Z y bytes ml ret R n0 Q h k n pc' Ls st) (K2 : x = z → Run l Z y bytes ml ret R n0 Q h k n pc'' Ls st) : Run l Z y bytes ml ret R n0 Q h k n pc Ls (.int z :: .int x :: st) := by
  subst hq
  by_cases q' : x = z
  · exact (K2 q').step fun p e s m args below meth c T locs C X E t q => XS.icmpNo X.here C.1 rfl (hb C.2.1 hd) rfl (teq q').2 q
  · exact (K1 q').step fun p e s m args below meth c T locs C X E t q => XS.icmpYes X.here C.1 rfl rfl (hb C.2.1 hd) rfl (feq q').2 hp.1 hp.2 q
theorem r_if_ne {x : Int32} {o : Int} (pc' pc'' : Nat) (hd : decode bytes pc = .ok (.ifCond .ne o, 3)) (hp : (0 : Int) ≤ (pc : Int) + o ∧ ((pc : Int) + o).toNat = pc') (hq : pc + 3 = pc'') (K1 : ¬ x = 0 → Run l Z y bytes ml ret R n0 Q h k n pc' Ls st) (K2 : x = 0 → Run l Z y bytes ml ret R n0 Q h k n pc'' Ls st) : Run l Z y bytes ml ret R n0 Q h k n pc Ls (.int x :: st) := by
  subst hq
  by_cases q' : x = 0
  · exact (K2 q').step fun p e s m args below meth c T locs C X E t q => XS.ifNo X.here C.1 rfl (hb C.2.1 hd) rfl ((if0 _ _).trans (teq q').2) q
  · exact (K1 q').step fun p e s m args below meth c T locs C X E t q => XS.ifYes X.here C.1 rfl rfl (hb C.2.1 hd) rfl ((if0 _ _).trans (feq q').2) hp.1 hp.2 q
theorem r_icmp_lt {x z : Int32} {o : Int} (pc' pc'' : Nat) (hd : decode bytes pc = .ok (.if_icmp .lt o, 3)) (hp : (0 : Int) ≤ (pc : Int) + o ∧ ((pc : Int) + o).toNat = pc') (hq : pc + 3 = pc'') (K1 : x < z → Run l Z y bytes ml ret R n0 Q h k n pc' Ls st) (K2 : ¬ x < z → Run l Z y bytes ml ret R n0 Q h k n pc'' Ls st) : Run l Z y bytes ml ret R n0 Q h k n pc Ls (.int z :: .int x :: st) := by
  subst hq
  by_cases q' : x < z
  · exact (K1 q').step fun p e s m args below meth c T locs C X E t q => XS.icmpYes X.here C.1 rfl rfl (hb C.2.1 hd) rfl (tlt q').1 hp.1 hp.2 q
  · exact (K2 q').step fun p e s m args below meth c T locs C X E t q => XS.icmpNo X.here C.1 rfl (hb C.2.1 hd) rfl (flt q').1 q
theorem r_if_lt {x : Int32} {o : Int} (pc' pc'' : Nat) (hd : decode bytes pc = .ok (.ifCond .lt o, 3)) (hp : (0 : Int) ≤ (pc : Int) + o ∧ ((pc : Int) + o).toNat = pc') (hq : pc + 3 = pc'') (K1 : x < 0 → Run l Z y bytes ml ret R n0 Q h k n pc' Ls st) (K2 : ¬ x < 0 → Run l Z y bytes ml ret R n0 Q h k n pc'' Ls st) : Run l Z y bytes ml ret R n0 Q h k n pc Ls (.int x :: st) := by
  subst hq
  by_cases q' : x < 0
  · exact (K1 q').step fun p e s m args below meth c T locs C X E t q => XS.ifYes X.here C.1 rfl rfl (hb C.2.1 hd) rfl ((if0 _ _).trans (tlt q').1) hp.1 hp.2 q
  · exact (K2 q').step fun p e s m args below meth c T locs C X E t q => XS.ifNo X.here C.1 rfl (hb C.2.1 hd) rfl ((if0 _ _).trans (flt q').1) q
theorem r_icmp_ge {x z : Int32} {o : Int} (pc' pc'' : Nat) (hd : decode bytes pc = .ok (.if_icmp .ge o, 3)) (hp : (0 : Int) ≤ (pc : Int) + o ∧ ((pc : Int) + o).toNat = pc') (hq : pc + 3 = pc'') (K1 : ¬ x < z → Run l Z y bytes ml ret R n0 Q h k n pc' Ls st) (K2 : x < z → Run l Z y bytes ml ret R n0 Q h k n pc'' Ls st) : Run l Z y bytes ml ret R n0 Q h k n pc Ls (.int z :: .int x :: st) := by
  subst hq
  by_cases q' : x < z
  · exact (K2 q').step fun p e s m args below meth c T locs C X E t q => XS.icmpNo X.here C.1 rfl (hb C.2.1 hd) rfl (tlt q').2.1 q
  · exact (K1 q').step fun p e s m args below meth c T locs C X E t q => XS.icmpYes X.here C.1 rfl rfl (hb C.2.1 hd) rfl (flt q').2.1 hp.1 hp.2 q
theorem r_if_ge {x : Int32} {o : Int} (pc' pc'' : Nat) (hd : decode bytes pc = .ok (.ifCond .ge o, 3)) (hp : (0 : Int) ≤ (pc : Int) + o ∧ ((pc : Int) + o).toNat = pc') (hq : pc + 3 = pc'') (K1 : ¬ x < 0 → Run l Z y bytes ml ret R n0 Q h k n pc' Ls st) (K2 : x < 0 → Run l Z y bytes ml ret R n0 Q h k n pc'' Ls st) : Run l Z y bytes ml ret R n0 Q h k n pc Ls (.int x :: st) := by
  subst hq
  by_cases q' : x < 0
  · exact (K2 q').step fun p e s m args below meth c T locs C X E t q => XS.ifNo X.here C.1 rfl (hb C.2.1 hd) rfl ((if0 _ _).trans (tlt q').2.1) q
  · exact (K1 q').step fun p e s m args below meth c T locs C X E t q => XS.ifYes X.here C.1 rfl rfl (hb C.2.1 hd) rfl ((if0 _ _).trans (flt q').2.1) hp.1 hp.2 q
theorem r_icmp_gt {x z : Int32} {o : Int} (pc' pc'' : Nat) (hd : decode bytes pc = .ok (.if_icmp .gt o, 3)) (hp : (0 : Int) ≤ (pc : Int) + o ∧ ((pc : Int) + o).toNat = pc') (hq : pc + 3 = pc'') (K1 : z < x → Run l Z y bytes ml ret R n0 Q h k n pc' Ls st) (K2 : ¬ z < x → Run l Z y bytes ml ret R n0 Q h k n pc'' Ls st) : Run l Z y bytes ml ret R n0 Q h k n pc Ls (.int z :: .int x :: st) := by
  subst hq
  by_cases q' : z < x
  · exact (K1 q').step fun p e s m args below meth c T locs C X E t q => XS.icmpYes X.here C.1 rfl rfl (hb C.2.1 hd) rfl (tlt q').2.2.1 hp.1 hp.2 q
  · exact (K2 q').step fun p e s m args below meth c T locs C X E t q => XS.icmpNo X.here C.1 rfl (hb C.2.1 hd) rfl (flt q').2.2.1 q
theorem r_if_gt {x : Int32} {o : Int} (pc' pc'' : Nat) (hd : decode bytes pc = .ok (.ifCond .gt o, 3)) (hp : (0 : Int) ≤ (pc : Int) + o ∧ ((pc : Int) + o).toNat = pc') (hq : pc + 3 = pc'') (K1 : 0 < x → Run l Z y bytes ml ret R n0 Q h k n pc' Ls st) (K2 : ¬ 0 < x → Run l Z y bytes ml ret R n0 Q h k n pc'' Ls st) : Run l Z y bytes ml ret R n0 Q h k n pc Ls (.int x :: st) := by
  subst hq
  by_cases q' : 0 < x
  · exact (K1 q').step fun p e s m args below meth c T locs C X E t q => XS.ifYes X.here C.1 rfl rfl (hb C.2.1 hd) rfl ((if0 _ _).trans (tlt q').2.2.1) hp.1 hp.2 q
  · exact (K2 q').step fun p e s m args below meth c T locs C X E t q => XS.ifNo X.here C.1 rfl (hb C.2.1 hd) rfl ((if0 _ _).trans (flt q').2.2.1) q
theorem r_icmp_le {x z : Int32} {o : Int} (pc' pc'' : Nat) (hd : decode bytes pc = .ok (.if_icmp .le o, 3)) (hp : (0 : Int) ≤ (pc : Int) + o ∧ ((pc : Int) + o).toNat = pc') (hq : pc + 3 = pc'') (K1 : ¬ z < x → Run l Z y bytes ml ret R n0 Q h k n pc' Ls st) (K2 : z < x → Run l Z y bytes ml ret R n0 Q h k n pc'' Ls st) : Run l Z y bytes ml ret R n0 Q h k n pc Ls (.int z :: .int x :: st) := by
  subst hq
  by_cases q' : z < x
  · exact (K2 q').step fun p e s m args below meth c T locs C X E t q => XS.icmpNo X.here C.1 rfl (hb C.2.1 hd) rfl (tlt q').2.2.2 q
  · exact (K1 q').step fun p e s m args below meth c T locs C X E t q => XS.icmpYes X.here C.1 rfl rfl (hb C.2.1 hd) rfl (flt q').2.2.2 hp.1 hp.2 q
theorem r_if_le {x : Int32} {o : Int} (pc' pc'' : Nat) (hd : decode bytes pc = .ok (.ifCond .le o, 3)) (hp : (0 : Int) ≤ (pc : Int) + o ∧ ((pc : Int) + o).toNat = pc') (hq : pc + 3 = pc'') (K1 : ¬ 0 < x → Run l Z y bytes ml ret R n0 Q h k n pc' Ls st) (K2 : 0 < x → Run l Z y bytes ml ret R n0 Q h k n pc'' Ls st) : Run l Z y bytes ml ret R n0 Q h k n pc Ls (.int x :: st) := by
  subst hq
  by_cases q' : 0 < x
  · exact (K2 q').step fun p e s m args below meth c T locs C X E t q => XS.ifNo X.here C.1 rfl (hb C.2.1 hd) rfl ((if0 _ _).trans (tlt q').2.2.2) q
  · exact (K1 q').step fun p e s m args below meth c T locs C X E t q => XS.ifYes X.here C.1 rfl rfl (hb C.2.1 hd) rfl ((if0 _ _).trans (flt q').2.2.2) hp.1 hp.2 q
theorem r_acmp_eq {x z : Value} {o : Int} (pc' pc'' : Nat) (hd : decode bytes pc = .ok (.if_acmp .eq o, 3)) (hp : (0 : Int) ≤ (pc : Int) + o ∧ ((pc : Int) + o).toNat = pc') (hq : pc + 3 = pc'') (hx : x.isRef = true) (hz : z.isRef = true) (K1 : x = z → Run l Z y bytes ml ret R n0 Q h k n pc' Ls st) (K2 : ¬ x = z → Run l Z y bytes ml ret R n0 Q h k n pc'' Ls st) : Run l Z y bytes ml ret R n0 Q h k n pc Ls (z :: x :: st) := by
  subst hq
  by_cases q' : x = z
  · exact (K1 q').step fun p e s m args below meth c T locs C X E t q => XT.acmpYes X.here C.1 rfl rfl (hb C.2.1 hd) rfl hx hz (XT.aa_eq_t q') hp.1 hp.2 q
  · exact (K2 q').step fun p e s m args below meth c T locs C X E t q => XT.acmpNo X.here C.1 rfl (hb C.2.1 hd) rfl hx hz (XT.aa_eq_f q') q
theorem r_acmp_ne {x z : Value} {o : Int} (pc' pc'' : Nat) (hd : decode bytes pc = .ok (.if_acmp .ne o, 3)) (hp : (0 : Int) ≤ (pc : Int) + o ∧ ((pc : Int) + o).toNat = pc') (hq : pc + 3 = pc'') (hx : x.isRef = true) (hz : z.isRef = true) (K1 : ¬ x = z → Run l Z y bytes ml ret R n0 Q h k n pc' Ls st) (K2 : x = z → Run l Z y bytes ml ret R n0 Q h k n pc'' Ls st) : Run l Z y bytes ml ret R n0 Q h k n pc Ls (z :: x :: st) := by
  subst hq
  by_cases q' : x = z
  · exact (K2 q').step fun p e s m args below meth c T locs C X E t q => XT.acmpNo X.here C.1 rfl (hb C.2.1 hd) rfl hx hz (XT.aa_ne_f q') q
  · exact (K1 q').step fun p e s m args below meth c T locs C X E t q => XT.acmpYes X.here C.1 rfl rfl (hb C.2.1 hd) rfl hx hz (XT.aa_ne_t q') hp.1 hp.2 q
theorem r_nonnullYes {a : Addr} {o : Int} (pc' : Nat) (hd : decode bytes pc = .ok (.ifnonnull o, 3)) (hp : (0 : Int) ≤ (pc : Int) + o ∧ ((pc : Int) + o).toNat = pc') (K : Run l Z y bytes ml ret R n0 Q h k n pc' Ls st) : Run l Z y bytes ml ret R n0 Q h k n pc Ls (.ref a :: st) :=
  K.step fun p e s m args below meth c T locs C X E t q => XT.ifnonnullYes X.here C.1 rfl rfl (hb C.2.1 hd) rfl hp.1 hp.2 q
theorem r_nonnullNo {o : Int} (pc'' : Nat) (hd : decode bytes pc = .ok (.ifnonnull o, 3)) (hq : pc + 3 = pc'') (K : Run l Z y bytes ml ret R n0 Q h k n pc'' Ls st) : Run l Z y bytes ml ret R n0 Q h k n pc Ls (.null :: st) := by
  subst hq; exact K.step fun p e s m args below meth c T locs C X E t q => XT.ifnonnullNo X.here C.1 rfl (hb C.2.1 hd) rfl q
theorem r_nullYes {o : Int} (pc' : Nat) (hd : decode bytes pc = .ok (.ifnull o, 3)) (hp : (0 : Int) ≤ (pc : Int) + o ∧ ((pc : Int) + o).toNat = pc') (K : Run l Z y bytes ml ret R n0 Q h k n pc' Ls st) : Run l Z y bytes ml ret R n0 Q h k n pc Ls (.null :: st) :=
  K.step fun p e s m args below meth c T locs C X E t q => XS.ifnullYes X.here C.1 rfl rfl (hb C.2.1 hd) rfl hp.1 hp.2 q
theorem r_nullNo {a : Addr} {o : Int} (pc'' : Nat) (hd : decode bytes pc = .ok (.ifnull o, 3)) (hq : pc + 3 = pc'') (K : Run l Z y bytes ml ret R n0 Q h k n pc'' Ls st) : Run l Z y bytes ml ret R n0 Q h k n pc Ls (.ref a :: st) := by
  subst hq; exact K.step fun p e s m args below meth c T locs C X E t q => XS.ifnullNo X.here C.1 rfl (hb C.2.1 hd) rfl q
/-! fields, statics, objects, arrays -/
theorem r_getstatic {i : Nat} {R0 O f d : String} {v : Value} (pc' : Nat) (hd : decode bytes pc = .ok (.getstatic i, 3)) (hp : pc + 3 = pc') (w : (Jvm.Cond.fieldLink y.cls i R0 f d).before a0 Z = true) (via : Via Z R0 O f d) (F : Sta Z h O f d v)
    (K : Run l Z y bytes ml ret R n0 Q h k n pc' Ls (v :: st)) : Run l Z y bytes ml ret R n0 Q h k n pc Ls st := by
  subst hp
  exact K.move fun p e s m args below meth c T locs C X N E => by
    obtain ⟨T', X', e', q⟩ := getS X C.1 C.2.2.2.1 (host := "") C.2.2.2.2.1 w via E F (g := mkF m pc Ls.toArray st) rfl (hb C.2.1 hd)
    exact ⟨T', _, X', N, e', q⟩
theorem r_getfield {i : Nat} {R0 O f d host : String} {v : Value} {a : Addr} (pc' : Nat) (hd : decode bytes pc = .ok (.getfield i, 3)) (hp : pc + 3 = pc') (w : (Jvm.Cond.fieldLink y.cls i R0 f d).before a0 Z = true ∨ (Jvm.Cond.fieldLinkNest y.cls i R0 f d host).before a0 Z = true) (via : Via Z R0 O f d) (F : Fld Z h a O f d v)
    (K : Run l Z y bytes ml ret R n0 Q h k n pc' Ls (v :: st)) : Run l Z y bytes ml ret R n0 Q h k n pc Ls (.ref a :: st) := by
  subst hp
  exact K.move fun p e s m args below meth c T locs C X N E => by
    obtain ⟨T', X', e', q⟩ := getF X C.1 C.2.2.2.1 C.2.2.2.2.1 w via E F (g := mkF m pc Ls.toArray (.ref a :: st)) rfl rfl (hb C.2.1 hd)
    exact ⟨T', _, X', N, e', q⟩
theorem r_putfield {i kk : Nat} {R0 O f d host C' : String} {ty : FieldType} {v old : Value} {a : Addr} (pc' : Nat) (hd : decode bytes pc = .ok (.putfield i, 3)) (hp : pc + 3 = pc') (w : (Jvm.Cond.fieldLink y.cls i R0 f d).before a0 Z = true ∨ (Jvm.Cond.fieldLinkNest y.cls i R0 f d host).before a0 Z = true) (via : Via Z R0 O f d) (F : Fld Z h a O f d old) (E1 : Exa Z h a C')
    (L : (Jvm.Cond.lays C' O f d).before a0 Z = true ∨ ((Jvm.Cond.laysFinal C' O f d).before a0 Z = true ∧ y.cls = O ∧ y.name = "<init>")) (wi : (Jvm.Cond.instantiable C' kk).before a0 Z = true) (hty : parseFieldDescriptor d = some ty) (hn : narrow ty v = v) (hf : fits ty v = true) (ha : n0 ≤ a)
    (K : ∀ h', Wr h h' a (Jvm.RoadKit.slotOf Z O f d) v → Run l Z y bytes ml ret R n0 Q h' k n pc' Ls st) : Run l Z y bytes ml ret R n0 Q h k n pc Ls (v :: .ref a :: st) := fun p e s m args below meth c T locs C X N E => by
  subst hp
  obtain ⟨T', h', X', e', W, q⟩ := putF X C.1 C.2.2.2.1 C.2.2.2.2.1 w via E F E1 (L.imp id fun ⟨u1, u2, u3⟩ => ⟨u1, u2, C.2.2.2.2.2.1.trans u3⟩) wi hty hn hf (g := mkF m pc Ls.toArray (v :: .ref a :: st)) rfl rfl (hb C.2.1 hd)
  obtain ⟨s2, o, h1, h2⟩ := K h' W p e s m args below meth c T' _ C X' (Fr.snoc X' N ha) e'
  exact ⟨s2, o, q _ h1, h2⟩
theorem r_new {i nn : Nat} {C' : String} (pc' : Nat) (hd : decode bytes pc = .ok (.new i, 3)) (hp : pc + 3 = pc') (w : (Jvm.Cond.classLink y.cls i C').before a0 Z = true) (wi : (Jvm.Cond.instantiable C' nn).before a0 Z = true) (wz : (Jvm.Cond.initialized C').before a0 Z = true) (hc : k + 1 ≤ R.cells) (hl : n + nn ≤ R.slots)
    (K : ∀ h' a, a = h.size → Ext h h' → Exa Z h' a C' → (∀ {O nm d : String} {ty : FieldType}, Laid Z a0 C' O nm d → parseFieldDescriptor d = some ty → Fld Z h' a O nm d (defaultValue ty)) → Run l Z y bytes ml ret R n0 Q h' (k + 1) (n + nn) pc' Ls (.ref a :: st)) : Run l Z y bytes ml ret R n0 Q h k n pc Ls st := fun p e s m args below meth c T locs C X N E => by
  subst hp
  obtain ⟨T', h', X', e', E2, A2, D2, -, q⟩ := newO X C.1 C.2.2.2.1 C.2.2.2.2.1 w wi wz E (g := mkF m pc Ls.toArray st) rfl (hb C.2.1 hd) hc hl
  obtain ⟨s2, o, h1, h2⟩ := K h' h.size rfl E2 A2 D2 p e s m args below meth c T' _ C X' N e'
  exact ⟨s2, o, q _ h1, h2⟩
theorem own_rep {ty : FieldType} {z : Int32} {a : Addr} {cA : ClassId} (N : Nat) (A : Arv Z h a cA ty z [] (defaultValue ty)) : Arv Z h a cA ty z (List.replicate N (defaultValue ty)) (defaultValue ty) :=
  A.pad fun i => by have := pad_rep [] (defaultValue ty) N i; simpa using this
theorem r_newarray {aty : ArrayType} {z : Int32} (cap : Nat) (ad : String) (pc' : Nat) (hd : decode bytes pc = .ok (.newarray aty, 2)) (hp : pc + 2 = pc') (w : (Jvm.Cond.arrayClass (newarray.typeOf aty)).before a0 Z = true) (hz : ¬ z < 0) (hcap : z.toNatClampNeg ≤ cap) (hb8 : cap * 8 ≤ 536870912) (had : "[" ++ (newarray.typeOf aty).toString = ad) (hc : k + 1 ≤ R.cells) (hl : n + cap ≤ R.slots)
    (K : ∀ h' a cA, a = h.size → Ext h h' → Arv Z h' a cA (newarray.typeOf aty) z (List.replicate z.toNatClampNeg (defaultValue (newarray.typeOf aty))) (defaultValue (newarray.typeOf aty)) → Exa Z h' a ad → Run l Z y bytes ml ret R n0 Q h' (k + 1) (n + cap) pc' Ls (.ref a :: st)) : Run l Z y bytes ml ret R n0 Q h k n pc Ls (.int z :: st) := fun p e s m args below meth c T locs C X N E => by
  subst hp
  obtain ⟨T', h', cA, X', e', E2, A2, E3, q⟩ := newPE X C.1 C.2.2.2.1 w E (g := mkF m pc Ls.toArray (.int z :: st)) rfl (hb C.2.1 hd) rfl hz hcap hb8 hc hl had
  obtain ⟨s2, o, h1, h2⟩ := K h' h.size cA rfl E2 (own_rep _ (Arv.new A2 hz)) E3 p e s m args below meth c T' _ C X' N e'
  exact ⟨s2, o, q _ h1, h2⟩
theorem r_anewarray {i : Nat} {C' : String} {z : Int32} (cap : Nat) (ad : String) (pc' : Nat) (hd : decode bytes pc = .ok (.anewarray i, 3)) (hp : pc + 3 = pc') (w1 : (Jvm.Cond.classLink y.cls i C').before a0 Z = true) (w2 : (Jvm.Cond.arrayOver (.object C')).before a0 Z = true) (hz : ¬ z < 0) (hcap : z.toNatClampNeg ≤ cap) (hb8 : cap * 8 ≤ 536870912) (had : "[" ++ (FieldType.object C').toString = ad) (hc : k + 1 ≤ R.cells) (hl : n + cap ≤ R.slots)
    (K : ∀ h' a cA, a = h.size → Ext h h' → Arv Z h' a cA (.object C') z (List.replicate z.toNatClampNeg .null) .null → Exa Z h' a ad → Ovr Z cA C' → Run l Z y bytes ml ret R n0 Q h' (k + 1) (n + cap) pc' Ls (.ref a :: st)) : Run l Z y bytes ml ret R n0 Q h k n pc Ls (.int z :: st) := fun p e s m args below meth c T locs C X N E => by
  subst hp
  obtain ⟨T', h', cA, X', e', E2, A2, E3, O3, q⟩ := newRE X C.1 C.2.2.2.1 C.2.2.2.2.1 w1 w2 E (g := mkF m pc Ls.toArray (.int z :: st)) rfl (hb C.2.1 hd) rfl hz hcap hb8 hc hl had
  obtain ⟨s2, o, h1, h2⟩ := K h' h.size cA rfl E2 (own_rep _ (Arv.new A2 hz)) E3 O3 p e s m args below meth c T' _ C X' N e'
  exact ⟨s2, o, q _ h1, h2⟩
theorem own_in {z j : Int32} {i : Nat} {cl : Cell} (S : cl.slots.size = z.toNatClampNeg) (hj : ¬ j < 0) (hi : j.toNatClampNeg = i) (hz : i < z.toNatClampNeg) : ¬ (j < 0 ∨ cl.slots.size ≤ j.toNatClampNeg) := fun q => by
  rcases q with q | q
  · exact hj q
  · rw [S, hi] at q; exact absurd hz (Nat.not_lt.mpr q)
theorem r_arraylength {a : Addr} {cA : ClassId} {ty : FieldType} {z : Int32} {vs : List Value} {dv : Value} (pc' : Nat) (hd : decode bytes pc = .ok (.arraylength, 1)) (hp : pc + 1 = pc') (A : Arv Z h a cA ty z vs dv) (K : Run l Z y bytes ml ret R n0 Q h k n pc' Ls (.int z :: st)) : Run l Z y bytes ml ret R n0 Q h k n pc Ls (.ref a :: st) := by
  subst hp
  obtain ⟨cl, A1, -, S, hz, -⟩ := A
  rw [← len_of S hz] at K
  exact K.step fun p e s m args below meth c T locs C X E t q => X.arraylength C.1 (by rw [E]; exact A1.1) (State.isArrayOf_alike C.2.2.2.1.alike A1.2.1) (g := mkF m pc Ls.toArray (.ref a :: st)) rfl rfl (hb C.2.1 hd) _ q
theorem r_iaload {a : Addr} {cA : ClassId} {z j : Int32} {vs : List Value} {dv : Value} (i : Nat) (v : Value) (pc' : Nat) (hd : decode bytes pc = .ok (.iaload, 1)) (hp : pc + 1 = pc') (A : Arv Z h a cA .int z vs dv) (hj : ¬ j < 0) (hi : j.toNatClampNeg = i) (hz : i < z.toNatClampNeg) (hv : vs.getD i dv = v) (K : Run l Z y bytes ml ret R n0 Q h k n pc' Ls (v :: st)) : Run l Z y bytes ml ret R n0 Q h k n pc Ls (.int j :: .ref a :: st) := by
  subst hp
  obtain ⟨cl, A1, -, S, -, H, -⟩ := A
  have hin := own_in S hj hi hz
  exact K.step fun p e s m args below meth c T locs C X E t q => X.iaload C.1 (by rw [E]; exact A1.1) (State.isArrayOf_alike C.2.2.2.1.alike A1.2.1) A1.2.2 hin (Has.at H hin (by rw [hi]; exact hv)) (g := mkF m pc Ls.toArray (.int j :: .ref a :: st)) rfl rfl (hb C.2.1 hd) _ q
theorem r_caload {a : Addr} {cA : ClassId} {z j : Int32} {vs : List Value} {dv : Value} (i : Nat) (v : Value) (pc' : Nat) (hd : decode bytes pc = .ok (.caload, 1)) (hp : pc + 1 = pc') (A : Arv Z h a cA .char z vs dv) (hj : ¬ j < 0) (hi : j.toNatClampNeg = i) (hz : i < z.toNatClampNeg) (hv : vs.getD i dv = v) (K : Run l Z y bytes ml ret R n0 Q h k n pc' Ls (v :: st)) : Run l Z y bytes ml ret R n0 Q h k n pc Ls (.int j :: .ref a :: st) := by
  subst hp
  obtain ⟨cl, A1, -, S, -, H, -⟩ := A
  have hin := own_in S hj hi hz
  exact K.step fun p e s m args below meth c T locs C X E t q => X.caload C.1 (by rw [E]; exact A1.1) (State.isArrayOf_alike C.2.2.2.1.alike A1.2.1) A1.2.2 hin (Has.at H hin (by rw [hi]; exact hv)) (g := mkF m pc Ls.toArray (.int j :: .ref a :: st)) rfl rfl (hb C.2.1 hd) _ q
theorem r_baload {a : Addr} {cA : ClassId} {z j : Int32} {vs : List Value} {dv : Value} (i : Nat) (v : Value) (pc' : Nat) (hd : decode bytes pc = .ok (.baload, 1)) (hp : pc + 1 = pc') (A : Arv Z h a cA .byte z vs dv) (hj : ¬ j < 0) (hi : j.toNatClampNeg = i) (hz : i < z.toNatClampNeg) (hv : vs.getD i dv = v) (K : Run l Z y bytes ml ret R n0 Q h k n pc' Ls (v :: st)) : Run l Z y bytes ml ret R n0 Q h k n pc Ls (.int j :: .ref a :: st) := by
  subst hp
  obtain ⟨cl, A1, -, S, -, H, -⟩ := A
  have hin := own_in S hj hi hz
  exact K.step fun p e s m args below meth c T locs C X E t q => X.baloadBytes C.1 (by rw [E]; exact A1.1) (State.isArrayOf_alike C.2.2.2.1.alike A1.2.1) A1.2.2 hin (Has.at H hin (by rw [hi]; exact hv)) (g := mkF m pc Ls.toArray (.int j :: .ref a :: st)) rfl rfl (hb C.2.1 hd) _ q
theorem r_aaload {a : Addr} {cA : ClassId} {ty : FieldType} {z j : Int32} {vs : List Value} {dv : Value} (i : Nat) (v : Value) (pc' : Nat) (hd : decode bytes pc = .ok (.aaload, 1)) (hp : pc + 1 = pc') (A : Arv Z h a cA ty z vs dv) (hty : ty.isReference = true) (hj : ¬ j < 0) (hi : j.toNatClampNeg = i) (hz : i < z.toNatClampNeg) (hv : vs.getD i dv = v) (K : Run l Z y bytes ml ret R n0 Q h k n pc' Ls (v :: st)) : Run l Z y bytes ml ret R n0 Q h k n pc Ls (.int j :: .ref a :: st) := by
  subst hp
  obtain ⟨cl, A1, -, S, -, H, -⟩ := A
  have hin := own_in S hj hi hz
  exact K.step fun p e s m args below meth c T locs C X E t q => X.aaload C.1 (by rw [E]; exact A1.1) (State.isArrayOf_alike C.2.2.2.1.alike A1.2.1) hty A1.2.2 hin (Has.at H hin (by rw [hi]; exact hv)) (g := mkF m pc Ls.toArray (.int j :: .ref a :: st)) rfl rfl (hb C.2.1 hd) _ q
theorem r_iastore {a : Addr} {cA : ClassId} {z j x : Int32} {vs : List Value} {dv : Value} (i : Nat) (pc' : Nat) (hd : decode bytes pc = .ok (.iastore, 1)) (hp : pc + 1 = pc') (A : Arv Z h a cA .int z vs dv) (hj : ¬ j < 0) (hi : j.toNatClampNeg = i) (hz : i < z.toNatClampNeg) (hl : i < vs.length) (ha : n0 ≤ a)
    (K : ∀ h', Wr h h' a i (.int x) → Arv Z h' a cA .int z (vs.set i (.int x)) dv → Run l Z y bytes ml ret R n0 Q h' k n pc' Ls st) : Run l Z y bytes ml ret R n0 Q h k n pc Ls (.int x :: .int j :: .ref a :: st) := fun p e s m args below meth c T locs C X N E => by
  subst hp
  obtain ⟨cl, A1, q1, S, q3, H, G⟩ := A
  have hin := own_in S hj hi hz
  obtain ⟨T', h', X', e', W, q⟩ := stI X C.1 C.2.2.2.1 E A1 hin (g := mkF m pc Ls.toArray (.int x :: .int j :: .ref a :: st)) rfl rfl (hb C.2.1 hd)
  obtain ⟨s2, o, h1, h2⟩ := K h' (hi ▸ W) (Arv.set A1 q1 S q3 H G rfl W i hi hl) p e s m args below meth c T' _ C X' (Fr.snoc X' N ha) e'
  exact ⟨s2, o, q _ h1, h2⟩
theorem r_castore {a : Addr} {cA : ClassId} {z j x : Int32} {vs : List Value} {dv : Value} (i : Nat) (pc' : Nat) (hd : decode bytes pc = .ok (.castore, 1)) (hp : pc + 1 = pc') (A : Arv Z h a cA .char z vs dv) (hj : ¬ j < 0) (hi : j.toNatClampNeg = i) (hz : i < z.toNatClampNeg) (hl : i < vs.length) (ha : n0 ≤ a)
    (K : ∀ h', Wr h h' a i (.int (nar .char x)) → Arv Z h' a cA .char z (vs.set i (.int (nar .char x))) dv → Run l Z y bytes ml ret R n0 Q h' k n pc' Ls st) : Run l Z y bytes ml ret R n0 Q h k n pc Ls (.int x :: .int j :: .ref a :: st) := fun p e s m args below meth c T locs C X N E => by
  subst hp
  obtain ⟨cl, A1, q1, S, q3, H, G⟩ := A
  have hin := own_in S hj hi hz
  obtain ⟨T', h', X', e', W, q⟩ := stC X C.1 C.2.2.2.1 E A1 hin (g := mkF m pc Ls.toArray (.int x :: .int j :: .ref a :: st)) rfl rfl (hb C.2.1 hd)
  obtain ⟨s2, o, h1, h2⟩ := K h' (hi ▸ W) (Arv.set A1 q1 S q3 H G (fits_nar_char x) W i hi hl) p e s m args below meth c T' _ C X' (Fr.snoc X' N ha) e'
  exact ⟨s2, o, q _ h1, h2⟩
theorem r_bastore {a : Addr} {cA : ClassId} {z j x : Int32} {vs : List Value} {dv : Value} (i : Nat) (pc' : Nat) (hd : decode bytes pc = .ok (.bastore, 1)) (hp : pc + 1 = pc') (A : Arv Z h a cA .byte z vs dv) (hj : ¬ j < 0) (hi : j.toNatClampNeg = i) (hz : i < z.toNatClampNeg) (hl : i < vs.length) (ha : n0 ≤ a)
    (K : ∀ h', Wr h h' a i (.int (nar .byte x)) → Arv Z h' a cA .byte z (vs.set i (.int (nar .byte x))) dv → Run l Z y bytes ml ret R n0 Q h' k n pc' Ls st) : Run l Z y bytes ml ret R n0 Q h k n pc Ls (.int x :: .int j :: .ref a :: st) := fun p e s m args below meth c T locs C X N E => by
  subst hp
  obtain ⟨cl, A1, q1, S, q3, H, G⟩ := A
  have hin := own_in S hj hi hz
  obtain ⟨T', h', X', e', W, q⟩ := stB X C.1 C.2.2.2.1 E A1 hin (g := mkF m pc Ls.toArray (.int x :: .int j :: .ref a :: st)) rfl rfl (hb C.2.1 hd)
  obtain ⟨s2, o, h1, h2⟩ := K h' (hi ▸ W) (Arv.set A1 q1 S q3 H G (fits_nar_byte x) W i hi hl) p e s m args below meth c T' _ C X' (Fr.snoc X' N ha) e'
  exact ⟨s2, o, q _ h1, h2⟩
theorem r_aastore {a : Addr} {cA : ClassId} {ty : FieldType} {z j : Int32} {v : Value} {vs : List Value} {dv : Value} (i : Nat) (pc' : Nat) (hd : decode bytes pc = .ok (.aastore, 1)) (hp : pc + 1 = pc') (A : Arv Z h a cA ty z vs dv) (hty : ty.isReference = true) (F : Sto Z h a v) (hf : fits ty v = true) (hj : ¬ j < 0) (hi : j.toNatClampNeg = i) (hz : i < z.toNatClampNeg) (hl : i < vs.length) (ha : n0 ≤ a)
    (K : ∀ h', Wr h h' a i v → Arv Z h' a cA ty z (vs.set i v) dv → Run l Z y bytes ml ret R n0 Q h' k n pc' Ls st) : Run l Z y bytes ml ret R n0 Q h k n pc Ls (v :: .int j :: .ref a :: st) := fun p e s m args below meth c T locs C X N E => by
  subst hp
  obtain ⟨cl, A1, q1, S, q3, H, G⟩ := A
  have hin := own_in S hj hi hz
  obtain ⟨T', h', X', e', W, q⟩ := stR X C.1 C.2.2.2.1 E A1 hin hty F (g := mkF m pc Ls.toArray (v :: .int j :: .ref a :: st)) rfl rfl (hb C.2.1 hd)
  obtain ⟨s2, o, h1, h2⟩ := K h' (hi ▸ W) (Arv.set A1 q1 S q3 H G hf W i hi hl) p e s m args below meth c T' _ C X' (Fr.snoc X' N ha) e'
  exact ⟨s2, o, q _ h1, h2⟩
theorem r_checkcast {i : Nat} {K' : String} {a : Addr} (pc' : Nat) (hd : decode bytes pc = .ok (.checkcast i, 3)) (hp : pc + 3 = pc') (w : (Jvm.Cond.classLink y.cls i K').before a0 Z = true) (F : Ins Z h a K' true)
    (K : Run l Z y bytes ml ret R n0 Q h k n pc' Ls (.ref a :: st)) : Run l Z y bytes ml ret R n0 Q h k n pc Ls (.ref a :: st) := by
  subst hp
  exact K.move fun p e s m args below meth c T locs C X N E => by
    obtain ⟨T', X', e', q⟩ := castY X C.1 C.2.2.2.1 C.2.2.2.2.1 w E F (g := mkF m pc Ls.toArray (.ref a :: st)) rfl rfl (hb C.2.1 hd)
    exact ⟨T', _, X', N, e', q⟩
theorem r_initO {i : Nat} {a : Addr} (pc' : Nat) (hd : decode bytes pc = .ok (.invokespecial i, 3)) (hp : pc + 3 = pc') (w1 : (Jvm.Cond.methodLink y.cls i Lib.objectInit).before a0 Z = true) (w2 : (Jvm.Cond.instanceMethod Lib.objectInit).before a0 Z = true) (w3 : (Jvm.Cond.code Lib.objectInit ⟨#[0xb1]⟩ 1 none).before a0 Z = true)
    (hml : Ls.length = ml) (hf : 1 ≤ R.frames) (hl : (st.map fun v => v.category).sum + 12 ≤ R.locals) (K : Run l Z y bytes ml ret R n0 Q h k n pc' Ls st) : Run l Z y bytes ml ret R n0 Q h k n pc Ls (.ref a :: st) := by
  subst hp
  exact K.move fun p e s m args below meth c T locs C X N E => by
    obtain ⟨T', X', e', q⟩ := initO X C.1 C.2.2.2.1 C.2.2.2.2.1 w1 w2 w3 E (g := mkF m pc Ls.toArray (.ref a :: st)) rfl (by show Ls.toArray.size = _; rw [List.size_toArray, hml, C.2.2.1]) rfl (hb C.2.1 hd) hf (W := (st.map fun v => v.category).sum) (by show 2 * 0 + _ ≤ _; omega) hl
    exact ⟨T', _, X', N, e', q⟩
/-! returns -/
theorem own_end {v : Option Value} (hQ : Q v h) (hk : k ≤ R.cells) (hn : n ≤ R.slots)
    (H : ∀ (p : Program) (e : Env) (s : State) (m : MethodId) (args : Array Value) (below : List Frame) (meth : Method) (c : Code) (T : State) (locs : List Loc),
      own_Ctx p s m meth c Z y bytes ml ret → Stand p l e R s m args below meth c T locs k n → (meth.sig.returnType = none → v = none) ∧ ∀ fs, (∀ (f : JFrame) (acts : List Action), f.method = m → f.locked = none → f.entered = [] → (doReturn e (T.setTop f) acts v).1 = T.setFrames fs) → Steps p.tables e below (T.setTop (mkF m pc Ls.toArray st)) (T.setFrames fs)) :
    Run l Z y bytes ml ret R n0 Q h k n pc Ls st := fun p e s m args below meth c T locs C X N E => by
  obtain ⟨H1, H2⟩ := H p e s m args below meth c T locs C X
  obtain ⟨fs, hr, hrun, hended, hW, hsame⟩ := X.leave (v := v) H1 C.2.2.2.2.2.2.2
  exact ⟨_, _, H2 fs hr, hrun, hended, v, locs, rfl, ⟨by show Q v T.heap; rw [E]; exact hQ, N⟩, ⟨v, rfl⟩, hW, hsame.mono hk hn⟩
theorem r_retN {t : FieldType} {z : Int32} (v : Int32) (hd : decode bytes pc = .ok (.ireturn, 1)) (hret : ret = some t) (ht : t = .boolean ∨ t = .byte ∨ t = .char ∨ t = .short) (hv : nar t z = v) (hk : k ≤ R.cells) (hn : n ≤ R.slots) (hQ : Q (some (.int v)) h) : Run l Z y bytes ml ret R n0 Q h k n pc Ls (.int z :: st) := by
  subst hv
  exact own_end hQ hk hn fun p e s m args below meth c T locs C X => ⟨fun q => (by rw [C.2.2.2.2.2.2.1, hret] at q; cases q), fun fs hr => retN X C.1 (C.2.2.2.2.2.2.1.trans hret) ht (hb C.2.1 hd) hr⟩
theorem r_retI {z : Int32} (hd : decode bytes pc = .ok (.ireturn, 1)) (hret : ret = some .int) (hk : k ≤ R.cells) (hn : n ≤ R.slots) (hQ : Q (some (.int z)) h) : Run l Z y bytes ml ret R n0 Q h k n pc Ls (.int z :: st) :=
  own_end hQ hk hn fun p e s m args below meth c T locs C X => ⟨fun q => (by rw [C.2.2.2.2.2.2.1, hret] at q; cases q), fun fs hr => retOut X C.1 (C.2.2.2.2.2.2.1.trans hret) rfl (Or.inl ⟨rfl, Or.inl rfl, _, rfl⟩) (hb C.2.1 hd) hr⟩
theorem r_retA {t : FieldType} {v : Value} (hd : decode bytes pc = .ok (.areturn, 1)) (hret : ret = some t) (ht : t.isReference = true) (hw : v.isRef = true) (hnw : narrow t v = v) (hk : k ≤ R.cells) (hn : n ≤ R.slots) (hQ : Q (some v) h) : Run l Z y bytes ml ret R n0 Q h k n pc Ls (v :: st) :=
  own_end hQ hk hn fun p e s m args below meth c T locs C X => ⟨fun q => (by rw [C.2.2.2.2.2.2.1, hret] at q; cases q), fun fs hr => retOut X C.1 (C.2.2.2.2.2.2.1.trans hret) hnw (Or.inr (Or.inr (Or.inr (Or.inr ⟨rfl, ht, hw⟩)))) (hb C.2.1 hd) hr⟩
theorem r_retV (hd : decode bytes pc = .ok (.return_, 1)) (hret : ret = none) (hk : k ≤ R.cells) (hn : n ≤ R.slots) (hQ : Q none h) : Run l Z y bytes ml ret R n0 Q h k n pc Ls [] :=
  own_end hQ hk hn fun p e s m args below meth c T locs C X => ⟨fun _ => rfl, fun fs hr => X.returnOut C.1 (C.2.2.2.2.2.2.1.trans hret) (hb C.2.1 hd) hr⟩
/-! contracts and calls -/
def Con (l : Launch) (Z : State) (y : MethodName) (bytes : ByteArray) (ml : Nat) (ret : Option FieldType) (R : Room) (n0 : Nat) (as' : Array Value) (h : Heap) (Q : Option Value → Heap → Prop) (ws : List Jvm.Cond) : Prop :=
  MetFree l y (head1 (Jvm.Cond.code y bytes ml ret :: ws) R) (fun a U => a = as' ∧ Z.Warmed39 U.vm ∧ U.heap = h) (fun _ _ _ _ _ => True) (fun _ U o U' => ∃ v L, o = .returned v ∧ (Q v U'.heap ∧ Fr n0 L) ∧ FrameEnd U o U' L R.cells R.slots)
theorem Run.con {as' : Array Value} {ws : List Jvm.Cond} (hpn : plainName y.cls = true) (hL : Jvm.Sym.laidSlots as'.toList ++ List.replicate (ml - (Jvm.Sym.laidSlots as'.toList).length) .unset = Ls) (H : Run l Z y bytes ml ret R n0 Q h 0 0 0 Ls []) : Con l Z y bytes ml ret R n0 as' h Q ws := by
  refine MetFree.of_bodySF (plainFor_of_name hpn) hisR ?_
  intro p e s m args below meth c s₁ Bd hml0 hP hK
  obtain ⟨rfl, hZ, hh⟩ := hP
  have X0 : Stand p l e R s m args below meth c s₁ [] 0 0 := Stand.of_body Bd
  obtain ⟨s2, o, h1, h2, h3, v, L, h4, h5, h6⟩ := H p e s m args below meth c s₁ [] ⟨Bd.exec, Bd.bytes, hml0, hZ, findClass_of_methodNamed Bd.named, (name_of_methodNamed Bd.named Bd.method).1, Bd.returns, Bd.notSynchronized⟩ X0 (Fr.nil n0) (by rw [← hh, Bd.state]; rfl)
  exact ⟨s2, o, (XT.entry (Ls := Ls.toArray) hL).trans h1, h2, h3, v, L, h4, h5, h6⟩
section Calls
variable {i : Nat} {y' : MethodName} {bytes' : ByteArray} {ml' : Nat} {ret' : Option FieldType} {R' : Room} {as' : Array Value} {Q' : Option Value → Heap → Prop} {rest : List Value} {ps : List FieldType} {r' : Option FieldType}
theorem r_static (pc' : Nat) (hd : decode bytes pc = .ok (.invokestatic i, 3)) (hp : pc + 3 = pc') (hM : Con l Z y' bytes' ml' ret' R' n0 as' h Q' []) (w1 : (Jvm.Cond.methodLink y.cls i y').before a0 Z = true) (w2 : (Jvm.Cond.static y').before a0 Z = true) (w3 : (Jvm.Cond.initialized y'.cls).before a0 Z = true) (w4 : (Jvm.Cond.code y' bytes' ml' ret').before a0 Z = true)
    (hne : y'.cls ≠ "java/lang/invoke/MethodHandle" ∧ y'.cls ≠ "java/lang/invoke/VarHandle") (hpd : parseMethodDescriptor y'.desc = some ⟨ps, r'⟩) (hlen : as'.toList.length = ps.length) (hs : st = as'.toList.reverse ++ rest) (hml : Ls.length = ml) (hf : R'.frames + 1 ≤ R.frames) (hl : (rest.map fun v => v.category).sum + (ml' + 11) + R'.locals ≤ R.locals) (hc : k + R'.cells ≤ R.cells) (hn : n + R'.slots ≤ R.slots)
    (K : ∀ v h', Q' v h' → Run l Z y bytes ml ret R n0 Q h' (k + R'.cells) (n + R'.slots) pc' Ls (v.toList ++ rest)) : Run l Z y bytes ml ret R n0 Q h k n pc Ls st := fun p e s m args below meth c T locs C X N E => by
  subst hp
  obtain ⟨v, vm1, ⟨U, locs', k', n'⟩, hW, X', ⟨L, ⟨hQ, hL⟩, e1, e2, e3⟩, q⟩ := Jvm.LawKit.callS X C.1 (y := y') C.2.2.2.2.1 (mvT C.2.2.2.1 w1) (mvT C.2.2.2.1 w2) (mvT C.2.2.2.1 w3) (mvT C.2.2.2.1 w4) hne (backOf (Q := fun v h' L => Q' v h' ∧ Fr n0 L) (W := (rest.map fun v => v.category).sum) hM C.2.2.2.1 w4 w3 hf hl) (g := mkF m pc Ls.toArray st) rfl (by show Ls.toArray.size = _; rw [List.size_toArray, hml, C.2.2.1]) (argsL := as'.toList) (rest := rest) (lenOf hpd hlen) hs (by show 2 * 0 + _ ≤ _; omega) (hb C.2.1 hd) (fun _ _ => ⟨rfl, E, hc, hn⟩)
  dsimp only [Pt.U, Pt.locs, Pt.cells, Pt.slots] at X' hQ e1 e2 e3 q
  subst e1 e2 e3
  obtain ⟨s2, o, h1, h2⟩ := K v U.heap hQ p e s m args below meth c U _ C X' (Fr.app N hL) rfl
  exact ⟨s2, o, q _ h1, h2⟩
theorem r_special {a : Addr} {as1 : List Value} (pc' : Nat) (hd : decode bytes pc = .ok (.invokespecial i, 3)) (hp : pc + 3 = pc') (hM : Con l Z y' bytes' ml' none R' n0 as' h Q' []) (ha : as' = (.ref a :: as1).toArray) (hy1 : y'.name = "<init>") (w1 : (Jvm.Cond.methodLink y.cls i y').before a0 Z = true) (w2 : (Jvm.Cond.instanceMethod y').before a0 Z = true) (w3 : (Jvm.Cond.initialized y'.cls).before a0 Z = true) (w4 : (Jvm.Cond.code y' bytes' ml' none).before a0 Z = true)
    (hne : y'.cls ≠ "java/lang/invoke/MethodHandle" ∧ y'.cls ≠ "java/lang/invoke/VarHandle") (hpd : parseMethodDescriptor y'.desc = some ⟨ps, r'⟩) (hlen : as1.length = ps.length) (hs : st = as1.reverse ++ .ref a :: rest) (hml : Ls.length = ml) (hf : R'.frames + 1 ≤ R.frames) (hl : (rest.map fun v => v.category).sum + (ml' + 11) + R'.locals ≤ R.locals) (hc : k + R'.cells ≤ R.cells) (hn : n + R'.slots ≤ R.slots)
    (K : ∀ v h', Q' v h' → Run l Z y bytes ml ret R n0 Q h' (k + R'.cells) (n + R'.slots) pc' Ls (v.toList ++ rest)) : Run l Z y bytes ml ret R n0 Q h k n pc Ls st := fun p e s m args below meth c T locs C X N E => by
  subst hp ha
  obtain ⟨v, vm1, ⟨U, locs', k', n'⟩, hW, X', ⟨L, ⟨hQ, hL⟩, e1, e2, e3⟩, q⟩ := X.specialBack C.1 (y := y') hy1 C.2.2.2.2.1 (mvT C.2.2.2.1 w1) (mvT C.2.2.2.1 w2) (mvT C.2.2.2.1 w4) hne (backOf (Q := fun v h' L => Q' v h' ∧ Fr n0 L) (W := (rest.map fun v => v.category).sum) hM C.2.2.2.1 w4 w3 hf hl) (g := mkF m pc Ls.toArray st) rfl (by show Ls.toArray.size = _; rw [List.size_toArray, hml, C.2.2.1]) (Steps.refl _) (a := a) (argsL := as1) (rest := rest) (lenOf hpd hlen) hs (by show 2 * 0 + _ ≤ _; omega) (hb C.2.1 hd) (fun _ _ => ⟨rfl, E, hc, hn⟩)
  dsimp only [Pt.U, Pt.locs, Pt.cells, Pt.slots] at X' hQ e1 e2 e3 q
  subst e1 e2 e3
  obtain ⟨s2, o, h1, h2⟩ := K v U.heap hQ p e s m args below meth c U _ C X' (Fr.app N hL) rfl
  exact ⟨s2, o, q.trans h1, h2⟩
theorem r_virtual {a : Addr} {C' : String} {z' : MethodName} {as1 : List Value} (pc' : Nat) (hd : decode bytes pc = .ok (.invokevirtual i, 3)) (hp : pc + 3 = pc') (hM : Con l Z z' bytes' ml' ret' R' n0 as' h Q' []) (ha : as' = (.ref a :: as1).toArray) (w1 : (Jvm.Cond.methodLink y.cls i y').before a0 Z = true) (w2 : (Jvm.Cond.declares y').before a0 Z = true) (w5 : (Jvm.Cond.selects C' y' z').before a0 Z = true) (w6 : (Jvm.Cond.instanceMethod z').before a0 Z = true) (w3 : (Jvm.Cond.initialized z'.cls).before a0 Z = true) (w4 : (Jvm.Cond.code z' bytes' ml' ret').before a0 Z = true)
    (hne : y'.cls ≠ "java/lang/invoke/MethodHandle" ∧ y'.cls ≠ "java/lang/invoke/VarHandle") (hpd : parseMethodDescriptor y'.desc = some ⟨ps, r'⟩) (E1 : Exa Z h a C') (hlen : as1.length = ps.length) (hs : st = as1.reverse ++ .ref a :: rest) (hml : Ls.length = ml) (hf : R'.frames + 1 ≤ R.frames) (hl : (rest.map fun v => v.category).sum + (ml' + 11) + R'.locals ≤ R.locals) (hc : k + R'.cells ≤ R.cells) (hn : n + R'.slots ≤ R.slots)
    (hnf : ∀ (s : State) (args : Array Value), Z.Warmed39 s.vm → NotFace s y')
    (K : ∀ v h', Q' v h' → Run l Z y bytes ml ret R n0 Q h' (k + R'.cells) (n + R'.slots) pc' Ls (v.toList ++ rest)) : Run l Z y bytes ml ret R n0 Q h k n pc Ls st := fun p e s m args below meth c T locs C X N E => by
  subst hp ha
  obtain ⟨cq, kq, qa, qb, qc⟩ := isOf (s := s) C.2.2.2.1 E E1
  obtain ⟨v, vm1, ⟨U, locs', k', n'⟩, hW, X', ⟨L, ⟨hQ, hL⟩, e1, e2, e3⟩, q⟩ := X.virtualBack C.1 (y := y') (z := z') C.2.2.2.2.1 (mvT C.2.2.2.1 w1) (mvT C.2.2.2.1 w2) (hnf s args C.2.2.2.1) (mvT C.2.2.2.1 w5) (mvT C.2.2.2.1 w6) hne (backOf (Q := fun v h' L => Q' v h' ∧ Fr n0 L) (W := (rest.map fun v => v.category).sum) hM C.2.2.2.1 w4 w3 hf hl) qa qc (g := mkF m pc Ls.toArray st) rfl (by show Ls.toArray.size = _; rw [List.size_toArray, hml, C.2.2.1]) (Steps.refl _) (argsL := as1) (rest := rest) (lenOf hpd hlen) hs (by show 2 * 0 + _ ≤ _; omega) (hb C.2.1 hd) (fun _ _ => ⟨rfl, E, hc, hn⟩)
  dsimp only [Pt.U, Pt.locs, Pt.cells, Pt.slots] at X' hQ e1 e2 e3 q
  subst e1 e2 e3
  obtain ⟨s2, o, h1, h2⟩ := K v U.heap hQ p e s m args below meth c U _ C X' (Fr.app N hL) rfl
  exact ⟨s2, o, q.trans h1, h2⟩
end Calls
end Own

section Own4
variable {l : Launch} {Z : State} {y : MethodName} {bytes : ByteArray} {ml : Nat} {ret : Option FieldType} {R : Room} {n0 : Nat} {Q : Option Value → Heap → Prop} {h : Heap} {k n : Nat} {pc : Nat} {Ls : List Slot} {st : List Value} {a0 : Array Value}
theorem r_ldcF {i : Nat} {v : UInt32} (pc' : Nat) (hd : decode bytes pc = .ok (.ldc i, 2)) (hp : pc + 2 = pc') (w : (Jvm.Cond.constantFloat y.cls i v).before a0 Z = true) (K : Run l Z y bytes ml ret R n0 Q h k n pc' Ls (.float v :: st)) : Run l Z y bytes ml ret R n0 Q h k n pc Ls st := by
  subst hp
  exact K.step fun p e s m args below meth c T locs C X E t q => by
    obtain ⟨kk, cf, h1, h2, h3⟩ := Cond.constantFloat_spec C.2.2.2.2.1 (mvT (args := args) C.2.2.2.1 w)
    exact X.ldcFloat C.1 h1 h2 h3 (g := mkF m pc Ls.toArray st) rfl (hb C.2.1 hd) _ q
theorem r_clone {i : Nat} {ad : String} {a : Addr} {cA : ClassId} {ty : FieldType} {z : Int32} {vs : List Value} {dv : Value} (cap : Nat) (pc' : Nat) (hd : decode bytes pc = .ok (.invokevirtual i, 3)) (hp : pc + 3 = pc')
    (w1 : (Jvm.Cond.methodLink y.cls i ⟨ad, "clone", "()Ljava/lang/Object;"⟩).before a0 Z = true) (w2 : (Jvm.Cond.sameMethod ad "java/lang/Object" "clone" "()Ljava/lang/Object;").before a0 Z = true) (w3 : (Jvm.Cond.native ⟨"java/lang/Object", "clone", "()Ljava/lang/Object;"⟩).before a0 Z = true)
    (w4 : (Jvm.Cond.instanceMethod ⟨"java/lang/Object", "clone", "()Ljava/lang/Object;"⟩).before a0 Z = true) (w5 : (Jvm.Cond.selects ad ⟨ad, "clone", "()Ljava/lang/Object;"⟩ ⟨"java/lang/Object", "clone", "()Ljava/lang/Object;"⟩).before a0 Z = true) (w6 : (Jvm.Cond.castable ad "java/lang/Cloneable").before a0 Z = true)
    (A : Arv Z h a cA ty z vs dv) (E1 : Exa Z h a ad) (hml : Ls.length = ml) (hf : 1 ≤ R.frames) (hl : (st.map fun v => v.category).sum + 14 ≤ R.locals) (hcap : z.toNatClampNeg ≤ cap) (hc : k + 1 ≤ R.cells) (hn : n + cap ≤ R.slots)
    (K : ∀ h' b, b = h.size → Ext h h' → Arv Z h' b cA ty z vs dv → Exa Z h' b ad → Run l Z y bytes ml ret R n0 Q h' (k + 1) (n + cap) pc' Ls (.ref b :: st)) : Run l Z y bytes ml ret R n0 Q h k n pc Ls (.ref a :: st) := fun p e s m args below meth c T locs C X N E => by
  subst hp
  obtain ⟨T', h', X', e', E2, A2, E3, q⟩ := cloneH X C.1 C.2.2.2.1 C.2.2.2.2.1 w1 w2 w3 w4 w5 w6 E A.arh E1 (g := mkF m pc Ls.toArray (.ref a :: st)) rfl (by show Ls.toArray.size = _; rw [List.size_toArray, hml, C.2.2.1]) rfl (hb C.2.1 hd) hf (W := (st.map fun v => v.category).sum) (by show 2 * 0 + _ ≤ _; omega) hl hcap hc hn
  obtain ⟨s2, o, h1, h2⟩ := K h' h.size rfl E2 A2 E3 p e s m args below meth c T' _ C X' N e'
  exact ⟨s2, o, q _ h1, h2⟩
theorem r_iface {i cnt : Nat} {y' z' : MethodName} {bytes' : ByteArray} {ml' : Nat} {ret' : Option FieldType} {R' : Room} {as' : Array Value} {Q' : Option Value → Heap → Prop} {rest : List Value} {ps : List FieldType} {r' : Option FieldType} {a : Addr} {C' : String} {as1 : List Value} (pc' : Nat) (hd : decode bytes pc = .ok (.invokeinterface i cnt, 5)) (hp : pc + 5 = pc') (hM : Con l Z z' bytes' ml' ret' R' n0 as' h Q' []) (ha : as' = (.ref a :: as1).toArray)
    (w1 : (Jvm.Cond.methodLink y.cls i y').before a0 Z = true) (w2 : (Jvm.Cond.declares y').before a0 Z = true) (w7 : (Jvm.Cond.interfaceMethod y'.cls y'.cls y'.name y'.desc).before a0 Z = true) (hk7 : ((Jvm.Cond.interfaceMethod y'.cls y'.cls y'.name y'.desc).onTables && (Jvm.Cond.interfaceMethod y'.cls y'.cls y'.name y'.desc).keepsFace) = true) (w5 : (Jvm.Cond.selects C' y' z').before a0 Z = true) (w6 : (Jvm.Cond.instanceMethod z').before a0 Z = true) (w8 : (Jvm.Cond.publicMethod z').before a0 Z = true) (w9 : (Jvm.Cond.unhidden C' y'.name y'.desc).before a0 Z = true) (w10 : (Jvm.Cond.castable C' y'.cls).before a0 Z = true) (w3 : (Jvm.Cond.initialized z'.cls).before a0 Z = true) (w4 : (Jvm.Cond.code z' bytes' ml' ret').before a0 Z = true)
    (hne : y'.cls ≠ "java/lang/invoke/MethodHandle" ∧ y'.cls ≠ "java/lang/invoke/VarHandle") (hpd : parseMethodDescriptor y'.desc = some ⟨ps, r'⟩) (E1 : Exa Z h a C') (hlen : as1.length = ps.length) (hs : st = as1.reverse ++ .ref a :: rest) (hml : Ls.length = ml) (hf : R'.frames + 1 ≤ R.frames) (hl : (rest.map fun v => v.category).sum + (ml' + 11) + R'.locals ≤ R.locals) (hc : k + R'.cells ≤ R.cells) (hn : n + R'.slots ≤ R.slots)
    (K : ∀ v h', Q' v h' → Run l Z y bytes ml ret R n0 Q h' (k + R'.cells) (n + R'.slots) pc' Ls (v.toList ++ rest)) : Run l Z y bytes ml ret R n0 Q h k n pc Ls st := fun p e s m args below meth c T locs C X N E => by
  subst hp ha
  obtain ⟨cq, kq, qa, qb, qc⟩ := isOf (s := s) C.2.2.2.1 E E1
  obtain ⟨v, vm1, ⟨U, locs', k', n'⟩, hW, X', ⟨L, ⟨hQ, hL⟩, e1, e2, e3⟩, q⟩ := X.interfaceBack C.1 (xi := y') (y := z') C.2.2.2.2.1 (mvT C.2.2.2.1 w1) (mvT C.2.2.2.1 w2) (mvT C.2.2.2.1 w7 hk7) (mvT C.2.2.2.1 w5) (mvT C.2.2.2.1 w6) (mvT C.2.2.2.1 w8) (mvT C.2.2.2.1 w9) (mvT C.2.2.2.1 w10) hne (backOf (Q := fun v h' L => Q' v h' ∧ Fr n0 L) (W := (rest.map fun v => v.category).sum) hM C.2.2.2.1 w4 w3 hf hl) qa qb qc (g := mkF m pc Ls.toArray st) rfl (by show Ls.toArray.size = _; rw [List.size_toArray, hml, C.2.2.1]) (Steps.refl _) (argsL := as1) (rest := rest) (lenOf hpd hlen) hs (by show 2 * 0 + _ ≤ _; omega) (hb C.2.1 hd) (fun _ _ => ⟨rfl, E, hc, hn⟩)
  dsimp only [Pt.U, Pt.locs, Pt.cells, Pt.slots] at X' hQ e1 e2 e3 q
  subst e1 e2 e3
  obtain ⟨s2, o, h1, h2⟩ := K v U.heap hQ p e s m args below meth c U _ C X' (Fr.app N hL) rfl
  exact ⟨s2, o, q.trans h1, h2⟩
end Own4


theorem own_ne {a b : Addr} {n : Nat} (h : a < n) (e : b = n) : a ≠ b := fun q => by
  subst q; subst e; exact Nat.lt_irrefl _ h
theorem own_ne' {t b : Addr} {n : Nat} (h : t < n) (e : n ≤ b) : b ≠ t := fun q => by
  subst q; exact absurd h (Nat.not_lt.mpr e)
theorem own_b0 : nar .boolean 0 = 0 := rfl
theorem own_b1 : nar .boolean 1 = 1 := rfl
theorem own_sta {C f d K : String} {args : Array Value} {s : State} (h : (Jvm.Cond.exactly (.static C f d) K).value args s none s [] = some true) (hi : (Jvm.Cond.initializedFor C f d).before args s = true ∨ ((Jvm.Cond.initialized C).before args s = true ∧ (Jvm.Cond.laysStatic C f d).before args s = true)) : ∃ a, (Term.static C f d).eval args s none [] s = some (.ref a) ∧ Sta s s.heap C f d (.ref a) ∧ Exa s s.heap a K := by
  obtain ⟨a, e⟩ := exa_v h
  exact ⟨a, e, Sta.start e hi, Exa.start e h⟩
theorem own_fldI {t : Term} {C f d : String} {z : Int32} {a : Addr} {args : Array Value} {s : State} (e : t.eval args s none [] s = some (.ref a)) (h : (Jvm.Cond.eq (.field t C f d) (.int z)).value args s none s [] = some true) : Fld s s.heap a C f d (.int z) := by
  obtain ⟨u, w, h1, h2, k1, k2⟩ := cmp_v (Or.inl h)
  rw [Term.int_eval] at h2
  cases h2
  obtain ⟨u', rfl⟩ := k2
  obtain rfl := gotT (Cond.eq_ints h1 (Term.int_eval z)) h
  rw [fld_at e] at h1
  exact Fld.start h1


theorem own_mod (x m : Int32) (hm : 0 < m.toInt) : 0 ≤ ((x &&& 2147483647) % m).toInt ∧ ((x &&& 2147483647) % m).toInt < m.toInt := by
  have h1 := c_mask x 2147483647 31 (by decide) (by decide)
  rw [Int32.toInt_mod, h1]
  have h2 : 0 ≤ x.toInt % ((2 ^ 31 : Nat) : Int) := Int.emod_nonneg _ (by decide)
  rw [Int.tmod_eq_emod_of_nonneg h2]
  exact ⟨Int.emod_nonneg _ (by omega), Int.emod_lt_of_pos _ hm⟩
theorem own_nat {K : Int32} {N : Nat} (h0 : 0 ≤ K.toInt) (h1 : K.toInt < N) : ∃ i : Nat, i < N ∧ K = Int32.ofNat i := by
  refine ⟨K.toInt.toNat, by omega, ?_⟩
  apply Int32.toInt_inj.mp
  have := K.toInt_lt
  rw [Int32.toInt_ofNat_small (by omega)]
  omega


theorem own_cl {i : Nat} (h : i < 2 ^ 31) : (Int32.ofNat i).toNatClampNeg = i := by
  show (Int32.ofNat i).toInt.toNat = i
  rw [Int32.toInt_ofNat_small h]; rfl
theorem own_nn {i : Nat} (h : i < 2 ^ 31) : ¬ Int32.ofNat i < 0 := by
  rw [Int32.lt_iff_toInt_lt, Int32.toInt_ofNat_small h]
  show ¬ (i : Int) < 0
  omega
theorem own_lt {i j : Nat} (hi : i < 2 ^ 31) (hj : j < 2 ^ 31) : Int32.ofNat i < Int32.ofNat j ↔ i < j := by
  rw [Int32.lt_iff_toInt_lt, Int32.toInt_ofNat_small hi, Int32.toInt_ofNat_small hj]; omega
theorem own_eq {i j : Nat} (hi : i < 2 ^ 31) (hj : j < 2 ^ 31) : Int32.ofNat i = Int32.ofNat j ↔ i = j := by
  rw [← Int32.toInt_inj, Int32.toInt_ofNat_small hi, Int32.toInt_ofNat_small hj]; omega
theorem own_pred {i : Nat} (h : i < 2 ^ 31) (h0 : 0 < i) : Int32.ofNat i - 1 = Int32.ofNat (i - 1) := by
  apply Int32.toInt_inj.mp
  have q := c_isub (Int32.ofNat i) 1
  rw [Int32.toInt_ofNat_small h] at q
  have r := rng32 (Int32.ofNat i - 1)
  have e1 : (1 : Int32).toInt = 1 := rfl
  rw [e1] at q
  rw [Int32.toInt_ofNat_small (by omega)]
  omega

theorem own_ext {h h' : Heap} (K : Keep h h' []) : Ext h h' := ⟨K.1, fun a c q => K.2.1 a c q nin0⟩
theorem own_keep {h h1 h2 : Heap} {a : Addr} (E : Ext h h1) (ha : a = h.size) (K : Keep h1 h2 [a]) : Ext h h2 :=
  own_ext (((Keep.refl h []).ext E).trans K fun x hx => Or.inr (by cases List.mem_singleton.mp hx; exact Nat.le_of_eq ha.symm))
theorem own_kext {h h1 : Heap} (E : Ext h h1) (ws : List Addr) : Keep h h1 ws := (Keep.refl h ws).ext E
theorem own_kt {h h1 h2 : Heap} {ws : List Addr} (K : Keep h h1 ws) (K' : Keep h1 h2 ws) : Keep h h2 ws := K.trans K' fun x hx => Or.inl hx
theorem d_jdk_22_method_1_code_0 : decode jdk_22_method_1_code 0 = .ok (.aload_n 0, 1) := by decide +kernel
theorem d_jdk_22_method_1_code_1 : decode jdk_22_method_1_code 1 = .ok (.invokespecial 1, 3) := by decide +kernel
theorem d_jdk_22_method_1_code_4 : decode jdk_22_method_1_code 4 = .ok (.return_, 1) := by decide +kernel
theorem d_jdk_39_method_1_code_0 : decode jdk_39_method_1_code 0 = .ok (.aload_n 0, 1) := by decide +kernel
theorem d_jdk_39_method_1_code_1 : decode jdk_39_method_1_code 1 = .ok (.invokespecial 1, 3) := by decide +kernel
theorem d_jdk_39_method_1_code_4 : decode jdk_39_method_1_code 4 = .ok (.aload_n 0, 1) := by decide +kernel
theorem d_jdk_39_method_1_code_5 : decode jdk_39_method_1_code 5 = .ok (.iconst 0, 1) := by decide +kernel
theorem d_jdk_39_method_1_code_6 : decode jdk_39_method_1_code 6 = .ok (.putfield 7, 3) := by decide +kernel
theorem d_jdk_39_method_1_code_9 : decode jdk_39_method_1_code 9 = .ok (.return_, 1) := by decide +kernel
theorem d_jdk_38_method_2_code_0 : decode jdk_38_method_2_code 0 = .ok (.aload_n 0, 1) := by decide +kernel
theorem d_jdk_38_method_2_code_1 : decode jdk_38_method_2_code 1 = .ok (.invokespecial 1, 3) := by decide +kernel
theorem d_jdk_38_method_2_code_4 : decode jdk_38_method_2_code 4 = .ok (.aload_n 0, 1) := by decide +kernel
theorem d_jdk_38_method_2_code_5 : decode jdk_38_method_2_code 5 = .ok (.getstatic 39, 3) := by decide +kernel
theorem d_jdk_38_method_2_code_8 : decode jdk_38_method_2_code 8 = .ok (.putfield 9, 3) := by decide +kernel
theorem d_jdk_38_method_2_code_11 : decode jdk_38_method_2_code 11 = .ok (.return_, 1) := by decide +kernel
theorem d_jdk_71_method_1_code_0 : decode jdk_71_method_1_code 0 = .ok (.aload_n 0, 1) := by decide +kernel
theorem d_jdk_71_method_1_code_1 : decode jdk_71_method_1_code 1 = .ok (.invokespecial 1, 3) := by decide +kernel
theorem d_jdk_71_method_1_code_4 : decode jdk_71_method_1_code 4 = .ok (.return_, 1) := by decide +kernel
theorem d_jdk_69_method_7_code_0 : decode jdk_69_method_7_code 0 = .ok (.aload_n 0, 1) := by decide +kernel
theorem d_jdk_69_method_7_code_1 : decode jdk_69_method_7_code 1 = .ok (.invokespecial 43, 3) := by decide +kernel
theorem d_jdk_69_method_7_code_4 : decode jdk_69_method_7_code 4 = .ok (.aload_n 0, 1) := by decide +kernel
theorem d_jdk_69_method_7_code_5 : decode jdk_69_method_7_code 5 = .ok (.ldc 92, 2) := by decide +kernel
theorem d_jdk_69_method_7_code_7 : decode jdk_69_method_7_code 7 = .ok (.putfield 81, 3) := by decide +kernel
theorem d_jdk_69_method_7_code_10 : decode jdk_69_method_7_code 10 = .ok (.return_, 1) := by decide +kernel
theorem d_jdk_49_method_1_code_0 : decode jdk_49_method_1_code 0 = .ok (.aload_n 0, 1) := by decide +kernel
theorem d_jdk_49_method_1_code_1 : decode jdk_49_method_1_code 1 = .ok (.aload_n 1, 1) := by decide +kernel
theorem d_jdk_49_method_1_code_2 : decode jdk_49_method_1_code 2 = .ok (.putfield 1, 3) := by decide +kernel
theorem d_jdk_49_method_1_code_5 : decode jdk_49_method_1_code 5 = .ok (.aload_n 0, 1) := by decide +kernel
theorem d_jdk_49_method_1_code_6 : decode jdk_49_method_1_code 6 = .ok (.invokespecial 7, 3) := by decide +kernel
theorem d_jdk_49_method_1_code_9 : decode jdk_49_method_1_code 9 = .ok (.aload_n 0, 1) := by decide +kernel
theorem d_jdk_49_method_1_code_10 : decode jdk_49_method_1_code 10 = .ok (.iconst (-1), 1) := by decide +kernel
theorem d_jdk_49_method_1_code_11 : decode jdk_49_method_1_code 11 = .ok (.putfield 13, 3) := by decide +kernel
theorem d_jdk_49_method_1_code_14 : decode jdk_49_method_1_code 14 = .ok (.aload_n 0, 1) := by decide +kernel
theorem d_jdk_49_method_1_code_15 : decode jdk_49_method_1_code 15 = .ok (.aload_n 0, 1) := by decide +kernel
theorem d_jdk_49_method_1_code_16 : decode jdk_49_method_1_code 16 = .ok (.getfield 1, 3) := by decide +kernel
theorem d_jdk_49_method_1_code_19 : decode jdk_49_method_1_code 19 = .ok (.getfield 17, 3) := by decide +kernel
theorem d_jdk_49_method_1_code_22 : decode jdk_49_method_1_code 22 = .ok (.putfield 22, 3) := by decide +kernel
theorem d_jdk_49_method_1_code_25 : decode jdk_49_method_1_code 25 = .ok (.return_, 1) := by decide +kernel
theorem d_jdk_38_method_55_code_0 : decode jdk_38_method_55_code 0 = .ok (.new 267, 3) := by decide +kernel
theorem d_jdk_38_method_55_code_3 : decode jdk_38_method_55_code 3 = .ok (.dup, 1) := by decide +kernel
theorem d_jdk_38_method_55_code_4 : decode jdk_38_method_55_code 4 = .ok (.aload_n 0, 1) := by decide +kernel
theorem d_jdk_38_method_55_code_5 : decode jdk_38_method_55_code 5 = .ok (.invokespecial 269, 3) := by decide +kernel
theorem d_jdk_38_method_55_code_8 : decode jdk_38_method_55_code 8 = .ok (.areturn, 1) := by decide +kernel
theorem d_jdk_49_method_2_code_0 : decode jdk_49_method_2_code 0 = .ok (.aload_n 0, 1) := by decide +kernel
theorem d_jdk_49_method_2_code_1 : decode jdk_49_method_2_code 1 = .ok (.getfield 25, 3) := by decide +kernel
theorem d_jdk_49_method_2_code_4 : decode jdk_49_method_2_code 4 = .ok (.aload_n 0, 1) := by decide +kernel
theorem d_jdk_49_method_2_code_5 : decode jdk_49_method_2_code 5 = .ok (.getfield 1, 3) := by decide +kernel
theorem d_jdk_49_method_2_code_8 : decode jdk_49_method_2_code 8 = .ok (.getfield 28, 3) := by decide +kernel
theorem d_jdk_49_method_2_code_11 : decode jdk_49_method_2_code 11 = .ok (.if_icmp .eq 7, 3) := by decide +kernel
theorem d_jdk_49_method_2_code_14 : decode jdk_49_method_2_code 14 = .ok (.iconst 1, 1) := by decide +kernel
theorem d_jdk_49_method_2_code_15 : decode jdk_49_method_2_code 15 = .ok (.goto 4, 3) := by decide +kernel
theorem d_jdk_49_method_2_code_18 : decode jdk_49_method_2_code 18 = .ok (.iconst 0, 1) := by decide +kernel
theorem d_jdk_49_method_2_code_19 : decode jdk_49_method_2_code 19 = .ok (.ireturn, 1) := by decide +kernel
theorem d_prog_17_method_2_code_0 : decode prog_17_method_2_code 0 = .ok (.aload_n 0, 1) := by decide +kernel
theorem d_prog_17_method_2_code_1 : decode prog_17_method_2_code 1 = .ok (.invokespecial 13, 3) := by decide +kernel
theorem d_prog_17_method_2_code_4 : decode prog_17_method_2_code 4 = .ok (.aload_n 0, 1) := by decide +kernel
theorem d_prog_17_method_2_code_5 : decode prog_17_method_2_code 5 = .ok (.aload_n 1, 1) := by decide +kernel
theorem d_prog_17_method_2_code_6 : decode prog_17_method_2_code 6 = .ok (.invokevirtual 18, 3) := by decide +kernel
theorem d_prog_17_method_2_code_9 : decode prog_17_method_2_code 9 = .ok (.checkcast 19, 3) := by decide +kernel
theorem d_prog_17_method_2_code_12 : decode prog_17_method_2_code 12 = .ok (.putfield 24, 3) := by decide +kernel
theorem d_prog_17_method_2_code_15 : decode prog_17_method_2_code 15 = .ok (.aload_n 0, 1) := by decide +kernel
theorem d_prog_17_method_2_code_16 : decode prog_17_method_2_code 16 = .ok (.iload_n 2, 1) := by decide +kernel
theorem d_prog_17_method_2_code_17 : decode prog_17_method_2_code 17 = .ok (.putfield 27, 3) := by decide +kernel
theorem d_prog_17_method_2_code_20 : decode prog_17_method_2_code 20 = .ok (.aload_n 0, 1) := by decide +kernel
theorem d_prog_17_method_2_code_21 : decode prog_17_method_2_code 21 = .ok (.new 31, 3) := by decide +kernel
theorem d_prog_17_method_2_code_24 : decode prog_17_method_2_code 24 = .ok (.dup, 1) := by decide +kernel
theorem d_prog_17_method_2_code_25 : decode prog_17_method_2_code 25 = .ok (.invokespecial 33, 3) := by decide +kernel
theorem d_prog_17_method_2_code_28 : decode prog_17_method_2_code 28 = .ok (.putfield 34, 3) := by decide +kernel
theorem d_prog_17_method_2_code_31 : decode prog_17_method_2_code 31 = .ok (.aload_n 3, 1) := by decide +kernel
theorem d_prog_17_method_2_code_32 : decode prog_17_method_2_code 32 = .ok (.invokeinterface 38 1, 5) := by decide +kernel
theorem d_prog_17_method_2_code_37 : decode prog_17_method_2_code 37 = .ok (.astore 4, 2) := by decide +kernel
theorem d_prog_17_method_2_code_39 : decode prog_17_method_2_code 39 = .ok (.aload 4, 2) := by decide +kernel
theorem d_prog_17_method_2_code_41 : decode prog_17_method_2_code 41 = .ok (.invokeinterface 42 1, 5) := by decide +kernel
theorem d_prog_17_method_2_code_46 : decode prog_17_method_2_code 46 = .ok (.ifCond .eq 38, 3) := by decide +kernel
theorem d_prog_17_method_2_code_49 : decode prog_17_method_2_code 49 = .ok (.aload 4, 2) := by decide +kernel
theorem d_prog_17_method_2_code_51 : decode prog_17_method_2_code 51 = .ok (.invokeinterface 48 1, 5) := by decide +kernel
theorem d_prog_17_method_2_code_56 : decode prog_17_method_2_code 56 = .ok (.checkcast 51, 3) := by decide +kernel
theorem d_prog_17_method_2_code_59 : decode prog_17_method_2_code 59 = .ok (.astore 5, 2) := by decide +kernel
theorem d_prog_17_method_2_code_61 : decode prog_17_method_2_code 61 = .ok (.aload_n 0, 1) := by decide +kernel
theorem d_prog_17_method_2_code_62 : decode prog_17_method_2_code 62 = .ok (.getfield 34, 3) := by decide +kernel
theorem d_prog_17_method_2_code_65 : decode prog_17_method_2_code 65 = .ok (.aload 5, 2) := by decide +kernel
theorem d_prog_17_method_2_code_67 : decode prog_17_method_2_code 67 = .ok (.invokevirtual 53, 3) := by decide +kernel
theorem d_prog_17_method_2_code_70 : decode prog_17_method_2_code 70 = .ok (.invokevirtual 57, 3) := by decide +kernel
theorem d_prog_17_method_2_code_73 : decode prog_17_method_2_code 73 = .ok (.aload 5, 2) := by decide +kernel
theorem d_prog_17_method_2_code_75 : decode prog_17_method_2_code 75 = .ok (.invokeinterface 63 3, 5) := by decide +kernel
theorem d_prog_17_method_2_code_80 : decode prog_17_method_2_code 80 = .ok (.pop, 1) := by decide +kernel
theorem d_prog_17_method_2_code_81 : decode prog_17_method_2_code 81 = .ok (.goto (-42), 3) := by decide +kernel
theorem d_prog_17_method_2_code_84 : decode prog_17_method_2_code 84 = .ok (.return_, 1) := by decide +kernel
theorem d_prog_17_method_6_code_0 : decode prog_17_method_6_code 0 = .ok (.aload_n 0, 1) := by decide +kernel
theorem d_prog_17_method_6_code_1 : decode prog_17_method_6_code 1 = .ok (.getfield 27, 3) := by decide +kernel
theorem d_prog_17_method_6_code_4 : decode prog_17_method_6_code 4 = .ok (.istore_n 1, 1) := by decide +kernel
theorem d_prog_17_method_6_code_5 : decode prog_17_method_6_code 5 = .ok (.aload_n 0, 1) := by decide +kernel
theorem d_prog_17_method_6_code_6 : decode prog_17_method_6_code 6 = .ok (.getfield 24, 3) := by decide +kernel
theorem d_prog_17_method_6_code_9 : decode prog_17_method_6_code 9 = .ok (.astore_n 2, 1) := by decide +kernel
theorem d_prog_17_method_6_code_10 : decode prog_17_method_6_code 10 = .ok (.aload_n 2, 1) := by decide +kernel
theorem d_prog_17_method_6_code_11 : decode prog_17_method_6_code 11 = .ok (.arraylength, 1) := by decide +kernel
theorem d_prog_17_method_6_code_12 : decode prog_17_method_6_code 12 = .ok (.istore_n 3, 1) := by decide +kernel
theorem d_prog_17_method_6_code_13 : decode prog_17_method_6_code 13 = .ok (.iconst 0, 1) := by decide +kernel
theorem d_prog_17_method_6_code_14 : decode prog_17_method_6_code 14 = .ok (.istore 4, 2) := by decide +kernel
theorem d_prog_17_method_6_code_16 : decode prog_17_method_6_code 16 = .ok (.iload 4, 2) := by decide +kernel
theorem d_prog_17_method_6_code_18 : decode prog_17_method_6_code 18 = .ok (.iload_n 3, 1) := by decide +kernel
theorem d_prog_17_method_6_code_19 : decode prog_17_method_6_code 19 = .ok (.if_icmp .ge 20, 3) := by decide +kernel
theorem d_prog_17_method_6_code_22 : decode prog_17_method_6_code 22 = .ok (.aload_n 2, 1) := by decide +kernel
theorem d_prog_17_method_6_code_23 : decode prog_17_method_6_code 23 = .ok (.iload 4, 2) := by decide +kernel
theorem d_prog_17_method_6_code_25 : decode prog_17_method_6_code 25 = .ok (.iaload, 1) := by decide +kernel
theorem d_prog_17_method_6_code_26 : decode prog_17_method_6_code 26 = .ok (.istore 5, 2) := by decide +kernel
theorem d_prog_17_method_6_code_28 : decode prog_17_method_6_code 28 = .ok (.iload_n 1, 1) := by decide +kernel
theorem d_prog_17_method_6_code_29 : decode prog_17_method_6_code 29 = .ok (.iload 5, 2) := by decide +kernel
theorem d_prog_17_method_6_code_31 : decode prog_17_method_6_code 31 = .ok (.iadd, 1) := by decide +kernel
theorem d_prog_17_method_6_code_32 : decode prog_17_method_6_code 32 = .ok (.istore_n 1, 1) := by decide +kernel
theorem d_prog_17_method_6_code_33 : decode prog_17_method_6_code 33 = .ok (.iinc 4 1, 3) := by decide +kernel
theorem d_prog_17_method_6_code_36 : decode prog_17_method_6_code 36 = .ok (.goto (-20), 3) := by decide +kernel
theorem d_prog_17_method_6_code_39 : decode prog_17_method_6_code 39 = .ok (.iload_n 1, 1) := by decide +kernel
theorem d_prog_17_method_6_code_40 : decode prog_17_method_6_code 40 = .ok (.ireturn, 1) := by decide +kernel
theorem pn_law : plainName "com/example/genano/genano/GroupingRecordsPinLaw" = true := by first | (simp [plainName, overriddenIn]; done) | decide +kernel
theorem pn_g : plainName "com/example/genano/genano/Grouping" = true := by first | (simp [plainName, overriddenIn]; done) | decide +kernel
theorem pn_al : plainName "java/util/ArrayList" = true := by first | (simp [plainName, overriddenIn]; done) | decide +kernel
theorem pn_abl : plainName "java/util/AbstractList" = true := by first | (simp [plainName, overriddenIn]; done) | decide +kernel
theorem pn_abc : plainName "java/util/AbstractCollection" = true := by first | (simp [plainName, overriddenIn]; done) | decide +kernel
theorem pn_hm : plainName "java/util/HashMap" = true := by first | (simp [plainName, overriddenIn]; done) | decide +kernel
theorem pn_abm : plainName "java/util/AbstractMap" = true := by first | (simp [plainName, overriddenIn]; done) | decide +kernel
theorem pn_it : plainName "java/util/ArrayList$Itr" = true := by first | (simp [plainName, overriddenIn]; done) | decide +kernel
set_option maxRecDepth 65536 in
set_option maxHeartbeats 40000000 in
theorem rm_ac (l : Launch) (Z : State) (a0 : Array Value) (hw : ∀ d ∈ tables_1, d.before a0 Z = true) (h : Heap) (n0 : Nat) (a : Addr) : Con l Z (⟨"java/util/AbstractCollection", "<init>", "()V"⟩ : MethodName) jdk_22_method_1_code 1 (Option.none : Option Jvm.ClassFile.FieldType) ({ frames := 1, cells := 0, slots := 0, locals := 12 } : Room) n0 #[.ref a] h (fun v h' => v = none ∧ h' = h) [] := by
  refine Run.con pn_abc (Ls := [.val (.ref a)]) rfl ?_
  refine r_aloadN 1 d_jdk_22_method_1_code_0 rfl rfl ?_
  refine r_initO 4 d_jdk_22_method_1_code_1 rfl (hw _ (List.mem_of_getElem? (i := 23) rfl)) (hw _ (List.mem_of_getElem? (i := 24) rfl)) (hw _ (List.mem_of_getElem? (i := 25) rfl)) rfl (Nat.le_of_ble_eq_true rfl) (Nat.le_of_ble_eq_true rfl) ?_
  exact r_retV d_jdk_22_method_1_code_4 rfl (Nat.le_of_ble_eq_true rfl) (Nat.le_of_ble_eq_true rfl) (⟨rfl, rfl⟩)
set_option maxRecDepth 65536 in
set_option maxHeartbeats 40000000 in
theorem rm_am (l : Launch) (Z : State) (a0 : Array Value) (hw : ∀ d ∈ tables_1, d.before a0 Z = true) (h : Heap) (n0 : Nat) (a : Addr) : Con l Z (⟨"java/util/AbstractMap", "<init>", "()V"⟩ : MethodName) jdk_71_method_1_code 1 (Option.none : Option Jvm.ClassFile.FieldType) ({ frames := 1, cells := 0, slots := 0, locals := 12 } : Room) n0 #[.ref a] h (fun v h' => v = none ∧ h' = h) [] := by
  refine Run.con pn_abm (Ls := [.val (.ref a)]) rfl ?_
  refine r_aloadN 1 d_jdk_71_method_1_code_0 rfl rfl ?_
  refine r_initO 4 d_jdk_71_method_1_code_1 rfl (hw _ (List.mem_of_getElem? (i := 60) rfl)) (hw _ (List.mem_of_getElem? (i := 24) rfl)) (hw _ (List.mem_of_getElem? (i := 25) rfl)) rfl (Nat.le_of_ble_eq_true rfl) (Nat.le_of_ble_eq_true rfl) ?_
  exact r_retV d_jdk_71_method_1_code_4 rfl (Nat.le_of_ble_eq_true rfl) (Nat.le_of_ble_eq_true rfl) (⟨rfl, rfl⟩)
set_option maxRecDepth 65536 in
set_option maxHeartbeats 40000000 in
theorem rm_abl (l : Launch) (Z : State) (a0 : Array Value) (hw : ∀ d ∈ tables_1, d.before a0 Z = true) (h : Heap) (n0 : Nat) (a : Addr) (x1 : Value) (F1 : Fld Z h a "java/util/AbstractList" "modCount" "I" x1) (F2 : Fld Z h a "java/util/ArrayList" "size" "I" (.int 0)) (F3 : Fld Z h a "java/util/ArrayList" "elementData" "[Ljava/lang/Object;" .null) (E1 : Exa Z h a "java/util/ArrayList") (ha : n0 ≤ a) : Con l Z (⟨"java/util/AbstractList", "<init>", "()V"⟩ : MethodName) jdk_39_method_1_code 1 (Option.none : Option Jvm.ClassFile.FieldType) ({ frames := 2, cells := 0, slots := 0, locals := 24 } : Room) n0 #[.ref a] h (fun v h' => v = none ∧ Keep h h' [a] ∧ Fld Z h' a "java/util/AbstractList" "modCount" "I" (.int 0) ∧ Fld Z h' a "java/util/ArrayList" "size" "I" (.int 0) ∧ Fld Z h' a "java/util/ArrayList" "elementData" "[Ljava/lang/Object;" .null) [] := by
  refine Run.con pn_abl (Ls := [.val (.ref a)]) rfl ?_
  refine r_aloadN 1 d_jdk_39_method_1_code_0 rfl rfl ?_
  refine r_special 4 d_jdk_39_method_1_code_1 rfl (rm_ac l Z a0 hw h n0 a) (as1 := []) rfl rfl (hw _ (List.mem_of_getElem? (i := 17) rfl)) (hw _ (List.mem_of_getElem? (i := 18) rfl)) (hw _ (List.mem_of_getElem? (i := 21) rfl)) (hw _ (List.mem_of_getElem? (i := 22) rfl)) (by decide) (ps := []) (r' := none) (by decide +kernel) rfl rfl rfl (Nat.le_of_ble_eq_true rfl) (Nat.le_of_ble_eq_true rfl) (Nat.le_of_ble_eq_true rfl) (Nat.le_of_ble_eq_true rfl) ?_
  rintro v h1 ⟨rfl, rfl⟩
  show Run _ _ _ _ _ _ _ _ _ _ _ _ _ _ []
  refine r_aloadN 5 d_jdk_39_method_1_code_4 rfl rfl ?_
  refine r_iconst 0 6 d_jdk_39_method_1_code_5 rfl rfl ?_
  refine r_putfield (host := "") 9 d_jdk_39_method_1_code_6 rfl (Or.inl (hw _ (List.mem_of_getElem? (i := 26) rfl))) Via.refl (F1) (E1) (Or.inl (hw _ (List.mem_of_getElem? (i := 27) rfl))) (hw _ (List.mem_of_getElem? (i := 6) rfl)) (ty := .int) (by decide) rfl rfl (ha) ?_
  intro h2 W1
  exact r_retV d_jdk_39_method_1_code_9 rfl (Nat.le_of_ble_eq_true rfl) (Nat.le_of_ble_eq_true rfl) (⟨rfl, Keep.of_wr W1, F1.same W1, F2.other W1 (Or.inr (slot_ne (Or.inl (hw _ (List.mem_of_getElem? (i := 103) rfl))) (Or.inl (hw _ (List.mem_of_getElem? (i := 27) rfl))) (by decide) (t := .int) (t' := .int) (by decide) (by decide))), F3.other W1 (Or.inr (slot_ne (Or.inl (hw _ (List.mem_of_getElem? (i := 30) rfl))) (Or.inl (hw _ (List.mem_of_getElem? (i := 27) rfl))) (by decide) (t := (.array (.object "java/lang/Object"))) (t' := .int) (by decide) (by decide)))⟩)
set_option maxRecDepth 65536 in
set_option maxHeartbeats 40000000 in
theorem rm_arl (l : Launch) (Z : State) (a0 : Array Value) (hw : ∀ d ∈ tables_1, d.before a0 Z = true) (h : Heap) (n0 : Nat) (O : Old Z n0 h) (de : Addr) (S : Sta Z Z.heap "java/util/ArrayList" "DEFAULTCAPACITY_EMPTY_ELEMENTDATA" "[Ljava/lang/Object;" (.ref de)) (a : Addr) (x1 : Value) (F1 : Fld Z h a "java/util/AbstractList" "modCount" "I" x1) (F2 : Fld Z h a "java/util/ArrayList" "size" "I" (.int 0)) (F3 : Fld Z h a "java/util/ArrayList" "elementData" "[Ljava/lang/Object;" .null) (E1 : Exa Z h a "java/util/ArrayList") (ha : n0 ≤ a) : Con l Z (⟨"java/util/ArrayList", "<init>", "()V"⟩ : MethodName) jdk_38_method_2_code 1 (Option.none : Option Jvm.ClassFile.FieldType) ({ frames := 3, cells := 0, slots := 0, locals := 36 } : Room) n0 #[.ref a] h (fun v h' => v = none ∧ Keep h h' [a] ∧ Fld Z h' a "java/util/AbstractList" "modCount" "I" (.int 0) ∧ Fld Z h' a "java/util/ArrayList" "size" "I" (.int 0)) [] := by
  refine Run.con pn_al (Ls := [.val (.ref a)]) rfl ?_
  refine r_aloadN 1 d_jdk_38_method_2_code_0 rfl rfl ?_
  refine r_special 4 d_jdk_38_method_2_code_1 rfl (rm_abl l Z a0 hw h n0 a _ F1 F2 F3 E1 ha) (as1 := []) rfl rfl (hw _ (List.mem_of_getElem? (i := 11) rfl)) (hw _ (List.mem_of_getElem? (i := 12) rfl)) (hw _ (List.mem_of_getElem? (i := 15) rfl)) (hw _ (List.mem_of_getElem? (i := 16) rfl)) (by decide) (ps := []) (r' := none) (by decide +kernel) rfl rfl rfl (Nat.le_of_ble_eq_true rfl) (Nat.le_of_ble_eq_true rfl) (Nat.le_of_ble_eq_true rfl) (Nat.le_of_ble_eq_true rfl) ?_
  rintro v h1 ⟨rfl, K1, F1, F2, F3⟩
  replace E1 := E1.keep K1
  replace O := O.keep K1 (allS ha all0)
  show Run _ _ _ _ _ _ _ _ _ _ _ _ _ _ []
  refine r_aloadN 5 d_jdk_38_method_2_code_4 rfl rfl ?_
  refine r_getstatic 8 d_jdk_38_method_2_code_5 rfl (hw _ (List.mem_of_getElem? (i := 28) rfl)) Via.refl (S.ext O.2) ?_
  refine r_putfield (host := "") 11 d_jdk_38_method_2_code_8 rfl (Or.inl (hw _ (List.mem_of_getElem? (i := 29) rfl))) Via.refl (F3) (E1) (Or.inl (hw _ (List.mem_of_getElem? (i := 30) rfl))) (hw _ (List.mem_of_getElem? (i := 6) rfl)) (ty := (.array (.object "java/lang/Object"))) (by decide) rfl rfl (ha) ?_
  intro h2 W1
  exact r_retV d_jdk_38_method_2_code_11 rfl (Nat.le_of_ble_eq_true rfl) (Nat.le_of_ble_eq_true rfl) (⟨rfl, K1.wr W1 (Or.inl (List.mem_of_getElem? (i := 0) rfl)), F1.other W1 (Or.inr (slot_ne (Or.inl (hw _ (List.mem_of_getElem? (i := 27) rfl))) (Or.inl (hw _ (List.mem_of_getElem? (i := 30) rfl))) (by decide) (t := .int) (t' := (.array (.object "java/lang/Object"))) (by decide) (by decide))), F2.other W1 (Or.inr (slot_ne (Or.inl (hw _ (List.mem_of_getElem? (i := 103) rfl))) (Or.inl (hw _ (List.mem_of_getElem? (i := 30) rfl))) (by decide) (t := .int) (t' := (.array (.object "java/lang/Object"))) (by decide) (by decide)))⟩)
set_option maxRecDepth 65536 in
set_option maxHeartbeats 40000000 in
theorem rm_hm (l : Launch) (Z : State) (a0 : Array Value) (hw : ∀ d ∈ tables_1, d.before a0 Z = true) (h : Heap) (n0 : Nat) (a : Addr) (x1 : Value) (F1 : Fld Z h a "java/util/HashMap" "loadFactor" "F" x1) (E1 : Exa Z h a "java/util/HashMap") (ha : n0 ≤ a) : Con l Z (⟨"java/util/HashMap", "<init>", "()V"⟩ : MethodName) jdk_69_method_7_code 1 (Option.none : Option Jvm.ClassFile.FieldType) ({ frames := 2, cells := 0, slots := 0, locals := 24 } : Room) n0 #[.ref a] h (fun v h' => v = none ∧ Keep h h' [a]) [] := by
  refine Run.con pn_hm (Ls := [.val (.ref a)]) rfl ?_
  refine r_aloadN 1 d_jdk_69_method_7_code_0 rfl rfl ?_
  refine r_special 4 d_jdk_69_method_7_code_1 rfl (rm_am l Z a0 hw h n0 a) (as1 := []) rfl rfl (hw _ (List.mem_of_getElem? (i := 54) rfl)) (hw _ (List.mem_of_getElem? (i := 55) rfl)) (hw _ (List.mem_of_getElem? (i := 58) rfl)) (hw _ (List.mem_of_getElem? (i := 59) rfl)) (by decide) (ps := []) (r' := none) (by decide +kernel) rfl rfl rfl (Nat.le_of_ble_eq_true rfl) (Nat.le_of_ble_eq_true rfl) (Nat.le_of_ble_eq_true rfl) (Nat.le_of_ble_eq_true rfl) ?_
  rintro v h1 ⟨rfl, rfl⟩
  show Run _ _ _ _ _ _ _ _ _ _ _ _ _ _ []
  refine r_aloadN 5 d_jdk_69_method_7_code_4 rfl rfl ?_
  refine r_ldcF 7 d_jdk_69_method_7_code_5 rfl (hw _ (List.mem_of_getElem? (i := 61) rfl)) ?_
  refine r_putfield (host := "") 10 d_jdk_69_method_7_code_7 rfl (Or.inl (hw _ (List.mem_of_getElem? (i := 62) rfl))) Via.refl (F1) (E1) (Or.inr ⟨(hw _ (List.mem_of_getElem? (i := 63) rfl)), rfl, rfl⟩) (hw _ (List.mem_of_getElem? (i := 49) rfl)) (ty := .float) (by decide) rfl rfl (ha) ?_
  intro h2 W1
  exact r_retV d_jdk_69_method_7_code_10 rfl (Nat.le_of_ble_eq_true rfl) (Nat.le_of_ble_eq_true rfl) (⟨rfl, Keep.of_wr W1⟩)
set_option maxRecDepth 65536 in
set_option maxHeartbeats 40000000 in
theorem rm_itr (l : Launch) (Z : State) (a0 : Array Value) (hw : ∀ d ∈ tables_1, d.before a0 Z = true) (h : Heap) (n0 : Nat) (a al : Addr) (ne : al ≠ a) (FM : Fld Z h al "java/util/AbstractList" "modCount" "I" (.int 0)) (T1 : Fld Z h a "java/util/ArrayList$Itr" "this$0" "Ljava/util/ArrayList;" .null) (R1 : Fld Z h a "java/util/ArrayList$Itr" "lastRet" "I" (.int 0)) (M1 : Fld Z h a "java/util/ArrayList$Itr" "expectedModCount" "I" (.int 0)) (C1 : Fld Z h a "java/util/ArrayList$Itr" "cursor" "I" (.int 0)) (E1 : Exa Z h a "java/util/ArrayList$Itr") (ha : n0 ≤ a) : Con l Z (⟨"java/util/ArrayList$Itr", "<init>", "(Ljava/util/ArrayList;)V"⟩ : MethodName) jdk_49_method_1_code 2 (Option.none : Option Jvm.ClassFile.FieldType) ({ frames := 1, cells := 0, slots := 0, locals := 12 } : Room) n0 #[.ref a, .ref al] h (fun v h' => v = none ∧ Keep h h' [a] ∧ Fld Z h' a "java/util/ArrayList$Itr" "this$0" "Ljava/util/ArrayList;" (.ref al) ∧ Fld Z h' a "java/util/ArrayList$Itr" "cursor" "I" (.int 0)) [] := by
  refine Run.con pn_it (Ls := [.val (.ref a), .val (.ref al)]) rfl ?_
  refine r_aloadN 1 d_jdk_49_method_1_code_0 rfl rfl ?_
  refine r_aloadN 2 d_jdk_49_method_1_code_1 rfl rfl ?_
  refine r_putfield (host := "") 5 d_jdk_49_method_1_code_2 rfl (Or.inl (hw _ (List.mem_of_getElem? (i := 82) rfl))) Via.refl (T1) (E1) (Or.inr ⟨(hw _ (List.mem_of_getElem? (i := 83) rfl)), rfl, rfl⟩) (hw _ (List.mem_of_getElem? (i := 76) rfl)) (ty := (.object "java/util/ArrayList")) (by decide) rfl rfl (ha) ?_
  intro h1 W1
  replace E1 := E1.wr W1
  replace T1 := T1.same W1
  replace C1 := C1.other W1 (Or.inr (slot_ne (Or.inl (hw _ (List.mem_of_getElem? (i := 101) rfl))) (Or.inr (hw _ (List.mem_of_getElem? (i := 83) rfl))) (by decide) (t := .int) (t' := (.object "java/util/ArrayList")) (by decide) (by decide)))
  replace R1 := R1.other W1 (Or.inr (slot_ne (Or.inl (hw _ (List.mem_of_getElem? (i := 86) rfl))) (Or.inr (hw _ (List.mem_of_getElem? (i := 83) rfl))) (by decide) (t := .int) (t' := (.object "java/util/ArrayList")) (by decide) (by decide)))
  replace M1 := M1.other W1 (Or.inr (slot_ne (Or.inl (hw _ (List.mem_of_getElem? (i := 90) rfl))) (Or.inr (hw _ (List.mem_of_getElem? (i := 83) rfl))) (by decide) (t := .int) (t' := (.object "java/util/ArrayList")) (by decide) (by decide)))
  replace FM := FM.other W1 (Or.inl ne)
  have K1 := Keep.of_wr W1
  refine r_aloadN 6 d_jdk_49_method_1_code_5 rfl rfl ?_
  refine r_initO 9 d_jdk_49_method_1_code_6 rfl (hw _ (List.mem_of_getElem? (i := 84) rfl)) (hw _ (List.mem_of_getElem? (i := 24) rfl)) (hw _ (List.mem_of_getElem? (i := 25) rfl)) rfl (Nat.le_of_ble_eq_true rfl) (Nat.le_of_ble_eq_true rfl) ?_
  refine r_aloadN 10 d_jdk_49_method_1_code_9 rfl rfl ?_
  refine r_iconst (-1) 11 d_jdk_49_method_1_code_10 rfl rfl ?_
  refine r_putfield (host := "") 14 d_jdk_49_method_1_code_11 rfl (Or.inl (hw _ (List.mem_of_getElem? (i := 85) rfl))) Via.refl (R1) (E1) (Or.inl (hw _ (List.mem_of_getElem? (i := 86) rfl))) (hw _ (List.mem_of_getElem? (i := 76) rfl)) (ty := .int) (by decide) rfl rfl (ha) ?_
  intro h2 W2
  replace E1 := E1.wr W2
  replace T1 := T1.other W2 (Or.inr (slot_ne (Or.inr (hw _ (List.mem_of_getElem? (i := 83) rfl))) (Or.inl (hw _ (List.mem_of_getElem? (i := 86) rfl))) (by decide) (t := (.object "java/util/ArrayList")) (t' := .int) (by decide) (by decide)))
  replace C1 := C1.other W2 (Or.inr (slot_ne (Or.inl (hw _ (List.mem_of_getElem? (i := 101) rfl))) (Or.inl (hw _ (List.mem_of_getElem? (i := 86) rfl))) (by decide) (t := .int) (t' := .int) (by decide) (by decide)))
  replace M1 := M1.other W2 (Or.inr (slot_ne (Or.inl (hw _ (List.mem_of_getElem? (i := 90) rfl))) (Or.inl (hw _ (List.mem_of_getElem? (i := 86) rfl))) (by decide) (t := .int) (t' := .int) (by decide) (by decide)))
  replace FM := FM.other W2 (Or.inl ne)
  replace K1 := K1.wr W2 (Or.inl (List.mem_of_getElem? (i := 0) rfl))
  refine r_aloadN 15 d_jdk_49_method_1_code_14 rfl rfl ?_
  refine r_aloadN 16 d_jdk_49_method_1_code_15 rfl rfl ?_
  refine r_getfield (host := "") 19 d_jdk_49_method_1_code_16 rfl (Or.inl (hw _ (List.mem_of_getElem? (i := 82) rfl))) Via.refl (T1) ?_
  refine r_getfield (host := "") 22 d_jdk_49_method_1_code_19 rfl (Or.inl (hw _ (List.mem_of_getElem? (i := 87) rfl))) (Via.of (hw _ (List.mem_of_getElem? (i := 88) rfl))) (FM) ?_
  refine r_putfield (host := "") 25 d_jdk_49_method_1_code_22 rfl (Or.inl (hw _ (List.mem_of_getElem? (i := 89) rfl))) Via.refl (M1) (E1) (Or.inl (hw _ (List.mem_of_getElem? (i := 90) rfl))) (hw _ (List.mem_of_getElem? (i := 76) rfl)) (ty := .int) (by decide) rfl rfl (ha) ?_
  intro h3 W3
  exact r_retV d_jdk_49_method_1_code_25 rfl (Nat.le_of_ble_eq_true rfl) (Nat.le_of_ble_eq_true rfl) (⟨rfl, K1.wr W3 (Or.inl (List.mem_of_getElem? (i := 0) rfl)), T1.other W3 (Or.inr (slot_ne (Or.inr (hw _ (List.mem_of_getElem? (i := 83) rfl))) (Or.inl (hw _ (List.mem_of_getElem? (i := 90) rfl))) (by decide) (t := (.object "java/util/ArrayList")) (t' := .int) (by decide) (by decide))), C1.other W3 (Or.inr (slot_ne (Or.inl (hw _ (List.mem_of_getElem? (i := 101) rfl))) (Or.inl (hw _ (List.mem_of_getElem? (i := 90) rfl))) (by decide) (t := .int) (t' := .int) (by decide) (by decide)))⟩)
set_option maxRecDepth 65536 in
set_option maxHeartbeats 40000000 in
theorem rm_iter (l : Launch) (Z : State) (a0 : Array Value) (hw : ∀ d ∈ tables_1, d.before a0 Z = true) (h : Heap) (n0 : Nat) (Z0 : n0 ≤ h.size) (al : Addr) (FM : Fld Z h al "java/util/AbstractList" "modCount" "I" (.int 0)) : Con l Z (⟨"java/util/ArrayList", "iterator", "()Ljava/util/Iterator;"⟩ : MethodName) jdk_38_method_55_code 1 (Option.some (Jvm.ClassFile.FieldType.object "java/util/Iterator")) ({ frames := 2, cells := 1, slots := 4, locals := 26 } : Room) n0 #[.ref al] h (fun v h' => ∃ a, v = some (.ref a) ∧ Ext h h' ∧ Exa Z h' a "java/util/ArrayList$Itr" ∧ Fld Z h' a "java/util/ArrayList$Itr" "this$0" "Ljava/util/ArrayList;" (.ref al) ∧ Fld Z h' a "java/util/ArrayList$Itr" "cursor" "I" (.int 0)) [] := by
  refine Run.con pn_al (Ls := [.val (.ref al)]) rfl ?_
  refine r_new 3 d_jdk_38_method_55_code_0 rfl (hw _ (List.mem_of_getElem? (i := 75) rfl)) (hw _ (List.mem_of_getElem? (i := 76) rfl)) (hw _ (List.mem_of_getElem? (i := 77) rfl)) (Nat.le_of_ble_eq_true rfl) (Nat.le_of_ble_eq_true rfl) ?_
  intro h1 a ha E1 X1 D1
  have ne : al ≠ a := own_ne FM.lt ha
  refine r_dup 4 d_jdk_38_method_55_code_3 rfl rfl ?_
  refine r_aloadN 5 d_jdk_38_method_55_code_4 rfl rfl ?_
  refine r_special 8 d_jdk_38_method_55_code_5 rfl (rm_itr l Z a0 hw h1 n0 a al ne (FM.ext E1) (D1 (Or.inr (hw _ (List.mem_of_getElem? (i := 83) rfl))) (ty := (.object "java/util/ArrayList")) (by decide)) (D1 (Or.inl (hw _ (List.mem_of_getElem? (i := 86) rfl))) (ty := .int) (by decide)) (D1 (Or.inl (hw _ (List.mem_of_getElem? (i := 90) rfl))) (ty := .int) (by decide)) (D1 (Or.inl (hw _ (List.mem_of_getElem? (i := 101) rfl))) (ty := .int) (by decide)) X1 (by rw [ha]; exact Z0)) (as1 := [.ref al]) rfl rfl (hw _ (List.mem_of_getElem? (i := 78) rfl)) (hw _ (List.mem_of_getElem? (i := 79) rfl)) (hw _ (List.mem_of_getElem? (i := 77) rfl)) (hw _ (List.mem_of_getElem? (i := 81) rfl)) (by decide) (ps := [(.object "java/util/ArrayList")]) (r' := none) (by decide +kernel) rfl rfl rfl (Nat.le_of_ble_eq_true rfl) (Nat.le_of_ble_eq_true rfl) (Nat.le_of_ble_eq_true rfl) (Nat.le_of_ble_eq_true rfl) ?_
  rintro v h2 ⟨rfl, K2, T2, C2⟩
  show Run _ _ _ _ _ _ _ _ _ _ _ _ _ _ [.ref a]
  exact r_retA d_jdk_38_method_55_code_8 rfl rfl rfl rfl (Nat.le_of_ble_eq_true rfl) (Nat.le_of_ble_eq_true rfl) (⟨a, rfl, own_keep E1 ha K2, X1.keep K2, T2, C2⟩)
set_option maxRecDepth 65536 in
set_option maxHeartbeats 40000000 in
theorem rm_has (l : Launch) (Z : State) (a0 : Array Value) (hw : ∀ d ∈ tables_1, d.before a0 Z = true) (h : Heap) (n0 : Nat) (a al : Addr) (FS : Fld Z h al "java/util/ArrayList" "size" "I" (.int 0)) (T1 : Fld Z h a "java/util/ArrayList$Itr" "this$0" "Ljava/util/ArrayList;" (.ref al)) (C1 : Fld Z h a "java/util/ArrayList$Itr" "cursor" "I" (.int 0)) : Con l Z (⟨"java/util/ArrayList$Itr", "hasNext", "()Z"⟩ : MethodName) jdk_49_method_2_code 1 (Option.some Jvm.ClassFile.FieldType.boolean) ({ frames := 0, cells := 0, slots := 0, locals := 0 } : Room) n0 #[.ref a] h (fun v h' => v = some (.int 0) ∧ h' = h) [] := by
  refine Run.con pn_it (Ls := [.val (.ref a)]) rfl ?_
  refine r_aloadN 1 d_jdk_49_method_2_code_0 rfl rfl ?_
  refine r_getfield (host := "") 4 d_jdk_49_method_2_code_1 rfl (Or.inl (hw _ (List.mem_of_getElem? (i := 100) rfl))) Via.refl (C1) ?_
  refine r_aloadN 5 d_jdk_49_method_2_code_4 rfl rfl ?_
  refine r_getfield (host := "") 8 d_jdk_49_method_2_code_5 rfl (Or.inl (hw _ (List.mem_of_getElem? (i := 82) rfl))) Via.refl (T1) ?_
  refine r_getfield 11 d_jdk_49_method_2_code_8 rfl (Or.inr (hw _ (List.mem_of_getElem? (i := 102) rfl))) Via.refl (FS) ?_
  refine r_icmp_eq 18 14 d_jdk_49_method_2_code_11 (by decide) rfl (fun q11 => ?_) (fun q11 => absurd q11 (by decide))
  refine r_iconst 0 19 d_jdk_49_method_2_code_18 rfl rfl ?_
  exact r_retN _ d_jdk_49_method_2_code_19 rfl (by simp) rfl (Nat.le_of_ble_eq_true rfl) (Nat.le_of_ble_eq_true rfl) (⟨rfl, rfl⟩)
set_option maxRecDepth 65536 in
set_option maxHeartbeats 40000000 in
theorem rm_gini (l : Launch) (Z : State) (a0 : Array Value) (hw : ∀ d ∈ tables_1, d.before a0 Z = true) (h : Heap) (n0 : Nat) (g b al : Addr) (s z : Int32) (cA : ClassId) (vs : List Value) (dv : Value) (A : Arv Z h b cA .int z vs dv) (hz3 : z.toNatClampNeg ≤ 3) (Eb : Exa Z h b "[I") (lg : al ≠ g) (F1 : Fld Z h g "com/example/genano/genano/Grouping" "sizes" "[I" .null) (F2 : Fld Z h g "com/example/genano/genano/Grouping" "suppressed" "I" (.int 0)) (F3 : Fld Z h g "com/example/genano/genano/Grouping" "sensitive" "Ljava/util/Map;" .null) (Eg : Exa Z h g "com/example/genano/genano/Grouping") (FM : Fld Z h al "java/util/AbstractList" "modCount" "I" (.int 0)) (FS : Fld Z h al "java/util/ArrayList" "size" "I" (.int 0)) (EL : Exa Z h al "java/util/ArrayList") (ha : n0 ≤ g) : Con l Z (⟨"com/example/genano/genano/Grouping", "<init>", "([IILjava/util/List;)V"⟩ : MethodName) prog_17_method_2_code 6 (Option.none : Option Jvm.ClassFile.FieldType) ({ frames := 3, cells := 3, slots := 15, locals := 38 } : Room) n0 #[.ref g, .ref b, .int s, .ref al] h (fun v h' => v = none ∧ ∃ c, Fld Z h' g "com/example/genano/genano/Grouping" "sizes" "[I" (.ref c) ∧ Fld Z h' g "com/example/genano/genano/Grouping" "suppressed" "I" (.int s) ∧ Arv Z h' c cA .int z vs dv ∧ Exa Z h' g "com/example/genano/genano/Grouping") [] := by
  refine Run.con pn_g (Ls := [.val (.ref g), .val (.ref b), .val (.int s), .val (.ref al), .unset, .unset]) rfl ?_
  refine r_aloadN 1 d_prog_17_method_2_code_0 rfl rfl ?_
  refine r_initO 4 d_prog_17_method_2_code_1 rfl (hw _ (List.mem_of_getElem? (i := 34) rfl)) (hw _ (List.mem_of_getElem? (i := 24) rfl)) (hw _ (List.mem_of_getElem? (i := 25) rfl)) rfl (Nat.le_of_ble_eq_true rfl) (Nat.le_of_ble_eq_true rfl) ?_
  refine r_aloadN 5 d_prog_17_method_2_code_4 rfl rfl ?_
  refine r_aloadN 6 d_prog_17_method_2_code_5 rfl rfl ?_
  refine r_clone 3 9 d_prog_17_method_2_code_6 rfl (hw _ (List.mem_of_getElem? (i := 35) rfl)) (hw _ (List.mem_of_getElem? (i := 36) rfl)) (hw _ (List.mem_of_getElem? (i := 40) rfl)) (hw _ (List.mem_of_getElem? (i := 38) rfl)) (hw _ (List.mem_of_getElem? (i := 39) rfl)) (hw _ (List.mem_of_getElem? (i := 41) rfl)) A Eb rfl (Nat.le_of_ble_eq_true rfl) (Nat.le_of_ble_eq_true rfl) hz3 (Nat.le_of_ble_eq_true rfl) (Nat.le_of_ble_eq_true rfl) ?_
  intro h1 c hc E1 A1 X1
  have gc : g ≠ c := own_ne Eg.lt hc
  have lc : al ≠ c := own_ne EL.lt hc
  replace F1 := F1.ext E1
  replace F2 := F2.ext E1
  replace F3 := F3.ext E1
  replace Eg := Eg.ext E1
  replace FM := FM.ext E1
  replace FS := FS.ext E1
  replace EL := EL.ext E1
  refine r_checkcast 12 d_prog_17_method_2_code_9 rfl (hw _ (List.mem_of_getElem? (i := 42) rfl)) (Ins.self X1) ?_
  refine r_putfield (host := "") 15 d_prog_17_method_2_code_12 rfl (Or.inl (hw _ (List.mem_of_getElem? (i := 44) rfl))) Via.refl (F1) (Eg) (Or.inr ⟨(hw _ (List.mem_of_getElem? (i := 45) rfl)), rfl, rfl⟩) (hw _ (List.mem_of_getElem? (i := 3) rfl)) (ty := (.array .int)) (by decide) rfl rfl (ha) ?_
  intro h2 W2
  replace Eg := Eg.wr W2
  replace F1 := F1.same W2
  replace F2 := F2.other W2 (Or.inr (slot_ne (Or.inr (hw _ (List.mem_of_getElem? (i := 47) rfl))) (Or.inr (hw _ (List.mem_of_getElem? (i := 45) rfl))) (by decide) (t := .int) (t' := (.array .int)) (by decide) (by decide)))
  replace F3 := F3.other W2 (Or.inr (slot_ne (Or.inr (hw _ (List.mem_of_getElem? (i := 65) rfl))) (Or.inr (hw _ (List.mem_of_getElem? (i := 45) rfl))) (by decide) (t := (.object "java/util/Map")) (t' := (.array .int)) (by decide) (by decide)))
  replace A1 := A1.other W2 (Ne.symm gc)
  replace FM := FM.other W2 (Or.inl lg)
  replace FS := FS.other W2 (Or.inl lg)
  replace EL := EL.wr W2
  refine r_aloadN 16 d_prog_17_method_2_code_15 rfl rfl ?_
  refine r_iloadN 17 d_prog_17_method_2_code_16 rfl rfl ?_
  refine r_putfield (host := "") 20 d_prog_17_method_2_code_17 rfl (Or.inl (hw _ (List.mem_of_getElem? (i := 46) rfl))) Via.refl (F2) (Eg) (Or.inr ⟨(hw _ (List.mem_of_getElem? (i := 47) rfl)), rfl, rfl⟩) (hw _ (List.mem_of_getElem? (i := 3) rfl)) (ty := .int) (by decide) rfl rfl (ha) ?_
  intro h3 W3
  replace Eg := Eg.wr W3
  replace F1 := F1.other W3 (Or.inr (slot_ne (Or.inr (hw _ (List.mem_of_getElem? (i := 45) rfl))) (Or.inr (hw _ (List.mem_of_getElem? (i := 47) rfl))) (by decide) (t := (.array .int)) (t' := .int) (by decide) (by decide)))
  replace F2 := F2.same W3
  replace F3 := F3.other W3 (Or.inr (slot_ne (Or.inr (hw _ (List.mem_of_getElem? (i := 65) rfl))) (Or.inr (hw _ (List.mem_of_getElem? (i := 47) rfl))) (by decide) (t := (.object "java/util/Map")) (t' := .int) (by decide) (by decide)))
  replace A1 := A1.other W3 (Ne.symm gc)
  replace FM := FM.other W3 (Or.inl lg)
  replace FS := FS.other W3 (Or.inl lg)
  replace EL := EL.wr W3
  have Z3 : n0 ≤ h3.size := Nat.le_of_lt (Nat.lt_of_le_of_lt ha Eg.lt)
  refine r_aloadN 21 d_prog_17_method_2_code_20 rfl rfl ?_
  refine r_new 24 d_prog_17_method_2_code_21 rfl (hw _ (List.mem_of_getElem? (i := 48) rfl)) (hw _ (List.mem_of_getElem? (i := 49) rfl)) (hw _ (List.mem_of_getElem? (i := 50) rfl)) (Nat.le_of_ble_eq_true rfl) (Nat.le_of_ble_eq_true rfl) ?_
  intro h4 hm hhm E4 X4 D4
  have ghm : g ≠ hm := own_ne Eg.lt hhm
  have chm : c ≠ hm := own_ne A1.lt hhm
  have lhm : al ≠ hm := own_ne EL.lt hhm
  replace A1 := A1.ext E4
  replace F1 := F1.ext E4
  replace F2 := F2.ext E4
  replace F3 := F3.ext E4
  replace Eg := Eg.ext E4
  replace FM := FM.ext E4
  replace FS := FS.ext E4
  replace EL := EL.ext E4
  refine r_dup 25 d_prog_17_method_2_code_24 rfl rfl ?_
  refine r_special 28 d_prog_17_method_2_code_25 rfl (rm_hm l Z a0 hw h4 n0 hm _ (D4 (Or.inr (hw _ (List.mem_of_getElem? (i := 63) rfl))) (ty := .float) (by decide)) X4 (by rw [hhm]; exact Z3)) (as1 := []) rfl rfl (hw _ (List.mem_of_getElem? (i := 51) rfl)) (hw _ (List.mem_of_getElem? (i := 52) rfl)) (hw _ (List.mem_of_getElem? (i := 50) rfl)) (hw _ (List.mem_of_getElem? (i := 53) rfl)) (by decide) (ps := []) (r' := none) (by decide +kernel) rfl rfl rfl (Nat.le_of_ble_eq_true rfl) (Nat.le_of_ble_eq_true rfl) (Nat.le_of_ble_eq_true rfl) (Nat.le_of_ble_eq_true rfl) ?_
  rintro v h5 ⟨rfl, K5⟩
  replace A1 := A1.keep K5 (ninS chm nin0)
  replace Eg := Eg.keep K5
  replace EL := EL.keep K5
  replace F1 := F1.keep K5 (ninS ghm nin0)
  replace F2 := F2.keep K5 (ninS ghm nin0)
  replace F3 := F3.keep K5 (ninS ghm nin0)
  replace FM := FM.keep K5 (ninS lhm nin0)
  replace FS := FS.keep K5 (ninS lhm nin0)
  show Run _ _ _ _ _ _ _ _ _ _ _ _ _ _ [.ref hm, .ref g]
  refine r_putfield (host := "") 31 d_prog_17_method_2_code_28 rfl (Or.inl (hw _ (List.mem_of_getElem? (i := 64) rfl))) Via.refl (F3) (Eg) (Or.inr ⟨(hw _ (List.mem_of_getElem? (i := 65) rfl)), rfl, rfl⟩) (hw _ (List.mem_of_getElem? (i := 3) rfl)) (ty := (.object "java/util/Map")) (by decide) rfl rfl (ha) ?_
  intro h6 W6
  replace Eg := Eg.wr W6
  replace F1 := F1.other W6 (Or.inr (slot_ne (Or.inr (hw _ (List.mem_of_getElem? (i := 45) rfl))) (Or.inr (hw _ (List.mem_of_getElem? (i := 65) rfl))) (by decide) (t := (.array .int)) (t' := (.object "java/util/Map")) (by decide) (by decide)))
  replace F2 := F2.other W6 (Or.inr (slot_ne (Or.inr (hw _ (List.mem_of_getElem? (i := 47) rfl))) (Or.inr (hw _ (List.mem_of_getElem? (i := 65) rfl))) (by decide) (t := .int) (t' := (.object "java/util/Map")) (by decide) (by decide)))
  replace A1 := A1.other W6 (Ne.symm gc)
  replace FM := FM.other W6 (Or.inl lg)
  replace FS := FS.other W6 (Or.inl lg)
  replace EL := EL.wr W6
  have Z6 : n0 ≤ h6.size := Nat.le_of_lt (Nat.lt_of_le_of_lt ha Eg.lt)
  refine r_aloadN 32 d_prog_17_method_2_code_31 rfl rfl ?_
  refine r_iface 37 d_prog_17_method_2_code_32 rfl (rm_iter l Z a0 hw h6 n0 Z6 al FM) (as1 := []) rfl (hw _ (List.mem_of_getElem? (i := 66) rfl)) (hw _ (List.mem_of_getElem? (i := 67) rfl)) (hw _ (List.mem_of_getElem? (i := 68) rfl)) rfl (hw _ (List.mem_of_getElem? (i := 69) rfl)) (hw _ (List.mem_of_getElem? (i := 70) rfl)) (hw _ (List.mem_of_getElem? (i := 71) rfl)) (hw _ (List.mem_of_getElem? (i := 72) rfl)) (hw _ (List.mem_of_getElem? (i := 73) rfl)) (hw _ (List.mem_of_getElem? (i := 7) rfl)) (hw _ (List.mem_of_getElem? (i := 74) rfl)) (by decide) (ps := []) (r' := (some (.object "java/util/Iterator"))) (by decide +kernel) (EL) rfl rfl rfl (Nat.le_of_ble_eq_true rfl) (Nat.le_of_ble_eq_true rfl) (Nat.le_of_ble_eq_true rfl) (Nat.le_of_ble_eq_true rfl) ?_
  rintro v h7 ⟨it, rfl, E7, X7, T7, C7⟩
  replace A1 := A1.ext E7
  replace F1 := F1.ext E7
  replace F2 := F2.ext E7
  replace Eg := Eg.ext E7
  replace FS := FS.ext E7
  show Run _ _ _ _ _ _ _ _ _ _ _ _ _ _ [.ref it]
  refine r_astore 39 d_prog_17_method_2_code_37 rfl rfl ?_
  refine r_aload 41 d_prog_17_method_2_code_39 rfl rfl ?_
  refine r_iface 46 d_prog_17_method_2_code_41 rfl (rm_has l Z a0 hw h7 n0 it al FS T7 C7) (as1 := []) rfl (hw _ (List.mem_of_getElem? (i := 91) rfl)) (hw _ (List.mem_of_getElem? (i := 92) rfl)) (hw _ (List.mem_of_getElem? (i := 93) rfl)) rfl (hw _ (List.mem_of_getElem? (i := 94) rfl)) (hw _ (List.mem_of_getElem? (i := 95) rfl)) (hw _ (List.mem_of_getElem? (i := 96) rfl)) (hw _ (List.mem_of_getElem? (i := 97) rfl)) (hw _ (List.mem_of_getElem? (i := 98) rfl)) (hw _ (List.mem_of_getElem? (i := 77) rfl)) (hw _ (List.mem_of_getElem? (i := 99) rfl)) (by decide) (ps := []) (r' := (some .boolean)) (by decide +kernel) (X7) rfl rfl rfl (Nat.le_of_ble_eq_true rfl) (Nat.le_of_ble_eq_true rfl) (Nat.le_of_ble_eq_true rfl) (Nat.le_of_ble_eq_true rfl) ?_
  rintro v h8 ⟨rfl, rfl⟩
  show Run _ _ _ _ _ _ _ _ _ _ _ _ _ _ [.int 0]
  refine r_if_eq 84 49 d_prog_17_method_2_code_46 (by decide) rfl (fun q46 => ?_) (fun q46 => absurd q46 (by decide))
  exact r_retV d_prog_17_method_2_code_84 rfl (Nat.le_of_ble_eq_true rfl) (Nat.le_of_ble_eq_true rfl) (⟨rfl, c, F1, F2, A1, Eg⟩)
def own_sum (s : Int32) (xs : List Int32) : Int32 := xs.foldl (· + ·) s
theorem own_succ {i : Nat} (h : i + 1 < 2 ^ 31) : Int32.ofNat i + 1 = Int32.ofNat (i + 1) := by
  apply Int32.toInt_inj.mp
  have q := c_iadd (Int32.ofNat i) 1
  rw [Int32.toInt_ofNat_small (by omega)] at q
  have r := rng32 (Int32.ofNat i + 1)
  have e1 : (1 : Int32).toInt = 1 := rfl
  rw [e1] at q
  rw [Int32.toInt_ofNat_small h]
  omega
theorem own_at {xs : List Int32} {i : Nat} {x : Int32} {r : List Int32} (h : xs.drop i = x :: r) : i < xs.length ∧ (xs.map Value.int).getD i (.int 0) = .int x ∧ xs.drop (i + 1) = r := by
  have h1 : i < xs.length := by
    by_cases q : i < xs.length
    · exact q
    · rw [List.drop_of_length_le (by omega)] at h; cases h
  rw [List.drop_eq_getElem_cons h1] at h
  injection h with h2 h3
  refine ⟨h1, ?_, h3⟩
  rw [List.getD_eq_getElem?_getD, List.getElem?_map, List.getElem?_eq_getElem h1, h2]; rfl
set_option maxRecDepth 65536 in
set_option maxHeartbeats 40000000 in
theorem loop_rec (l : Launch) (Z : State) (a0 : Array Value) (hw : ∀ d ∈ tables_1, d.before a0 Z = true) (h : Heap) (n0 : Nat) (g c : Addr) (s : Int32) (cA : ClassId) (xs : List Int32) (hl : xs.length < 1000) (A : Arv Z h c cA .int (Int32.ofNat xs.length) (xs.map Value.int) (.int 0)) (rest : List Int32) : ∀ (i : Nat) (S : Int32) (w5 : Slot), own_one w5 = true → xs.drop i = rest → i ≤ xs.length → rest.foldl (· + ·) S = own_sum s xs → Run l Z (⟨"com/example/genano/genano/Grouping", "records", "()I"⟩ : MethodName) prog_17_method_6_code 6 (Option.some Jvm.ClassFile.FieldType.int) ({ frames := 0, cells := 0, slots := 0, locals := 0 } : Room) n0 (fun v h' => v = some (.int (own_sum s xs)) ∧ True) h 0 0 16 [.val (.ref g), .val (.int S), .val (.ref c), .val (.int (Int32.ofNat xs.length)), .val (.int (Int32.ofNat i)), w5] [] := by
  induction rest with
  | nil =>
    intro i S w5 h5 hi hle hS
    have hlen : xs.length ≤ i := List.drop_eq_nil_iff.mp hi
    refine r_iload 18 d_prog_17_method_6_code_16 rfl rfl ?_
    refine r_iloadN 19 d_prog_17_method_6_code_18 rfl rfl ?_
    refine r_icmp_ge 39 22 d_prog_17_method_6_code_19 (by decide) rfl (fun q19 => ?_) (fun q19 => absurd ((own_lt (by omega) (by omega)).mp q19) (by omega))
    refine r_iloadN 40 d_prog_17_method_6_code_39 rfl rfl ?_
    exact r_retI d_prog_17_method_6_code_40 rfl (Nat.le_of_ble_eq_true rfl) (Nat.le_of_ble_eq_true rfl) (⟨by rw [← hS]; rfl, trivial⟩)
  | cons x r ih =>
    intro i S w5 h5 hi hle hS
    obtain ⟨hlt, hx, hi2⟩ := own_at hi
    refine r_iload 18 d_prog_17_method_6_code_16 rfl rfl ?_
    refine r_iloadN 19 d_prog_17_method_6_code_18 rfl rfl ?_
    refine r_icmp_ge 39 22 d_prog_17_method_6_code_19 (by decide) rfl (fun q19 => ?_) (fun q19 => ?_)
    · exact absurd ((own_lt (by omega) (by omega)).mpr (by omega)) q19
    refine r_aloadN 23 d_prog_17_method_6_code_22 rfl rfl ?_
    refine r_iload 25 d_prog_17_method_6_code_23 rfl rfl ?_
    refine r_iaload i (.int x) 26 d_prog_17_method_6_code_25 rfl A (own_nn (by omega)) (own_cl (by omega)) (by rw [own_cl (by omega)]; omega) hx ?_
    refine r_istore 28 d_prog_17_method_6_code_26 rfl (congrArg some h5) ?_
    refine r_iloadN 29 d_prog_17_method_6_code_28 rfl rfl ?_
    refine r_iload 31 d_prog_17_method_6_code_29 rfl rfl ?_
    refine r_iadd 32 d_prog_17_method_6_code_31 rfl ?_
    refine r_istoreN 33 d_prog_17_method_6_code_32 rfl rfl ?_
    refine r_iinc 1 36 d_prog_17_method_6_code_33 rfl rfl rfl ?_
    refine r_goto 16 d_prog_17_method_6_code_36 (by decide) ?_
    rw [own_succ (by omega)]
    exact ih (i + 1) (S + x) _ rfl hi2 (by omega) hS
set_option maxRecDepth 65536 in
set_option maxHeartbeats 40000000 in
theorem rm_rec (l : Launch) (Z : State) (a0 : Array Value) (hw : ∀ d ∈ tables_1, d.before a0 Z = true) (h : Heap) (n0 : Nat) (g c : Addr) (s : Int32) (cA : ClassId) (xs : List Int32) (hl : xs.length < 1000) (A : Arv Z h c cA .int (Int32.ofNat xs.length) (xs.map Value.int) (.int 0)) (F1 : Fld Z h g "com/example/genano/genano/Grouping" "sizes" "[I" (.ref c)) (F2 : Fld Z h g "com/example/genano/genano/Grouping" "suppressed" "I" (.int s)) : Con l Z (⟨"com/example/genano/genano/Grouping", "records", "()I"⟩ : MethodName) prog_17_method_6_code 6 (Option.some Jvm.ClassFile.FieldType.int) ({ frames := 0, cells := 0, slots := 0, locals := 0 } : Room) n0 #[.ref g] h (fun v h' => v = some (.int (own_sum s xs)) ∧ True) [] := by
  refine Run.con pn_g (Ls := [.val (.ref g), .unset, .unset, .unset, .unset, .unset]) rfl ?_
  refine r_aloadN 1 d_prog_17_method_6_code_0 rfl rfl ?_
  refine r_getfield (host := "") 4 d_prog_17_method_6_code_1 rfl (Or.inl (hw _ (List.mem_of_getElem? (i := 46) rfl))) Via.refl (F2) ?_
  refine r_istoreN 5 d_prog_17_method_6_code_4 rfl rfl ?_
  refine r_aloadN 6 d_prog_17_method_6_code_5 rfl rfl ?_
  refine r_getfield (host := "") 9 d_prog_17_method_6_code_6 rfl (Or.inl (hw _ (List.mem_of_getElem? (i := 44) rfl))) Via.refl (F1) ?_
  refine r_astoreN 10 d_prog_17_method_6_code_9 rfl rfl ?_
  refine r_aloadN 11 d_prog_17_method_6_code_10 rfl rfl ?_
  refine r_arraylength 12 d_prog_17_method_6_code_11 rfl A ?_
  refine r_istoreN 13 d_prog_17_method_6_code_12 rfl rfl ?_
  refine r_iconst 0 14 d_prog_17_method_6_code_13 rfl rfl ?_
  refine r_istore 16 d_prog_17_method_6_code_14 rfl rfl ?_
  exact loop_rec l Z a0 hw h n0 g c s cA xs hl A xs 0 s .unset rfl rfl (by omega) rfl
set_option maxRecDepth 65536 in
set_option maxHeartbeats 40000000 in
theorem run_0 (l : Launch) (Z : State) (a0 : Array Value) (hw : ∀ d ∈ tables_1, d.before a0 Z = true) (h : Heap) (n0 : Nat) (O : Old Z n0 h) (de : Addr) (S : Sta Z Z.heap "java/util/ArrayList" "DEFAULTCAPACITY_EMPTY_ELEMENTDATA" "[Ljava/lang/Object;" (.ref de)) (i0 i1 i2 i3 i4 : Int32) : Run l Z x code maxLocals ret room_1 n0 (fun v h' => v = some (.int 1) ∧ True) h 0 0 3 [.val (.int i0), .val (.int i1), .val (.int i2), .val (.int i3), .val (.int i4), .unset, .unset, .unset, .unset, .unset, .unset, .unset, .unset] [.int 0] := by
  refine r_istore 5 at_3 rfl rfl ?_
  refine r_iloadN 6 at_5 rfl rfl ?_
  refine r_ldc 8 at_6 rfl (hw _ (List.mem_of_getElem? (i := 0) rfl)) ?_
  refine r_iand 9 at_8 rfl ?_
  refine r_istore 11 at_9 rfl rfl ?_
  refine r_iloadN 12 at_11 rfl rfl ?_
  refine r_ldc 14 at_12 rfl (hw _ (List.mem_of_getElem? (i := 0) rfl)) ?_
  refine r_iand 15 at_14 rfl ?_
  refine r_istore 17 at_15 rfl rfl ?_
  refine r_iloadN 18 at_17 rfl rfl ?_
  refine r_ldc 20 at_18 rfl (hw _ (List.mem_of_getElem? (i := 0) rfl)) ?_
  refine r_iand 21 at_20 rfl ?_
  refine r_istore 23 at_21 rfl rfl ?_
  refine r_iload 25 at_23 rfl rfl ?_
  refine r_ldc 27 at_25 rfl (hw _ (List.mem_of_getElem? (i := 0) rfl)) ?_
  refine r_iand 28 at_27 rfl ?_
  refine r_istore 30 at_28 rfl rfl ?_
  refine r_iload 32 at_30 rfl rfl ?_
  refine r_newarray 3 "[I" 34 at_32 rfl (hw _ (List.mem_of_getElem? (i := 1) rfl)) (by decide) (by decide) (by decide) rfl (Nat.le_of_ble_eq_true rfl) (Nat.le_of_ble_eq_true rfl) ?_
  intro h1 b cA hb E1 A1 X1
  have gb : n0 ≤ b := by rw [hb]; exact O.1 ▸ O.2.1
  replace O := O.ext E1
  clear E1
  replace A1 : Arv Z _ b cA .int 0 (List.replicate 0 (.int 0)) (.int 0) := A1
  refine r_astore 36 at_34 rfl rfl ?_
  refine r_iload 38 at_36 rfl rfl ?_
  refine r_if_le 47 41 at_38 (by decide) rfl (fun q38 => ?_) (fun q38 => absurd q38 (by decide))
  refine r_iload 49 at_47 rfl rfl ?_
  refine r_iconst 1 50 at_49 rfl rfl ?_
  refine r_icmp_le 59 53 at_50 (by decide) rfl (fun q50 => ?_) (fun q50 => absurd q50 (by decide))
  refine r_iload 61 at_59 rfl rfl ?_
  refine r_iconst 2 62 at_61 rfl rfl ?_
  refine r_icmp_le 71 65 at_62 (by decide) rfl (fun q62 => ?_) (fun q62 => absurd q62 (by decide))
  refine r_new 74 at_71 rfl (hw _ (List.mem_of_getElem? (i := 2) rfl)) (hw _ (List.mem_of_getElem? (i := 3) rfl)) (hw _ (List.mem_of_getElem? (i := 4) rfl)) (Nat.le_of_ble_eq_true rfl) (Nat.le_of_ble_eq_true rfl) ?_
  intro h2 g hg E2 Xg Dg
  have gg : n0 ≤ g := by rw [hg]; exact O.1 ▸ O.2.1
  replace O := O.ext E2
  replace X1 := X1.ext E2
  have bg : b ≠ g := own_ne A1.lt hg
  replace A1 : Arv Z _ b cA .int (Int32.ofNat ([] : List Int32).length) (([] : List Int32).map Value.int) (.int 0) := A1.ext E2
  have F1 := (Dg (Or.inr (hw _ (List.mem_of_getElem? (i := 45) rfl))) (ty := (.array .int)) (by decide))
  have F2 := (Dg (Or.inr (hw _ (List.mem_of_getElem? (i := 47) rfl))) (ty := .int) (by decide))
  have F3 := (Dg (Or.inr (hw _ (List.mem_of_getElem? (i := 65) rfl))) (ty := (.object "java/util/Map")) (by decide))
  refine r_dup 75 at_74 rfl rfl ?_
  refine r_aload 77 at_75 rfl rfl ?_
  refine r_iload 79 at_77 rfl rfl ?_
  refine r_new 82 at_79 rfl (hw _ (List.mem_of_getElem? (i := 5) rfl)) (hw _ (List.mem_of_getElem? (i := 6) rfl)) (hw _ (List.mem_of_getElem? (i := 7) rfl)) (Nat.le_of_ble_eq_true rfl) (Nat.le_of_ble_eq_true rfl) ?_
  intro h3 al hal E3 Xl Dl
  have gl : n0 ≤ al := by rw [hal]; exact O.1 ▸ O.2.1
  have lg : al ≠ g := (own_ne Xg.lt hal).symm
  have lb : b ≠ al := own_ne A1.lt hal
  replace O := O.ext E3
  replace X1 := X1.ext E3
  replace A1 := A1.ext E3
  replace Xg := Xg.ext E3
  replace F1 := F1.ext E3
  replace F2 := F2.ext E3
  replace F3 := F3.ext E3
  refine r_dup 83 at_82 rfl rfl ?_
  refine r_special 86 at_83 rfl (rm_arl l Z a0 hw h3 n0 O de S al _ (Dl (Or.inl (hw _ (List.mem_of_getElem? (i := 27) rfl))) (ty := .int) (by decide)) (Dl (Or.inl (hw _ (List.mem_of_getElem? (i := 103) rfl))) (ty := .int) (by decide)) (Dl (Or.inl (hw _ (List.mem_of_getElem? (i := 30) rfl))) (ty := (.array (.object "java/lang/Object"))) (by decide)) Xl gl) (as1 := []) rfl rfl (hw _ (List.mem_of_getElem? (i := 8) rfl)) (hw _ (List.mem_of_getElem? (i := 9) rfl)) (hw _ (List.mem_of_getElem? (i := 7) rfl)) (hw _ (List.mem_of_getElem? (i := 10) rfl)) (by decide) (ps := []) (r' := none) (by decide +kernel) rfl rfl rfl (Nat.le_of_ble_eq_true rfl) (Nat.le_of_ble_eq_true rfl) (Nat.le_of_ble_eq_true rfl) (Nat.le_of_ble_eq_true rfl) ?_
  rintro v h4 ⟨rfl, K4, FM, FS⟩
  replace X1 := X1.keep K4
  replace A1 := A1.keep K4 (ninS lb nin0)
  replace Xg := Xg.keep K4
  replace Xl := Xl.keep K4
  replace F1 := F1.keep K4 (ninS (Ne.symm lg) nin0)
  replace F2 := F2.keep K4 (ninS (Ne.symm lg) nin0)
  replace F3 := F3.keep K4 (ninS (Ne.symm lg) nin0)
  show Run _ _ _ _ _ _ _ _ _ _ _ _ _ _ [.ref al, .int (i4 &&& 536870911), .ref b, .ref g, .ref g]
  refine r_special 89 at_86 rfl (rm_gini l Z a0 hw h4 n0 g b al (i4 &&& 536870911) _ cA _ _ A1 (Nat.le_of_ble_eq_true rfl) X1 lg F1 F2 F3 Xg FM FS Xl gg) (as1 := [.ref b, .int (i4 &&& 536870911), .ref al]) rfl rfl (hw _ (List.mem_of_getElem? (i := 31) rfl)) (hw _ (List.mem_of_getElem? (i := 32) rfl)) (hw _ (List.mem_of_getElem? (i := 4) rfl)) (hw _ (List.mem_of_getElem? (i := 33) rfl)) (by decide) (ps := [(.array .int), .int, (.object "java/util/List")]) (r' := none) (by decide +kernel) rfl rfl rfl (Nat.le_of_ble_eq_true rfl) (Nat.le_of_ble_eq_true rfl) (Nat.le_of_ble_eq_true rfl) (Nat.le_of_ble_eq_true rfl) ?_
  rintro v h5 ⟨rfl, c, F1, F2, A1, Xg⟩
  show Run _ _ _ _ _ _ _ _ _ _ _ _ _ _ [.ref g]
  refine r_astore 91 at_89 rfl rfl ?_
  refine r_iload 93 at_91 rfl rfl ?_
  refine r_istore 95 at_93 rfl rfl ?_
  refine r_iload 97 at_95 rfl rfl ?_
  refine r_if_le 107 100 at_97 (by decide) rfl (fun q97 => ?_) (fun q97 => absurd q97 (by decide))
  refine r_iload 109 at_107 rfl rfl ?_
  refine r_iconst 1 110 at_109 rfl rfl ?_
  refine r_icmp_le 120 113 at_110 (by decide) rfl (fun q110 => ?_) (fun q110 => absurd q110 (by decide))
  refine r_iload 122 at_120 rfl rfl ?_
  refine r_iconst 2 123 at_122 rfl rfl ?_
  refine r_icmp_le 133 126 at_123 (by decide) rfl (fun q123 => ?_) (fun q123 => absurd q123 (by decide))
  refine r_aload 135 at_133 rfl rfl ?_
  refine r_virtual 138 at_135 rfl (rm_rec l Z a0 hw h5 n0 g c (i4 &&& 536870911) cA [] (Nat.le_of_ble_eq_true rfl) A1 F1 F2) (as1 := []) rfl (hw _ (List.mem_of_getElem? (i := 104) rfl)) (hw _ (List.mem_of_getElem? (i := 105) rfl)) (hw _ (List.mem_of_getElem? (i := 107) rfl)) (hw _ (List.mem_of_getElem? (i := 106) rfl)) (hw _ (List.mem_of_getElem? (i := 4) rfl)) (hw _ (List.mem_of_getElem? (i := 108) rfl)) (by decide) (ps := []) (r' := (some .int)) (by decide +kernel) (Xg) rfl rfl rfl (Nat.le_of_ble_eq_true rfl) (Nat.le_of_ble_eq_true rfl) (Nat.le_of_ble_eq_true rfl) (Nat.le_of_ble_eq_true rfl) (fun s args hZ => notFace_of_selects (args := args) (mvT hZ (hw _ (List.mem_of_getElem? (i := 107) rfl)))) ?_
  rintro v h6 ⟨rfl, -⟩
  show Run _ _ _ _ _ _ _ _ _ _ _ _ _ _ [.int (own_sum (i4 &&& 536870911) [])]
  refine r_iload 140 at_138 rfl rfl ?_
  refine r_icmp_ne 147 143 at_140 (by decide) rfl (fun q140 => absurd rfl q140) (fun q140 => ?_)
  refine r_iconst 1 144 at_143 rfl rfl ?_
  refine r_goto 148 at_144 (by decide) ?_
  exact r_retN _ at_148 rfl (by simp) rfl (Nat.le_of_ble_eq_true rfl) (Nat.le_of_ble_eq_true rfl) (⟨rfl, trivial⟩)
set_option maxRecDepth 65536 in
set_option maxHeartbeats 40000000 in
theorem run_1 (l : Launch) (Z : State) (a0 : Array Value) (hw : ∀ d ∈ tables_1, d.before a0 Z = true) (h : Heap) (n0 : Nat) (O : Old Z n0 h) (de : Addr) (S : Sta Z Z.heap "java/util/ArrayList" "DEFAULTCAPACITY_EMPTY_ELEMENTDATA" "[Ljava/lang/Object;" (.ref de)) (i0 i1 i2 i3 i4 : Int32) : Run l Z x code maxLocals ret room_1 n0 (fun v h' => v = some (.int 1) ∧ True) h 0 0 3 [.val (.int i0), .val (.int i1), .val (.int i2), .val (.int i3), .val (.int i4), .unset, .unset, .unset, .unset, .unset, .unset, .unset, .unset] [.int 1] := by
  refine r_istore 5 at_3 rfl rfl ?_
  refine r_iloadN 6 at_5 rfl rfl ?_
  refine r_ldc 8 at_6 rfl (hw _ (List.mem_of_getElem? (i := 0) rfl)) ?_
  refine r_iand 9 at_8 rfl ?_
  refine r_istore 11 at_9 rfl rfl ?_
  refine r_iloadN 12 at_11 rfl rfl ?_
  refine r_ldc 14 at_12 rfl (hw _ (List.mem_of_getElem? (i := 0) rfl)) ?_
  refine r_iand 15 at_14 rfl ?_
  refine r_istore 17 at_15 rfl rfl ?_
  refine r_iloadN 18 at_17 rfl rfl ?_
  refine r_ldc 20 at_18 rfl (hw _ (List.mem_of_getElem? (i := 0) rfl)) ?_
  refine r_iand 21 at_20 rfl ?_
  refine r_istore 23 at_21 rfl rfl ?_
  refine r_iload 25 at_23 rfl rfl ?_
  refine r_ldc 27 at_25 rfl (hw _ (List.mem_of_getElem? (i := 0) rfl)) ?_
  refine r_iand 28 at_27 rfl ?_
  refine r_istore 30 at_28 rfl rfl ?_
  refine r_iload 32 at_30 rfl rfl ?_
  refine r_newarray 3 "[I" 34 at_32 rfl (hw _ (List.mem_of_getElem? (i := 1) rfl)) (by decide) (by decide) (by decide) rfl (Nat.le_of_ble_eq_true rfl) (Nat.le_of_ble_eq_true rfl) ?_
  intro h1 b cA hb E1 A1 X1
  have gb : n0 ≤ b := by rw [hb]; exact O.1 ▸ O.2.1
  replace O := O.ext E1
  clear E1
  replace A1 : Arv Z _ b cA .int 1 (List.replicate 1 (.int 0)) (.int 0) := A1
  refine r_astore 36 at_34 rfl rfl ?_
  refine r_iload 38 at_36 rfl rfl ?_
  refine r_if_le 47 41 at_38 (by decide) rfl (fun q38 => absurd q38 (by decide)) (fun q38 => ?_)
  refine r_aload 43 at_41 rfl rfl ?_
  refine r_iconst 0 44 at_43 rfl rfl ?_
  refine r_iload 46 at_44 rfl rfl ?_
  refine r_iastore 0 47 at_46 rfl A1 (by decide) (by decide) (by decide) (by simp) gb ?_
  intro h' W1 A1
  replace O := O.wr W1 gb
  replace X1 := X1.wr W1
  clear W1
  refine r_iload 49 at_47 rfl rfl ?_
  refine r_iconst 1 50 at_49 rfl rfl ?_
  refine r_icmp_le 59 53 at_50 (by decide) rfl (fun q50 => ?_) (fun q50 => absurd q50 (by decide))
  refine r_iload 61 at_59 rfl rfl ?_
  refine r_iconst 2 62 at_61 rfl rfl ?_
  refine r_icmp_le 71 65 at_62 (by decide) rfl (fun q62 => ?_) (fun q62 => absurd q62 (by decide))
  refine r_new 74 at_71 rfl (hw _ (List.mem_of_getElem? (i := 2) rfl)) (hw _ (List.mem_of_getElem? (i := 3) rfl)) (hw _ (List.mem_of_getElem? (i := 4) rfl)) (Nat.le_of_ble_eq_true rfl) (Nat.le_of_ble_eq_true rfl) ?_
  intro h2 g hg E2 Xg Dg
  have gg : n0 ≤ g := by rw [hg]; exact O.1 ▸ O.2.1
  replace O := O.ext E2
  replace X1 := X1.ext E2
  have bg : b ≠ g := own_ne A1.lt hg
  replace A1 : Arv Z _ b cA .int (Int32.ofNat ([i1 &&& 536870911] : List Int32).length) (([i1 &&& 536870911] : List Int32).map Value.int) (.int 0) := A1.ext E2
  have F1 := (Dg (Or.inr (hw _ (List.mem_of_getElem? (i := 45) rfl))) (ty := (.array .int)) (by decide))
  have F2 := (Dg (Or.inr (hw _ (List.mem_of_getElem? (i := 47) rfl))) (ty := .int) (by decide))
  have F3 := (Dg (Or.inr (hw _ (List.mem_of_getElem? (i := 65) rfl))) (ty := (.object "java/util/Map")) (by decide))
  refine r_dup 75 at_74 rfl rfl ?_
  refine r_aload 77 at_75 rfl rfl ?_
  refine r_iload 79 at_77 rfl rfl ?_
  refine r_new 82 at_79 rfl (hw _ (List.mem_of_getElem? (i := 5) rfl)) (hw _ (List.mem_of_getElem? (i := 6) rfl)) (hw _ (List.mem_of_getElem? (i := 7) rfl)) (Nat.le_of_ble_eq_true rfl) (Nat.le_of_ble_eq_true rfl) ?_
  intro h3 al hal E3 Xl Dl
  have gl : n0 ≤ al := by rw [hal]; exact O.1 ▸ O.2.1
  have lg : al ≠ g := (own_ne Xg.lt hal).symm
  have lb : b ≠ al := own_ne A1.lt hal
  replace O := O.ext E3
  replace X1 := X1.ext E3
  replace A1 := A1.ext E3
  replace Xg := Xg.ext E3
  replace F1 := F1.ext E3
  replace F2 := F2.ext E3
  replace F3 := F3.ext E3
  refine r_dup 83 at_82 rfl rfl ?_
  refine r_special 86 at_83 rfl (rm_arl l Z a0 hw h3 n0 O de S al _ (Dl (Or.inl (hw _ (List.mem_of_getElem? (i := 27) rfl))) (ty := .int) (by decide)) (Dl (Or.inl (hw _ (List.mem_of_getElem? (i := 103) rfl))) (ty := .int) (by decide)) (Dl (Or.inl (hw _ (List.mem_of_getElem? (i := 30) rfl))) (ty := (.array (.object "java/lang/Object"))) (by decide)) Xl gl) (as1 := []) rfl rfl (hw _ (List.mem_of_getElem? (i := 8) rfl)) (hw _ (List.mem_of_getElem? (i := 9) rfl)) (hw _ (List.mem_of_getElem? (i := 7) rfl)) (hw _ (List.mem_of_getElem? (i := 10) rfl)) (by decide) (ps := []) (r' := none) (by decide +kernel) rfl rfl rfl (Nat.le_of_ble_eq_true rfl) (Nat.le_of_ble_eq_true rfl) (Nat.le_of_ble_eq_true rfl) (Nat.le_of_ble_eq_true rfl) ?_
  rintro v h4 ⟨rfl, K4, FM, FS⟩
  replace X1 := X1.keep K4
  replace A1 := A1.keep K4 (ninS lb nin0)
  replace Xg := Xg.keep K4
  replace Xl := Xl.keep K4
  replace F1 := F1.keep K4 (ninS (Ne.symm lg) nin0)
  replace F2 := F2.keep K4 (ninS (Ne.symm lg) nin0)
  replace F3 := F3.keep K4 (ninS (Ne.symm lg) nin0)
  show Run _ _ _ _ _ _ _ _ _ _ _ _ _ _ [.ref al, .int (i4 &&& 536870911), .ref b, .ref g, .ref g]
  refine r_special 89 at_86 rfl (rm_gini l Z a0 hw h4 n0 g b al (i4 &&& 536870911) _ cA _ _ A1 (Nat.le_of_ble_eq_true rfl) X1 lg F1 F2 F3 Xg FM FS Xl gg) (as1 := [.ref b, .int (i4 &&& 536870911), .ref al]) rfl rfl (hw _ (List.mem_of_getElem? (i := 31) rfl)) (hw _ (List.mem_of_getElem? (i := 32) rfl)) (hw _ (List.mem_of_getElem? (i := 4) rfl)) (hw _ (List.mem_of_getElem? (i := 33) rfl)) (by decide) (ps := [(.array .int), .int, (.object "java/util/List")]) (r' := none) (by decide +kernel) rfl rfl rfl (Nat.le_of_ble_eq_true rfl) (Nat.le_of_ble_eq_true rfl) (Nat.le_of_ble_eq_true rfl) (Nat.le_of_ble_eq_true rfl) ?_
  rintro v h5 ⟨rfl, c, F1, F2, A1, Xg⟩
  show Run _ _ _ _ _ _ _ _ _ _ _ _ _ _ [.ref g]
  refine r_astore 91 at_89 rfl rfl ?_
  refine r_iload 93 at_91 rfl rfl ?_
  refine r_istore 95 at_93 rfl rfl ?_
  refine r_iload 97 at_95 rfl rfl ?_
  refine r_if_le 107 100 at_97 (by decide) rfl (fun q97 => absurd q97 (by decide)) (fun q97 => ?_)
  refine r_iload 102 at_100 rfl rfl ?_
  refine r_iload 104 at_102 rfl rfl ?_
  refine r_iadd 105 at_104 rfl ?_
  refine r_istore 107 at_105 rfl rfl ?_
  refine r_iload 109 at_107 rfl rfl ?_
  refine r_iconst 1 110 at_109 rfl rfl ?_
  refine r_icmp_le 120 113 at_110 (by decide) rfl (fun q110 => ?_) (fun q110 => absurd q110 (by decide))
  refine r_iload 122 at_120 rfl rfl ?_
  refine r_iconst 2 123 at_122 rfl rfl ?_
  refine r_icmp_le 133 126 at_123 (by decide) rfl (fun q123 => ?_) (fun q123 => absurd q123 (by decide))
  refine r_aload 135 at_133 rfl rfl ?_
  refine r_virtual 138 at_135 rfl (rm_rec l Z a0 hw h5 n0 g c (i4 &&& 536870911) cA [i1 &&& 536870911] (Nat.le_of_ble_eq_true rfl) A1 F1 F2) (as1 := []) rfl (hw _ (List.mem_of_getElem? (i := 104) rfl)) (hw _ (List.mem_of_getElem? (i := 105) rfl)) (hw _ (List.mem_of_getElem? (i := 107) rfl)) (hw _ (List.mem_of_getElem? (i := 106) rfl)) (hw _ (List.mem_of_getElem? (i := 4) rfl)) (hw _ (List.mem_of_getElem? (i := 108) rfl)) (by decide) (ps := []) (r' := (some .int)) (by decide +kernel) (Xg) rfl rfl rfl (Nat.le_of_ble_eq_true rfl) (Nat.le_of_ble_eq_true rfl) (Nat.le_of_ble_eq_true rfl) (Nat.le_of_ble_eq_true rfl) (fun s args hZ => notFace_of_selects (args := args) (mvT hZ (hw _ (List.mem_of_getElem? (i := 107) rfl)))) ?_
  rintro v h6 ⟨rfl, -⟩
  show Run _ _ _ _ _ _ _ _ _ _ _ _ _ _ [.int (own_sum (i4 &&& 536870911) [i1 &&& 536870911])]
  refine r_iload 140 at_138 rfl rfl ?_
  refine r_icmp_ne 147 143 at_140 (by decide) rfl (fun q140 => absurd rfl q140) (fun q140 => ?_)
  refine r_iconst 1 144 at_143 rfl rfl ?_
  refine r_goto 148 at_144 (by decide) ?_
  exact r_retN _ at_148 rfl (by simp) rfl (Nat.le_of_ble_eq_true rfl) (Nat.le_of_ble_eq_true rfl) (⟨rfl, trivial⟩)
set_option maxRecDepth 65536 in
set_option maxHeartbeats 40000000 in
theorem run_2 (l : Launch) (Z : State) (a0 : Array Value) (hw : ∀ d ∈ tables_1, d.before a0 Z = true) (h : Heap) (n0 : Nat) (O : Old Z n0 h) (de : Addr) (S : Sta Z Z.heap "java/util/ArrayList" "DEFAULTCAPACITY_EMPTY_ELEMENTDATA" "[Ljava/lang/Object;" (.ref de)) (i0 i1 i2 i3 i4 : Int32) : Run l Z x code maxLocals ret room_1 n0 (fun v h' => v = some (.int 1) ∧ True) h 0 0 3 [.val (.int i0), .val (.int i1), .val (.int i2), .val (.int i3), .val (.int i4), .unset, .unset, .unset, .unset, .unset, .unset, .unset, .unset] [.int 2] := by
  refine r_istore 5 at_3 rfl rfl ?_
  refine r_iloadN 6 at_5 rfl rfl ?_
  refine r_ldc 8 at_6 rfl (hw _ (List.mem_of_getElem? (i := 0) rfl)) ?_
  refine r_iand 9 at_8 rfl ?_
  refine r_istore 11 at_9 rfl rfl ?_
  refine r_iloadN 12 at_11 rfl rfl ?_
  refine r_ldc 14 at_12 rfl (hw _ (List.mem_of_getElem? (i := 0) rfl)) ?_
  refine r_iand 15 at_14 rfl ?_
  refine r_istore 17 at_15 rfl rfl ?_
  refine r_iloadN 18 at_17 rfl rfl ?_
  refine r_ldc 20 at_18 rfl (hw _ (List.mem_of_getElem? (i := 0) rfl)) ?_
  refine r_iand 21 at_20 rfl ?_
  refine r_istore 23 at_21 rfl rfl ?_
  refine r_iload 25 at_23 rfl rfl ?_
  refine r_ldc 27 at_25 rfl (hw _ (List.mem_of_getElem? (i := 0) rfl)) ?_
  refine r_iand 28 at_27 rfl ?_
  refine r_istore 30 at_28 rfl rfl ?_
  refine r_iload 32 at_30 rfl rfl ?_
  refine r_newarray 3 "[I" 34 at_32 rfl (hw _ (List.mem_of_getElem? (i := 1) rfl)) (by decide) (by decide) (by decide) rfl (Nat.le_of_ble_eq_true rfl) (Nat.le_of_ble_eq_true rfl) ?_
  intro h1 b cA hb E1 A1 X1
  have gb : n0 ≤ b := by rw [hb]; exact O.1 ▸ O.2.1
  replace O := O.ext E1
  clear E1
  replace A1 : Arv Z _ b cA .int 2 (List.replicate 2 (.int 0)) (.int 0) := A1
  refine r_astore 36 at_34 rfl rfl ?_
  refine r_iload 38 at_36 rfl rfl ?_
  refine r_if_le 47 41 at_38 (by decide) rfl (fun q38 => absurd q38 (by decide)) (fun q38 => ?_)
  refine r_aload 43 at_41 rfl rfl ?_
  refine r_iconst 0 44 at_43 rfl rfl ?_
  refine r_iload 46 at_44 rfl rfl ?_
  refine r_iastore 0 47 at_46 rfl A1 (by decide) (by decide) (by decide) (by simp) gb ?_
  intro h' W1 A1
  replace O := O.wr W1 gb
  replace X1 := X1.wr W1
  clear W1
  refine r_iload 49 at_47 rfl rfl ?_
  refine r_iconst 1 50 at_49 rfl rfl ?_
  refine r_icmp_le 59 53 at_50 (by decide) rfl (fun q50 => absurd q50 (by decide)) (fun q50 => ?_)
  refine r_aload 55 at_53 rfl rfl ?_
  refine r_iconst 1 56 at_55 rfl rfl ?_
  refine r_iload 58 at_56 rfl rfl ?_
  refine r_iastore 1 59 at_58 rfl A1 (by decide) (by decide) (by decide) (by simp) gb ?_
  intro h' W1 A1
  replace O := O.wr W1 gb
  replace X1 := X1.wr W1
  clear W1
  refine r_iload 61 at_59 rfl rfl ?_
  refine r_iconst 2 62 at_61 rfl rfl ?_
  refine r_icmp_le 71 65 at_62 (by decide) rfl (fun q62 => ?_) (fun q62 => absurd q62 (by decide))
  refine r_new 74 at_71 rfl (hw _ (List.mem_of_getElem? (i := 2) rfl)) (hw _ (List.mem_of_getElem? (i := 3) rfl)) (hw _ (List.mem_of_getElem? (i := 4) rfl)) (Nat.le_of_ble_eq_true rfl) (Nat.le_of_ble_eq_true rfl) ?_
  intro h2 g hg E2 Xg Dg
  have gg : n0 ≤ g := by rw [hg]; exact O.1 ▸ O.2.1
  replace O := O.ext E2
  replace X1 := X1.ext E2
  have bg : b ≠ g := own_ne A1.lt hg
  replace A1 : Arv Z _ b cA .int (Int32.ofNat ([i1 &&& 536870911, i2 &&& 536870911] : List Int32).length) (([i1 &&& 536870911, i2 &&& 536870911] : List Int32).map Value.int) (.int 0) := A1.ext E2
  have F1 := (Dg (Or.inr (hw _ (List.mem_of_getElem? (i := 45) rfl))) (ty := (.array .int)) (by decide))
  have F2 := (Dg (Or.inr (hw _ (List.mem_of_getElem? (i := 47) rfl))) (ty := .int) (by decide))
  have F3 := (Dg (Or.inr (hw _ (List.mem_of_getElem? (i := 65) rfl))) (ty := (.object "java/util/Map")) (by decide))
  refine r_dup 75 at_74 rfl rfl ?_
  refine r_aload 77 at_75 rfl rfl ?_
  refine r_iload 79 at_77 rfl rfl ?_
  refine r_new 82 at_79 rfl (hw _ (List.mem_of_getElem? (i := 5) rfl)) (hw _ (List.mem_of_getElem? (i := 6) rfl)) (hw _ (List.mem_of_getElem? (i := 7) rfl)) (Nat.le_of_ble_eq_true rfl) (Nat.le_of_ble_eq_true rfl) ?_
  intro h3 al hal E3 Xl Dl
  have gl : n0 ≤ al := by rw [hal]; exact O.1 ▸ O.2.1
  have lg : al ≠ g := (own_ne Xg.lt hal).symm
  have lb : b ≠ al := own_ne A1.lt hal
  replace O := O.ext E3
  replace X1 := X1.ext E3
  replace A1 := A1.ext E3
  replace Xg := Xg.ext E3
  replace F1 := F1.ext E3
  replace F2 := F2.ext E3
  replace F3 := F3.ext E3
  refine r_dup 83 at_82 rfl rfl ?_
  refine r_special 86 at_83 rfl (rm_arl l Z a0 hw h3 n0 O de S al _ (Dl (Or.inl (hw _ (List.mem_of_getElem? (i := 27) rfl))) (ty := .int) (by decide)) (Dl (Or.inl (hw _ (List.mem_of_getElem? (i := 103) rfl))) (ty := .int) (by decide)) (Dl (Or.inl (hw _ (List.mem_of_getElem? (i := 30) rfl))) (ty := (.array (.object "java/lang/Object"))) (by decide)) Xl gl) (as1 := []) rfl rfl (hw _ (List.mem_of_getElem? (i := 8) rfl)) (hw _ (List.mem_of_getElem? (i := 9) rfl)) (hw _ (List.mem_of_getElem? (i := 7) rfl)) (hw _ (List.mem_of_getElem? (i := 10) rfl)) (by decide) (ps := []) (r' := none) (by decide +kernel) rfl rfl rfl (Nat.le_of_ble_eq_true rfl) (Nat.le_of_ble_eq_true rfl) (Nat.le_of_ble_eq_true rfl) (Nat.le_of_ble_eq_true rfl) ?_
  rintro v h4 ⟨rfl, K4, FM, FS⟩
  replace X1 := X1.keep K4
  replace A1 := A1.keep K4 (ninS lb nin0)
  replace Xg := Xg.keep K4
  replace Xl := Xl.keep K4
  replace F1 := F1.keep K4 (ninS (Ne.symm lg) nin0)
  replace F2 := F2.keep K4 (ninS (Ne.symm lg) nin0)
  replace F3 := F3.keep K4 (ninS (Ne.symm lg) nin0)
  show Run _ _ _ _ _ _ _ _ _ _ _ _ _ _ [.ref al, .int (i4 &&& 536870911), .ref b, .ref g, .ref g]
  refine r_special 89 at_86 rfl (rm_gini l Z a0 hw h4 n0 g b al (i4 &&& 536870911) _ cA _ _ A1 (Nat.le_of_ble_eq_true rfl) X1 lg F1 F2 F3 Xg FM FS Xl gg) (as1 := [.ref b, .int (i4 &&& 536870911), .ref al]) rfl rfl (hw _ (List.mem_of_getElem? (i := 31) rfl)) (hw _ (List.mem_of_getElem? (i := 32) rfl)) (hw _ (List.mem_of_getElem? (i := 4) rfl)) (hw _ (List.mem_of_getElem? (i := 33) rfl)) (by decide) (ps := [(.array .int), .int, (.object "java/util/List")]) (r' := none) (by decide +kernel) rfl rfl rfl (Nat.le_of_ble_eq_true rfl) (Nat.le_of_ble_eq_true rfl) (Nat.le_of_ble_eq_true rfl) (Nat.le_of_ble_eq_true rfl) ?_
  rintro v h5 ⟨rfl, c, F1, F2, A1, Xg⟩
  show Run _ _ _ _ _ _ _ _ _ _ _ _ _ _ [.ref g]
  refine r_astore 91 at_89 rfl rfl ?_
  refine r_iload 93 at_91 rfl rfl ?_
  refine r_istore 95 at_93 rfl rfl ?_
  refine r_iload 97 at_95 rfl rfl ?_
  refine r_if_le 107 100 at_97 (by decide) rfl (fun q97 => absurd q97 (by decide)) (fun q97 => ?_)
  refine r_iload 102 at_100 rfl rfl ?_
  refine r_iload 104 at_102 rfl rfl ?_
  refine r_iadd 105 at_104 rfl ?_
  refine r_istore 107 at_105 rfl rfl ?_
  refine r_iload 109 at_107 rfl rfl ?_
  refine r_iconst 1 110 at_109 rfl rfl ?_
  refine r_icmp_le 120 113 at_110 (by decide) rfl (fun q110 => absurd q110 (by decide)) (fun q110 => ?_)
  refine r_iload 115 at_113 rfl rfl ?_
  refine r_iload 117 at_115 rfl rfl ?_
  refine r_iadd 118 at_117 rfl ?_
  refine r_istore 120 at_118 rfl rfl ?_
  refine r_iload 122 at_120 rfl rfl ?_
  refine r_iconst 2 123 at_122 rfl rfl ?_
  refine r_icmp_le 133 126 at_123 (by decide) rfl (fun q123 => ?_) (fun q123 => absurd q123 (by decide))
  refine r_aload 135 at_133 rfl rfl ?_
  refine r_virtual 138 at_135 rfl (rm_rec l Z a0 hw h5 n0 g c (i4 &&& 536870911) cA [i1 &&& 536870911, i2 &&& 536870911] (Nat.le_of_ble_eq_true rfl) A1 F1 F2) (as1 := []) rfl (hw _ (List.mem_of_getElem? (i := 104) rfl)) (hw _ (List.mem_of_getElem? (i := 105) rfl)) (hw _ (List.mem_of_getElem? (i := 107) rfl)) (hw _ (List.mem_of_getElem? (i := 106) rfl)) (hw _ (List.mem_of_getElem? (i := 4) rfl)) (hw _ (List.mem_of_getElem? (i := 108) rfl)) (by decide) (ps := []) (r' := (some .int)) (by decide +kernel) (Xg) rfl rfl rfl (Nat.le_of_ble_eq_true rfl) (Nat.le_of_ble_eq_true rfl) (Nat.le_of_ble_eq_true rfl) (Nat.le_of_ble_eq_true rfl) (fun s args hZ => notFace_of_selects (args := args) (mvT hZ (hw _ (List.mem_of_getElem? (i := 107) rfl)))) ?_
  rintro v h6 ⟨rfl, -⟩
  show Run _ _ _ _ _ _ _ _ _ _ _ _ _ _ [.int (own_sum (i4 &&& 536870911) [i1 &&& 536870911, i2 &&& 536870911])]
  refine r_iload 140 at_138 rfl rfl ?_
  refine r_icmp_ne 147 143 at_140 (by decide) rfl (fun q140 => absurd rfl q140) (fun q140 => ?_)
  refine r_iconst 1 144 at_143 rfl rfl ?_
  refine r_goto 148 at_144 (by decide) ?_
  exact r_retN _ at_148 rfl (by simp) rfl (Nat.le_of_ble_eq_true rfl) (Nat.le_of_ble_eq_true rfl) (⟨rfl, trivial⟩)
set_option maxRecDepth 65536 in
set_option maxHeartbeats 40000000 in
theorem run_3 (l : Launch) (Z : State) (a0 : Array Value) (hw : ∀ d ∈ tables_1, d.before a0 Z = true) (h : Heap) (n0 : Nat) (O : Old Z n0 h) (de : Addr) (S : Sta Z Z.heap "java/util/ArrayList" "DEFAULTCAPACITY_EMPTY_ELEMENTDATA" "[Ljava/lang/Object;" (.ref de)) (i0 i1 i2 i3 i4 : Int32) : Run l Z x code maxLocals ret room_1 n0 (fun v h' => v = some (.int 1) ∧ True) h 0 0 3 [.val (.int i0), .val (.int i1), .val (.int i2), .val (.int i3), .val (.int i4), .unset, .unset, .unset, .unset, .unset, .unset, .unset, .unset] [.int 3] := by
  refine r_istore 5 at_3 rfl rfl ?_
  refine r_iloadN 6 at_5 rfl rfl ?_
  refine r_ldc 8 at_6 rfl (hw _ (List.mem_of_getElem? (i := 0) rfl)) ?_
  refine r_iand 9 at_8 rfl ?_
  refine r_istore 11 at_9 rfl rfl ?_
  refine r_iloadN 12 at_11 rfl rfl ?_
  refine r_ldc 14 at_12 rfl (hw _ (List.mem_of_getElem? (i := 0) rfl)) ?_
  refine r_iand 15 at_14 rfl ?_
  refine r_istore 17 at_15 rfl rfl ?_
  refine r_iloadN 18 at_17 rfl rfl ?_
  refine r_ldc 20 at_18 rfl (hw _ (List.mem_of_getElem? (i := 0) rfl)) ?_
  refine r_iand 21 at_20 rfl ?_
  refine r_istore 23 at_21 rfl rfl ?_
  refine r_iload 25 at_23 rfl rfl ?_
  refine r_ldc 27 at_25 rfl (hw _ (List.mem_of_getElem? (i := 0) rfl)) ?_
  refine r_iand 28 at_27 rfl ?_
  refine r_istore 30 at_28 rfl rfl ?_
  refine r_iload 32 at_30 rfl rfl ?_
  refine r_newarray 3 "[I" 34 at_32 rfl (hw _ (List.mem_of_getElem? (i := 1) rfl)) (by decide) (by decide) (by decide) rfl (Nat.le_of_ble_eq_true rfl) (Nat.le_of_ble_eq_true rfl) ?_
  intro h1 b cA hb E1 A1 X1
  have gb : n0 ≤ b := by rw [hb]; exact O.1 ▸ O.2.1
  replace O := O.ext E1
  clear E1
  replace A1 : Arv Z _ b cA .int 3 (List.replicate 3 (.int 0)) (.int 0) := A1
  refine r_astore 36 at_34 rfl rfl ?_
  refine r_iload 38 at_36 rfl rfl ?_
  refine r_if_le 47 41 at_38 (by decide) rfl (fun q38 => absurd q38 (by decide)) (fun q38 => ?_)
  refine r_aload 43 at_41 rfl rfl ?_
  refine r_iconst 0 44 at_43 rfl rfl ?_
  refine r_iload 46 at_44 rfl rfl ?_
  refine r_iastore 0 47 at_46 rfl A1 (by decide) (by decide) (by decide) (by simp) gb ?_
  intro h' W1 A1
  replace O := O.wr W1 gb
  replace X1 := X1.wr W1
  clear W1
  refine r_iload 49 at_47 rfl rfl ?_
  refine r_iconst 1 50 at_49 rfl rfl ?_
  refine r_icmp_le 59 53 at_50 (by decide) rfl (fun q50 => absurd q50 (by decide)) (fun q50 => ?_)
  refine r_aload 55 at_53 rfl rfl ?_
  refine r_iconst 1 56 at_55 rfl rfl ?_
  refine r_iload 58 at_56 rfl rfl ?_
  refine r_iastore 1 59 at_58 rfl A1 (by decide) (by decide) (by decide) (by simp) gb ?_
  intro h' W1 A1
  replace O := O.wr W1 gb
  replace X1 := X1.wr W1
  clear W1
  refine r_iload 61 at_59 rfl rfl ?_
  refine r_iconst 2 62 at_61 rfl rfl ?_
  refine r_icmp_le 71 65 at_62 (by decide) rfl (fun q62 => absurd q62 (by decide)) (fun q62 => ?_)
  refine r_aload 67 at_65 rfl rfl ?_
  refine r_iconst 2 68 at_67 rfl rfl ?_
  refine r_iload 70 at_68 rfl rfl ?_
  refine r_iastore 2 71 at_70 rfl A1 (by decide) (by decide) (by decide) (by simp) gb ?_
  intro h' W1 A1
  replace O := O.wr W1 gb
  replace X1 := X1.wr W1
  clear W1
  refine r_new 74 at_71 rfl (hw _ (List.mem_of_getElem? (i := 2) rfl)) (hw _ (List.mem_of_getElem? (i := 3) rfl)) (hw _ (List.mem_of_getElem? (i := 4) rfl)) (Nat.le_of_ble_eq_true rfl) (Nat.le_of_ble_eq_true rfl) ?_
  intro h2 g hg E2 Xg Dg
  have gg : n0 ≤ g := by rw [hg]; exact O.1 ▸ O.2.1
  replace O := O.ext E2
  replace X1 := X1.ext E2
  have bg : b ≠ g := own_ne A1.lt hg
  replace A1 : Arv Z _ b cA .int (Int32.ofNat ([i1 &&& 536870911, i2 &&& 536870911, i3 &&& 536870911] : List Int32).length) (([i1 &&& 536870911, i2 &&& 536870911, i3 &&& 536870911] : List Int32).map Value.int) (.int 0) := A1.ext E2
  have F1 := (Dg (Or.inr (hw _ (List.mem_of_getElem? (i := 45) rfl))) (ty := (.array .int)) (by decide))
  have F2 := (Dg (Or.inr (hw _ (List.mem_of_getElem? (i := 47) rfl))) (ty := .int) (by decide))
  have F3 := (Dg (Or.inr (hw _ (List.mem_of_getElem? (i := 65) rfl))) (ty := (.object "java/util/Map")) (by decide))
  refine r_dup 75 at_74 rfl rfl ?_
  refine r_aload 77 at_75 rfl rfl ?_
  refine r_iload 79 at_77 rfl rfl ?_
  refine r_new 82 at_79 rfl (hw _ (List.mem_of_getElem? (i := 5) rfl)) (hw _ (List.mem_of_getElem? (i := 6) rfl)) (hw _ (List.mem_of_getElem? (i := 7) rfl)) (Nat.le_of_ble_eq_true rfl) (Nat.le_of_ble_eq_true rfl) ?_
  intro h3 al hal E3 Xl Dl
  have gl : n0 ≤ al := by rw [hal]; exact O.1 ▸ O.2.1
  have lg : al ≠ g := (own_ne Xg.lt hal).symm
  have lb : b ≠ al := own_ne A1.lt hal
  replace O := O.ext E3
  replace X1 := X1.ext E3
  replace A1 := A1.ext E3
  replace Xg := Xg.ext E3
  replace F1 := F1.ext E3
  replace F2 := F2.ext E3
  replace F3 := F3.ext E3
  refine r_dup 83 at_82 rfl rfl ?_
  refine r_special 86 at_83 rfl (rm_arl l Z a0 hw h3 n0 O de S al _ (Dl (Or.inl (hw _ (List.mem_of_getElem? (i := 27) rfl))) (ty := .int) (by decide)) (Dl (Or.inl (hw _ (List.mem_of_getElem? (i := 103) rfl))) (ty := .int) (by decide)) (Dl (Or.inl (hw _ (List.mem_of_getElem? (i := 30) rfl))) (ty := (.array (.object "java/lang/Object"))) (by decide)) Xl gl) (as1 := []) rfl rfl (hw _ (List.mem_of_getElem? (i := 8) rfl)) (hw _ (List.mem_of_getElem? (i := 9) rfl)) (hw _ (List.mem_of_getElem? (i := 7) rfl)) (hw _ (List.mem_of_getElem? (i := 10) rfl)) (by decide) (ps := []) (r' := none) (by decide +kernel) rfl rfl rfl (Nat.le_of_ble_eq_true rfl) (Nat.le_of_ble_eq_true rfl) (Nat.le_of_ble_eq_true rfl) (Nat.le_of_ble_eq_true rfl) ?_
  rintro v h4 ⟨rfl, K4, FM, FS⟩
  replace X1 := X1.keep K4
  replace A1 := A1.keep K4 (ninS lb nin0)
  replace Xg := Xg.keep K4
  replace Xl := Xl.keep K4
  replace F1 := F1.keep K4 (ninS (Ne.symm lg) nin0)
  replace F2 := F2.keep K4 (ninS (Ne.symm lg) nin0)
  replace F3 := F3.keep K4 (ninS (Ne.symm lg) nin0)
  show Run _ _ _ _ _ _ _ _ _ _ _ _ _ _ [.ref al, .int (i4 &&& 536870911), .ref b, .ref g, .ref g]
  refine r_special 89 at_86 rfl (rm_gini l Z a0 hw h4 n0 g b al (i4 &&& 536870911) _ cA _ _ A1 (Nat.le_of_ble_eq_true rfl) X1 lg F1 F2 F3 Xg FM FS Xl gg) (as1 := [.ref b, .int (i4 &&& 536870911), .ref al]) rfl rfl (hw _ (List.mem_of_getElem? (i := 31) rfl)) (hw _ (List.mem_of_getElem? (i := 32) rfl)) (hw _ (List.mem_of_getElem? (i := 4) rfl)) (hw _ (List.mem_of_getElem? (i := 33) rfl)) (by decide) (ps := [(.array .int), .int, (.object "java/util/List")]) (r' := none) (by decide +kernel) rfl rfl rfl (Nat.le_of_ble_eq_true rfl) (Nat.le_of_ble_eq_true rfl) (Nat.le_of_ble_eq_true rfl) (Nat.le_of_ble_eq_true rfl) ?_
  rintro v h5 ⟨rfl, c, F1, F2, A1, Xg⟩
  show Run _ _ _ _ _ _ _ _ _ _ _ _ _ _ [.ref g]
  refine r_astore 91 at_89 rfl rfl ?_
  refine r_iload 93 at_91 rfl rfl ?_
  refine r_istore 95 at_93 rfl rfl ?_
  refine r_iload 97 at_95 rfl rfl ?_
  refine r_if_le 107 100 at_97 (by decide) rfl (fun q97 => absurd q97 (by decide)) (fun q97 => ?_)
  refine r_iload 102 at_100 rfl rfl ?_
  refine r_iload 104 at_102 rfl rfl ?_
  refine r_iadd 105 at_104 rfl ?_
  refine r_istore 107 at_105 rfl rfl ?_
  refine r_iload 109 at_107 rfl rfl ?_
  refine r_iconst 1 110 at_109 rfl rfl ?_
  refine r_icmp_le 120 113 at_110 (by decide) rfl (fun q110 => absurd q110 (by decide)) (fun q110 => ?_)
  refine r_iload 115 at_113 rfl rfl ?_
  refine r_iload 117 at_115 rfl rfl ?_
  refine r_iadd 118 at_117 rfl ?_
  refine r_istore 120 at_118 rfl rfl ?_
  refine r_iload 122 at_120 rfl rfl ?_
  refine r_iconst 2 123 at_122 rfl rfl ?_
  refine r_icmp_le 133 126 at_123 (by decide) rfl (fun q123 => absurd q123 (by decide)) (fun q123 => ?_)
  refine r_iload 128 at_126 rfl rfl ?_
  refine r_iload 130 at_128 rfl rfl ?_
  refine r_iadd 131 at_130 rfl ?_
  refine r_istore 133 at_131 rfl rfl ?_
  refine r_aload 135 at_133 rfl rfl ?_
  refine r_virtual 138 at_135 rfl (rm_rec l Z a0 hw h5 n0 g c (i4 &&& 536870911) cA [i1 &&& 536870911, i2 &&& 536870911, i3 &&& 536870911] (Nat.le_of_ble_eq_true rfl) A1 F1 F2) (as1 := []) rfl (hw _ (List.mem_of_getElem? (i := 104) rfl)) (hw _ (List.mem_of_getElem? (i := 105) rfl)) (hw _ (List.mem_of_getElem? (i := 107) rfl)) (hw _ (List.mem_of_getElem? (i := 106) rfl)) (hw _ (List.mem_of_getElem? (i := 4) rfl)) (hw _ (List.mem_of_getElem? (i := 108) rfl)) (by decide) (ps := []) (r' := (some .int)) (by decide +kernel) (Xg) rfl rfl rfl (Nat.le_of_ble_eq_true rfl) (Nat.le_of_ble_eq_true rfl) (Nat.le_of_ble_eq_true rfl) (Nat.le_of_ble_eq_true rfl) (fun s args hZ => notFace_of_selects (args := args) (mvT hZ (hw _ (List.mem_of_getElem? (i := 107) rfl)))) ?_
  rintro v h6 ⟨rfl, -⟩
  show Run _ _ _ _ _ _ _ _ _ _ _ _ _ _ [.int (own_sum (i4 &&& 536870911) [i1 &&& 536870911, i2 &&& 536870911, i3 &&& 536870911])]
  refine r_iload 140 at_138 rfl rfl ?_
  refine r_icmp_ne 147 143 at_140 (by decide) rfl (fun q140 => absurd rfl q140) (fun q140 => ?_)
  refine r_iconst 1 144 at_143 rfl rfl ?_
  refine r_goto 148 at_144 (by decide) ?_
  exact r_retN _ at_148 rfl (by simp) rfl (Nat.le_of_ble_eq_true rfl) (Nat.le_of_ble_eq_true rfl) (⟨rfl, trivial⟩)
set_option maxRecDepth 65536 in
set_option maxHeartbeats 40000000 in
theorem rm_law (l : Launch) (Z : State) (a0 : Array Value) (hw : ∀ d ∈ tables_1, d.before a0 Z = true) (h : Heap) (n0 : Nat) (O : Old Z n0 h) (de : Addr) (S : Sta Z Z.heap "java/util/ArrayList" "DEFAULTCAPACITY_EMPTY_ELEMENTDATA" "[Ljava/lang/Object;" (.ref de)) (i0 i1 i2 i3 i4 : Int32) : Con l Z x code maxLocals ret room_1 n0 #[.int i0, .int i1, .int i2, .int i3, .int i4] h (fun v h' => v = some (.int 1) ∧ True) tables_1 := by
  refine Run.con pn_law (Ls := [.val (.int i0), .val (.int i1), .val (.int i2), .val (.int i3), .val (.int i4), .unset, .unset, .unset, .unset, .unset, .unset, .unset, .unset]) rfl ?_
  refine r_iloadN 1 at_0 rfl rfl ?_
  refine r_iconst 3 2 at_1 rfl rfl ?_
  refine r_iand 3 at_2 rfl ?_
  generalize hN : i0 &&& 3 = N
  obtain ⟨nn, hnn, rfl⟩ := own_nat (K := N) (N := 4) (by rw [← hN]; exact (c_and i0 3 (by decide)).1) (by rw [← hN]; have := (c_and i0 3 (by decide)).2; have e : (3 : Int32).toInt = 3 := rfl; omega)
  match nn, hnn with
  | 0, _ => exact run_0 l Z a0 hw h n0 O de S i0 i1 i2 i3 i4
  | 1, _ => exact run_1 l Z a0 hw h n0 O de S i0 i1 i2 i3 i4
  | 2, _ => exact run_2 l Z a0 hw h n0 O de S i0 i1 i2 i3 i4
  | 3, _ => exact run_3 l Z a0 hw h n0 O de S i0 i1 i2 i3 i4
set_option maxRecDepth 65536 in
set_option maxHeartbeats 40000000 in
theorem comes_1 {Post : Tables → Env → Array Value → State → Outcome → State → Prop} (hpost : ∀ tb e args s v u, (limb_1_1.after args s (.returned v) u = true ∧ limb_1_2.after args s (.returned v) u = true ∧ True) → FrameEnd s (.returned v) u (Jvm.fieldLocs frame_1_writes args s ++ Jvm.arrayLocs frame_1_arrays args s ++ Jvm.staticLocs frame_1_statics s) 24 128 → Post tb e args s (.returned v) u) :
    ArmFor flags0 classFile x code maxLocals ret World_1 tables_1 room_1 Calls_1 rest_1 Pre_1 Post := by
  intro l hfl _ _ p e ha hc hk s m args below hf hA hF happ hP
  obtain ⟨hcalls, hrest, hpre⟩ := hP
  obtain ⟨-, -, -, hnamed, -, -, -, hat⟩ := (Spec.applies_iff hf).mp happ
  obtain ⟨hg, hn⟩ := and_e (Cond.before_iff.mp (show (Jvm.Cond.and given_1 narrow_1).before args s = true from hpre))
  obtain ⟨hcount, hg⟩ := and_e hg
  obtain ⟨g0, hg⟩ := and_e hg
  obtain ⟨g1, hg⟩ := and_e hg
  obtain ⟨g2, hg⟩ := and_e hg
  obtain ⟨g3, hg⟩ := and_e hg
  have g4 := hg
  obtain ⟨w0, w1, w2, w3, w4, rfl⟩ : ∃ w0 w1 w2 w3 w4 : Value, args = #[w0, w1, w2, w3, w4] := by
    have hs : args.size = 5 := by simpa [Cond.value, given_1] using hcount
    obtain ⟨L⟩ := args
    match L, hs with
    | [w0, w1, w2, w3, w4], _ => exact ⟨w0, w1, w2, w3, w4, rfl⟩
  have hw := fun d (hd : d ∈ tables_1) => atoms_spec (ws := Jvm.Cond.code x code maxLocals ret :: tables_1) hat d (List.mem_cons_of_mem _ hd)
  obtain ⟨hsets, hown0⟩ := atoms_of _ (rest_1_c_eq ▸ (show rest_1_c.before _ s = true from hrest))
  have hfit : Fit s := fun {y c} hc i hi => by
    obtain ⟨ha, rfl⟩ := Array.getElem?_eq_some_iff.mp hc
    have q := List.all_eq_true.mp ((Array.all_eq_true_iff_forall_mem.mp hF) _ (Array.getElem_mem ha)) i (List.mem_range.mpr hi)
    simpa [Array.getElem?_eq_getElem hi] using q
  obtain ⟨i0, ea0⟩ := is_v g0
  obtain rfl : w0 = (.int i0) := Option.some.inj ea0
  obtain ⟨i1, ea1⟩ := is_v g1
  obtain rfl : w1 = (.int i1) := Option.some.inj ea1
  obtain ⟨i2, ea2⟩ := is_v g2
  obtain rfl : w2 = (.int i2) := Option.some.inj ea2
  obtain ⟨i3, ea3⟩ := is_v g3
  obtain rfl : w3 = (.int i3) := Option.some.inj ea3
  obtain ⟨i4, ea4⟩ := is_v g4
  obtain rfl : w4 = (.int i4) := Option.some.inj ea4
  obtain ⟨de, eE, SZ, EZ⟩ := own_sta (Cond.before_iff.mp (hsets _ (List.mem_of_getElem? (i := 7) rfl))) (Or.inr ⟨(hw _ (List.mem_of_getElem? (i := 7) rfl)), (hsets _ (List.mem_of_getElem? (i := 2) rfl))⟩)
  obtain ⟨nn, o, h1, h2, h3, _, L, rfl, ⟨⟨rfl, -⟩, N⟩, hq⟩ := rm_law l s _ hw s.heap s.heap.size (Old.start s) de SZ i0 i1 i2 i3 i4 p e ha hc hk s m _ below hf ((Spec.applies_iff_loose hf).mp happ).1 ⟨rfl, State.Warmed39.refl s, rfl⟩ trivial
  refine ⟨nn, _, h1, h2, h3, hpost _ _ _ _ _ _ ⟨Cond.after_iff.mpr rfl, Cond.after_iff.mpr (eq_i res_at (Term.int_eval (1)) rfl), trivial⟩ ⟨hq.1, hq.2.1, (hq.2.2.sift fun y hy => Or.inr (N y hy)).mono (by decide) (by decide)⟩⟩
theorem main_1_1 : Claimed_1_1 := comes_1 fun _ _ _ _ _ _ h hF => ⟨h.1, hF⟩
theorem main_1_2 : Claimed_1_2 := comes_1 fun _ _ _ _ _ _ h hF => ⟨h.2.1, hF⟩
end Jvm.Pilot.@@N@@
namespace Jvm.Pilot.@@N@@
open Jvm Jvm.ClassFile Sem Op Lib Jvm.Free Jvm.Stand Jvm.Pilot.@@N@@.Jvm.D
/-! MADE BY PROGRAM (witnessworld.py) out of the Statement's table words and the real class files: 23 classes; the members and pool entries that the words name. The judged class is class 1, her method 1. -/
namespace start1
open Jvm.ClassFile
def u (s : String) : CpInfo := .utf8 (stringToUtf16 s)
/-- a pool by its gaps: so many unusable entries, then the entry; so many at the end -/
def gap : Nat → List CpInfo → List CpInfo
  | 0, r => r
  | n + 1, r => .unusable :: gap n r
def poolList (es : List (Nat × CpInfo)) (last : Nat) : List CpInfo := es.foldr (fun e r => gap e.1 (e.2 :: r)) (gap last [])
def pool (es : List (Nat × CpInfo)) (last : Nat) : Array CpInfo := ⟨poolList es last⟩
def fileOf (pool : Array CpInfo) (this : Nat) (attrs : Array Attribute := #[]) (ms : Array MethodInfo := #[]) (fl : Nat := 33) (sup : Nat := 0) (ifs : Array Nat := #[]) (fds : Array FieldInfo := #[]) : ClassFile where
  minorVersion := 0
  majorVersion := 65
  constantPool := pool
  accessFlags := fl
  thisClass := this
  superClass := sup
  interfaces := ifs
  fields := fds
  methods := ms
  attributes := attrs
def plain (name : String) (sup : Option ClassId) : Class where
  name := name
  kind := .ordinary
  loader := none
  accessFlags := 33
  super := sup
  interfaces := #[]
  cf := none
  fields := #[]
  methods := #[]
  instanceTypes := #[]
  staticTypes := #[]
  resolved := #[]
  callSites := []
  init := .initialized
  statics := none
  mirror := none

def pool0 : Array CpInfo := pool [(5, u "<init>"), (0, u "()V"), (1, .class_ 10), (1, u "java/lang/Object"), (85, u "clone"), (0, u "()Ljava/lang/Object;")] 26

def k0c0 : Code := { maxStack := 0, maxLocals := 1, code := object_method_1_code, exceptionTable := #[], attributes := #[] }
def k0m0 : Method := { name := "<init>", desc := "()V", sig := { parameters := [], returnType := none }, accessFlags := 1, code := some k0c0 }
def k0m1 : Method := { name := "clone", desc := "()Ljava/lang/Object;", sig := { parameters := [], returnType := some (.object "java/lang/Object") }, accessFlags := 260, code := none }
/-- java/lang/Object -/
def k0 : Class := { plain "java/lang/Object" none with
  accessFlags := 33
  interfaces := #[]
  cf := some (fileOf pool0 8 #[] #[{ accessFlags := 1, nameIndex := 5, descriptorIndex := 6, attributes := #[] }, { accessFlags := 260, nameIndex := 96, descriptorIndex := 97, attributes := #[] }] 33 0 #[] #[])
  fields := #[]
  methods := #[k0m0, k0m1]
  instanceTypes := #[]
  staticTypes := #[]
  resolved := Array.replicate 124 none
  statics := none }

def pool1 : Array CpInfo := pool [(2, .class_ 4), (0, .nameAndType 5 6), (0, u "java/lang/Object"), (0, u "<init>"), (0, u "()V"), (0, .integer 536870911), (0, .class_ 9), (0, u "com/example/genano/genano/Grouping"), (0, .class_ 11), (0, u "java/util/ArrayList"), (0, .methodref 10 3), (0, .methodref 8 14), (0, .nameAndType 5 15), (0, u "([IILjava/util/List;)V"), (0, .methodref 8 17), (0, .nameAndType 18 19), (0, u "records"), (0, u "()I"), (0, .class_ 21), (0, u "com/example/genano/genano/GroupingRecordsPinLaw"), (2, u "law"), (0, u "(IIIII)Z")] 5

def k1m0 : Method := { name := "<init>", desc := "()V", sig := { parameters := [], returnType := none }, accessFlags := 2, code := none }
def k1c1 : Code := { maxStack := 6, maxLocals := 13, code := code, exceptionTable := #[], attributes := #[] }
def k1m1 : Method := { name := "law", desc := "(IIIII)Z", sig := { parameters := [.int, .int, .int, .int, .int], returnType := some .boolean }, accessFlags := 9, code := some k1c1 }
/-- com/example/genano/genano/GroupingRecordsPinLaw -/
def k1 : Class := { plain "com/example/genano/genano/GroupingRecordsPinLaw" (some 0) with
  accessFlags := 49
  interfaces := #[]
  cf := some (fileOf pool1 20 #[] #[{ accessFlags := 2, nameIndex := 5, descriptorIndex := 6, attributes := #[] }, { accessFlags := 9, nameIndex := 24, descriptorIndex := 25, attributes := #[] }] 49 2 #[] #[])
  fields := #[]
  methods := #[k1m0, k1m1]
  instanceTypes := #[]
  staticTypes := #[]
  resolved := Array.replicate 31 none
  statics := none }

def pool2 : Array CpInfo := pool [(2, .class_ 4), (1, u "java/util/List"), (3, .class_ 10), (1, u "com/example/genano/genano/Grouping"), (0, u "<init>"), (0, u "([IILjava/util/List;)V"), (0, .methodref 14 15), (0, .class_ 16), (0, .nameAndType 11 17), (0, u "java/lang/Object"), (0, u "()V"), (0, .methodref 19 20), (0, .class_ 21), (0, .nameAndType 22 23), (0, u "[I"), (0, u "clone"), (0, u "()Ljava/lang/Object;"), (0, .fieldref 8 25), (0, .nameAndType 26 21), (0, u "sizes"), (0, .fieldref 8 28), (0, .nameAndType 29 30), (0, u "suppressed"), (0, u "I"), (0, .class_ 32), (0, u "java/util/HashMap"), (0, .methodref 31 15), (0, .fieldref 8 35), (0, .nameAndType 36 37), (0, u "sensitive"), (0, u "Ljava/util/Map;"), (0, .interfaceMethodref 2 39), (0, .nameAndType 40 41), (0, u "iterator"), (0, u "()Ljava/util/Iterator;"), (0, .interfaceMethodref 43 44), (0, .class_ 45), (0, .nameAndType 46 47), (0, u "java/util/Iterator"), (0, u "hasNext"), (0, u "()Z"), (32, u "records"), (0, u "()I")] 68

def k2c0 : Code := { maxStack := 3, maxLocals := 6, code := prog_17_method_2_code, exceptionTable := #[], attributes := #[] }
def k2m0 : Method := { name := "<init>", desc := "([IILjava/util/List;)V", sig := { parameters := [(.array .int), .int, (.object "java/util/List")], returnType := none }, accessFlags := 0, code := some k2c0 }
def k2c1 : Code := { maxStack := 2, maxLocals := 6, code := prog_17_method_6_code, exceptionTable := #[], attributes := #[] }
def k2m1 : Method := { name := "records", desc := "()I", sig := { parameters := [], returnType := some .int }, accessFlags := 1, code := some k2c1 }
/-- com/example/genano/genano/Grouping -/
def k2 : Class := { plain "com/example/genano/genano/Grouping" (some 0) with
  accessFlags := 49
  interfaces := #[]
  cf := some (fileOf pool2 8 #[] #[{ accessFlags := 0, nameIndex := 11, descriptorIndex := 12, attributes := #[] }, { accessFlags := 1, nameIndex := 80, descriptorIndex := 81, attributes := #[] }] 49 14 #[] #[{ accessFlags := 18, nameIndex := 26, descriptorIndex := 21, attributes := #[] }, { accessFlags := 18, nameIndex := 29, descriptorIndex := 30, attributes := #[] }, { accessFlags := 18, nameIndex := 36, descriptorIndex := 37, attributes := #[] }])
  fields := #[{ name := "sizes", type := (.array .int), accessFlags := 18, slot := 0, constantValue := 0 }, { name := "suppressed", type := .int, accessFlags := 18, slot := 1, constantValue := 0 }, { name := "sensitive", type := (.object "java/util/Map"), accessFlags := 18, slot := 2, constantValue := 0 }]
  methods := #[k2m0, k2m1]
  instanceTypes := #[(.array .int), .int, (.object "java/util/Map")]
  staticTypes := #[]
  resolved := Array.replicate 150 none
  statics := none }

def pool3 : Array CpInfo := pool [(8, .class_ 10), (1, u "java/lang/Iterable"), (24, .class_ 36), (0, u "java/lang/Object")] 25

/-- java/lang/Iterable -/
def k3 : Class := { plain "java/lang/Iterable" (some 0) with
  accessFlags := 1537
  interfaces := #[]
  cf := some (fileOf pool3 8 #[] #[] 1537 35 #[] #[])
  fields := #[]
  methods := #[]
  instanceTypes := #[]
  staticTypes := #[]
  resolved := Array.replicate 62 none
  statics := none }

def pool4 : Array CpInfo := pool [(10, .class_ 12), (1, u "java/util/Collection"), (47, .class_ 61), (0, u "java/lang/Object"), (0, .class_ 63), (0, u "java/lang/Iterable")] 51

/-- java/util/Collection -/
def k4 : Class := { plain "java/util/Collection" (some 0) with
  accessFlags := 1537
  interfaces := #[3]
  cf := some (fileOf pool4 10 #[] #[] 1537 60 #[62] #[])
  fields := #[]
  methods := #[]
  instanceTypes := #[]
  staticTypes := #[]
  resolved := Array.replicate 115 none
  statics := none }

def pool5 : Array CpInfo := pool [(1, .methodref 2 3), (0, .class_ 4), (0, .nameAndType 5 6), (0, u "java/lang/Object"), (0, u "<init>"), (0, u "()V"), (1, .class_ 10), (1, u "java/util/AbstractCollection"), (66, .class_ 78), (0, u "java/util/Collection")] 81

def k5c0 : Code := { maxStack := 1, maxLocals := 1, code := jdk_22_method_1_code, exceptionTable := #[], attributes := #[] }
def k5m0 : Method := { name := "<init>", desc := "()V", sig := { parameters := [], returnType := none }, accessFlags := 4, code := some k5c0 }
/-- java/util/AbstractCollection -/
def k5 : Class := { plain "java/util/AbstractCollection" (some 0) with
  accessFlags := 1057
  interfaces := #[4]
  cf := some (fileOf pool5 8 #[] #[{ accessFlags := 4, nameIndex := 5, descriptorIndex := 6, attributes := #[] }] 1057 2 #[77] #[])
  fields := #[]
  methods := #[k5m0]
  instanceTypes := #[]
  staticTypes := #[]
  resolved := Array.replicate 160 none
  statics := none }

def pool6 : Array CpInfo := pool [(8, .class_ 10), (1, u "java/util/SequencedCollection"), (15, .class_ 27), (0, u "java/lang/Object"), (0, .class_ 29), (0, u "java/util/Collection")] 27

/-- java/util/SequencedCollection -/
def k6 : Class := { plain "java/util/SequencedCollection" (some 0) with
  accessFlags := 1537
  interfaces := #[4]
  cf := some (fileOf pool6 8 #[] #[] 1537 26 #[28] #[])
  fields := #[]
  methods := #[]
  instanceTypes := #[]
  staticTypes := #[]
  resolved := Array.replicate 57 none
  statics := none }

def pool7 : Array CpInfo := pool [(8, .class_ 10), (1, u "java/util/List"), (92, .class_ 104), (0, u "java/lang/Object"), (15, .class_ 121), (0, u "java/util/SequencedCollection"), (1, u "iterator"), (0, u "()Ljava/util/Iterator;")] 126

def k7m0 : Method := { name := "iterator", desc := "()Ljava/util/Iterator;", sig := { parameters := [], returnType := some (.object "java/util/Iterator") }, accessFlags := 1025, code := none }
/-- java/util/List -/
def k7 : Class := { plain "java/util/List" (some 0) with
  accessFlags := 1537
  interfaces := #[6]
  cf := some (fileOf pool7 8 #[] #[{ accessFlags := 1025, nameIndex := 123, descriptorIndex := 124, attributes := #[] }] 1537 103 #[120] #[])
  fields := #[]
  methods := #[k7m0]
  instanceTypes := #[]
  staticTypes := #[]
  resolved := Array.replicate 251 none
  statics := none }

def pool8 : Array CpInfo := pool [(1, .methodref 2 3), (0, .class_ 4), (0, .nameAndType 5 6), (0, u "java/util/AbstractCollection"), (0, u "<init>"), (0, u "()V"), (0, .fieldref 8 9), (0, .class_ 10), (0, .nameAndType 11 12), (0, u "java/util/AbstractList"), (0, u "modCount"), (0, u "I"), (64, .class_ 78), (0, u "java/util/AbstractList$Itr"), (3, .class_ 83), (0, u "java/util/AbstractList$ListItr"), (9, .class_ 94), (0, u "java/util/AbstractList$RandomAccessSubList"), (3, .class_ 99), (0, u "java/util/AbstractList$SubList"), (33, .class_ 134), (0, u "java/util/List"), (73, .class_ 209), (0, u "java/util/AbstractList$SubList$1"), (0, .class_ 211), (0, u "java/util/AbstractList$RandomAccessSpliterator")] 6

def k8c0 : Code := { maxStack := 2, maxLocals := 1, code := jdk_39_method_1_code, exceptionTable := #[], attributes := #[] }
def k8m0 : Method := { name := "<init>", desc := "()V", sig := { parameters := [], returnType := none }, accessFlags := 4, code := some k8c0 }
/-- java/util/AbstractList -/
def k8 : Class := { plain "java/util/AbstractList" (some 5) with
  accessFlags := 1057
  interfaces := #[7]
  cf := some (fileOf pool8 8 #[.nestMembers #[93, 98, 208, 210, 82, 77]] #[{ accessFlags := 4, nameIndex := 5, descriptorIndex := 6, attributes := #[] }] 1057 2 #[133] #[{ accessFlags := 132, nameIndex := 11, descriptorIndex := 12, attributes := #[] }])
  fields := #[{ name := "modCount", type := .int, accessFlags := 132, slot := 0, constantValue := 0 }]
  methods := #[k8m0]
  instanceTypes := #[.int]
  staticTypes := #[]
  resolved := Array.replicate 218 none
  statics := none }

def pool9 : Array CpInfo := pool [(1, .class_ 2), (0, u "java/util/RandomAccess"), (0, .class_ 4), (0, u "java/lang/Object")] 2

/-- java/util/RandomAccess -/
def k9 : Class := { plain "java/util/RandomAccess" (some 0) with
  accessFlags := 1537
  interfaces := #[]
  cf := some (fileOf pool9 1 #[] #[] 1537 3 #[] #[])
  fields := #[]
  methods := #[]
  instanceTypes := #[]
  staticTypes := #[]
  resolved := Array.replicate 7 none
  statics := none }

def pool10 : Array CpInfo := pool [(1, .class_ 2), (0, u "java/lang/Cloneable"), (0, .class_ 4), (0, u "java/lang/Object")] 2

/-- java/lang/Cloneable -/
def k10 : Class := { plain "java/lang/Cloneable" (some 0) with
  accessFlags := 1537
  interfaces := #[]
  cf := some (fileOf pool10 1 #[] #[] 1537 3 #[] #[])
  fields := #[]
  methods := #[]
  instanceTypes := #[]
  staticTypes := #[]
  resolved := Array.replicate 7 none
  statics := none }

def pool11 : Array CpInfo := pool [(1, .class_ 2), (0, u "java/io/Serializable"), (0, .class_ 4), (0, u "java/lang/Object")] 2

/-- java/io/Serializable -/
def k11 : Class := { plain "java/io/Serializable" (some 0) with
  accessFlags := 1537
  interfaces := #[]
  cf := some (fileOf pool11 1 #[] #[] 1537 3 #[] #[])
  fields := #[]
  methods := #[]
  instanceTypes := #[]
  staticTypes := #[]
  resolved := Array.replicate 7 none
  statics := none }

def pool12 : Array CpInfo := pool [(1, .methodref 2 3), (0, .class_ 4), (0, .nameAndType 5 6), (0, u "java/util/AbstractList"), (0, u "<init>"), (0, u "()V"), (2, .fieldref 10 11), (0, .class_ 12), (0, .nameAndType 13 14), (0, u "java/util/ArrayList"), (0, u "elementData"), (0, u "[Ljava/lang/Object;"), (2, u "EMPTY_ELEMENTDATA"), (21, .fieldref 10 40), (0, .nameAndType 41 14), (0, u "DEFAULTCAPACITY_EMPTY_ELEMENTDATA"), (8, u "size"), (0, u "I"), (96, .class_ 149), (0, u "java/util/List"), (16, u "iterator"), (0, u "()Ljava/util/Iterator;"), (94, .class_ 263), (0, u "java/util/ArrayList$ListItr"), (3, .class_ 268), (0, u "java/util/ArrayList$Itr"), (0, .methodref 267 270), (0, .nameAndType 5 271), (0, u "(Ljava/util/ArrayList;)V"), (4, .class_ 277), (0, u "java/util/ArrayList$SubList"), (12, .class_ 291), (0, u "java/util/ArrayList$ArrayListSpliterator"), (37, .class_ 330), (0, u "java/util/RandomAccess"), (0, .class_ 332), (0, u "java/lang/Cloneable"), (0, .class_ 334), (0, u "java/io/Serializable"), (0, u "serialVersionUID"), (0, u "J"), (3, u "DEFAULT_CAPACITY"), (159, .class_ 501), (0, u "java/util/ArrayList$SubList$2"), (0, .class_ 503), (0, u "java/util/ArrayList$SubList$1")] 5

def k12c0 : Code := { maxStack := 2, maxLocals := 1, code := jdk_38_method_2_code, exceptionTable := #[], attributes := #[] }
def k12m0 : Method := { name := "<init>", desc := "()V", sig := { parameters := [], returnType := none }, accessFlags := 1, code := some k12c0 }
def k12c1 : Code := { maxStack := 3, maxLocals := 1, code := jdk_38_method_55_code, exceptionTable := #[], attributes := #[] }
def k12m1 : Method := { name := "iterator", desc := "()Ljava/util/Iterator;", sig := { parameters := [], returnType := some (.object "java/util/Iterator") }, accessFlags := 1, code := some k12c1 }
/-- java/util/ArrayList -/
def k12 : Class := { plain "java/util/ArrayList" (some 8) with
  accessFlags := 33
  interfaces := #[7, 9, 10, 11]
  cf := some (fileOf pool12 10 #[.nestMembers #[290, 276, 500, 502, 262, 267]] #[{ accessFlags := 1, nameIndex := 5, descriptorIndex := 6, attributes := #[] }, { accessFlags := 1, nameIndex := 166, descriptorIndex := 167, attributes := #[] }] 33 2 #[148, 329, 331, 333] #[{ accessFlags := 26, nameIndex := 335, descriptorIndex := 336, attributes := #[] }, { accessFlags := 26, nameIndex := 340, descriptorIndex := 51, attributes := #[] }, { accessFlags := 26, nameIndex := 17, descriptorIndex := 14, attributes := #[] }, { accessFlags := 26, nameIndex := 41, descriptorIndex := 14, attributes := #[] }, { accessFlags := 128, nameIndex := 13, descriptorIndex := 14, attributes := #[] }, { accessFlags := 2, nameIndex := 50, descriptorIndex := 51, attributes := #[] }])
  fields := #[{ name := "serialVersionUID", type := .long, accessFlags := 26, slot := 0, constantValue := 0 }, { name := "DEFAULT_CAPACITY", type := .int, accessFlags := 26, slot := 1, constantValue := 0 }, { name := "EMPTY_ELEMENTDATA", type := (.array (.object "java/lang/Object")), accessFlags := 26, slot := 2, constantValue := 0 }, { name := "DEFAULTCAPACITY_EMPTY_ELEMENTDATA", type := (.array (.object "java/lang/Object")), accessFlags := 26, slot := 3, constantValue := 0 }, { name := "elementData", type := (.array (.object "java/lang/Object")), accessFlags := 128, slot := 1, constantValue := 0 }, { name := "size", type := .int, accessFlags := 2, slot := 2, constantValue := 0 }]
  methods := #[k12m0, k12m1]
  instanceTypes := #[.int, (.array (.object "java/lang/Object")), .int]
  staticTypes := #[.long, .int, (.array (.object "java/lang/Object")), (.array (.object "java/lang/Object"))]
  resolved := Array.replicate 509 none
  statics := some 0 }

def pool13 : Array CpInfo := pool [(2, .class_ 4), (1, u "java/util/Map"), (31, .class_ 37), (0, u "java/util/Map$Entry"), (55, .class_ 94), (0, u "java/lang/Object")] 168

/-- java/util/Map -/
def k13 : Class := { plain "java/util/Map" (some 0) with
  accessFlags := 1537
  interfaces := #[]
  cf := some (fileOf pool13 2 #[.nestMembers #[36]] #[] 1537 93 #[] #[])
  fields := #[]
  methods := #[]
  instanceTypes := #[]
  staticTypes := #[]
  resolved := Array.replicate 263 none
  statics := none }

def pool14 : Array CpInfo := pool [(1, .methodref 2 3), (0, .class_ 4), (0, .nameAndType 5 6), (0, u "java/lang/Object"), (0, u "<init>"), (0, u "()V"), (1, .class_ 10), (1, u "java/util/AbstractMap"), (42, .class_ 54), (0, u "java/util/Map"), (9, u "keySet"), (0, u "Ljava/util/Set;"), (0, .class_ 67), (0, u "java/util/AbstractMap$1"), (5, u "values"), (0, u "Ljava/util/Collection;"), (0, .class_ 76), (0, u "java/util/AbstractMap$2"), (104, .class_ 182), (0, u "java/util/AbstractMap$ViewCollection"), (0, .class_ 184), (0, u "java/util/AbstractMap$SimpleImmutableEntry"), (0, .class_ 186), (0, u "java/util/AbstractMap$SimpleEntry"), (0, .class_ 188), (0, u "java/util/AbstractMap$2$1"), (0, .class_ 190), (0, u "java/util/AbstractMap$1$1")] 5

def k14c0 : Code := { maxStack := 1, maxLocals := 1, code := jdk_71_method_1_code, exceptionTable := #[], attributes := #[] }
def k14m0 : Method := { name := "<init>", desc := "()V", sig := { parameters := [], returnType := none }, accessFlags := 4, code := some k14c0 }
/-- java/util/AbstractMap -/
def k14 : Class := { plain "java/util/AbstractMap" (some 0) with
  accessFlags := 1057
  interfaces := #[13]
  cf := some (fileOf pool14 8 #[.nestMembers #[181, 183, 185, 75, 187, 66, 189]] #[{ accessFlags := 4, nameIndex := 5, descriptorIndex := 6, attributes := #[] }] 1057 2 #[53] #[{ accessFlags := 128, nameIndex := 64, descriptorIndex := 65, attributes := #[] }, { accessFlags := 128, nameIndex := 73, descriptorIndex := 74, attributes := #[] }])
  fields := #[{ name := "keySet", type := (.object "java/util/Set"), accessFlags := 128, slot := 0, constantValue := 0 }, { name := "values", type := (.object "java/util/Collection"), accessFlags := 128, slot := 1, constantValue := 0 }]
  methods := #[k14m0]
  instanceTypes := #[(.object "java/util/Set"), (.object "java/util/Collection")]
  staticTypes := #[]
  resolved := Array.replicate 196 none
  statics := none }

def pool15 : Array CpInfo := pool [(40, .class_ 41), (0, u "java/util/HashMap"), (1, .methodref 44 45), (0, .class_ 46), (0, .nameAndType 47 48), (0, u "java/util/AbstractMap"), (0, u "<init>"), (0, u "()V"), (32, .fieldref 40 82), (0, .nameAndType 83 84), (0, u "loadFactor"), (0, u "F"), (5, u "threshold"), (0, u "I"), (0, .float 1061158912), (8, .class_ 103), (1, u "java/util/Map"), (0, u "size"), (2, u "table"), (0, u "[Ljava/util/HashMap$Node;"), (14, u "entrySet"), (39, .class_ 165), (1, u "java/util/HashMap$Node"), (14, .class_ 181), (0, u "java/util/HashMap$TreeNode"), (22, u "modCount"), (37, u "Ljava/util/Set;"), (0, .class_ 244), (0, u "java/util/HashMap$KeySet"), (18, .class_ 264), (0, u "java/util/HashMap$Values"), (3, .class_ 269), (0, u "java/util/HashMap$EntrySet"), (76, .class_ 348), (1, u "java/util/HashMap$UnsafeHolder"), (43, .class_ 393), (0, u "java/lang/Cloneable"), (0, .class_ 395), (0, u "java/io/Serializable"), (0, u "serialVersionUID"), (0, u "J"), (3, u "DEFAULT_INITIAL_CAPACITY"), (1, u "MAXIMUM_CAPACITY"), (0, u "DEFAULT_LOAD_FACTOR"), (0, u "TREEIFY_THRESHOLD"), (1, u "UNTREEIFY_THRESHOLD"), (1, u "MIN_TREEIFY_CAPACITY"), (186, .class_ 597), (0, u "java/util/HashMap$EntrySpliterator"), (0, .class_ 599), (0, u "java/util/HashMap$ValueSpliterator"), (0, .class_ 601), (0, u "java/util/HashMap$KeySpliterator"), (0, .class_ 603), (0, u "java/util/HashMap$HashMapSpliterator"), (0, .class_ 605), (0, u "java/util/HashMap$EntryIterator"), (0, .class_ 607), (0, u "java/util/HashMap$ValueIterator"), (0, .class_ 609), (0, u "java/util/HashMap$KeyIterator"), (0, .class_ 611), (0, u "java/util/HashMap$HashIterator")] 17

def k15c0 : Code := { maxStack := 2, maxLocals := 1, code := jdk_69_method_7_code, exceptionTable := #[], attributes := #[] }
def k15m0 : Method := { name := "<init>", desc := "()V", sig := { parameters := [], returnType := none }, accessFlags := 1, code := some k15c0 }
/-- java/util/HashMap -/
def k15 : Class := { plain "java/util/HashMap" (some 14) with
  accessFlags := 33
  interfaces := #[13, 10, 11]
  cf := some (fileOf pool15 40 #[.nestMembers #[180, 596, 598, 600, 602, 604, 606, 608, 610, 346, 268, 263, 243, 163]] #[{ accessFlags := 1, nameIndex := 47, descriptorIndex := 48, attributes := #[] }] 33 44 #[101, 392, 394] #[{ accessFlags := 26, nameIndex := 396, descriptorIndex := 397, attributes := #[] }, { accessFlags := 24, nameIndex := 401, descriptorIndex := 91, attributes := #[] }, { accessFlags := 24, nameIndex := 403, descriptorIndex := 91, attributes := #[] }, { accessFlags := 24, nameIndex := 404, descriptorIndex := 84, attributes := #[] }, { accessFlags := 24, nameIndex := 405, descriptorIndex := 91, attributes := #[] }, { accessFlags := 24, nameIndex := 407, descriptorIndex := 91, attributes := #[] }, { accessFlags := 24, nameIndex := 409, descriptorIndex := 91, attributes := #[] }, { accessFlags := 128, nameIndex := 107, descriptorIndex := 108, attributes := #[] }, { accessFlags := 128, nameIndex := 123, descriptorIndex := 242, attributes := #[] }, { accessFlags := 128, nameIndex := 104, descriptorIndex := 91, attributes := #[] }, { accessFlags := 128, nameIndex := 204, descriptorIndex := 91, attributes := #[] }, { accessFlags := 0, nameIndex := 90, descriptorIndex := 91, attributes := #[] }, { accessFlags := 16, nameIndex := 83, descriptorIndex := 84, attributes := #[] }])
  fields := #[{ name := "serialVersionUID", type := .long, accessFlags := 26, slot := 0, constantValue := 0 }, { name := "DEFAULT_INITIAL_CAPACITY", type := .int, accessFlags := 24, slot := 1, constantValue := 0 }, { name := "MAXIMUM_CAPACITY", type := .int, accessFlags := 24, slot := 2, constantValue := 0 }, { name := "DEFAULT_LOAD_FACTOR", type := .float, accessFlags := 24, slot := 3, constantValue := 0 }, { name := "TREEIFY_THRESHOLD", type := .int, accessFlags := 24, slot := 4, constantValue := 0 }, { name := "UNTREEIFY_THRESHOLD", type := .int, accessFlags := 24, slot := 5, constantValue := 0 }, { name := "MIN_TREEIFY_CAPACITY", type := .int, accessFlags := 24, slot := 6, constantValue := 0 }, { name := "table", type := (.array (.object "java/util/HashMap$Node")), accessFlags := 128, slot := 2, constantValue := 0 }, { name := "entrySet", type := (.object "java/util/Set"), accessFlags := 128, slot := 3, constantValue := 0 }, { name := "size", type := .int, accessFlags := 128, slot := 4, constantValue := 0 }, { name := "modCount", type := .int, accessFlags := 128, slot := 5, constantValue := 0 }, { name := "threshold", type := .int, accessFlags := 0, slot := 6, constantValue := 0 }, { name := "loadFactor", type := .float, accessFlags := 16, slot := 7, constantValue := 0 }]
  methods := #[k15m0]
  instanceTypes := #[(.object "java/util/Set"), (.object "java/util/Collection"), (.array (.object "java/util/HashMap$Node")), (.object "java/util/Set"), .int, .int, .int, .float]
  staticTypes := #[.long, .int, .int, .float, .int, .int, .int]
  resolved := Array.replicate 629 none
  statics := none }

def pool16 : Array CpInfo := pool [(16, .class_ 18), (1, u "java/util/Iterator"), (0, u "hasNext"), (0, u "()Z"), (10, .class_ 32), (0, u "java/lang/Object")] 20

def k16m0 : Method := { name := "hasNext", desc := "()Z", sig := { parameters := [], returnType := some .boolean }, accessFlags := 1025, code := none }
/-- java/util/Iterator -/
def k16 : Class := { plain "java/util/Iterator" (some 0) with
  accessFlags := 1537
  interfaces := #[]
  cf := some (fileOf pool16 16 #[] #[{ accessFlags := 1025, nameIndex := 19, descriptorIndex := 20, attributes := #[] }] 1537 31 #[] #[])
  fields := #[]
  methods := #[k16m0]
  instanceTypes := #[]
  staticTypes := #[]
  resolved := Array.replicate 53 none
  statics := none }

def pool17 : Array CpInfo := pool [(1, .fieldref 2 3), (0, .class_ 4), (0, .nameAndType 5 6), (0, u "java/util/ArrayList$Itr"), (0, u "this$0"), (0, u "Ljava/util/ArrayList;"), (0, .methodref 8 9), (0, .class_ 10), (0, .nameAndType 11 12), (0, u "java/lang/Object"), (0, u "<init>"), (0, u "()V"), (0, .fieldref 2 14), (0, .nameAndType 15 16), (0, u "lastRet"), (0, u "I"), (0, .fieldref 18 19), (0, .class_ 20), (0, .nameAndType 21 16), (0, u "java/util/ArrayList"), (0, u "modCount"), (0, .fieldref 2 23), (0, .nameAndType 24 16), (0, u "expectedModCount"), (0, .fieldref 2 26), (0, .nameAndType 27 16), (0, u "cursor"), (0, .fieldref 18 29), (0, .nameAndType 30 16), (0, u "size"), (38, .class_ 70), (0, u "java/util/Iterator"), (0, u "(Ljava/util/ArrayList;)V"), (8, u "hasNext"), (0, u "()Z")] 22

def k17c0 : Code := { maxStack := 2, maxLocals := 2, code := jdk_49_method_1_code, exceptionTable := #[], attributes := #[] }
def k17m0 : Method := { name := "<init>", desc := "(Ljava/util/ArrayList;)V", sig := { parameters := [(.object "java/util/ArrayList")], returnType := none }, accessFlags := 0, code := some k17c0 }
def k17c1 : Code := { maxStack := 2, maxLocals := 1, code := jdk_49_method_2_code, exceptionTable := #[], attributes := #[] }
def k17m1 : Method := { name := "hasNext", desc := "()Z", sig := { parameters := [], returnType := some .boolean }, accessFlags := 1, code := some k17c1 }
/-- java/util/ArrayList$Itr -/
def k17 : Class := { plain "java/util/ArrayList$Itr" (some 0) with
  accessFlags := 32
  interfaces := #[16]
  cf := some (fileOf pool17 2 #[.nestHost 18] #[{ accessFlags := 0, nameIndex := 11, descriptorIndex := 71, attributes := #[] }, { accessFlags := 1, nameIndex := 80, descriptorIndex := 81, attributes := #[] }] 32 8 #[69] #[{ accessFlags := 0, nameIndex := 27, descriptorIndex := 16, attributes := #[] }, { accessFlags := 0, nameIndex := 15, descriptorIndex := 16, attributes := #[] }, { accessFlags := 0, nameIndex := 24, descriptorIndex := 16, attributes := #[] }, { accessFlags := 4112, nameIndex := 5, descriptorIndex := 6, attributes := #[] }])
  fields := #[{ name := "cursor", type := .int, accessFlags := 0, slot := 0, constantValue := 0 }, { name := "lastRet", type := .int, accessFlags := 0, slot := 1, constantValue := 0 }, { name := "expectedModCount", type := .int, accessFlags := 0, slot := 2, constantValue := 0 }, { name := "this$0", type := (.object "java/util/ArrayList"), accessFlags := 4112, slot := 3, constantValue := 0 }]
  methods := #[k17m0, k17m1]
  instanceTypes := #[.int, .int, .int, (.object "java/util/ArrayList")]
  staticTypes := #[]
  resolved := Array.replicate 104 none
  statics := none }

/-- the primitive byte -/
def k18 : Class := { plain "byte" none with kind := .primitive 'B', accessFlags := 0x411 }
/-- [B -/
def k19 : Class := { plain "[B" (some 0) with kind := .array 18 .byte, interfaces := #[10, 11], accessFlags := 1041 }

/-- the primitive int -/
def k20 : Class := { plain "int" none with kind := .primitive 'I', accessFlags := 0x411 }
/-- [I -/
def k21 : Class := { plain "[I" (some 0) with kind := .array 20 .int, interfaces := #[10, 11], accessFlags := 1041 }

/-- [Ljava/lang/Object; -/
def k22 : Class := { plain "[Ljava/lang/Object;" (some 0) with kind := .array 0 (.object "java/lang/Object"), interfaces := #[10, 11], accessFlags := 1041 }

def heap : Heap := #[{ cls := 12, slots := #[.long 0, .int 0, .ref 1, .ref 2], vm := .statics 12 },
  { cls := 22, slots := #[], vm := .none },
  { cls := 22, slots := #[], vm := .none }]
def classes : Array Class := #[k0, k1, k2, k3, k4, k5, k6, k7, k8, k9, k10, k11, k12, k13, k14, k15, k16, k17, k18, k19, k20, k21, k22]
def interned : List (Array UInt16 × Addr) := []
def slotsUsed : Nat := 4
def theMethod : MethodId := ⟨1, 1⟩
def args0 : Array Value := #[.int 6, .int 5, .int 9, .int 3, .int 2]
def aboutOver (below : List Frame) : State where
  vm := { classes := classes, interned := interned.toArray }
  heap := heap
  slotsUsed := slotsUsed
  threads := #[{ frames := .invoking theMethod args0 :: below }]
def below0 : List Frame := [.native { method := ⟨0, 0⟩, args := #[] }]
def about1 : State := aboutOver below0
def p0 : Program := .bare "" "" ""
def e0 : Env := launch0.env 0 0 0
theorem w_frames : about1.frames = Frame.invoking theMethod args0 :: below0 := rfl
set_option maxRecDepth 65536 in
theorem w_args : argsFit about1.vm theMethod args0 = true := by decide +kernel
set_option maxRecDepth 65536 in
theorem w_heap : heapFits about1 = true := by decide +kernel
set_option maxRecDepth 65536 in
theorem w_runnable : about1.curStatus? = some .runnable := by decide +kernel
set_option maxRecDepth 65536 in
theorem w_alone : about1.alone = true := by decide +kernel
set_option maxRecDepth 65536 in
theorem w_named : about1.methodNamed? x = some theMethod := by decide +kernel
set_option maxRecDepth 65536 in
theorem w_hears : about1.hears theMethod below0 = true := by decide +kernel
set_option maxRecDepth 65536 in
theorem w_ripe : about1.ripe theMethod args0 below0 = true := by decide +kernel
theorem w_running : about1.status = .running := rfl
set_option maxRecDepth 65536 in
theorem w_room : about1.hasRoom e0.platform room_1 = true :=
  launch0.hasRoom_least _ room_1 (by decide +kernel) (by decide +kernel) (by decide +kernel) (by decide +kernel) (by decide +kernel) (by decide +kernel)
theorem allAtoms_all (ts : List Jvm.Cond) (a : Array Jvm.Value) (st : Jvm.State) : (allAtoms ts).before a st = ts.all (fun c => c.before a st) := by
  induction ts with
  | nil => rfl
  | cons c t ih =>
    show (Jvm.Cond.and c (allAtoms t)).before a st = _
    rw [Jvm.Cond.before_and, ih, List.all_cons]
def words1 : List Jvm.Cond := Jvm.Cond.code x code maxLocals ret :: tables_1
/-- a 'code' word, met by the world's own term for the bytes: nothing is compared byte by byte -/
theorem code_word {y : MethodName} {bytes : ByteArray} {mx : Nat} {rt : Option FieldType} {a : Array Value} {s : State} {m : MethodId} {meth : Method} {c : Code} (h1 : s.methodNamed? y = some m) (h2 : s.vm.method? m = some meth) (h3 : meth.code = some c) (h4 : c.code = bytes)
    (h5 : (c.maxLocals == mx && c.exceptionTable.isEmpty && decide (c.maxStack ≤ mostOperands) && decide (meth.sig.returnType = rt) && !meth.locks && decide (parseMethodDescriptor y.desc = some meth.sig)) = true) : (Jvm.Cond.code y bytes mx rt).before a s = true := by
  simp only [Bool.and_eq_true, beq_iff_eq, Bool.not_eq_true', decide_eq_true_eq] at h5
  obtain ⟨⟨⟨⟨⟨g1, g2⟩, g3⟩, g4⟩, g5⟩, g6⟩ := h5
  simp [Cond.before, Cond.holds, Cond.value, h1, h2, h3, h4, g1, g2, g3, g4, g5, g6]
def isCode : Jvm.Cond → Bool
  | .code _ _ _ _ => true
  | _ => false
theorem all_split {L : List Jvm.Cond} {P : Jvm.Cond → Bool} (h1 : L.all (fun c => isCode c || P c) = true) (h2 : ∀ c ∈ L.filter isCode, P c = true) : L.all P = true := by
  refine List.all_eq_true.mpr fun c hc => ?_
  have h := List.all_eq_true.mp h1 c hc
  rcases Bool.eq_false_or_eq_true (isCode c) with hi | hi
  · exact h2 c (List.mem_filter.mpr ⟨hc, hi⟩)
  · simpa [hi] using h
set_option maxRecDepth 65536 in
theorem w_c0 : (Jvm.Cond.code x code maxLocals ret).before args0 about1 = true := code_word (m := ⟨1, 1⟩) (meth := k1m1) (c := k1c1) (by decide +kernel) rfl rfl rfl (by decide +kernel)
set_option maxRecDepth 65536 in
theorem w_c1 : (Jvm.Cond.code ({ cls := "java/util/ArrayList", name := "<init>", desc := "()V" } : Jvm.MethodName) jdk_38_method_2_code (1 : Nat) (Option.none : Option Jvm.ClassFile.FieldType)).before args0 about1 = true := code_word (m := ⟨12, 0⟩) (meth := k12m0) (c := k12c0) (by decide +kernel) rfl rfl rfl (by decide +kernel)
set_option maxRecDepth 65536 in
theorem w_c2 : (Jvm.Cond.code ({ cls := "java/util/AbstractList", name := "<init>", desc := "()V" } : Jvm.MethodName) jdk_39_method_1_code (1 : Nat) (Option.none : Option Jvm.ClassFile.FieldType)).before args0 about1 = true := code_word (m := ⟨8, 0⟩) (meth := k8m0) (c := k8c0) (by decide +kernel) rfl rfl rfl (by decide +kernel)
set_option maxRecDepth 65536 in
theorem w_c3 : (Jvm.Cond.code ({ cls := "java/util/AbstractCollection", name := "<init>", desc := "()V" } : Jvm.MethodName) jdk_22_method_1_code (1 : Nat) (Option.none : Option Jvm.ClassFile.FieldType)).before args0 about1 = true := code_word (m := ⟨5, 0⟩) (meth := k5m0) (c := k5c0) (by decide +kernel) rfl rfl rfl (by decide +kernel)
set_option maxRecDepth 65536 in
theorem w_c4 : (Jvm.Cond.code ({ cls := "java/lang/Object", name := "<init>", desc := "()V" } : Jvm.MethodName) object_method_1_code (1 : Nat) (Option.none : Option Jvm.ClassFile.FieldType)).before args0 about1 = true := code_word (m := ⟨0, 0⟩) (meth := k0m0) (c := k0c0) (by decide +kernel) rfl rfl rfl (by decide +kernel)
set_option maxRecDepth 65536 in
theorem w_c5 : (Jvm.Cond.code ({ cls := "com/example/genano/genano/Grouping", name := "<init>", desc := "([IILjava/util/List;)V" } : Jvm.MethodName) prog_17_method_2_code (6 : Nat) (Option.none : Option Jvm.ClassFile.FieldType)).before args0 about1 = true := code_word (m := ⟨2, 0⟩) (meth := k2m0) (c := k2c0) (by decide +kernel) rfl rfl rfl (by decide +kernel)
set_option maxRecDepth 65536 in
theorem w_c6 : (Jvm.Cond.code ({ cls := "java/util/HashMap", name := "<init>", desc := "()V" } : Jvm.MethodName) jdk_69_method_7_code (1 : Nat) (Option.none : Option Jvm.ClassFile.FieldType)).before args0 about1 = true := code_word (m := ⟨15, 0⟩) (meth := k15m0) (c := k15c0) (by decide +kernel) rfl rfl rfl (by decide +kernel)
set_option maxRecDepth 65536 in
theorem w_c7 : (Jvm.Cond.code ({ cls := "java/util/AbstractMap", name := "<init>", desc := "()V" } : Jvm.MethodName) jdk_71_method_1_code (1 : Nat) (Option.none : Option Jvm.ClassFile.FieldType)).before args0 about1 = true := code_word (m := ⟨14, 0⟩) (meth := k14m0) (c := k14c0) (by decide +kernel) rfl rfl rfl (by decide +kernel)
set_option maxRecDepth 65536 in
theorem w_c8 : (Jvm.Cond.code ({ cls := "java/util/ArrayList", name := "iterator", desc := "()Ljava/util/Iterator;" } : Jvm.MethodName) jdk_38_method_55_code (1 : Nat) (Option.some (Jvm.ClassFile.FieldType.object "java/util/Iterator"))).before args0 about1 = true := code_word (m := ⟨12, 1⟩) (meth := k12m1) (c := k12c1) (by decide +kernel) rfl rfl rfl (by decide +kernel)
set_option maxRecDepth 65536 in
theorem w_c9 : (Jvm.Cond.code ({ cls := "java/util/ArrayList$Itr", name := "<init>", desc := "(Ljava/util/ArrayList;)V" } : Jvm.MethodName) jdk_49_method_1_code (2 : Nat) (Option.none : Option Jvm.ClassFile.FieldType)).before args0 about1 = true := code_word (m := ⟨17, 0⟩) (meth := k17m0) (c := k17c0) (by decide +kernel) rfl rfl rfl (by decide +kernel)
set_option maxRecDepth 65536 in
theorem w_c10 : (Jvm.Cond.code ({ cls := "java/util/ArrayList$Itr", name := "hasNext", desc := "()Z" } : Jvm.MethodName) jdk_49_method_2_code (1 : Nat) (Option.some Jvm.ClassFile.FieldType.boolean)).before args0 about1 = true := code_word (m := ⟨17, 1⟩) (meth := k17m1) (c := k17c1) (by decide +kernel) rfl rfl rfl (by decide +kernel)
set_option maxRecDepth 65536 in
theorem w_c11 : (Jvm.Cond.code ({ cls := "com/example/genano/genano/Grouping", name := "records", desc := "()I" } : Jvm.MethodName) prog_17_method_6_code (6 : Nat) (Option.some Jvm.ClassFile.FieldType.int)).before args0 about1 = true := code_word (m := ⟨2, 1⟩) (meth := k2m1) (c := k2c1) (by decide +kernel) rfl rfl rfl (by decide +kernel)
def codes1 : List Jvm.Cond := [Jvm.Cond.code x code maxLocals ret, Jvm.Cond.code ({ cls := "java/util/ArrayList", name := "<init>", desc := "()V" } : Jvm.MethodName) jdk_38_method_2_code (1 : Nat) (Option.none : Option Jvm.ClassFile.FieldType), Jvm.Cond.code ({ cls := "java/util/AbstractList", name := "<init>", desc := "()V" } : Jvm.MethodName) jdk_39_method_1_code (1 : Nat) (Option.none : Option Jvm.ClassFile.FieldType), Jvm.Cond.code ({ cls := "java/util/AbstractCollection", name := "<init>", desc := "()V" } : Jvm.MethodName) jdk_22_method_1_code (1 : Nat) (Option.none : Option Jvm.ClassFile.FieldType), Jvm.Cond.code ({ cls := "java/lang/Object", name := "<init>", desc := "()V" } : Jvm.MethodName) object_method_1_code (1 : Nat) (Option.none : Option Jvm.ClassFile.FieldType), Jvm.Cond.code ({ cls := "com/example/genano/genano/Grouping", name := "<init>", desc := "([IILjava/util/List;)V" } : Jvm.MethodName) prog_17_method_2_code (6 : Nat) (Option.none : Option Jvm.ClassFile.FieldType), Jvm.Cond.code ({ cls := "java/util/HashMap", name := "<init>", desc := "()V" } : Jvm.MethodName) jdk_69_method_7_code (1 : Nat) (Option.none : Option Jvm.ClassFile.FieldType), Jvm.Cond.code ({ cls := "java/util/AbstractMap", name := "<init>", desc := "()V" } : Jvm.MethodName) jdk_71_method_1_code (1 : Nat) (Option.none : Option Jvm.ClassFile.FieldType), Jvm.Cond.code ({ cls := "java/util/ArrayList", name := "iterator", desc := "()Ljava/util/Iterator;" } : Jvm.MethodName) jdk_38_method_55_code (1 : Nat) (Option.some (Jvm.ClassFile.FieldType.object "java/util/Iterator")), Jvm.Cond.code ({ cls := "java/util/ArrayList$Itr", name := "<init>", desc := "(Ljava/util/ArrayList;)V" } : Jvm.MethodName) jdk_49_method_1_code (2 : Nat) (Option.none : Option Jvm.ClassFile.FieldType), Jvm.Cond.code ({ cls := "java/util/ArrayList$Itr", name := "hasNext", desc := "()Z" } : Jvm.MethodName) jdk_49_method_2_code (1 : Nat) (Option.some Jvm.ClassFile.FieldType.boolean), Jvm.Cond.code ({ cls := "com/example/genano/genano/Grouping", name := "records", desc := "()I" } : Jvm.MethodName) prog_17_method_6_code (6 : Nat) (Option.some Jvm.ClassFile.FieldType.int)]
set_option maxRecDepth 65536 in
theorem codes_eq : words1.filter isCode = codes1 := rfl
theorem w_codes : ∀ c ∈ words1.filter isCode, c.before args0 about1 = true := by
  rw [codes_eq]
  intro c hc
  simp only [codes1, List.mem_cons, List.not_mem_nil, or_false] at hc
  rcases hc with rfl | rfl | rfl | rfl | rfl | rfl | rfl | rfl | rfl | rfl | rfl | rfl
  · exact w_c0
  · exact w_c1
  · exact w_c2
  · exact w_c3
  · exact w_c4
  · exact w_c5
  · exact w_c6
  · exact w_c7
  · exact w_c8
  · exact w_c9
  · exact w_c10
  · exact w_c11
set_option maxRecDepth 65536 in
theorem w_t1 : (words1.take 24).all (fun c => isCode c || c.before args0 about1) = true := by decide +kernel
set_option maxRecDepth 65536 in
theorem w_t2 : ((words1.drop 24).take 24).all (fun c => isCode c || c.before args0 about1) = true := by decide +kernel
set_option maxRecDepth 65536 in
theorem w_t3 : (((words1.drop 24).drop 24).take 24).all (fun c => isCode c || c.before args0 about1) = true := by decide +kernel
set_option maxRecDepth 65536 in
theorem w_t4 : ((((words1.drop 24).drop 24).drop 24).take 24).all (fun c => isCode c || c.before args0 about1) = true := by decide +kernel
set_option maxRecDepth 65536 in
theorem w_t5 : ((((words1.drop 24).drop 24).drop 24).drop 24).all (fun c => isCode c || c.before args0 about1) = true := by decide +kernel
theorem w_tables : (allAtoms (Jvm.Cond.code x code maxLocals ret :: tables_1)).before args0 about1 = true := by
  rw [allAtoms_all]
  show words1.all (fun c => c.before args0 about1) = true
  refine all_split ?_ w_codes
  rw [← List.take_append_drop 24 words1, List.all_append, w_t1, ← List.take_append_drop 24 (words1.drop 24), List.all_append, w_t2, ← List.take_append_drop 24 ((words1.drop 24).drop 24), List.all_append, w_t3, ← List.take_append_drop 24 (((words1.drop 24).drop 24).drop 24), List.all_append, w_t4, w_t5]
  rfl
set_option maxRecDepth 65536 in
theorem w_rest : rest_1_c.before args0 about1 = true := by decide +kernel
set_option maxRecDepth 65536 in
theorem w_case : (Jvm.Cond.and given_1 narrow_1).before args0 about1 = true := by decide +kernel
theorem w_applies : (headSpec (Jvm.Cond.code x code maxLocals ret :: tables_1) room_1).applies x e0.platform about1 = true :=
  (Spec.applies_iff w_frames).mpr ⟨w_running, w_runnable, w_alone, w_named, w_hears, w_ripe, w_room, w_tables⟩
theorem atStart : AtStart classFile x code maxLocals ret World_1 tables_1 room_1 Calls_1 rest_1 Pre_1 launch0 p0 e0 about1 theMethod args0 below0 :=
  ⟨lists_1, trivial, launch0.admits_env _ _ _, launch0.least_env, fairChoices_fair.cas, fairChoices_fair.clock, w_frames, w_args, w_heap, w_applies, trivial, w_rest, w_case⟩
end start1
theorem witness_1 : WitnessClaimed_1 := ⟨start1.p0, start1.e0, start1.about1, start1.theMethod, start1.args0, start1.below0, start1.atStart⟩
end Jvm.Pilot.@@N@@

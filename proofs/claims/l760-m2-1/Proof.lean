import JvmDerived
import JvmDerived.Pilot.@@N@@Statement
import JvmDerived.Pilot.@@N@@Code
set_option linter.unusedVariables false
set_option linter.unusedSimpArgs false
namespace Jvm.Pilot.@@N@@
open Jvm Jvm.ClassFile Sem Op Lib Jvm.Free Jvm.Stand Jvm.LawKit Jvm.RoadKit Bundle Jvm.Pilot.@@N@@.Jvm.D
/-! A small calculus of my own over the library's laws: Run .. pc Ls st says: from every state at which this body stands with that heap, that pc, those locals and that stack the invocation comes back, and Q holds of what it returns and of the heap. -/
section Own
variable {l : Launch} {Z : State} {y : MethodName} {bytes : ByteArray} {ml : Nat} {ret : Option FieldType} {R : Room} {n0 : Nat} {Q : Option Value → Heap → Prop} {h : Heap} {k n : Nat} {pc : Nat} {Ls : List Slot} {st : List Value} {a0 : Array Value}

def own_Ctx (p : Program) (s : State) (m : MethodId) (meth : Method) (c : Code) (Z : State) (y : MethodName) (bytes : ByteArray) (ml : Nat) (ret : Option FieldType) : Prop :=
  p.tables.exec = Jvm.exec ∧ c.code = bytes ∧ c.maxLocals = ml ∧ Z.Warmed39 s.vm ∧ s.vm.findClass y.cls = some m.cls ∧ meth.name = y.name ∧ meth.sig.returnType = ret ∧ meth.locks = false

def Run (l : Launch) (Z : State) (y : MethodName) (bytes : ByteArray) (ml : Nat) (ret : Option FieldType) (R : Room) (n0 : Nat) (Q : Option Value → Heap → Prop) (h : Heap) (k n : Nat) (pc : Nat) (Ls : List Slot) (st : List Value) : Prop :=
  ∀ (p : Program) (e : Env) (s : State) (m : MethodId) (args : Array Value) (below : List Frame) (meth : Method) (c : Code) (T : State) (locs : List Loc),
    own_Ctx p s m meth c Z y bytes ml ret → Stand p l e R s m args below meth c T locs k n → Fr n0 locs → T.heap = h →
    ∃ s₂ o, Steps p.tables e below (T.setTop (mkF m pc Ls.toArray st)) s₂ ∧ s₂.status = .running ∧ Ended s₂ below o ∧ ∃ v L, o = .returned v ∧ (Q v s₂.heap ∧ Fr n0 L) ∧ FrameEnd s o s₂ L R.cells R.slots

/-- a step that leaves the state as it is -/
theorem Run.step {pc' : Nat} {Ls' : List Slot} {st' : List Value} (K : Run l Z y bytes ml ret R n0 Q h k n pc' Ls' st')
    (H : ∀ (p : Program) (e : Env) (s : State) (m : MethodId) (args : Array Value) (below : List Frame) (meth : Method) (c : Code) (T : State) (locs : List Loc),
      own_Ctx p s m meth c Z y bytes ml ret → Stand p l e R s m args below meth c T locs k n → T.heap = h → ∀ t, Steps p.tables e below (T.setTop (mkF m pc' Ls'.toArray st')) t → Steps p.tables e below (T.setTop (mkF m pc Ls.toArray st)) t) :
    Run l Z y bytes ml ret R n0 Q h k n pc Ls st := fun p e s m args below meth c T locs C X N E => by
  obtain ⟨s2, o, h1, h2⟩ := K p e s m args below meth c T locs C X N E
  exact ⟨s2, o, H p e s m args below meth c T locs C X E _ h1, h2⟩

/-- a step that moves the state -/
theorem Run.move {pc' : Nat} {Ls' : List Slot} {st' : List Value} {h' : Heap} {k' n' : Nat} (K : Run l Z y bytes ml ret R n0 Q h' k' n' pc' Ls' st')
    (H : ∀ (p : Program) (e : Env) (s : State) (m : MethodId) (args : Array Value) (below : List Frame) (meth : Method) (c : Code) (T : State) (locs : List Loc),
      own_Ctx p s m meth c Z y bytes ml ret → Stand p l e R s m args below meth c T locs k n → Fr n0 locs → T.heap = h →
        ∃ T' locs', Stand p l e R s m args below meth c T' locs' k' n' ∧ Fr n0 locs' ∧ T'.heap = h' ∧ ∀ t, Steps p.tables e below (T'.setTop (mkF m pc' Ls'.toArray st')) t → Steps p.tables e below (T.setTop (mkF m pc Ls.toArray st)) t) :
    Run l Z y bytes ml ret R n0 Q h k n pc Ls st := fun p e s m args below meth c T locs C X N E => by
  obtain ⟨T', locs', X', N', E', st'⟩ := H p e s m args below meth c T locs C X N E
  obtain ⟨s2, o, h1, h2⟩ := K p e s m args below meth c T' locs' C X' N' E'
  exact ⟨s2, o, st' _ h1, h2⟩

/-! loads, constants -/
theorem own_get {m : MethodId} {j : Nat} {v : Value} (h : Ls[j]? = some (.val v)) : (mkF m pc Ls.toArray st).locals[j]? = some (.val v) := by
  show Ls.toArray[j]? = _; rw [List.getElem?_toArray]; exact h
theorem r_aloadN {j : Fin 4} {a : Addr} (pc' : Nat) (hd : decode bytes pc = .ok (.aload_n j, 1)) (hp : pc + 1 = pc') (hl : Ls[j.val]? = some (.val (.ref a))) (K : Run l Z y bytes ml ret R n0 Q h k n pc' Ls (.ref a :: st)) : Run l Z y bytes ml ret R n0 Q h k n pc Ls st := by
  subst hp; exact K.step fun p e s m args below meth c T locs C X E t q => XS.aloadN X.here C.1 rfl (hb C.2.1 hd) (own_get hl) rfl q
theorem r_aload {j : Nat} {a : Addr} (pc' : Nat) (hd : decode bytes pc = .ok (.aload j, 2)) (hp : pc + 2 = pc') (hl : Ls[j]? = some (.val (.ref a))) (K : Run l Z y bytes ml ret R n0 Q h k n pc' Ls (.ref a :: st)) : Run l Z y bytes ml ret R n0 Q h k n pc Ls st := by
  subst hp; exact K.step fun p e s m args below meth c T locs C X E t q => XS.aload X.here C.1 rfl (hb C.2.1 hd) (own_get hl) rfl q
theorem r_aloadNV {j : Fin 4} {v : Value} (pc' : Nat) (hd : decode bytes pc = .ok (.aload_n j, 1)) (hp : pc + 1 = pc') (hl : Ls[j.val]? = some (.val v)) (hv : v.isRef = true) (K : Run l Z y bytes ml ret R n0 Q h k n pc' Ls (v :: st)) : Run l Z y bytes ml ret R n0 Q h k n pc Ls st := by
  subst hp; exact K.step fun p e s m args below meth c T locs C X E t q => XS.aloadN X.here C.1 rfl (hb C.2.1 hd) (own_get hl) hv q
theorem r_aloadV {j : Nat} {v : Value} (pc' : Nat) (hd : decode bytes pc = .ok (.aload j, 2)) (hp : pc + 2 = pc') (hl : Ls[j]? = some (.val v)) (hv : v.isRef = true) (K : Run l Z y bytes ml ret R n0 Q h k n pc' Ls (v :: st)) : Run l Z y bytes ml ret R n0 Q h k n pc Ls st := by
  subst hp; exact K.step fun p e s m args below meth c T locs C X E t q => XS.aload X.here C.1 rfl (hb C.2.1 hd) (own_get hl) hv q
theorem r_iloadN {j : Fin 4} {v : Int32} (pc' : Nat) (hd : decode bytes pc = .ok (.iload_n j, 1)) (hp : pc + 1 = pc') (hl : Ls[j.val]? = some (.val (.int v))) (K : Run l Z y bytes ml ret R n0 Q h k n pc' Ls (.int v :: st)) : Run l Z y bytes ml ret R n0 Q h k n pc Ls st := by
  subst hp; exact K.step fun p e s m args below meth c T locs C X E t q => XS.iloadN X.here C.1 rfl (hb C.2.1 hd) (own_get hl) q
theorem r_iload {j : Nat} {v : Int32} (pc' : Nat) (hd : decode bytes pc = .ok (.iload j, 2)) (hp : pc + 2 = pc') (hl : Ls[j]? = some (.val (.int v))) (K : Run l Z y bytes ml ret R n0 Q h k n pc' Ls (.int v :: st)) : Run l Z y bytes ml ret R n0 Q h k n pc Ls st := by
  subst hp; exact K.step fun p e s m args below meth c T locs C X E t q => XS.iload X.here C.1 rfl (hb C.2.1 hd) (own_get hl) q
theorem r_lloadN {j : Fin 4} {v : Int64} (pc' : Nat) (hd : decode bytes pc = .ok (.lload_n j, 1)) (hp : pc + 1 = pc') (hl : Ls[j.val]? = some (.val (.long v))) (K : Run l Z y bytes ml ret R n0 Q h k n pc' Ls (.long v :: st)) : Run l Z y bytes ml ret R n0 Q h k n pc Ls st := by
  subst hp; exact K.step fun p e s m args below meth c T locs C X E t q => XT.lloadN X.here C.1 rfl (hb C.2.1 hd) (own_get hl) q
theorem r_lload {j : Nat} {v : Int64} (pc' : Nat) (hd : decode bytes pc = .ok (.lload j, 2)) (hp : pc + 2 = pc') (hl : Ls[j]? = some (.val (.long v))) (K : Run l Z y bytes ml ret R n0 Q h k n pc' Ls (.long v :: st)) : Run l Z y bytes ml ret R n0 Q h k n pc Ls st := by
  subst hp; exact K.step fun p e s m args below meth c T locs C X E t q => XT.lload X.here C.1 rfl (hb C.2.1 hd) (own_get hl) q
theorem r_iconst {i : Int} (v : Int32) (pc' : Nat) (hd : decode bytes pc = .ok (.iconst i, 1)) (hp : pc + 1 = pc') (hv : Int32.ofInt i = v) (K : Run l Z y bytes ml ret R n0 Q h k n pc' Ls (.int v :: st)) : Run l Z y bytes ml ret R n0 Q h k n pc Ls st := by
  subst hp hv; exact K.step fun p e s m args below meth c T locs C X E t q => XS.iconst X.here C.1 rfl (hb C.2.1 hd) q
theorem r_bipush {i : Int} (v : Int32) (pc' : Nat) (hd : decode bytes pc = .ok (.bipush i, 2)) (hp : pc + 2 = pc') (hv : (Int8.ofInt i).toInt32 = v) (K : Run l Z y bytes ml ret R n0 Q h k n pc' Ls (.int v :: st)) : Run l Z y bytes ml ret R n0 Q h k n pc Ls st := by
  subst hp hv; exact K.step fun p e s m args below meth c T locs C X E t q => XS.bipush X.here C.1 rfl (hb C.2.1 hd) q
theorem r_sipush {i : Int} (v : Int32) (pc' : Nat) (hd : decode bytes pc = .ok (.sipush i, 3)) (hp : pc + 3 = pc') (hv : (Int16.ofInt i).toInt32 = v) (K : Run l Z y bytes ml ret R n0 Q h k n pc' Ls (.int v :: st)) : Run l Z y bytes ml ret R n0 Q h k n pc Ls st := by
  subst hp hv; exact K.step fun p e s m args below meth c T locs C X E t q => XS.sipush X.here C.1 rfl (hb C.2.1 hd) q
theorem r_lconst {i : Fin 2} (v : Int64) (pc' : Nat) (hd : decode bytes pc = .ok (.lconst i, 1)) (hp : pc + 1 = pc') (hv : Int64.ofNat i = v) (K : Run l Z y bytes ml ret R n0 Q h k n pc' Ls (.long v :: st)) : Run l Z y bytes ml ret R n0 Q h k n pc Ls st := by
  subst hp hv; exact K.step fun p e s m args below meth c T locs C X E t q => XT.lconst X.here C.1 rfl (hb C.2.1 hd) q
theorem r_null (pc' : Nat) (hd : decode bytes pc = .ok (.aconst_null, 1)) (hp : pc + 1 = pc') (K : Run l Z y bytes ml ret R n0 Q h k n pc' Ls (.null :: st)) : Run l Z y bytes ml ret R n0 Q h k n pc Ls st := by
  subst hp; exact K.step fun p e s m args below meth c T locs C X E t q => XS.aconstNull X.here C.1 rfl (hb C.2.1 hd) q
theorem r_ldc {i : Nat} {v : Int32} (pc' : Nat) (hd : decode bytes pc = .ok (.ldc i, 2)) (hp : pc + 2 = pc') (w : (Jvm.Cond.constant y.cls i v).before a0 Z = true) (K : Run l Z y bytes ml ret R n0 Q h k n pc' Ls (.int v :: st)) : Run l Z y bytes ml ret R n0 Q h k n pc Ls st := by
  subst hp; exact K.step fun p e s m args below meth c T locs C X E t q => X.ldcInt C.1 C.2.2.2.2.1 (mvT C.2.2.2.1 w) (g := mkF m pc Ls.toArray st) rfl (hb C.2.1 hd) _ q
theorem r_ldc2 {i : Nat} {v : Int64} (pc' : Nat) (hd : decode bytes pc = .ok (.ldc2_w i, 3)) (hp : pc + 3 = pc') (w : (Jvm.Cond.constantLong y.cls i v).before a0 Z = true) (K : Run l Z y bytes ml ret R n0 Q h k n pc' Ls (.long v :: st)) : Run l Z y bytes ml ret R n0 Q h k n pc Ls st := by
  subst hp; exact K.step fun p e s m args below meth c T locs C X E t q => X.ldc2Long C.1 C.2.2.2.2.1 (mvT C.2.2.2.1 w) (g := mkF m pc Ls.toArray st) rfl (hb C.2.1 hd) _ q
/-! stores -/
def own_one : Slot → Bool
  | .unset => true
  | .val (.int _) => true
  | .val (.float _) => true
  | .val .null => true
  | .val (.ref _) => true
  | .val (.retAddr _) => true
  | _ => false
theorem own_one_spec {o : Slot} (h : own_one o = true) : o = .unset ∨ ∃ w, o = .val w ∧ w.category = 1 := by
  cases o with
  | unset => exact Or.inl rfl
  | second => cases h
  | val w => cases w <;> first | exact Or.inr ⟨_, rfl, rfl⟩ | cases h
theorem own_put {m : MethodId} {j : Nat} {v : Value} (h : Ls[j]?.map own_one = some true) (hv : v.category = 1) : storeLocals (mkF m pc Ls.toArray st).locals j v = some (Ls.set j (.val v)).toArray := by
  show storeLocals Ls.toArray j v = _
  cases ho : Ls[j]? with
  | none => rw [ho] at h; cases h
  | some o =>
    rw [ho] at h
    have := XS.store1 (l := Ls.toArray) (i := j) (v := v) (o := o) (by rw [List.getElem?_toArray]; exact ho) (own_one_spec (Option.some.inj h)) hv
    rw [this, List.setIfInBounds_toArray]
theorem r_istoreN {j : Fin 4} {v : Int32} (pc' : Nat) (hd : decode bytes pc = .ok (.istore_n j, 1)) (hp : pc + 1 = pc') (hl : Ls[j.val]?.map own_one = some true) (K : Run l Z y bytes ml ret R n0 Q h k n pc' (Ls.set j.val (.val (.int v))) st) : Run l Z y bytes ml ret R n0 Q h k n pc Ls (.int v :: st) := by
  subst hp; exact K.step fun p e s m args below meth c T locs C X E t q => XS.istoreN X.here C.1 rfl (hb C.2.1 hd) rfl (own_put hl rfl) q
theorem r_istore {j : Nat} {v : Int32} (pc' : Nat) (hd : decode bytes pc = .ok (.istore j, 2)) (hp : pc + 2 = pc') (hl : Ls[j]?.map own_one = some true) (K : Run l Z y bytes ml ret R n0 Q h k n pc' (Ls.set j (.val (.int v))) st) : Run l Z y bytes ml ret R n0 Q h k n pc Ls (.int v :: st) := by
  subst hp; exact K.step fun p e s m args below meth c T locs C X E t q => XS.istore X.here C.1 rfl (hb C.2.1 hd) rfl (own_put hl rfl) q
theorem r_astoreN {j : Fin 4} {a : Addr} (pc' : Nat) (hd : decode bytes pc = .ok (.astore_n j, 1)) (hp : pc + 1 = pc') (hl : Ls[j.val]?.map own_one = some true) (K : Run l Z y bytes ml ret R n0 Q h k n pc' (Ls.set j.val (.val (.ref a))) st) : Run l Z y bytes ml ret R n0 Q h k n pc Ls (.ref a :: st) := by
  subst hp; exact K.step fun p e s m args below meth c T locs C X E t q => XS.astoreN X.here C.1 rfl (hb C.2.1 hd) rfl rfl (own_put hl rfl) q
theorem r_astore {j : Nat} {a : Addr} (pc' : Nat) (hd : decode bytes pc = .ok (.astore j, 2)) (hp : pc + 2 = pc') (hl : Ls[j]?.map own_one = some true) (K : Run l Z y bytes ml ret R n0 Q h k n pc' (Ls.set j (.val (.ref a))) st) : Run l Z y bytes ml ret R n0 Q h k n pc Ls (.ref a :: st) := by
  subst hp; exact K.step fun p e s m args below meth c T locs C X E t q => XS.astore X.here C.1 rfl (hb C.2.1 hd) rfl rfl (own_put hl rfl) q
theorem own_cat {v : Value} (hv : v.isRef = true) : v.category = 1 := by cases v <;> first | rfl | cases hv
theorem r_astoreNV {j : Fin 4} {v : Value} (pc' : Nat) (hd : decode bytes pc = .ok (.astore_n j, 1)) (hp : pc + 1 = pc') (hl : Ls[j.val]?.map own_one = some true) (hv : v.isRef = true) (K : Run l Z y bytes ml ret R n0 Q h k n pc' (Ls.set j.val (.val v)) st) : Run l Z y bytes ml ret R n0 Q h k n pc Ls (v :: st) := by
  subst hp; exact K.step fun p e s m args below meth c T locs C X E t q => XS.astoreN X.here C.1 rfl (hb C.2.1 hd) rfl hv (own_put hl (own_cat hv)) q
theorem r_astoreV {j : Nat} {v : Value} (pc' : Nat) (hd : decode bytes pc = .ok (.astore j, 2)) (hp : pc + 2 = pc') (hl : Ls[j]?.map own_one = some true) (hv : v.isRef = true) (K : Run l Z y bytes ml ret R n0 Q h k n pc' (Ls.set j (.val v)) st) : Run l Z y bytes ml ret R n0 Q h k n pc Ls (v :: st) := by
  subst hp; exact K.step fun p e s m args below meth c T locs C X E t q => XS.astore X.here C.1 rfl (hb C.2.1 hd) rfl hv (own_put hl (own_cat hv)) q
theorem r_iinc {j : Nat} {cst : Int} {x : Int32} (v : Int32) (pc' : Nat) (hd : decode bytes pc = .ok (.iinc j cst, 3)) (hp : pc + 3 = pc') (hv : Int32.ofInt cst = v) (hl : Ls[j]? = some (.val (.int x))) (K : Run l Z y bytes ml ret R n0 Q h k n pc' (Ls.set j (.val (.int (x + v)))) st) : Run l Z y bytes ml ret R n0 Q h k n pc Ls st := by
  subst hp hv; exact K.step fun p e s m args below meth c T locs C X E t q => XS.iinc X.here C.1 rfl (hb C.2.1 hd) (own_get hl) (own_put (by rw [hl]; rfl) rfl) q
theorem r_iadd {x : Int32} {z : Int32} (pc' : Nat) (hd : decode bytes pc = .ok (.iadd, 1)) (hp : pc + 1 = pc') (K : Run l Z y bytes ml ret R n0 Q h k n pc' Ls (.int (x + z) :: st)) : Run l Z y bytes ml ret R n0 Q h k n pc Ls (.int z :: .int x :: st) := by
  subst hp; exact K.step fun p e s m args below meth c T locs C X E t q => XS.iadd X.here C.1 rfl (hb C.2.1 hd) rfl q
theorem r_isub {x : Int32} {z : Int32} (pc' : Nat) (hd : decode bytes pc = .ok (.isub, 1)) (hp : pc + 1 = pc') (K : Run l Z y bytes ml ret R n0 Q h k n pc' Ls (.int (x - z) :: st)) : Run l Z y bytes ml ret R n0 Q h k n pc Ls (.int z :: .int x :: st) := by
  subst hp; exact K.step fun p e s m args below meth c T locs C X E t q => XS.isub X.here C.1 rfl (hb C.2.1 hd) rfl q
theorem r_imul {x : Int32} {z : Int32} (pc' : Nat) (hd : decode bytes pc = .ok (.imul, 1)) (hp : pc + 1 = pc') (K : Run l Z y bytes ml ret R n0 Q h k n pc' Ls (.int (x * z) :: st)) : Run l Z y bytes ml ret R n0 Q h k n pc Ls (.int z :: .int x :: st) := by
  subst hp; exact K.step fun p e s m args below meth c T locs C X E t q => XS.imul X.here C.1 rfl (hb C.2.1 hd) rfl q
theorem r_iand {x : Int32} {z : Int32} (pc' : Nat) (hd : decode bytes pc = .ok (.iand, 1)) (hp : pc + 1 = pc') (K : Run l Z y bytes ml ret R n0 Q h k n pc' Ls (.int (x &&& z) :: st)) : Run l Z y bytes ml ret R n0 Q h k n pc Ls (.int z :: .int x :: st) := by
  subst hp; exact K.step fun p e s m args below meth c T locs C X E t q => XS.iand X.here C.1 rfl (hb C.2.1 hd) rfl q
theorem r_ior {x : Int32} {z : Int32} (pc' : Nat) (hd : decode bytes pc = .ok (.ior, 1)) (hp : pc + 1 = pc') (K : Run l Z y bytes ml ret R n0 Q h k n pc' Ls (.int (x ||| z) :: st)) : Run l Z y bytes ml ret R n0 Q h k n pc Ls (.int z :: .int x :: st) := by
  subst hp; exact K.step fun p e s m args below meth c T locs C X E t q => XT.ior X.here C.1 rfl (hb C.2.1 hd) rfl q
theorem r_ixor {x : Int32} {z : Int32} (pc' : Nat) (hd : decode bytes pc = .ok (.ixor, 1)) (hp : pc + 1 = pc') (K : Run l Z y bytes ml ret R n0 Q h k n pc' Ls (.int (x ^^^ z) :: st)) : Run l Z y bytes ml ret R n0 Q h k n pc Ls (.int z :: .int x :: st) := by
  subst hp; exact K.step fun p e s m args below meth c T locs C X E t q => XT.ixor X.here C.1 rfl (hb C.2.1 hd) rfl q
theorem r_ladd {x : Int64} {z : Int64} (pc' : Nat) (hd : decode bytes pc = .ok (.ladd, 1)) (hp : pc + 1 = pc') (K : Run l Z y bytes ml ret R n0 Q h k n pc' Ls (.long (x + z) :: st)) : Run l Z y bytes ml ret R n0 Q h k n pc Ls (.long z :: .long x :: st) := by
  subst hp; exact K.step fun p e s m args below meth c T locs C X E t q => XT.ladd X.here C.1 rfl (hb C.2.1 hd) rfl q
theorem r_lsub {x : Int64} {z : Int64} (pc' : Nat) (hd : decode bytes pc = .ok (.lsub, 1)) (hp : pc + 1 = pc') (K : Run l Z y bytes ml ret R n0 Q h k n pc' Ls (.long (x - z) :: st)) : Run l Z y bytes ml ret R n0 Q h k n pc Ls (.long z :: .long x :: st) := by
  subst hp; exact K.step fun p e s m args below meth c T locs C X E t q => XT.lsub X.here C.1 rfl (hb C.2.1 hd) rfl q
theorem r_lmul {x : Int64} {z : Int64} (pc' : Nat) (hd : decode bytes pc = .ok (.lmul, 1)) (hp : pc + 1 = pc') (K : Run l Z y bytes ml ret R n0 Q h k n pc' Ls (.long (x * z) :: st)) : Run l Z y bytes ml ret R n0 Q h k n pc Ls (.long z :: .long x :: st) := by
  subst hp; exact K.step fun p e s m args below meth c T locs C X E t q => XT.lmul X.here C.1 rfl (hb C.2.1 hd) rfl q
theorem r_land {x : Int64} {z : Int64} (pc' : Nat) (hd : decode bytes pc = .ok (.land, 1)) (hp : pc + 1 = pc') (K : Run l Z y bytes ml ret R n0 Q h k n pc' Ls (.long (x &&& z) :: st)) : Run l Z y bytes ml ret R n0 Q h k n pc Ls (.long z :: .long x :: st) := by
  subst hp; exact K.step fun p e s m args below meth c T locs C X E t q => XT.land X.here C.1 rfl (hb C.2.1 hd) rfl q
theorem r_lor {x : Int64} {z : Int64} (pc' : Nat) (hd : decode bytes pc = .ok (.lor, 1)) (hp : pc + 1 = pc') (K : Run l Z y bytes ml ret R n0 Q h k n pc' Ls (.long (x ||| z) :: st)) : Run l Z y bytes ml ret R n0 Q h k n pc Ls (.long z :: .long x :: st) := by
  subst hp; exact K.step fun p e s m args below meth c T locs C X E t q => XT.lor X.here C.1 rfl (hb C.2.1 hd) rfl q
theorem r_lxor {x : Int64} {z : Int64} (pc' : Nat) (hd : decode bytes pc = .ok (.lxor, 1)) (hp : pc + 1 = pc') (K : Run l Z y bytes ml ret R n0 Q h k n pc' Ls (.long (x ^^^ z) :: st)) : Run l Z y bytes ml ret R n0 Q h k n pc Ls (.long z :: .long x :: st) := by
  subst hp; exact K.step fun p e s m args below meth c T locs C X E t q => XT.lxor X.here C.1 rfl (hb C.2.1 hd) rfl q
theorem r_ishl {x : Int32} {z : Int32} (pc' : Nat) (hd : decode bytes pc = .ok (.ishl, 1)) (hp : pc + 1 = pc') (K : Run l Z y bytes ml ret R n0 Q h k n pc' Ls (.int (x <<< (z &&& 31)) :: st)) : Run l Z y bytes ml ret R n0 Q h k n pc Ls (.int z :: .int x :: st) := by
  subst hp; exact K.step fun p e s m args below meth c T locs C X E t q => XT.ishl X.here C.1 rfl (hb C.2.1 hd) rfl q
theorem r_ishr {x : Int32} {z : Int32} (pc' : Nat) (hd : decode bytes pc = .ok (.ishr, 1)) (hp : pc + 1 = pc') (K : Run l Z y bytes ml ret R n0 Q h k n pc' Ls (.int (x >>> (z &&& 31)) :: st)) : Run l Z y bytes ml ret R n0 Q h k n pc Ls (.int z :: .int x :: st) := by
  subst hp; exact K.step fun p e s m args below meth c T locs C X E t q => XT.ishr X.here C.1 rfl (hb C.2.1 hd) rfl q
theorem r_iushr {x : Int32} {z : Int32} (pc' : Nat) (hd : decode bytes pc = .ok (.iushr, 1)) (hp : pc + 1 = pc') (K : Run l Z y bytes ml ret R n0 Q h k n pc' Ls (.int (XT.ushr x z) :: st)) : Run l Z y bytes ml ret R n0 Q h k n pc Ls (.int z :: .int x :: st) := by
  subst hp; exact K.step fun p e s m args below meth c T locs C X E t q => XT.iushr X.here C.1 rfl (hb C.2.1 hd) rfl q
theorem r_lshl {x : Int64} {z : Int32} (pc' : Nat) (hd : decode bytes pc = .ok (.lshl, 1)) (hp : pc + 1 = pc') (K : Run l Z y bytes ml ret R n0 Q h k n pc' Ls (.long (x <<< (z.toInt64 &&& 63)) :: st)) : Run l Z y bytes ml ret R n0 Q h k n pc Ls (.int z :: .long x :: st) := by
  subst hp; exact K.step fun p e s m args below meth c T locs C X E t q => XT.lshl X.here C.1 rfl (hb C.2.1 hd) rfl q
theorem r_lshr {x : Int64} {z : Int32} (pc' : Nat) (hd : decode bytes pc = .ok (.lshr, 1)) (hp : pc + 1 = pc') (K : Run l Z y bytes ml ret R n0 Q h k n pc' Ls (.long (x >>> (z.toInt64 &&& 63)) :: st)) : Run l Z y bytes ml ret R n0 Q h k n pc Ls (.int z :: .long x :: st) := by
  subst hp; exact K.step fun p e s m args below meth c T locs C X E t q => XT.lshr X.here C.1 rfl (hb C.2.1 hd) rfl q
theorem r_lushr {x : Int64} {z : Int32} (pc' : Nat) (hd : decode bytes pc = .ok (.lushr, 1)) (hp : pc + 1 = pc') (K : Run l Z y bytes ml ret R n0 Q h k n pc' Ls (.long (XT.ushrL x z) :: st)) : Run l Z y bytes ml ret R n0 Q h k n pc Ls (.int z :: .long x :: st) := by
  subst hp; exact K.step fun p e s m args below meth c T locs C X E t q => XT.lushr X.here C.1 rfl (hb C.2.1 hd) rfl q
theorem r_idiv {x : Int32} {z : Int32} (pc' : Nat) (hd : decode bytes pc = .ok (.idiv, 1)) (hp : pc + 1 = pc') (hy : z ≠ 0) (K : Run l Z y bytes ml ret R n0 Q h k n pc' Ls (.int (x / z) :: st)) : Run l Z y bytes ml ret R n0 Q h k n pc Ls (.int z :: .int x :: st) := by
  subst hp; exact K.step fun p e s m args below meth c T locs C X E t q => XS.idiv X.here C.1 rfl (hb C.2.1 hd) rfl hy q
theorem r_lcmp {x : Int64} {z : Int64} (pc' : Nat) (hd : decode bytes pc = .ok (.lcmp, 1)) (hp : pc + 1 = pc') (K : Run l Z y bytes ml ret R n0 Q h k n pc' Ls (.int (XT.cmpL x z) :: st)) : Run l Z y bytes ml ret R n0 Q h k n pc Ls (.long z :: .long x :: st) := by
  subst hp; exact K.step fun p e s m args below meth c T locs C X E t q => XT.lcmp X.here C.1 rfl (hb C.2.1 hd) rfl q
theorem r_irem {x z : Int32} (pc' : Nat) (hd : decode bytes pc = .ok (.irem, 1)) (hp : pc + 1 = pc') (hy : z ≠ 0) (K : Run l Z y bytes ml ret R n0 Q h k n pc' Ls (.int (x % z) :: st)) : Run l Z y bytes ml ret R n0 Q h k n pc Ls (.int z :: .int x :: st) := by
  subst hp; exact K.step fun p e s m args below meth c T locs C X E t q => iremM X C.1 rfl (hb C.2.1 hd) rfl hy q
theorem r_ineg {x : Int32} (pc' : Nat) (hd : decode bytes pc = .ok (.ineg, 1)) (hp : pc + 1 = pc') (K : Run l Z y bytes ml ret R n0 Q h k n pc' Ls (.int (-x) :: st)) : Run l Z y bytes ml ret R n0 Q h k n pc Ls (.int x :: st) := by
  subst hp; exact K.step fun p e s m args below meth c T locs C X E t q => XS.ineg X.here C.1 rfl (hb C.2.1 hd) rfl q
theorem r_i2l {x : Int32} (pc' : Nat) (hd : decode bytes pc = .ok (.i2l, 1)) (hp : pc + 1 = pc') (K : Run l Z y bytes ml ret R n0 Q h k n pc' Ls (.long x.toInt64 :: st)) : Run l Z y bytes ml ret R n0 Q h k n pc Ls (.int x :: st) := by
  subst hp; exact K.step fun p e s m args below meth c T locs C X E t q => XT.i2l X.here C.1 rfl (hb C.2.1 hd) rfl q
theorem r_l2i {x : Int64} (pc' : Nat) (hd : decode bytes pc = .ok (.l2i, 1)) (hp : pc + 1 = pc') (K : Run l Z y bytes ml ret R n0 Q h k n pc' Ls (.int x.toInt32 :: st)) : Run l Z y bytes ml ret R n0 Q h k n pc Ls (.long x :: st) := by
  subst hp; exact K.step fun p e s m args below meth c T locs C X E t q => XT.l2i X.here C.1 rfl (hb C.2.1 hd) rfl q
theorem r_i2b {x : Int32} (pc' : Nat) (hd : decode bytes pc = .ok (.i2b, 1)) (hp : pc + 1 = pc') (K : Run l Z y bytes ml ret R n0 Q h k n pc' Ls (.int x.toInt8.toInt32 :: st)) : Run l Z y bytes ml ret R n0 Q h k n pc Ls (.int x :: st) := by
  subst hp; exact K.step fun p e s m args below meth c T locs C X E t q => XT.i2b X.here C.1 rfl (hb C.2.1 hd) rfl q
theorem r_i2c {x : Int32} (pc' : Nat) (hd : decode bytes pc = .ok (.i2c, 1)) (hp : pc + 1 = pc') (K : Run l Z y bytes ml ret R n0 Q h k n pc' Ls (.int x.toUInt32.toUInt16.toUInt32.toInt32 :: st)) : Run l Z y bytes ml ret R n0 Q h k n pc Ls (.int x :: st) := by
  subst hp; exact K.step fun p e s m args below meth c T locs C X E t q => XT.i2c X.here C.1 rfl (hb C.2.1 hd) rfl q
theorem r_i2s {x : Int32} (pc' : Nat) (hd : decode bytes pc = .ok (.i2s, 1)) (hp : pc + 1 = pc') (K : Run l Z y bytes ml ret R n0 Q h k n pc' Ls (.int x.toInt16.toInt32 :: st)) : Run l Z y bytes ml ret R n0 Q h k n pc Ls (.int x :: st) := by
  subst hp; exact K.step fun p e s m args below meth c T locs C X E t q => XT.i2s X.here C.1 rfl (hb C.2.1 hd) rfl q
theorem r_dup {x : Value} (pc' : Nat) (hd : decode bytes pc = .ok (.dup, 1)) (hp : pc + 1 = pc') (hc : x.category = 1) (K : Run l Z y bytes ml ret R n0 Q h k n pc' Ls (x :: x :: st)) : Run l Z y bytes ml ret R n0 Q h k n pc Ls (x :: st) := by
  subst hp; exact K.step fun p e s m args below meth c T locs C X E t q => XS.dup X.here C.1 rfl (hb C.2.1 hd) rfl hc q
theorem r_dupX1 {x z : Value} (pc' : Nat) (hd : decode bytes pc = .ok (.dup_x1, 1)) (hp : pc + 1 = pc') (hc : x.category = 1) (hc' : z.category = 1) (K : Run l Z y bytes ml ret R n0 Q h k n pc' Ls (x :: z :: x :: st)) : Run l Z y bytes ml ret R n0 Q h k n pc Ls (x :: z :: st) := by
  subst hp; exact K.step fun p e s m args below meth c T locs C X E t q => XT.dupX1 X.here C.1 rfl (hb C.2.1 hd) rfl hc hc' q
theorem r_pop {x : Value} (pc' : Nat) (hd : decode bytes pc = .ok (.pop, 1)) (hp : pc + 1 = pc') (hc : x.category = 1) (K : Run l Z y bytes ml ret R n0 Q h k n pc' Ls st) : Run l Z y bytes ml ret R n0 Q h k n pc Ls (x :: st) := by
  subst hp; exact K.step fun p e s m args below meth c T locs C X E t q => XT.pop X.here C.1 rfl (hb C.2.1 hd) rfl hc q
theorem r_goto {o : Int} (pc' : Nat) (hd : decode bytes pc = .ok (.goto o, 3)) (hp : (0 : Int) ≤ (pc : Int) + o ∧ ((pc : Int) + o).toNat = pc') (K : Run l Z y bytes ml ret R n0 Q h k n pc' Ls st) : Run l Z y bytes ml ret R n0 Q h k n pc Ls st :=
  K.step fun p e s m args below meth c T locs C X E t q => XS.goto X.here C.1 rfl rfl (hb C.2.1 hd) hp.1 hp.2 q
theorem r_icmp_eq {x z : Int32} {o : Int} (pc' pc'' : Nat) (hd : decode bytes pc = .ok (.if_icmp .eq o, 3)) (hp : (0 : Int) ≤ (pc : Int) + o ∧ ((pc : Int) + o).toNat = pc') (hq : pc + 3 = pc'') (K1 : x = z → Run l Z y bytes ml ret R n0 Q h k n pc' Ls st) (K2 : ¬ x = z → Run l Z y bytes ml ret R n0 Q h k n pc'' Ls st) : Run l Z y bytes ml ret R n0 Q h k n pc Ls (.int z :: .int x :: st) := by
  subst hq
  by_cases q' : x = z
  · exact (K1 q').step fun p e s m args below meth c T locs C X E t q => XS.icmpYes X.here C.1 rfl rfl (hb C.2.1 hd) rfl (teq q').1 hp.1 hp.2 q
  · exact (K2 q').step fun p e s m args below meth c T locs C X E t q => XS.icmpNo X.here C.1 rfl (hb C.2.1 hd) rfl (feq q').1 q
theorem r_if_eq {x : Int32} {o : Int} (pc' pc'' : Nat) (hd : decode bytes pc = .ok (.ifCond .eq o, 3)) (hp : (0 : Int) ≤ (pc : Int) + o ∧ ((pc : Int) + o).toNat = pc') (hq : pc + 3 = pc'') (K1 : x = 0 → Run l Z y bytes ml ret R n0 Q h k n pc' Ls st) (K2 : ¬ x = 0 → Run l Z y bytes ml ret R n0 Q h k n pc'' Ls st) : Run l Z y bytes ml ret R n0 Q h k n pc Ls (.int x :: st) := by
  subst hq
  by_cases q' : x = 0
  · exact (K1 q').step fun p e s m args below meth c T locs C X E t q => XS.ifYes X.here C.1 rfl rfl (hb C.2.1 hd) rfl ((if0 _ _).trans (teq q').1) hp.1 hp.2 q
  · exact (K2 q').step fun p e s m args below meth c T locs C X E t q => XS.ifNo X.here C.1 rfl (hb C.2.1 hd) rfl ((if0 _ _).trans (feq q').1) q
theorem r_icmp_ne {x z : Int32} {o : Int} (pc' pc'' : Nat) (hd : decode bytes pc = .ok (.if_icmp .ne o, 3)) (hp : (0 : Int) ≤ (pc : Int) + o ∧ ((pc : Int) + o).toNat = pc') (hq : pc + 3 = pc'') (K1 : ¬ x = z → Run l Z y bytes ml ret R n0 Q h k n pc' Ls st) (K2 : x = z → Run l Z y bytes ml ret R n0 Q h k n pc'' Ls st) : Run l Z y bytes ml ret R n0 Q h k n pc Ls (.int z :: .int x :: st) := by
  subst hq
  by_cases q' : x = z
  · exact (K2 q').step fun p e s m args below meth c T locs C X E t q => XS.icmpNo X.here C.1 rfl (hb C.2.1 hd) rfl (teq q').2 q
  · exact (K1 q').step fun p e s m args below meth c T locs C X E t q => XS.icmpYes X.here C.1 rfl rfl (hb C.2.1 hd) rfl (feq q').2 hp.1 hp.2 q
theorem r_if_ne {x : Int32} {o : Int} (pc' pc'' : Nat) (hd : decode bytes pc = .ok (.ifCond .ne o, 3)) (hp : (0 : Int) ≤ (pc : Int) + o ∧ ((pc : Int) + o).toNat = pc') (hq : pc + 3 = pc'') (K1 : ¬ x = 0 → Run l Z y bytes ml ret R n0 Q h k n pc' Ls st) (K2 : x = 0 → Run l Z y bytes ml ret R n0 Q h k n pc'' Ls st) : Run l Z y bytes ml ret R n0 Q h k n pc Ls (.int x :: st) := by
  subst hq
  by_cases q' : x = 0
  · exact (K2 q').step fun p e s m args below meth c T locs C X E t q => XS.ifNo X.here C.1 rfl (hb C.2.1 hd) rfl ((if0 _ _).trans (teq q').2) q
  · exact (K1 q').step fun p e s m args below meth c T locs C X E t q => XS.ifYes X.here C.1 rfl rfl (hb C.2.1 hd) rfl ((if0 _ _).trans (feq q').2) hp.1 hp.2 q
theorem r_icmp_lt {x z : Int32} {o : Int} (pc' pc'' : Nat) (hd : decode bytes pc = .ok (.if_icmp .lt o, 3)) (hp : (0 : Int) ≤ (pc : Int) + o ∧ ((pc : Int) + o).toNat = pc') (hq : pc + 3 = pc'') (K1 : x < z → Run l Z y bytes ml ret R n0 Q h k n pc' Ls st) (K2 : ¬ x < z → Run l Z y bytes ml ret R n0 Q h k n pc'' Ls st) : Run l Z y bytes ml ret R n0 Q h k n pc Ls (.int z :: .int x :: st) := by
  subst hq
  by_cases q' : x < z
  · exact (K1 q').step fun p e s m args below meth c T locs C X E t q => XS.icmpYes X.here C.1 rfl rfl (hb C.2.1 hd) rfl (tlt q').1 hp.1 hp.2 q
  · exact (K2 q').step fun p e s m args below meth c T locs C X E t q => XS.icmpNo X.here C.1 rfl (hb C.2.1 hd) rfl (flt q').1 q
theorem r_if_lt {x : Int32} {o : Int} (pc' pc'' : Nat) (hd : decode bytes pc = .ok (.ifCond .lt o, 3)) (hp : (0 : Int) ≤ (pc : Int) + o ∧ ((pc : Int) + o).toNat = pc') (hq : pc + 3 = pc'') (K1 : x < 0 → Run l Z y bytes ml ret R n0 Q h k n pc' Ls st) (K2 : ¬ x < 0 → Run l Z y bytes ml ret R n0 Q h k n pc'' Ls st) : Run l Z y bytes ml ret R n0 Q h k n pc Ls (.int x :: st) := by
  subst hq
  by_cases q' : x < 0
  · exact (K1 q').step fun p e s m args below meth c T locs C X E t q => XS.ifYes X.here C.1 rfl rfl (hb C.2.1 hd) rfl ((if0 _ _).trans (tlt q').1) hp.1 hp.2 q
  · exact (K2 q').step fun p e s m args below meth c T locs C X E t q => XS.ifNo X.here C.1 rfl (hb C.2.1 hd) rfl ((if0 _ _).trans (flt q').1) q
theorem r_icmp_ge {x z : Int32} {o : Int} (pc' pc'' : Nat) (hd : decode bytes pc = .ok (.if_icmp .ge o, 3)) (hp : (0 : Int) ≤ (pc : Int) + o ∧ ((pc : Int) + o).toNat = pc') (hq : pc + 3 = pc'') (K1 : ¬ x < z → Run l Z y bytes ml ret R n0 Q h k n pc' Ls st) (K2 : x < z → Run l Z y bytes ml ret R n0 Q h k n pc'' Ls st) : Run l Z y bytes ml ret R n0 Q h k n pc Ls (.int z :: .int x :: st) := by
  subst hq
  by_cases q' : x < z
  · exact (K2 q').step fun p e s m args below meth c T locs C X E t q => XS.icmpNo X.here C.1 rfl (hb C.2.1 hd) rfl (tlt q').2.1 q
  · exact (K1 q').step fun p e s m args below meth c T locs C X E t q => XS.icmpYes X.here C.1 rfl rfl (hb C.2.1 hd) rfl (flt q').2.1 hp.1 hp.2 q
theorem r_if_ge {x : Int32} {o : Int} (pc' pc'' : Nat) (hd : decode bytes pc = .ok (.ifCond .ge o, 3)) (hp : (0 : Int) ≤ (pc : Int) + o ∧ ((pc : Int) + o).toNat = pc') (hq : pc + 3 = pc'') (K1 : ¬ x < 0 → Run l Z y bytes ml ret R n0 Q h k n pc' Ls st) (K2 : x < 0 → Run l Z y bytes ml ret R n0 Q h k n pc'' Ls st) : Run l Z y bytes ml ret R n0 Q h k n pc Ls (.int x :: st) := by
  subst hq
  by_cases q' : x < 0
  · exact (K2 q').step fun p e s m args below meth c T locs C X E t q => XS.ifNo X.here C.1 rfl (hb C.2.1 hd) rfl ((if0 _ _).trans (tlt q').2.1) q
  · exact (K1 q').step fun p e s m args below meth c T locs C X E t q => XS.ifYes X.here C.1 rfl rfl (hb C.2.1 hd) rfl ((if0 _ _).trans (flt q').2.1) hp.1 hp.2 q
theorem r_icmp_gt {x z : Int32} {o : Int} (pc' pc'' : Nat) (hd : decode bytes pc = .ok (.if_icmp .gt o, 3)) (hp : (0 : Int) ≤ (pc : Int) + o ∧ ((pc : Int) + o).toNat = pc') (hq : pc + 3 = pc'') (K1 : z < x → Run l Z y bytes ml ret R n0 Q h k n pc' Ls st) (K2 : ¬ z < x → Run l Z y bytes ml ret R n0 Q h k n pc'' Ls st) : Run l Z y bytes ml ret R n0 Q h k n pc Ls (.int z :: .int x :: st) := by
  subst hq
  by_cases q' : z < x
  · exact (K1 q').step fun p e s m args below meth c T locs C X E t q => XS.icmpYes X.here C.1 rfl rfl (hb C.2.1 hd) rfl (tlt q').2.2.1 hp.1 hp.2 q
  · exact (K2 q').step fun p e s m args below meth c T locs C X E t q => XS.icmpNo X.here C.1 rfl (hb C.2.1 hd) rfl (flt q').2.2.1 q
theorem r_if_gt {x : Int32} {o : Int} (pc' pc'' : Nat) (hd : decode bytes pc = .ok (.ifCond .gt o, 3)) (hp : (0 : Int) ≤ (pc : Int) + o ∧ ((pc : Int) + o).toNat = pc') (hq : pc + 3 = pc'') (K1 : 0 < x → Run l Z y bytes ml ret R n0 Q h k n pc' Ls st) (K2 : ¬ 0 < x → Run l Z y bytes ml ret R n0 Q h k n pc'' Ls st) : Run l Z y bytes ml ret R n0 Q h k n pc Ls (.int x :: st) := by
  subst hq
  by_cases q' : 0 < x
  · exact (K1 q').step fun p e s m args below meth c T locs C X E t q => XS.ifYes X.here C.1 rfl rfl (hb C.2.1 hd) rfl ((if0 _ _).trans (tlt q').2.2.1) hp.1 hp.2 q
  · exact (K2 q').step fun p e s m args below meth c T locs C X E t q => XS.ifNo X.here C.1 rfl (hb C.2.1 hd) rfl ((if0 _ _).trans (flt q').2.2.1) q
theorem r_icmp_le {x z : Int32} {o : Int} (pc' pc'' : Nat) (hd : decode bytes pc = .ok (.if_icmp .le o, 3)) (hp : (0 : Int) ≤ (pc : Int) + o ∧ ((pc : Int) + o).toNat = pc') (hq : pc + 3 = pc'') (K1 : ¬ z < x → Run l Z y bytes ml ret R n0 Q h k n pc' Ls st) (K2 : z < x → Run l Z y bytes ml ret R n0 Q h k n pc'' Ls st) : Run l Z y bytes ml ret R n0 Q h k n pc Ls (.int z :: .int x :: st) := by
  subst hq
  by_cases q' : z < x
  · exact (K2 q').step fun p e s m args below meth c T locs C X E t q => XS.icmpNo X.here C.1 rfl (hb C.2.1 hd) rfl (tlt q').2.2.2 q
  · exact (K1 q').step fun p e s m args below meth c T locs C X E t q => XS.icmpYes X.here C.1 rfl rfl (hb C.2.1 hd) rfl (flt q').2.2.2 hp.1 hp.2 q
theorem r_if_le {x : Int32} {o : Int} (pc' pc'' : Nat) (hd : decode bytes pc = .ok (.ifCond .le o, 3)) (hp : (0 : Int) ≤ (pc : Int) + o ∧ ((pc : Int) + o).toNat = pc') (hq : pc + 3 = pc'') (K1 : ¬ 0 < x → Run l Z y bytes ml ret R n0 Q h k n pc' Ls st) (K2 : 0 < x → Run l Z y bytes ml ret R n0 Q h k n pc'' Ls st) : Run l Z y bytes ml ret R n0 Q h k n pc Ls (.int x :: st) := by
  subst hq
  by_cases q' : 0 < x
  · exact (K2 q').step fun p e s m args below meth c T locs C X E t q => XS.ifNo X.here C.1 rfl (hb C.2.1 hd) rfl ((if0 _ _).trans (tlt q').2.2.2) q
  · exact (K1 q').step fun p e s m args below meth c T locs C X E t q => XS.ifYes X.here C.1 rfl rfl (hb C.2.1 hd) rfl ((if0 _ _).trans (flt q').2.2.2) hp.1 hp.2 q
theorem r_acmp_eq {x z : Value} {o : Int} (pc' pc'' : Nat) (hd : decode bytes pc = .ok (.if_acmp .eq o, 3)) (hp : (0 : Int) ≤ (pc : Int) + o ∧ ((pc : Int) + o).toNat = pc') (hq : pc + 3 = pc'') (hx : x.isRef = true) (hz : z.isRef = true) (K1 : x = z → Run l Z y bytes ml ret R n0 Q h k n pc' Ls st) (K2 : ¬ x = z → Run l Z y bytes ml ret R n0 Q h k n pc'' Ls st) : Run l Z y bytes ml ret R n0 Q h k n pc Ls (z :: x :: st) := by
  subst hq
  by_cases q' : x = z
  · exact (K1 q').step fun p e s m args below meth c T locs C X E t q => XT.acmpYes X.here C.1 rfl rfl (hb C.2.1 hd) rfl hx hz (XT.aa_eq_t q') hp.1 hp.2 q
  · exact (K2 q').step fun p e s m args below meth c T locs C X E t q => XT.acmpNo X.here C.1 rfl (hb C.2.1 hd) rfl hx hz (XT.aa_eq_f q') q
theorem r_acmp_ne {x z : Value} {o : Int} (pc' pc'' : Nat) (hd : decode bytes pc = .ok (.if_acmp .ne o, 3)) (hp : (0 : Int) ≤ (pc : Int) + o ∧ ((pc : Int) + o).toNat = pc') (hq : pc + 3 = pc'') (hx : x.isRef = true) (hz : z.isRef = true) (K1 : ¬ x = z → Run l Z y bytes ml ret R n0 Q h k n pc' Ls st) (K2 : x = z → Run l Z y bytes ml ret R n0 Q h k n pc'' Ls st) : Run l Z y bytes ml ret R n0 Q h k n pc Ls (z :: x :: st) := by
  subst hq
  by_cases q' : x = z
  · exact (K2 q').step fun p e s m args below meth c T locs C X E t q => XT.acmpNo X.here C.1 rfl (hb C.2.1 hd) rfl hx hz (XT.aa_ne_f q') q
  · exact (K1 q').step fun p e s m args below meth c T locs C X E t q => XT.acmpYes X.here C.1 rfl rfl (hb C.2.1 hd) rfl hx hz (XT.aa_ne_t q') hp.1 hp.2 q
theorem r_nonnullYes {a : Addr} {o : Int} (pc' : Nat) (hd : decode bytes pc = .ok (.ifnonnull o, 3)) (hp : (0 : Int) ≤ (pc : Int) + o ∧ ((pc : Int) + o).toNat = pc') (K : Run l Z y bytes ml ret R n0 Q h k n pc' Ls st) : Run l Z y bytes ml ret R n0 Q h k n pc Ls (.ref a :: st) :=
  K.step fun p e s m args below meth c T locs C X E t q => XT.ifnonnullYes X.here C.1 rfl rfl (hb C.2.1 hd) rfl hp.1 hp.2 q
theorem r_nonnullNo {o : Int} (pc'' : Nat) (hd : decode bytes pc = .ok (.ifnonnull o, 3)) (hq : pc + 3 = pc'') (K : Run l Z y bytes ml ret R n0 Q h k n pc'' Ls st) : Run l Z y bytes ml ret R n0 Q h k n pc Ls (.null :: st) := by
  subst hq; exact K.step fun p e s m args below meth c T locs C X E t q => XT.ifnonnullNo X.here C.1 rfl (hb C.2.1 hd) rfl q
theorem r_nullYes {o : Int} (pc' : Nat) (hd : decode bytes pc = .ok (.ifnull o, 3)) (hp : (0 : Int) ≤ (pc : Int) + o ∧ ((pc : Int) + o).toNat = pc') (K : Run l Z y bytes ml ret R n0 Q h k n pc' Ls st) : Run l Z y bytes ml ret R n0 Q h k n pc Ls (.null :: st) :=
  K.step fun p e s m args below meth c T locs C X E t q => XS.ifnullYes X.here C.1 rfl rfl (hb C.2.1 hd) rfl hp.1 hp.2 q
theorem r_nullNo {a : Addr} {o : Int} (pc'' : Nat) (hd : decode bytes pc = .ok (.ifnull o, 3)) (hq : pc + 3 = pc'') (K : Run l Z y bytes ml ret R n0 Q h k n pc'' Ls st) : Run l Z y bytes ml ret R n0 Q h k n pc Ls (.ref a :: st) := by
  subst hq; exact K.step fun p e s m args below meth c T locs C X E t q => XS.ifnullNo X.here C.1 rfl (hb C.2.1 hd) rfl q
/-! fields, statics, objects, arrays -/
theorem r_getstatic {i : Nat} {R0 O f d : String} {v : Value} (pc' : Nat) (hd : decode bytes pc = .ok (.getstatic i, 3)) (hp : pc + 3 = pc') (w : (Jvm.Cond.fieldLink y.cls i R0 f d).before a0 Z = true) (via : Via Z R0 O f d) (F : Sta Z h O f d v)
    (K : Run l Z y bytes ml ret R n0 Q h k n pc' Ls (v :: st)) : Run l Z y bytes ml ret R n0 Q h k n pc Ls st := by
  subst hp
  exact K.move fun p e s m args below meth c T locs C X N E => by
    obtain ⟨T', X', e', q⟩ := getS X C.1 C.2.2.2.1 (host := "") C.2.2.2.2.1 w via E F (g := mkF m pc Ls.toArray st) rfl (hb C.2.1 hd)
    exact ⟨T', _, X', N, e', q⟩
theorem r_getfield {i : Nat} {R0 O f d host : String} {v : Value} {a : Addr} (pc' : Nat) (hd : decode bytes pc = .ok (.getfield i, 3)) (hp : pc + 3 = pc') (w : (Jvm.Cond.fieldLink y.cls i R0 f d).before a0 Z = true ∨ (Jvm.Cond.fieldLinkNest y.cls i R0 f d host).before a0 Z = true) (via : Via Z R0 O f d) (F : Fld Z h a O f d v)
    (K : Run l Z y bytes ml ret R n0 Q h k n pc' Ls (v :: st)) : Run l Z y bytes ml ret R n0 Q h k n pc Ls (.ref a :: st) := by
  subst hp
  exact K.move fun p e s m args below meth c T locs C X N E => by
    obtain ⟨T', X', e', q⟩ := getF X C.1 C.2.2.2.1 C.2.2.2.2.1 w via E F (g := mkF m pc Ls.toArray (.ref a :: st)) rfl rfl (hb C.2.1 hd)
    exact ⟨T', _, X', N, e', q⟩
theorem r_putfield {i kk : Nat} {R0 O f d host C' : String} {ty : FieldType} {v old : Value} {a : Addr} (pc' : Nat) (hd : decode bytes pc = .ok (.putfield i, 3)) (hp : pc + 3 = pc') (w : (Jvm.Cond.fieldLink y.cls i R0 f d).before a0 Z = true ∨ (Jvm.Cond.fieldLinkNest y.cls i R0 f d host).before a0 Z = true) (via : Via Z R0 O f d) (F : Fld Z h a O f d old) (E1 : Exa Z h a C')
    (L : (Jvm.Cond.lays C' O f d).before a0 Z = true ∨ ((Jvm.Cond.laysFinal C' O f d).before a0 Z = true ∧ y.cls = O ∧ y.name = "<init>")) (wi : (Jvm.Cond.instantiable C' kk).before a0 Z = true) (hty : parseFieldDescriptor d = some ty) (hn : narrow ty v = v) (hf : fits ty v = true) (ha : n0 ≤ a)
    (K : ∀ h', Wr h h' a (Jvm.RoadKit.slotOf Z O f d) v → Run l Z y bytes ml ret R n0 Q h' k n pc' Ls st) : Run l Z y bytes ml ret R n0 Q h k n pc Ls (v :: .ref a :: st) := fun p e s m args below meth c T locs C X N E => by
  subst hp
  obtain ⟨T', h', X', e', W, q⟩ := putF X C.1 C.2.2.2.1 C.2.2.2.2.1 w via E F E1 (L.imp id fun ⟨u1, u2, u3⟩ => ⟨u1, u2, C.2.2.2.2.2.1.trans u3⟩) wi hty hn hf (g := mkF m pc Ls.toArray (v :: .ref a :: st)) rfl rfl (hb C.2.1 hd)
  obtain ⟨s2, o, h1, h2⟩ := K h' W p e s m args below meth c T' _ C X' (Fr.snoc X' N ha) e'
  exact ⟨s2, o, q _ h1, h2⟩
theorem r_new {i nn : Nat} {C' : String} (pc' : Nat) (hd : decode bytes pc = .ok (.new i, 3)) (hp : pc + 3 = pc') (w : (Jvm.Cond.classLink y.cls i C').before a0 Z = true) (wi : (Jvm.Cond.instantiable C' nn).before a0 Z = true) (wz : (Jvm.Cond.initialized C').before a0 Z = true) (hc : k + 1 ≤ R.cells) (hl : n + nn ≤ R.slots)
    (K : ∀ h' a, a = h.size → Ext h h' → Exa Z h' a C' → (∀ {O nm d : String} {ty : FieldType}, Laid Z a0 C' O nm d → parseFieldDescriptor d = some ty → Fld Z h' a O nm d (defaultValue ty)) → Run l Z y bytes ml ret R n0 Q h' (k + 1) (n + nn) pc' Ls (.ref a :: st)) : Run l Z y bytes ml ret R n0 Q h k n pc Ls st := fun p e s m args below meth c T locs C X N E => by
  subst hp
  obtain ⟨T', h', X', e', E2, A2, D2, -, q⟩ := newO X C.1 C.2.2.2.1 C.2.2.2.2.1 w wi wz E (g := mkF m pc Ls.toArray st) rfl (hb C.2.1 hd) hc hl
  obtain ⟨s2, o, h1, h2⟩ := K h' h.size rfl E2 A2 D2 p e s m args below meth c T' _ C X' N e'
  exact ⟨s2, o, q _ h1, h2⟩
theorem own_rep {ty : FieldType} {z : Int32} {a : Addr} {cA : ClassId} (N : Nat) (A : Arv Z h a cA ty z [] (defaultValue ty)) : Arv Z h a cA ty z (List.replicate N (defaultValue ty)) (defaultValue ty) :=
  A.pad fun i => by have := pad_rep [] (defaultValue ty) N i; simpa using this
theorem r_newarray {aty : ArrayType} {z : Int32} (cap : Nat) (ad : String) (pc' : Nat) (hd : decode bytes pc = .ok (.newarray aty, 2)) (hp : pc + 2 = pc') (w : (Jvm.Cond.arrayClass (newarray.typeOf aty)).before a0 Z = true) (hz : ¬ z < 0) (hcap : z.toNatClampNeg ≤ cap) (hb8 : cap * 8 ≤ 536870912) (had : "[" ++ (newarray.typeOf aty).toString = ad) (hc : k + 1 ≤ R.cells) (hl : n + cap ≤ R.slots)
    (K : ∀ h' a cA, a = h.size → Ext h h' → Arv Z h' a cA (newarray.typeOf aty) z (List.replicate z.toNatClampNeg (defaultValue (newarray.typeOf aty))) (defaultValue (newarray.typeOf aty)) → Exa Z h' a ad → Run l Z y bytes ml ret R n0 Q h' (k + 1) (n + cap) pc' Ls (.ref a :: st)) : Run l Z y bytes ml ret R n0 Q h k n pc Ls (.int z :: st) := fun p e s m args below meth c T locs C X N E => by
  subst hp
  obtain ⟨T', h', cA, X', e', E2, A2, E3, q⟩ := newPE X C.1 C.2.2.2.1 w E (g := mkF m pc Ls.toArray (.int z :: st)) rfl (hb C.2.1 hd) rfl hz hcap hb8 hc hl had
  obtain ⟨s2, o, h1, h2⟩ := K h' h.size cA rfl E2 (own_rep _ (Arv.new A2 hz)) E3 p e s m args below meth c T' _ C X' N e'
  exact ⟨s2, o, q _ h1, h2⟩
theorem r_anewarray {i : Nat} {C' : String} {z : Int32} (cap : Nat) (ad : String) (pc' : Nat) (hd : decode bytes pc = .ok (.anewarray i, 3)) (hp : pc + 3 = pc') (w1 : (Jvm.Cond.classLink y.cls i C').before a0 Z = true) (w2 : (Jvm.Cond.arrayOver (.object C')).before a0 Z = true) (hz : ¬ z < 0) (hcap : z.toNatClampNeg ≤ cap) (hb8 : cap * 8 ≤ 536870912) (had : "[" ++ (FieldType.object C').toString = ad) (hc : k + 1 ≤ R.cells) (hl : n + cap ≤ R.slots)
    (K : ∀ h' a cA, a = h.size → Ext h h' → Arv Z h' a cA (.object C') z (List.replicate z.toNatClampNeg .null) .null → Exa Z h' a ad → Ovr Z cA C' → Run l Z y bytes ml ret R n0 Q h' (k + 1) (n + cap) pc' Ls (.ref a :: st)) : Run l Z y bytes ml ret R n0 Q h k n pc Ls (.int z :: st) := fun p e s m args below meth c T locs C X N E => by
  subst hp
  obtain ⟨T', h', cA, X', e', E2, A2, E3, O3, q⟩ := newRE X C.1 C.2.2.2.1 C.2.2.2.2.1 w1 w2 E (g := mkF m pc Ls.toArray (.int z :: st)) rfl (hb C.2.1 hd) rfl hz hcap hb8 hc hl had
  obtain ⟨s2, o, h1, h2⟩ := K h' h.size cA rfl E2 (own_rep _ (Arv.new A2 hz)) E3 O3 p e s m args below meth c T' _ C X' N e'
  exact ⟨s2, o, q _ h1, h2⟩
theorem own_in {z j : Int32} {i : Nat} {cl : Cell} (S : cl.slots.size = z.toNatClampNeg) (hj : ¬ j < 0) (hi : j.toNatClampNeg = i) (hz : i < z.toNatClampNeg) : ¬ (j < 0 ∨ cl.slots.size ≤ j.toNatClampNeg) := fun q => by
  rcases q with q | q
  · exact hj q
  · rw [S, hi] at q; exact absurd hz (Nat.not_lt.mpr q)
theorem r_arraylength {a : Addr} {cA : ClassId} {ty : FieldType} {z : Int32} {vs : List Value} {dv : Value} (pc' : Nat) (hd : decode bytes pc = .ok (.arraylength, 1)) (hp : pc + 1 = pc') (A : Arv Z h a cA ty z vs dv) (K : Run l Z y bytes ml ret R n0 Q h k n pc' Ls (.int z :: st)) : Run l Z y bytes ml ret R n0 Q h k n pc Ls (.ref a :: st) := by
  subst hp
  obtain ⟨cl, A1, -, S, hz, -⟩ := A
  rw [← len_of S hz] at K
  exact K.step fun p e s m args below meth c T locs C X E t q => X.arraylength C.1 (by rw [E]; exact A1.1) (State.isArrayOf_alike C.2.2.2.1.alike A1.2.1) (g := mkF m pc Ls.toArray (.ref a :: st)) rfl rfl (hb C.2.1 hd) _ q
theorem r_iaload {a : Addr} {cA : ClassId} {z j : Int32} {vs : List Value} {dv : Value} (i : Nat) (v : Value) (pc' : Nat) (hd : decode bytes pc = .ok (.iaload, 1)) (hp : pc + 1 = pc') (A : Arv Z h a cA .int z vs dv) (hj : ¬ j < 0) (hi : j.toNatClampNeg = i) (hz : i < z.toNatClampNeg) (hv : vs.getD i dv = v) (K : Run l Z y bytes ml ret R n0 Q h k n pc' Ls (v :: st)) : Run l Z y bytes ml ret R n0 Q h k n pc Ls (.int j :: .ref a :: st) := by
  subst hp
  obtain ⟨cl, A1, -, S, -, H, -⟩ := A
  have hin := own_in S hj hi hz
  exact K.step fun p e s m args below meth c T locs C X E t q => X.iaload C.1 (by rw [E]; exact A1.1) (State.isArrayOf_alike C.2.2.2.1.alike A1.2.1) A1.2.2 hin (Has.at H hin (by rw [hi]; exact hv)) (g := mkF m pc Ls.toArray (.int j :: .ref a :: st)) rfl rfl (hb C.2.1 hd) _ q
theorem r_caload {a : Addr} {cA : ClassId} {z j : Int32} {vs : List Value} {dv : Value} (i : Nat) (v : Value) (pc' : Nat) (hd : decode bytes pc = .ok (.caload, 1)) (hp : pc + 1 = pc') (A : Arv Z h a cA .char z vs dv) (hj : ¬ j < 0) (hi : j.toNatClampNeg = i) (hz : i < z.toNatClampNeg) (hv : vs.getD i dv = v) (K : Run l Z y bytes ml ret R n0 Q h k n pc' Ls (v :: st)) : Run l Z y bytes ml ret R n0 Q h k n pc Ls (.int j :: .ref a :: st) := by
  subst hp
  obtain ⟨cl, A1, -, S, -, H, -⟩ := A
  have hin := own_in S hj hi hz
  exact K.step fun p e s m args below meth c T locs C X E t q => X.caload C.1 (by rw [E]; exact A1.1) (State.isArrayOf_alike C.2.2.2.1.alike A1.2.1) A1.2.2 hin (Has.at H hin (by rw [hi]; exact hv)) (g := mkF m pc Ls.toArray (.int j :: .ref a :: st)) rfl rfl (hb C.2.1 hd) _ q
theorem r_baload {a : Addr} {cA : ClassId} {z j : Int32} {vs : List Value} {dv : Value} (i : Nat) (v : Value) (pc' : Nat) (hd : decode bytes pc = .ok (.baload, 1)) (hp : pc + 1 = pc') (A : Arv Z h a cA .byte z vs dv) (hj : ¬ j < 0) (hi : j.toNatClampNeg = i) (hz : i < z.toNatClampNeg) (hv : vs.getD i dv = v) (K : Run l Z y bytes ml ret R n0 Q h k n pc' Ls (v :: st)) : Run l Z y bytes ml ret R n0 Q h k n pc Ls (.int j :: .ref a :: st) := by
  subst hp
  obtain ⟨cl, A1, -, S, -, H, -⟩ := A
  have hin := own_in S hj hi hz
  exact K.step fun p e s m args below meth c T locs C X E t q => X.baloadBytes C.1 (by rw [E]; exact A1.1) (State.isArrayOf_alike C.2.2.2.1.alike A1.2.1) A1.2.2 hin (Has.at H hin (by rw [hi]; exact hv)) (g := mkF m pc Ls.toArray (.int j :: .ref a :: st)) rfl rfl (hb C.2.1 hd) _ q
theorem r_aaload {a : Addr} {cA : ClassId} {ty : FieldType} {z j : Int32} {vs : List Value} {dv : Value} (i : Nat) (v : Value) (pc' : Nat) (hd : decode bytes pc = .ok (.aaload, 1)) (hp : pc + 1 = pc') (A : Arv Z h a cA ty z vs dv) (hty : ty.isReference = true) (hj : ¬ j < 0) (hi : j.toNatClampNeg = i) (hz : i < z.toNatClampNeg) (hv : vs.getD i dv = v) (K : Run l Z y bytes ml ret R n0 Q h k n pc' Ls (v :: st)) : Run l Z y bytes ml ret R n0 Q h k n pc Ls (.int j :: .ref a :: st) := by
  subst hp
  obtain ⟨cl, A1, -, S, -, H, -⟩ := A
  have hin := own_in S hj hi hz
  exact K.step fun p e s m args below meth c T locs C X E t q => X.aaload C.1 (by rw [E]; exact A1.1) (State.isArrayOf_alike C.2.2.2.1.alike A1.2.1) hty A1.2.2 hin (Has.at H hin (by rw [hi]; exact hv)) (g := mkF m pc Ls.toArray (.int j :: .ref a :: st)) rfl rfl (hb C.2.1 hd) _ q
theorem r_iastore {a : Addr} {cA : ClassId} {z j x : Int32} {vs : List Value} {dv : Value} (i : Nat) (pc' : Nat) (hd : decode bytes pc = .ok (.iastore, 1)) (hp : pc + 1 = pc') (A : Arv Z h a cA .int z vs dv) (hj : ¬ j < 0) (hi : j.toNatClampNeg = i) (hz : i < z.toNatClampNeg) (hl : i < vs.length) (ha : n0 ≤ a)
    (K : ∀ h', Wr h h' a i (.int x) → Arv Z h' a cA .int z (vs.set i (.int x)) dv → Run l Z y bytes ml ret R n0 Q h' k n pc' Ls st) : Run l Z y bytes ml ret R n0 Q h k n pc Ls (.int x :: .int j :: .ref a :: st) := fun p e s m args below meth c T locs C X N E => by
  subst hp
  obtain ⟨cl, A1, q1, S, q3, H, G⟩ := A
  have hin := own_in S hj hi hz
  obtain ⟨T', h', X', e', W, q⟩ := stI X C.1 C.2.2.2.1 E A1 hin (g := mkF m pc Ls.toArray (.int x :: .int j :: .ref a :: st)) rfl rfl (hb C.2.1 hd)
  obtain ⟨s2, o, h1, h2⟩ := K h' (hi ▸ W) (Arv.set A1 q1 S q3 H G rfl W i hi hl) p e s m args below meth c T' _ C X' (Fr.snoc X' N ha) e'
  exact ⟨s2, o, q _ h1, h2⟩
theorem r_castore {a : Addr} {cA : ClassId} {z j x : Int32} {vs : List Value} {dv : Value} (i : Nat) (pc' : Nat) (hd : decode bytes pc = .ok (.castore, 1)) (hp : pc + 1 = pc') (A : Arv Z h a cA .char z vs dv) (hj : ¬ j < 0) (hi : j.toNatClampNeg = i) (hz : i < z.toNatClampNeg) (hl : i < vs.length) (ha : n0 ≤ a)
    (K : ∀ h', Wr h h' a i (.int (nar .char x)) → Arv Z h' a cA .char z (vs.set i (.int (nar .char x))) dv → Run l Z y bytes ml ret R n0 Q h' k n pc' Ls st) : Run l Z y bytes ml ret R n0 Q h k n pc Ls (.int x :: .int j :: .ref a :: st) := fun p e s m args below meth c T locs C X N E => by
  subst hp
  obtain ⟨cl, A1, q1, S, q3, H, G⟩ := A
  have hin := own_in S hj hi hz
  obtain ⟨T', h', X', e', W, q⟩ := stC X C.1 C.2.2.2.1 E A1 hin (g := mkF m pc Ls.toArray (.int x :: .int j :: .ref a :: st)) rfl rfl (hb C.2.1 hd)
  obtain ⟨s2, o, h1, h2⟩ := K h' (hi ▸ W) (Arv.set A1 q1 S q3 H G (fits_nar_char x) W i hi hl) p e s m args below meth c T' _ C X' (Fr.snoc X' N ha) e'
  exact ⟨s2, o, q _ h1, h2⟩
theorem r_bastore {a : Addr} {cA : ClassId} {z j x : Int32} {vs : List Value} {dv : Value} (i : Nat) (pc' : Nat) (hd : decode bytes pc = .ok (.bastore, 1)) (hp : pc + 1 = pc') (A : Arv Z h a cA .byte z vs dv) (hj : ¬ j < 0) (hi : j.toNatClampNeg = i) (hz : i < z.toNatClampNeg) (hl : i < vs.length) (ha : n0 ≤ a)
    (K : ∀ h', Wr h h' a i (.int (nar .byte x)) → Arv Z h' a cA .byte z (vs.set i (.int (nar .byte x))) dv → Run l Z y bytes ml ret R n0 Q h' k n pc' Ls st) : Run l Z y bytes ml ret R n0 Q h k n pc Ls (.int x :: .int j :: .ref a :: st) := fun p e s m args below meth c T locs C X N E => by
  subst hp
  obtain ⟨cl, A1, q1, S, q3, H, G⟩ := A
  have hin := own_in S hj hi hz
  obtain ⟨T', h', X', e', W, q⟩ := stB X C.1 C.2.2.2.1 E A1 hin (g := mkF m pc Ls.toArray (.int x :: .int j :: .ref a :: st)) rfl rfl (hb C.2.1 hd)
  obtain ⟨s2, o, h1, h2⟩ := K h' (hi ▸ W) (Arv.set A1 q1 S q3 H G (fits_nar_byte x) W i hi hl) p e s m args below meth c T' _ C X' (Fr.snoc X' N ha) e'
  exact ⟨s2, o, q _ h1, h2⟩
theorem r_aastore {a : Addr} {cA : ClassId} {ty : FieldType} {z j : Int32} {v : Value} {vs : List Value} {dv : Value} (i : Nat) (pc' : Nat) (hd : decode bytes pc = .ok (.aastore, 1)) (hp : pc + 1 = pc') (A : Arv Z h a cA ty z vs dv) (hty : ty.isReference = true) (F : Sto Z h a v) (hf : fits ty v = true) (hj : ¬ j < 0) (hi : j.toNatClampNeg = i) (hz : i < z.toNatClampNeg) (hl : i < vs.length) (ha : n0 ≤ a)
    (K : ∀ h', Wr h h' a i v → Arv Z h' a cA ty z (vs.set i v) dv → Run l Z y bytes ml ret R n0 Q h' k n pc' Ls st) : Run l Z y bytes ml ret R n0 Q h k n pc Ls (v :: .int j :: .ref a :: st) := fun p e s m args below meth c T locs C X N E => by
  subst hp
  obtain ⟨cl, A1, q1, S, q3, H, G⟩ := A
  have hin := own_in S hj hi hz
  obtain ⟨T', h', X', e', W, q⟩ := stR X C.1 C.2.2.2.1 E A1 hin hty F (g := mkF m pc Ls.toArray (v :: .int j :: .ref a :: st)) rfl rfl (hb C.2.1 hd)
  obtain ⟨s2, o, h1, h2⟩ := K h' (hi ▸ W) (Arv.set A1 q1 S q3 H G hf W i hi hl) p e s m args below meth c T' _ C X' (Fr.snoc X' N ha) e'
  exact ⟨s2, o, q _ h1, h2⟩
theorem r_checkcast {i : Nat} {K' : String} {a : Addr} (pc' : Nat) (hd : decode bytes pc = .ok (.checkcast i, 3)) (hp : pc + 3 = pc') (w : (Jvm.Cond.classLink y.cls i K').before a0 Z = true) (F : Ins Z h a K' true)
    (K : Run l Z y bytes ml ret R n0 Q h k n pc' Ls (.ref a :: st)) : Run l Z y bytes ml ret R n0 Q h k n pc Ls (.ref a :: st) := by
  subst hp
  exact K.move fun p e s m args below meth c T locs C X N E => by
    obtain ⟨T', X', e', q⟩ := castY X C.1 C.2.2.2.1 C.2.2.2.2.1 w E F (g := mkF m pc Ls.toArray (.ref a :: st)) rfl rfl (hb C.2.1 hd)
    exact ⟨T', _, X', N, e', q⟩
theorem r_initO {i : Nat} {a : Addr} (pc' : Nat) (hd : decode bytes pc = .ok (.invokespecial i, 3)) (hp : pc + 3 = pc') (w1 : (Jvm.Cond.methodLink y.cls i Lib.objectInit).before a0 Z = true) (w2 : (Jvm.Cond.instanceMethod Lib.objectInit).before a0 Z = true) (w3 : (Jvm.Cond.code Lib.objectInit ⟨#[0xb1]⟩ 1 none).before a0 Z = true)
    (hml : Ls.length = ml) (hf : 1 ≤ R.frames) (hl : (st.map fun v => v.category).sum + 12 ≤ R.locals) (K : Run l Z y bytes ml ret R n0 Q h k n pc' Ls st) : Run l Z y bytes ml ret R n0 Q h k n pc Ls (.ref a :: st) := by
  subst hp
  exact K.move fun p e s m args below meth c T locs C X N E => by
    obtain ⟨T', X', e', q⟩ := initO X C.1 C.2.2.2.1 C.2.2.2.2.1 w1 w2 w3 E (g := mkF m pc Ls.toArray (.ref a :: st)) rfl (by show Ls.toArray.size = _; rw [List.size_toArray, hml, C.2.2.1]) rfl (hb C.2.1 hd) hf (W := (st.map fun v => v.category).sum) (by show 2 * 0 + _ ≤ _; omega) hl
    exact ⟨T', _, X', N, e', q⟩
/-! returns -/
theorem own_end {v : Option Value} (hQ : Q v h) (hk : k ≤ R.cells) (hn : n ≤ R.slots)
    (H : ∀ (p : Program) (e : Env) (s : State) (m : MethodId) (args : Array Value) (below : List Frame) (meth : Method) (c : Code) (T : State) (locs : List Loc),
      own_Ctx p s m meth c Z y bytes ml ret → Stand p l e R s m args below meth c T locs k n → (meth.sig.returnType = none → v = none) ∧ ∀ fs, (∀ (f : JFrame) (acts : List Action), f.method = m → f.locked = none → f.entered = [] → (doReturn e (T.setTop f) acts v).1 = T.setFrames fs) → Steps p.tables e below (T.setTop (mkF m pc Ls.toArray st)) (T.setFrames fs)) :
    Run l Z y bytes ml ret R n0 Q h k n pc Ls st := fun p e s m args below meth c T locs C X N E => by
  obtain ⟨H1, H2⟩ := H p e s m args below meth c T locs C X
  obtain ⟨fs, hr, hrun, hended, hW, hsame⟩ := X.leave (v := v) H1 C.2.2.2.2.2.2.2
  exact ⟨_, _, H2 fs hr, hrun, hended, v, locs, rfl, ⟨by show Q v T.heap; rw [E]; exact hQ, N⟩, ⟨v, rfl⟩, hW, hsame.mono hk hn⟩
theorem r_retN {t : FieldType} {z : Int32} (v : Int32) (hd : decode bytes pc = .ok (.ireturn, 1)) (hret : ret = some t) (ht : t = .boolean ∨ t = .byte ∨ t = .char ∨ t = .short) (hv : nar t z = v) (hk : k ≤ R.cells) (hn : n ≤ R.slots) (hQ : Q (some (.int v)) h) : Run l Z y bytes ml ret R n0 Q h k n pc Ls (.int z :: st) := by
  subst hv
  exact own_end hQ hk hn fun p e s m args below meth c T locs C X => ⟨fun q => (by rw [C.2.2.2.2.2.2.1, hret] at q; cases q), fun fs hr => retN X C.1 (C.2.2.2.2.2.2.1.trans hret) ht (hb C.2.1 hd) hr⟩
theorem r_retI {z : Int32} (hd : decode bytes pc = .ok (.ireturn, 1)) (hret : ret = some .int) (hk : k ≤ R.cells) (hn : n ≤ R.slots) (hQ : Q (some (.int z)) h) : Run l Z y bytes ml ret R n0 Q h k n pc Ls (.int z :: st) :=
  own_end hQ hk hn fun p e s m args below meth c T locs C X => ⟨fun q => (by rw [C.2.2.2.2.2.2.1, hret] at q; cases q), fun fs hr => retOut X C.1 (C.2.2.2.2.2.2.1.trans hret) rfl (Or.inl ⟨rfl, Or.inl rfl, _, rfl⟩) (hb C.2.1 hd) hr⟩
theorem r_retA {t : FieldType} {v : Value} (hd : decode bytes pc = .ok (.areturn, 1)) (hret : ret = some t) (ht : t.isReference = true) (hw : v.isRef = true) (hnw : narrow t v = v) (hk : k ≤ R.cells) (hn : n ≤ R.slots) (hQ : Q (some v) h) : Run l Z y bytes ml ret R n0 Q h k n pc Ls (v :: st) :=
  own_end hQ hk hn fun p e s m args below meth c T locs C X => ⟨fun q => (by rw [C.2.2.2.2.2.2.1, hret] at q; cases q), fun fs hr => retOut X C.1 (C.2.2.2.2.2.2.1.trans hret) hnw (Or.inr (Or.inr (Or.inr (Or.inr ⟨rfl, ht, hw⟩)))) (hb C.2.1 hd) hr⟩
theorem r_retV (hd : decode bytes pc = .ok (.return_, 1)) (hret : ret = none) (hk : k ≤ R.cells) (hn : n ≤ R.slots) (hQ : Q none h) : Run l Z y bytes ml ret R n0 Q h k n pc Ls [] :=
  own_end hQ hk hn fun p e s m args below meth c T locs C X => ⟨fun _ => rfl, fun fs hr => X.returnOut C.1 (C.2.2.2.2.2.2.1.trans hret) (hb C.2.1 hd) hr⟩
/-! contracts and calls -/
def Con (l : Launch) (Z : State) (y : MethodName) (bytes : ByteArray) (ml : Nat) (ret : Option FieldType) (R : Room) (n0 : Nat) (as' : Array Value) (h : Heap) (Q : Option Value → Heap → Prop) (ws : List Jvm.Cond) : Prop :=
  MetFree l y (head1 (Jvm.Cond.code y bytes ml ret :: ws) R) (fun a U => a = as' ∧ Z.Warmed39 U.vm ∧ U.heap = h) (fun _ _ _ _ _ => True) (fun _ U o U' => ∃ v L, o = .returned v ∧ (Q v U'.heap ∧ Fr n0 L) ∧ FrameEnd U o U' L R.cells R.slots)
theorem Run.con {as' : Array Value} {ws : List Jvm.Cond} (hpn : plainName y.cls = true) (hL : Jvm.Sym.laidSlots as'.toList ++ List.replicate (ml - (Jvm.Sym.laidSlots as'.toList).length) .unset = Ls) (H : Run l Z y bytes ml ret R n0 Q h 0 0 0 Ls []) : Con l Z y bytes ml ret R n0 as' h Q ws := by
  refine MetFree.of_bodySF (plainFor_of_name hpn) hisR ?_
  intro p e s m args below meth c s₁ Bd hml0 hP hK
  obtain ⟨rfl, hZ, hh⟩ := hP
  have X0 : Stand p l e R s m args below meth c s₁ [] 0 0 := Stand.of_body Bd
  obtain ⟨s2, o, h1, h2, h3, v, L, h4, h5, h6⟩ := H p e s m args below meth c s₁ [] ⟨Bd.exec, Bd.bytes, hml0, hZ, findClass_of_methodNamed Bd.named, (name_of_methodNamed Bd.named Bd.method).1, Bd.returns, Bd.notSynchronized⟩ X0 (Fr.nil n0) (by rw [← hh, Bd.state]; rfl)
  exact ⟨s2, o, (XT.entry (Ls := Ls.toArray) hL).trans h1, h2, h3, v, L, h4, h5, h6⟩
section Calls
variable {i : Nat} {y' : MethodName} {bytes' : ByteArray} {ml' : Nat} {ret' : Option FieldType} {R' : Room} {as' : Array Value} {Q' : Option Value → Heap → Prop} {rest : List Value} {ps : List FieldType} {r' : Option FieldType}
theorem r_static (pc' : Nat) (hd : decode bytes pc = .ok (.invokestatic i, 3)) (hp : pc + 3 = pc') (hM : Con l Z y' bytes' ml' ret' R' n0 as' h Q' []) (w1 : (Jvm.Cond.methodLink y.cls i y').before a0 Z = true) (w2 : (Jvm.Cond.static y').before a0 Z = true) (w3 : (Jvm.Cond.initialized y'.cls).before a0 Z = true) (w4 : (Jvm.Cond.code y' bytes' ml' ret').before a0 Z = true)
    (hne : y'.cls ≠ "java/lang/invoke/MethodHandle" ∧ y'.cls ≠ "java/lang/invoke/VarHandle") (hpd : parseMethodDescriptor y'.desc = some ⟨ps, r'⟩) (hlen : as'.toList.length = ps.length) (hs : st = as'.toList.reverse ++ rest) (hml : Ls.length = ml) (hf : R'.frames + 1 ≤ R.frames) (hl : (rest.map fun v => v.category).sum + (ml' + 11) + R'.locals ≤ R.locals) (hc : k + R'.cells ≤ R.cells) (hn : n + R'.slots ≤ R.slots)
    (K : ∀ v h', Q' v h' → Run l Z y bytes ml ret R n0 Q h' (k + R'.cells) (n + R'.slots) pc' Ls (v.toList ++ rest)) : Run l Z y bytes ml ret R n0 Q h k n pc Ls st := fun p e s m args below meth c T locs C X N E => by
  subst hp
  obtain ⟨v, vm1, ⟨U, locs', k', n'⟩, hW, X', ⟨L, ⟨hQ, hL⟩, e1, e2, e3⟩, q⟩ := Jvm.LawKit.callS X C.1 (y := y') C.2.2.2.2.1 (mvT C.2.2.2.1 w1) (mvT C.2.2.2.1 w2) (mvT C.2.2.2.1 w3) (mvT C.2.2.2.1 w4) hne (backOf (Q := fun v h' L => Q' v h' ∧ Fr n0 L) (W := (rest.map fun v => v.category).sum) hM C.2.2.2.1 w4 w3 hf hl) (g := mkF m pc Ls.toArray st) rfl (by show Ls.toArray.size = _; rw [List.size_toArray, hml, C.2.2.1]) (argsL := as'.toList) (rest := rest) (lenOf hpd hlen) hs (by show 2 * 0 + _ ≤ _; omega) (hb C.2.1 hd) (fun _ _ => ⟨rfl, E, hc, hn⟩)
  dsimp only [Pt.U, Pt.locs, Pt.cells, Pt.slots] at X' hQ e1 e2 e3 q
  subst e1 e2 e3
  obtain ⟨s2, o, h1, h2⟩ := K v U.heap hQ p e s m args below meth c U _ C X' (Fr.app N hL) rfl
  exact ⟨s2, o, q _ h1, h2⟩
theorem r_special {a : Addr} {as1 : List Value} (pc' : Nat) (hd : decode bytes pc = .ok (.invokespecial i, 3)) (hp : pc + 3 = pc') (hM : Con l Z y' bytes' ml' none R' n0 as' h Q' []) (ha : as' = (.ref a :: as1).toArray) (hy1 : y'.name = "<init>") (w1 : (Jvm.Cond.methodLink y.cls i y').before a0 Z = true) (w2 : (Jvm.Cond.instanceMethod y').before a0 Z = true) (w3 : (Jvm.Cond.initialized y'.cls).before a0 Z = true) (w4 : (Jvm.Cond.code y' bytes' ml' none).before a0 Z = true)
    (hne : y'.cls ≠ "java/lang/invoke/MethodHandle" ∧ y'.cls ≠ "java/lang/invoke/VarHandle") (hpd : parseMethodDescriptor y'.desc = some ⟨ps, r'⟩) (hlen : as1.length = ps.length) (hs : st = as1.reverse ++ .ref a :: rest) (hml : Ls.length = ml) (hf : R'.frames + 1 ≤ R.frames) (hl : (rest.map fun v => v.category).sum + (ml' + 11) + R'.locals ≤ R.locals) (hc : k + R'.cells ≤ R.cells) (hn : n + R'.slots ≤ R.slots)
    (K : ∀ v h', Q' v h' → Run l Z y bytes ml ret R n0 Q h' (k + R'.cells) (n + R'.slots) pc' Ls (v.toList ++ rest)) : Run l Z y bytes ml ret R n0 Q h k n pc Ls st := fun p e s m args below meth c T locs C X N E => by
  subst hp ha
  obtain ⟨v, vm1, ⟨U, locs', k', n'⟩, hW, X', ⟨L, ⟨hQ, hL⟩, e1, e2, e3⟩, q⟩ := X.specialBack C.1 (y := y') hy1 C.2.2.2.2.1 (mvT C.2.2.2.1 w1) (mvT C.2.2.2.1 w2) (mvT C.2.2.2.1 w4) hne (backOf (Q := fun v h' L => Q' v h' ∧ Fr n0 L) (W := (rest.map fun v => v.category).sum) hM C.2.2.2.1 w4 w3 hf hl) (g := mkF m pc Ls.toArray st) rfl (by show Ls.toArray.size = _; rw [List.size_toArray, hml, C.2.2.1]) (Steps.refl _) (a := a) (argsL := as1) (rest := rest) (lenOf hpd hlen) hs (by show 2 * 0 + _ ≤ _; omega) (hb C.2.1 hd) (fun _ _ => ⟨rfl, E, hc, hn⟩)
  dsimp only [Pt.U, Pt.locs, Pt.cells, Pt.slots] at X' hQ e1 e2 e3 q
  subst e1 e2 e3
  obtain ⟨s2, o, h1, h2⟩ := K v U.heap hQ p e s m args below meth c U _ C X' (Fr.app N hL) rfl
  exact ⟨s2, o, q.trans h1, h2⟩
theorem r_virtual {a : Addr} {C' : String} {z' : MethodName} {as1 : List Value} (pc' : Nat) (hd : decode bytes pc = .ok (.invokevirtual i, 3)) (hp : pc + 3 = pc') (hM : Con l Z z' bytes' ml' ret' R' n0 as' h Q' []) (ha : as' = (.ref a :: as1).toArray) (w1 : (Jvm.Cond.methodLink y.cls i y').before a0 Z = true) (w2 : (Jvm.Cond.declares y').before a0 Z = true) (w5 : (Jvm.Cond.selects C' y' z').before a0 Z = true) (w6 : (Jvm.Cond.instanceMethod z').before a0 Z = true) (w3 : (Jvm.Cond.initialized z'.cls).before a0 Z = true) (w4 : (Jvm.Cond.code z' bytes' ml' ret').before a0 Z = true)
    (hne : y'.cls ≠ "java/lang/invoke/MethodHandle" ∧ y'.cls ≠ "java/lang/invoke/VarHandle") (hpd : parseMethodDescriptor y'.desc = some ⟨ps, r'⟩) (E1 : Exa Z h a C') (hlen : as1.length = ps.length) (hs : st = as1.reverse ++ .ref a :: rest) (hml : Ls.length = ml) (hf : R'.frames + 1 ≤ R.frames) (hl : (rest.map fun v => v.category).sum + (ml' + 11) + R'.locals ≤ R.locals) (hc : k + R'.cells ≤ R.cells) (hn : n + R'.slots ≤ R.slots)
    (hnf : ∀ (s : State) (args : Array Value), Z.Warmed39 s.vm → NotFace s y')
    (K : ∀ v h', Q' v h' → Run l Z y bytes ml ret R n0 Q h' (k + R'.cells) (n + R'.slots) pc' Ls (v.toList ++ rest)) : Run l Z y bytes ml ret R n0 Q h k n pc Ls st := fun p e s m args below meth c T locs C X N E => by
  subst hp ha
  obtain ⟨cq, kq, qa, qb, qc⟩ := isOf (s := s) C.2.2.2.1 E E1
  obtain ⟨v, vm1, ⟨U, locs', k', n'⟩, hW, X', ⟨L, ⟨hQ, hL⟩, e1, e2, e3⟩, q⟩ := X.virtualBack C.1 (y := y') (z := z') C.2.2.2.2.1 (mvT C.2.2.2.1 w1) (mvT C.2.2.2.1 w2) (hnf s args C.2.2.2.1) (mvT C.2.2.2.1 w5) (mvT C.2.2.2.1 w6) hne (backOf (Q := fun v h' L => Q' v h' ∧ Fr n0 L) (W := (rest.map fun v => v.category).sum) hM C.2.2.2.1 w4 w3 hf hl) qa qc (g := mkF m pc Ls.toArray st) rfl (by show Ls.toArray.size = _; rw [List.size_toArray, hml, C.2.2.1]) (Steps.refl _) (argsL := as1) (rest := rest) (lenOf hpd hlen) hs (by show 2 * 0 + _ ≤ _; omega) (hb C.2.1 hd) (fun _ _ => ⟨rfl, E, hc, hn⟩)
  dsimp only [Pt.U, Pt.locs, Pt.cells, Pt.slots] at X' hQ e1 e2 e3 q
  subst e1 e2 e3
  obtain ⟨s2, o, h1, h2⟩ := K v U.heap hQ p e s m args below meth c U _ C X' (Fr.app N hL) rfl
  exact ⟨s2, o, q.trans h1, h2⟩
end Calls
end Own

section OwnW
variable {l : Launch} {Z : State} {y : MethodName} {bytes : ByteArray} {ml : Nat} {ret : Option FieldType} {R : Room} {n0 : Nat} {Q : Option Value → Heap → Prop} {J : State → Prop} {h : Heap} {k n : Nat} {pc : Nat} {Ls : List Slot} {st : List Value} {a0 : Array Value}
/-- the walk's start s is the true start s0 with the tables at hand -/
def own_W (s0 s : State) (k0 sz : Nat) : Prop := ∃ vm1, s = s0.setVm vm1 ∧ s0.Since vm1 k0 ∧ k0 ≤ sz
theorem own_W.grow {s0 s : State} {k0 sz sz' : Nat} (h : own_W s0 s k0 sz) (g : sz ≤ sz') : own_W s0 s k0 sz' := by
  obtain ⟨vm1, h1, h2, h3⟩ := h
  exact ⟨vm1, h1, h2, Nat.le_trans h3 g⟩
def RunW (l : Launch) (Z : State) (y : MethodName) (bytes : ByteArray) (ml : Nat) (ret : Option FieldType) (R : Room) (n0 : Nat) (Q : Option Value → Heap → Prop) (J : State → Prop) (h : Heap) (k n : Nat) (pc : Nat) (Ls : List Slot) (st : List Value) : Prop :=
  ∀ (p : Program) (e : Env) (s : State) (m : MethodId) (args : Array Value) (below : List Frame) (meth : Method) (c : Code) (T : State) (locs : List Loc) (s0 : State) (k0 : Nat),
    own_Ctx p s m meth c Z y bytes ml ret → Stand p l e R s m args below meth c T locs k n → Fr n0 locs → T.heap = h → own_W s0 s k0 h.size → J s →
    ∃ s₂ o, Steps p.tables e below (T.setTop (mkF m pc Ls.toArray st)) s₂ ∧ s₂.status = .running ∧ Ended s₂ below o ∧ ∃ v L, o = .returned v ∧ (Q v s₂.heap ∧ Fr n0 L) ∧ ReturnedEndW s0 o s₂ L R.cells R.slots
theorem RunW.step {pc' : Nat} {Ls' : List Slot} {st' : List Value} (K : RunW l Z y bytes ml ret R n0 Q J h k n pc' Ls' st')
    (H : ∀ (p : Program) (e : Env) (s : State) (m : MethodId) (args : Array Value) (below : List Frame) (meth : Method) (c : Code) (T : State) (locs : List Loc),
      own_Ctx p s m meth c Z y bytes ml ret → Stand p l e R s m args below meth c T locs k n → T.heap = h → ∀ t, Steps p.tables e below (T.setTop (mkF m pc' Ls'.toArray st')) t → Steps p.tables e below (T.setTop (mkF m pc Ls.toArray st)) t) :
    RunW l Z y bytes ml ret R n0 Q J h k n pc Ls st := fun p e s m args below meth c T locs s0 k0 C X N E hW hJ => by
  obtain ⟨s2, o, h1, h2⟩ := K p e s m args below meth c T locs s0 k0 C X N E hW hJ
  exact ⟨s2, o, H p e s m args below meth c T locs C X E _ h1, h2⟩
theorem RunW.move {pc' : Nat} {Ls' : List Slot} {st' : List Value} {k' n' : Nat} (K : RunW l Z y bytes ml ret R n0 Q J h k' n' pc' Ls' st')
    (H : ∀ (p : Program) (e : Env) (s : State) (m : MethodId) (args : Array Value) (below : List Frame) (meth : Method) (c : Code) (T : State) (locs : List Loc),
      own_Ctx p s m meth c Z y bytes ml ret → Stand p l e R s m args below meth c T locs k n → Fr n0 locs → T.heap = h →
        ∃ T' locs', Stand p l e R s m args below meth c T' locs' k' n' ∧ Fr n0 locs' ∧ T'.heap = h ∧ ∀ t, Steps p.tables e below (T'.setTop (mkF m pc' Ls'.toArray st')) t → Steps p.tables e below (T.setTop (mkF m pc Ls.toArray st)) t) :
    RunW l Z y bytes ml ret R n0 Q J h k n pc Ls st := fun p e s m args below meth c T locs s0 k0 C X N E hW hJ => by
  obtain ⟨T', locs', X', N', E', st'⟩ := H p e s m args below meth c T locs C X N E
  obtain ⟨s2, o, h1, h2⟩ := K p e s m args below meth c T' locs' s0 k0 C X' N' E' hW hJ
  exact ⟨s2, o, st' _ h1, h2⟩
theorem Con.grow {as' : Array Value} {ws : List Jvm.Cond} (hM : Con l Z y bytes ml ret R n0 as' h Q ws) : Con l Z y bytes ml ret R n0 as' h (fun v h' => Q v h' ∧ h.size ≤ h'.size) ws := fun p e ha hc hk s m args below hf happ hP hK => by
  obtain ⟨nn, o, h1, h2, h3, v, L, h4, ⟨h5, h6⟩, h7⟩ := hM p e ha hc hk s m args below hf happ hP hK
  exact ⟨nn, o, h1, h2, h3, v, L, h4, ⟨⟨h5, by have := h7.2.2.2.1; rw [hP.2.2] at this; exact this⟩, h6⟩, h7⟩
theorem own_endW {v : Option Value} (hQ : Q v h) (hk : k ≤ R.cells) (hn : n ≤ R.slots)
    (H : ∀ (p : Program) (e : Env) (s : State) (m : MethodId) (args : Array Value) (below : List Frame) (meth : Method) (c : Code) (T : State) (locs : List Loc),
      own_Ctx p s m meth c Z y bytes ml ret → Stand p l e R s m args below meth c T locs k n → (meth.sig.returnType = none → v = none) ∧ ∀ fs, (∀ (f : JFrame) (acts : List Action), f.method = m → f.locked = none → f.entered = [] → (doReturn e (T.setTop f) acts v).1 = T.setFrames fs) → Steps p.tables e below (T.setTop (mkF m pc Ls.toArray st)) (T.setFrames fs)) :
    RunW l Z y bytes ml ret R n0 Q J h k n pc Ls st := fun p e s m args below meth c T locs s0 k0 C X N E hW hJ => by
  obtain ⟨H1, H2⟩ := H p e s m args below meth c T locs C X
  obtain ⟨vm1, rfl, hS, hk0⟩ := hW
  obtain ⟨fs, hr, hrun, hended, hq⟩ := X.leaveW hS (by rw [E]; exact hk0) (v := v) H1 C.2.2.2.2.2.2.2
  exact ⟨_, _, H2 fs hr, hrun, hended, v, locs, rfl, ⟨by show Q v T.heap; rw [E]; exact hQ, N⟩, hq.1, hq.2.1, hq.2.2.1, hq.2.2.2.mono hk hn⟩
theorem rw_aloadN {j : Fin 4} {a : Addr} (pc' : Nat) (hd : decode bytes pc = .ok (.aload_n j, 1)) (hp : pc + 1 = pc') (hl : Ls[j.val]? = some (.val (.ref a))) (K : RunW l Z y bytes ml ret R n0 Q J h k n pc' Ls (.ref a :: st)) : RunW l Z y bytes ml ret R n0 Q J h k n pc Ls st := by
  subst hp; exact K.step fun p e s m args below meth c T locs C X E t q => XS.aloadN X.here C.1 rfl (hb C.2.1 hd) (own_get hl) rfl q
theorem rw_aload {j : Nat} {a : Addr} (pc' : Nat) (hd : decode bytes pc = .ok (.aload j, 2)) (hp : pc + 2 = pc') (hl : Ls[j]? = some (.val (.ref a))) (K : RunW l Z y bytes ml ret R n0 Q J h k n pc' Ls (.ref a :: st)) : RunW l Z y bytes ml ret R n0 Q J h k n pc Ls st := by
  subst hp; exact K.step fun p e s m args below meth c T locs C X E t q => XS.aload X.here C.1 rfl (hb C.2.1 hd) (own_get hl) rfl q
theorem rw_aloadNV {j : Fin 4} {v : Value} (pc' : Nat) (hd : decode bytes pc = .ok (.aload_n j, 1)) (hp : pc + 1 = pc') (hl : Ls[j.val]? = some (.val v)) (hv : v.isRef = true) (K : RunW l Z y bytes ml ret R n0 Q J h k n pc' Ls (v :: st)) : RunW l Z y bytes ml ret R n0 Q J h k n pc Ls st := by
  subst hp; exact K.step fun p e s m args below meth c T locs C X E t q => XS.aloadN X.here C.1 rfl (hb C.2.1 hd) (own_get hl) hv q
theorem rw_aloadV {j : Nat} {v : Value} (pc' : Nat) (hd : decode bytes pc = .ok (.aload j, 2)) (hp : pc + 2 = pc') (hl : Ls[j]? = some (.val v)) (hv : v.isRef = true) (K : RunW l Z y bytes ml ret R n0 Q J h k n pc' Ls (v :: st)) : RunW l Z y bytes ml ret R n0 Q J h k n pc Ls st := by
  subst hp; exact K.step fun p e s m args below meth c T locs C X E t q => XS.aload X.here C.1 rfl (hb C.2.1 hd) (own_get hl) hv q
theorem rw_iloadN {j : Fin 4} {v : Int32} (pc' : Nat) (hd : decode bytes pc = .ok (.iload_n j, 1)) (hp : pc + 1 = pc') (hl : Ls[j.val]? = some (.val (.int v))) (K : RunW l Z y bytes ml ret R n0 Q J h k n pc' Ls (.int v :: st)) : RunW l Z y bytes ml ret R n0 Q J h k n pc Ls st := by
  subst hp; exact K.step fun p e s m args below meth c T locs C X E t q => XS.iloadN X.here C.1 rfl (hb C.2.1 hd) (own_get hl) q
theorem rw_iload {j : Nat} {v : Int32} (pc' : Nat) (hd : decode bytes pc = .ok (.iload j, 2)) (hp : pc + 2 = pc') (hl : Ls[j]? = some (.val (.int v))) (K : RunW l Z y bytes ml ret R n0 Q J h k n pc' Ls (.int v :: st)) : RunW l Z y bytes ml ret R n0 Q J h k n pc Ls st := by
  subst hp; exact K.step fun p e s m args below meth c T locs C X E t q => XS.iload X.here C.1 rfl (hb C.2.1 hd) (own_get hl) q
theorem rw_lloadN {j : Fin 4} {v : Int64} (pc' : Nat) (hd : decode bytes pc = .ok (.lload_n j, 1)) (hp : pc + 1 = pc') (hl : Ls[j.val]? = some (.val (.long v))) (K : RunW l Z y bytes ml ret R n0 Q J h k n pc' Ls (.long v :: st)) : RunW l Z y bytes ml ret R n0 Q J h k n pc Ls st := by
  subst hp; exact K.step fun p e s m args below meth c T locs C X E t q => XT.lloadN X.here C.1 rfl (hb C.2.1 hd) (own_get hl) q
theorem rw_lload {j : Nat} {v : Int64} (pc' : Nat) (hd : decode bytes pc = .ok (.lload j, 2)) (hp : pc + 2 = pc') (hl : Ls[j]? = some (.val (.long v))) (K : RunW l Z y bytes ml ret R n0 Q J h k n pc' Ls (.long v :: st)) : RunW l Z y bytes ml ret R n0 Q J h k n pc Ls st := by
  subst hp; exact K.step fun p e s m args below meth c T locs C X E t q => XT.lload X.here C.1 rfl (hb C.2.1 hd) (own_get hl) q
theorem rw_iconst {i : Int} (v : Int32) (pc' : Nat) (hd : decode bytes pc = .ok (.iconst i, 1)) (hp : pc + 1 = pc') (hv : Int32.ofInt i = v) (K : RunW l Z y bytes ml ret R n0 Q J h k n pc' Ls (.int v :: st)) : RunW l Z y bytes ml ret R n0 Q J h k n pc Ls st := by
  subst hp hv; exact K.step fun p e s m args below meth c T locs C X E t q => XS.iconst X.here C.1 rfl (hb C.2.1 hd) q
theorem rw_bipush {i : Int} (v : Int32) (pc' : Nat) (hd : decode bytes pc = .ok (.bipush i, 2)) (hp : pc + 2 = pc') (hv : (Int8.ofInt i).toInt32 = v) (K : RunW l Z y bytes ml ret R n0 Q J h k n pc' Ls (.int v :: st)) : RunW l Z y bytes ml ret R n0 Q J h k n pc Ls st := by
  subst hp hv; exact K.step fun p e s m args below meth c T locs C X E t q => XS.bipush X.here C.1 rfl (hb C.2.1 hd) q
theorem rw_sipush {i : Int} (v : Int32) (pc' : Nat) (hd : decode bytes pc = .ok (.sipush i, 3)) (hp : pc + 3 = pc') (hv : (Int16.ofInt i).toInt32 = v) (K : RunW l Z y bytes ml ret R n0 Q J h k n pc' Ls (.int v :: st)) : RunW l Z y bytes ml ret R n0 Q J h k n pc Ls st := by
  subst hp hv; exact K.step fun p e s m args below meth c T locs C X E t q => XS.sipush X.here C.1 rfl (hb C.2.1 hd) q
theorem rw_lconst {i : Fin 2} (v : Int64) (pc' : Nat) (hd : decode bytes pc = .ok (.lconst i, 1)) (hp : pc + 1 = pc') (hv : Int64.ofNat i = v) (K : RunW l Z y bytes ml ret R n0 Q J h k n pc' Ls (.long v :: st)) : RunW l Z y bytes ml ret R n0 Q J h k n pc Ls st := by
  subst hp hv; exact K.step fun p e s m args below meth c T locs C X E t q => XT.lconst X.here C.1 rfl (hb C.2.1 hd) q
theorem rw_null (pc' : Nat) (hd : decode bytes pc = .ok (.aconst_null, 1)) (hp : pc + 1 = pc') (K : RunW l Z y bytes ml ret R n0 Q J h k n pc' Ls (.null :: st)) : RunW l Z y bytes ml ret R n0 Q J h k n pc Ls st := by
  subst hp; exact K.step fun p e s m args below meth c T locs C X E t q => XS.aconstNull X.here C.1 rfl (hb C.2.1 hd) q
theorem rw_ldc {i : Nat} {v : Int32} (pc' : Nat) (hd : decode bytes pc = .ok (.ldc i, 2)) (hp : pc + 2 = pc') (w : (Jvm.Cond.constant y.cls i v).before a0 Z = true) (K : RunW l Z y bytes ml ret R n0 Q J h k n pc' Ls (.int v :: st)) : RunW l Z y bytes ml ret R n0 Q J h k n pc Ls st := by
  subst hp; exact K.step fun p e s m args below meth c T locs C X E t q => X.ldcInt C.1 C.2.2.2.2.1 (mvT C.2.2.2.1 w) (g := mkF m pc Ls.toArray st) rfl (hb C.2.1 hd) _ q
theorem rw_ldc2 {i : Nat} {v : Int64} (pc' : Nat) (hd : decode bytes pc = .ok (.ldc2_w i, 3)) (hp : pc + 3 = pc') (w : (Jvm.Cond.constantLong y.cls i v).before a0 Z = true) (K : RunW l Z y bytes ml ret R n0 Q J h k n pc' Ls (.long v :: st)) : RunW l Z y bytes ml ret R n0 Q J h k n pc Ls st := by
  subst hp; exact K.step fun p e s m args below meth c T locs C X E t q => X.ldc2Long C.1 C.2.2.2.2.1 (mvT C.2.2.2.1 w) (g := mkF m pc Ls.toArray st) rfl (hb C.2.1 hd) _ q
theorem rw_istoreN {j : Fin 4} {v : Int32} (pc' : Nat) (hd : decode bytes pc = .ok (.istore_n j, 1)) (hp : pc + 1 = pc') (hl : Ls[j.val]?.map own_one = some true) (K : RunW l Z y bytes ml ret R n0 Q J h k n pc' (Ls.set j.val (.val (.int v))) st) : RunW l Z y bytes ml ret R n0 Q J h k n pc Ls (.int v :: st) := by
  subst hp; exact K.step fun p e s m args below meth c T locs C X E t q => XS.istoreN X.here C.1 rfl (hb C.2.1 hd) rfl (own_put hl rfl) q
theorem rw_istore {j : Nat} {v : Int32} (pc' : Nat) (hd : decode bytes pc = .ok (.istore j, 2)) (hp : pc + 2 = pc') (hl : Ls[j]?.map own_one = some true) (K : RunW l Z y bytes ml ret R n0 Q J h k n pc' (Ls.set j (.val (.int v))) st) : RunW l Z y bytes ml ret R n0 Q J h k n pc Ls (.int v :: st) := by
  subst hp; exact K.step fun p e s m args below meth c T locs C X E t q => XS.istore X.here C.1 rfl (hb C.2.1 hd) rfl (own_put hl rfl) q
theorem rw_astoreN {j : Fin 4} {a : Addr} (pc' : Nat) (hd : decode bytes pc = .ok (.astore_n j, 1)) (hp : pc + 1 = pc') (hl : Ls[j.val]?.map own_one = some true) (K : RunW l Z y bytes ml ret R n0 Q J h k n pc' (Ls.set j.val (.val (.ref a))) st) : RunW l Z y bytes ml ret R n0 Q J h k n pc Ls (.ref a :: st) := by
  subst hp; exact K.step fun p e s m args below meth c T locs C X E t q => XS.astoreN X.here C.1 rfl (hb C.2.1 hd) rfl rfl (own_put hl rfl) q
theorem rw_astore {j : Nat} {a : Addr} (pc' : Nat) (hd : decode bytes pc = .ok (.astore j, 2)) (hp : pc + 2 = pc') (hl : Ls[j]?.map own_one = some true) (K : RunW l Z y bytes ml ret R n0 Q J h k n pc' (Ls.set j (.val (.ref a))) st) : RunW l Z y bytes ml ret R n0 Q J h k n pc Ls (.ref a :: st) := by
  subst hp; exact K.step fun p e s m args below meth c T locs C X E t q => XS.astore X.here C.1 rfl (hb C.2.1 hd) rfl rfl (own_put hl rfl) q
theorem rw_astoreNV {j : Fin 4} {v : Value} (pc' : Nat) (hd : decode bytes pc = .ok (.astore_n j, 1)) (hp : pc + 1 = pc') (hl : Ls[j.val]?.map own_one = some true) (hv : v.isRef = true) (K : RunW l Z y bytes ml ret R n0 Q J h k n pc' (Ls.set j.val (.val v)) st) : RunW l Z y bytes ml ret R n0 Q J h k n pc Ls (v :: st) := by
  subst hp; exact K.step fun p e s m args below meth c T locs C X E t q => XS.astoreN X.here C.1 rfl (hb C.2.1 hd) rfl hv (own_put hl (own_cat hv)) q
theorem rw_astoreV {j : Nat} {v : Value} (pc' : Nat) (hd : decode bytes pc = .ok (.astore j, 2)) (hp : pc + 2 = pc') (hl : Ls[j]?.map own_one = some true) (hv : v.isRef = true) (K : RunW l Z y bytes ml ret R n0 Q J h k n pc' (Ls.set j (.val v)) st) : RunW l Z y bytes ml ret R n0 Q J h k n pc Ls (v :: st) := by
  subst hp; exact K.step fun p e s m args below meth c T locs C X E t q => XS.astore X.here C.1 rfl (hb C.2.1 hd) rfl hv (own_put hl (own_cat hv)) q
theorem rw_iinc {j : Nat} {cst : Int} {x : Int32} (v : Int32) (pc' : Nat) (hd : decode bytes pc = .ok (.iinc j cst, 3)) (hp : pc + 3 = pc') (hv : Int32.ofInt cst = v) (hl : Ls[j]? = some (.val (.int x))) (K : RunW l Z y bytes ml ret R n0 Q J h k n pc' (Ls.set j (.val (.int (x + v)))) st) : RunW l Z y bytes ml ret R n0 Q J h k n pc Ls st := by
  subst hp hv; exact K.step fun p e s m args below meth c T locs C X E t q => XS.iinc X.here C.1 rfl (hb C.2.1 hd) (own_get hl) (own_put (by rw [hl]; rfl) rfl) q
theorem rw_iadd {x : Int32} {z : Int32} (pc' : Nat) (hd : decode bytes pc = .ok (.iadd, 1)) (hp : pc + 1 = pc') (K : RunW l Z y bytes ml ret R n0 Q J h k n pc' Ls (.int (x + z) :: st)) : RunW l Z y bytes ml ret R n0 Q J h k n pc Ls (.int z :: .int x :: st) := by
  subst hp; exact K.step fun p e s m args below meth c T locs C X E t q => XS.iadd X.here C.1 rfl (hb C.2.1 hd) rfl q
theorem rw_isub {x : Int32} {z : Int32} (pc' : Nat) (hd : decode bytes pc = .ok (.isub, 1)) (hp : pc + 1 = pc') (K : RunW l Z y bytes ml ret R n0 Q J h k n pc' Ls (.int (x - z) :: st)) : RunW l Z y bytes ml ret R n0 Q J h k n pc Ls (.int z :: .int x :: st) := by
  subst hp; exact K.step fun p e s m args below meth c T locs C X E t q => XS.isub X.here C.1 rfl (hb C.2.1 hd) rfl q
theorem rw_imul {x : Int32} {z : Int32} (pc' : Nat) (hd : decode bytes pc = .ok (.imul, 1)) (hp : pc + 1 = pc') (K : RunW l Z y bytes ml ret R n0 Q J h k n pc' Ls (.int (x * z) :: st)) : RunW l Z y bytes ml ret R n0 Q J h k n pc Ls (.int z :: .int x :: st) := by
  subst hp; exact K.step fun p e s m args below meth c T locs C X E t q => XS.imul X.here C.1 rfl (hb C.2.1 hd) rfl q
theorem rw_iand {x : Int32} {z : Int32} (pc' : Nat) (hd : decode bytes pc = .ok (.iand, 1)) (hp : pc + 1 = pc') (K : RunW l Z y bytes ml ret R n0 Q J h k n pc' Ls (.int (x &&& z) :: st)) : RunW l Z y bytes ml ret R n0 Q J h k n pc Ls (.int z :: .int x :: st) := by
  subst hp; exact K.step fun p e s m args below meth c T locs C X E t q => XS.iand X.here C.1 rfl (hb C.2.1 hd) rfl q
theorem rw_ior {x : Int32} {z : Int32} (pc' : Nat) (hd : decode bytes pc = .ok (.ior, 1)) (hp : pc + 1 = pc') (K : RunW l Z y bytes ml ret R n0 Q J h k n pc' Ls (.int (x ||| z) :: st)) : RunW l Z y bytes ml ret R n0 Q J h k n pc Ls (.int z :: .int x :: st) := by
  subst hp; exact K.step fun p e s m args below meth c T locs C X E t q => XT.ior X.here C.1 rfl (hb C.2.1 hd) rfl q
theorem rw_ixor {x : Int32} {z : Int32} (pc' : Nat) (hd : decode bytes pc = .ok (.ixor, 1)) (hp : pc + 1 = pc') (K : RunW l Z y bytes ml ret R n0 Q J h k n pc' Ls (.int (x ^^^ z) :: st)) : RunW l Z y bytes ml ret R n0 Q J h k n pc Ls (.int z :: .int x :: st) := by
  subst hp; exact K.step fun p e s m args below meth c T locs C X E t q => XT.ixor X.here C.1 rfl (hb C.2.1 hd) rfl q
theorem rw_ladd {x : Int64} {z : Int64} (pc' : Nat) (hd : decode bytes pc = .ok (.ladd, 1)) (hp : pc + 1 = pc') (K : RunW l Z y bytes ml ret R n0 Q J h k n pc' Ls (.long (x + z) :: st)) : RunW l Z y bytes ml ret R n0 Q J h k n pc Ls (.long z :: .long x :: st) := by
  subst hp; exact K.step fun p e s m args below meth c T locs C X E t q => XT.ladd X.here C.1 rfl (hb C.2.1 hd) rfl q
theorem rw_lsub {x : Int64} {z : Int64} (pc' : Nat) (hd : decode bytes pc = .ok (.lsub, 1)) (hp : pc + 1 = pc') (K : RunW l Z y bytes ml ret R n0 Q J h k n pc' Ls (.long (x - z) :: st)) : RunW l Z y bytes ml ret R n0 Q J h k n pc Ls (.long z :: .long x :: st) := by
  subst hp; exact K.step fun p e s m args below meth c T locs C X E t q => XT.lsub X.here C.1 rfl (hb C.2.1 hd) rfl q
theorem rw_lmul {x : Int64} {z : Int64} (pc' : Nat) (hd : decode bytes pc = .ok (.lmul, 1)) (hp : pc + 1 = pc') (K : RunW l Z y bytes ml ret R n0 Q J h k n pc' Ls (.long (x * z) :: st)) : RunW l Z y bytes ml ret R n0 Q J h k n pc Ls (.long z :: .long x :: st) := by
  subst hp; exact K.step fun p e s m args below meth c T locs C X E t q => XT.lmul X.here C.1 rfl (hb C.2.1 hd) rfl q
theorem rw_land {x : Int64} {z : Int64} (pc' : Nat) (hd : decode bytes pc = .ok (.land, 1)) (hp : pc + 1 = pc') (K : RunW l Z y bytes ml ret R n0 Q J h k n pc' Ls (.long (x &&& z) :: st)) : RunW l Z y bytes ml ret R n0 Q J h k n pc Ls (.long z :: .long x :: st) := by
  subst hp; exact K.step fun p e s m args below meth c T locs C X E t q => XT.land X.here C.1 rfl (hb C.2.1 hd) rfl q
theorem rw_lor {x : Int64} {z : Int64} (pc' : Nat) (hd : decode bytes pc = .ok (.lor, 1)) (hp : pc + 1 = pc') (K : RunW l Z y bytes ml ret R n0 Q J h k n pc' Ls (.long (x ||| z) :: st)) : RunW l Z y bytes ml ret R n0 Q J h k n pc Ls (.long z :: .long x :: st) := by
  subst hp; exact K.step fun p e s m args below meth c T locs C X E t q => XT.lor X.here C.1 rfl (hb C.2.1 hd) rfl q
theorem rw_lxor {x : Int64} {z : Int64} (pc' : Nat) (hd : decode bytes pc = .ok (.lxor, 1)) (hp : pc + 1 = pc') (K : RunW l Z y bytes ml ret R n0 Q J h k n pc' Ls (.long (x ^^^ z) :: st)) : RunW l Z y bytes ml ret R n0 Q J h k n pc Ls (.long z :: .long x :: st) := by
  subst hp; exact K.step fun p e s m args below meth c T locs C X E t q => XT.lxor X.here C.1 rfl (hb C.2.1 hd) rfl q
theorem rw_ishl {x : Int32} {z : Int32} (pc' : Nat) (hd : decode bytes pc = .ok (.ishl, 1)) (hp : pc + 1 = pc') (K : RunW l Z y bytes ml ret R n0 Q J h k n pc' Ls (.int (x <<< (z &&& 31)) :: st)) : RunW l Z y bytes ml ret R n0 Q J h k n pc Ls (.int z :: .int x :: st) := by
  subst hp; exact K.step fun p e s m args below meth c T locs C X E t q => XT.ishl X.here C.1 rfl (hb C.2.1 hd) rfl q
theorem rw_ishr {x : Int32} {z : Int32} (pc' : Nat) (hd : decode bytes pc = .ok (.ishr, 1)) (hp : pc + 1 = pc') (K : RunW l Z y bytes ml ret R n0 Q J h k n pc' Ls (.int (x >>> (z &&& 31)) :: st)) : RunW l Z y bytes ml ret R n0 Q J h k n pc Ls (.int z :: .int x :: st) := by
  subst hp; exact K.step fun p e s m args below meth c T locs C X E t q => XT.ishr X.here C.1 rfl (hb C.2.1 hd) rfl q
theorem rw_iushr {x : Int32} {z : Int32} (pc' : Nat) (hd : decode bytes pc = .ok (.iushr, 1)) (hp : pc + 1 = pc') (K : RunW l Z y bytes ml ret R n0 Q J h k n pc' Ls (.int (XT.ushr x z) :: st)) : RunW l Z y bytes ml ret R n0 Q J h k n pc Ls (.int z :: .int x :: st) := by
  subst hp; exact K.step fun p e s m args below meth c T locs C X E t q => XT.iushr X.here C.1 rfl (hb C.2.1 hd) rfl q
theorem rw_lshl {x : Int64} {z : Int32} (pc' : Nat) (hd : decode bytes pc = .ok (.lshl, 1)) (hp : pc + 1 = pc') (K : RunW l Z y bytes ml ret R n0 Q J h k n pc' Ls (.long (x <<< (z.toInt64 &&& 63)) :: st)) : RunW l Z y bytes ml ret R n0 Q J h k n pc Ls (.int z :: .long x :: st) := by
  subst hp; exact K.step fun p e s m args below meth c T locs C X E t q => XT.lshl X.here C.1 rfl (hb C.2.1 hd) rfl q
theorem rw_lshr {x : Int64} {z : Int32} (pc' : Nat) (hd : decode bytes pc = .ok (.lshr, 1)) (hp : pc + 1 = pc') (K : RunW l Z y bytes ml ret R n0 Q J h k n pc' Ls (.long (x >>> (z.toInt64 &&& 63)) :: st)) : RunW l Z y bytes ml ret R n0 Q J h k n pc Ls (.int z :: .long x :: st) := by
  subst hp; exact K.step fun p e s m args below meth c T locs C X E t q => XT.lshr X.here C.1 rfl (hb C.2.1 hd) rfl q
theorem rw_lushr {x : Int64} {z : Int32} (pc' : Nat) (hd : decode bytes pc = .ok (.lushr, 1)) (hp : pc + 1 = pc') (K : RunW l Z y bytes ml ret R n0 Q J h k n pc' Ls (.long (XT.ushrL x z) :: st)) : RunW l Z y bytes ml ret R n0 Q J h k n pc Ls (.int z :: .long x :: st) := by
  subst hp; exact K.step fun p e s m args below meth c T locs C X E t q => XT.lushr X.here C.1 rfl (hb C.2.1 hd) rfl q
theorem rw_idiv {x : Int32} {z : Int32} (pc' : Nat) (hd : decode bytes pc = .ok (.idiv, 1)) (hp : pc + 1 = pc') (hy : z ≠ 0) (K : RunW l Z y bytes ml ret R n0 Q J h k n pc' Ls (.int (x / z) :: st)) : RunW l Z y bytes ml ret R n0 Q J h k n pc Ls (.int z :: .int x :: st) := by
  subst hp; exact K.step fun p e s m args below meth c T locs C X E t q => XS.idiv X.here C.1 rfl (hb C.2.1 hd) rfl hy q
theorem rw_lcmp {x : Int64} {z : Int64} (pc' : Nat) (hd : decode bytes pc = .ok (.lcmp, 1)) (hp : pc + 1 = pc') (K : RunW l Z y bytes ml ret R n0 Q J h k n pc' Ls (.int (XT.cmpL x z) :: st)) : RunW l Z y bytes ml ret R n0 Q J h k n pc Ls (.long z :: .long x :: st) := by
  subst hp; exact K.step fun p e s m args below meth c T locs C X E t q => XT.lcmp X.here C.1 rfl (hb C.2.1 hd) rfl q
theorem rw_irem {x z : Int32} (pc' : Nat) (hd : decode bytes pc = .ok (.irem, 1)) (hp : pc + 1 = pc') (hy : z ≠ 0) (K : RunW l Z y bytes ml ret R n0 Q J h k n pc' Ls (.int (x % z) :: st)) : RunW l Z y bytes ml ret R n0 Q J h k n pc Ls (.int z :: .int x :: st) := by
  subst hp; exact K.step fun p e s m args below meth c T locs C X E t q => iremM X C.1 rfl (hb C.2.1 hd) rfl hy q
theorem rw_ineg {x : Int32} (pc' : Nat) (hd : decode bytes pc = .ok (.ineg, 1)) (hp : pc + 1 = pc') (K : RunW l Z y bytes ml ret R n0 Q J h k n pc' Ls (.int (-x) :: st)) : RunW l Z y bytes ml ret R n0 Q J h k n pc Ls (.int x :: st) := by
  subst hp; exact K.step fun p e s m args below meth c T locs C X E t q => XS.ineg X.here C.1 rfl (hb C.2.1 hd) rfl q
theorem rw_i2l {x : Int32} (pc' : Nat) (hd : decode bytes pc = .ok (.i2l, 1)) (hp : pc + 1 = pc') (K : RunW l Z y bytes ml ret R n0 Q J h k n pc' Ls (.long x.toInt64 :: st)) : RunW l Z y bytes ml ret R n0 Q J h k n pc Ls (.int x :: st) := by
  subst hp; exact K.step fun p e s m args below meth c T locs C X E t q => XT.i2l X.here C.1 rfl (hb C.2.1 hd) rfl q
theorem rw_l2i {x : Int64} (pc' : Nat) (hd : decode bytes pc = .ok (.l2i, 1)) (hp : pc + 1 = pc') (K : RunW l Z y bytes ml ret R n0 Q J h k n pc' Ls (.int x.toInt32 :: st)) : RunW l Z y bytes ml ret R n0 Q J h k n pc Ls (.long x :: st) := by
  subst hp; exact K.step fun p e s m args below meth c T locs C X E t q => XT.l2i X.here C.1 rfl (hb C.2.1 hd) rfl q
theorem rw_i2b {x : Int32} (pc' : Nat) (hd : decode bytes pc = .ok (.i2b, 1)) (hp : pc + 1 = pc') (K : RunW l Z y bytes ml ret R n0 Q J h k n pc' Ls (.int x.toInt8.toInt32 :: st)) : RunW l Z y bytes ml ret R n0 Q J h k n pc Ls (.int x :: st) := by
  subst hp; exact K.step fun p e s m args below meth c T locs C X E t q => XT.i2b X.here C.1 rfl (hb C.2.1 hd) rfl q
theorem rw_i2c {x : Int32} (pc' : Nat) (hd : decode bytes pc = .ok (.i2c, 1)) (hp : pc + 1 = pc') (K : RunW l Z y bytes ml ret R n0 Q J h k n pc' Ls (.int x.toUInt32.toUInt16.toUInt32.toInt32 :: st)) : RunW l Z y bytes ml ret R n0 Q J h k n pc Ls (.int x :: st) := by
  subst hp; exact K.step fun p e s m args below meth c T locs C X E t q => XT.i2c X.here C.1 rfl (hb C.2.1 hd) rfl q
theorem rw_i2s {x : Int32} (pc' : Nat) (hd : decode bytes pc = .ok (.i2s, 1)) (hp : pc + 1 = pc') (K : RunW l Z y bytes ml ret R n0 Q J h k n pc' Ls (.int x.toInt16.toInt32 :: st)) : RunW l Z y bytes ml ret R n0 Q J h k n pc Ls (.int x :: st) := by
  subst hp; exact K.step fun p e s m args below meth c T locs C X E t q => XT.i2s X.here C.1 rfl (hb C.2.1 hd) rfl q
theorem rw_dup {x : Value} (pc' : Nat) (hd : decode bytes pc = .ok (.dup, 1)) (hp : pc + 1 = pc') (hc : x.category = 1) (K : RunW l Z y bytes ml ret R n0 Q J h k n pc' Ls (x :: x :: st)) : RunW l Z y bytes ml ret R n0 Q J h k n pc Ls (x :: st) := by
  subst hp; exact K.step fun p e s m args below meth c T locs C X E t q => XS.dup X.here C.1 rfl (hb C.2.1 hd) rfl hc q
theorem rw_dupX1 {x z : Value} (pc' : Nat) (hd : decode bytes pc = .ok (.dup_x1, 1)) (hp : pc + 1 = pc') (hc : x.category = 1) (hc' : z.category = 1) (K : RunW l Z y bytes ml ret R n0 Q J h k n pc' Ls (x :: z :: x :: st)) : RunW l Z y bytes ml ret R n0 Q J h k n pc Ls (x :: z :: st) := by
  subst hp; exact K.step fun p e s m args below meth c T locs C X E t q => XT.dupX1 X.here C.1 rfl (hb C.2.1 hd) rfl hc hc' q
theorem rw_pop {x : Value} (pc' : Nat) (hd : decode bytes pc = .ok (.pop, 1)) (hp : pc + 1 = pc') (hc : x.category = 1) (K : RunW l Z y bytes ml ret R n0 Q J h k n pc' Ls st) : RunW l Z y bytes ml ret R n0 Q J h k n pc Ls (x :: st) := by
  subst hp; exact K.step fun p e s m args below meth c T locs C X E t q => XT.pop X.here C.1 rfl (hb C.2.1 hd) rfl hc q
theorem rw_goto {o : Int} (pc' : Nat) (hd : decode bytes pc = .ok (.goto o, 3)) (hp : (0 : Int) ≤ (pc : Int) + o ∧ ((pc : Int) + o).toNat = pc') (K : RunW l Z y bytes ml ret R n0 Q J h k n pc' Ls st) : RunW l Z y bytes ml ret R n0 Q J h k n pc Ls st :=
  K.step fun p e s m args below meth c T locs C X E t q => XS.goto X.here C.1 rfl rfl (hb C.2.1 hd) hp.1 hp.2 q
theorem rw_icmp_eq {x z : Int32} {o : Int} (pc' pc'' : Nat) (hd : decode bytes pc = .ok (.if_icmp .eq o, 3)) (hp : (0 : Int) ≤ (pc : Int) + o ∧ ((pc : Int) + o).toNat = pc') (hq : pc + 3 = pc'') (K1 : x = z → RunW l Z y bytes ml ret R n0 Q J h k n pc' Ls st) (K2 : ¬ x = z → RunW l Z y bytes ml ret R n0 Q J h k n pc'' Ls st) : RunW l Z y bytes ml ret R n0 Q J h k n pc Ls (.int z :: .int x :: st) := by
  subst hq
  by_cases q' : x = z
  · exact (K1 q').step fun p e s m args below meth c T locs C X E t q => XS.icmpYes X.here C.1 rfl rfl (hb C.2.1 hd) rfl (teq q').1 hp.1 hp.2 q
  · exact (K2 q').step fun p e s m args below meth c T locs C X E t q => XS.icmpNo X.here C.1 rfl (hb C.2.1 hd) rfl (feq q').1 q
theorem rw_if_eq {x : Int32} {o : Int} (pc' pc'' : Nat) (hd : decode bytes pc = .ok (.ifCond .eq o, 3)) (hp : (0 : Int) ≤ (pc : Int) + o ∧ ((pc : Int) + o).toNat = pc') (hq : pc + 3 = pc'') (K1 : x = 0 → RunW l Z y bytes ml ret R n0 Q J h k n pc' Ls st) (K2 : ¬ x = 0 → RunW l Z y bytes ml ret R n0 Q J h k n pc'' Ls st) : RunW l Z y bytes ml ret R n0 Q J h k n pc Ls (.int x :: st) := by
  subst hq
  by_cases q' : x = 0
  · exact (K1 q').step fun p e s m args below meth c T locs C X E t q => XS.ifYes X.here C.1 rfl rfl (hb C.2.1 hd) rfl ((if0 _ _).trans (teq q').1) hp.1 hp.2 q
  · exact (K2 q').step fun p e s m args below meth c T locs C X E t q => XS.ifNo X.here C.1 rfl (hb C.2.1 hd) rfl ((if0 _ _).trans (feq q').1) q
theorem rw_icmp_ne {x z : Int32} {o : Int} (pc' pc'' : Nat) (hd : decode bytes pc = .ok (.if_icmp .ne o, 3)) (hp : (0 : Int) ≤ (pc : Int) + o ∧ ((pc : Int) + o).toNat = pc') (hq : pc + 3 = pc'') (K1 : ¬ x = z → RunW l Z y bytes ml ret R n0 Q J h k n pc' Ls st) (K2 : x = z → RunW l Z y bytes ml ret R n0 Q J h k n pc'' Ls st) : RunW l Z y bytes ml ret R n0 Q J h k n pc Ls (.int z :: .int x :: st) := by
  subst hq
  by_cases q' : x = z
  · exact (K2 q').step fun p e s m args below meth c T locs C X E t q => XS.icmpNo X.here C.1 rfl (hb C.2.1 hd) rfl (teq q').2 q
  · exact (K1 q').step fun p e s m args below meth c T locs C X E t q => XS.icmpYes X.here C.1 rfl rfl (hb C.2.1 hd) rfl (feq q').2 hp.1 hp.2 q
theorem rw_if_ne {x : Int32} {o : Int} (pc' pc'' : Nat) (hd : decode bytes pc = .ok (.ifCond .ne o, 3)) (hp : (0 : Int) ≤ (pc : Int) + o ∧ ((pc : Int) + o).toNat = pc') (hq : pc + 3 = pc'') (K1 : ¬ x = 0 → RunW l Z y bytes ml ret R n0 Q J h k n pc' Ls st) (K2 : x = 0 → RunW l Z y bytes ml ret R n0 Q J h k n pc'' Ls st) : RunW l Z y bytes ml ret R n0 Q J h k n pc Ls (.int x :: st) := by
  subst hq
  by_cases q' : x = 0
  · exact (K2 q').step fun p e s m args below meth c T locs C X E t q => XS.ifNo X.here C.1 rfl (hb C.2.1 hd) rfl ((if0 _ _).trans (teq q').2) q
  · exact (K1 q').step fun p e s m args below meth c T locs C X E t q => XS.ifYes X.here C.1 rfl rfl (hb C.2.1 hd) rfl ((if0 _ _).trans (feq q').2) hp.1 hp.2 q
theorem rw_icmp_lt {x z : Int32} {o : Int} (pc' pc'' : Nat) (hd : decode bytes pc = .ok (.if_icmp .lt o, 3)) (hp : (0 : Int) ≤ (pc : Int) + o ∧ ((pc : Int) + o).toNat = pc') (hq : pc + 3 = pc'') (K1 : x < z → RunW l Z y bytes ml ret R n0 Q J h k n pc' Ls st) (K2 : ¬ x < z → RunW l Z y bytes ml ret R n0 Q J h k n pc'' Ls st) : RunW l Z y bytes ml ret R n0 Q J h k n pc Ls (.int z :: .int x :: st) := by
  subst hq
  by_cases q' : x < z
  · exact (K1 q').step fun p e s m args below meth c T locs C X E t q => XS.icmpYes X.here C.1 rfl rfl (hb C.2.1 hd) rfl (tlt q').1 hp.1 hp.2 q
  · exact (K2 q').step fun p e s m args below meth c T locs C X E t q => XS.icmpNo X.here C.1 rfl (hb C.2.1 hd) rfl (flt q').1 q
theorem rw_if_lt {x : Int32} {o : Int} (pc' pc'' : Nat) (hd : decode bytes pc = .ok (.ifCond .lt o, 3)) (hp : (0 : Int) ≤ (pc : Int) + o ∧ ((pc : Int) + o).toNat = pc') (hq : pc + 3 = pc'') (K1 : x < 0 → RunW l Z y bytes ml ret R n0 Q J h k n pc' Ls st) (K2 : ¬ x < 0 → RunW l Z y bytes ml ret R n0 Q J h k n pc'' Ls st) : RunW l Z y bytes ml ret R n0 Q J h k n pc Ls (.int x :: st) := by
  subst hq
  by_cases q' : x < 0
  · exact (K1 q').step fun p e s m args below meth c T locs C X E t q => XS.ifYes X.here C.1 rfl rfl (hb C.2.1 hd) rfl ((if0 _ _).trans (tlt q').1) hp.1 hp.2 q
  · exact (K2 q').step fun p e s m args below meth c T locs C X E t q => XS.ifNo X.here C.1 rfl (hb C.2.1 hd) rfl ((if0 _ _).trans (flt q').1) q
theorem rw_icmp_ge {x z : Int32} {o : Int} (pc' pc'' : Nat) (hd : decode bytes pc = .ok (.if_icmp .ge o, 3)) (hp : (0 : Int) ≤ (pc : Int) + o ∧ ((pc : Int) + o).toNat = pc') (hq : pc + 3 = pc'') (K1 : ¬ x < z → RunW l Z y bytes ml ret R n0 Q J h k n pc' Ls st) (K2 : x < z → RunW l Z y bytes ml ret R n0 Q J h k n pc'' Ls st) : RunW l Z y bytes ml ret R n0 Q J h k n pc Ls (.int z :: .int x :: st) := by
  subst hq
  by_cases q' : x < z
  · exact (K2 q').step fun p e s m args below meth c T locs C X E t q => XS.icmpNo X.here C.1 rfl (hb C.2.1 hd) rfl (tlt q').2.1 q
  · exact (K1 q').step fun p e s m args below meth c T locs C X E t q => XS.icmpYes X.here C.1 rfl rfl (hb C.2.1 hd) rfl (flt q').2.1 hp.1 hp.2 q
theorem rw_if_ge {x : Int32} {o : Int} (pc' pc'' : Nat) (hd : decode bytes pc = .ok (.ifCond .ge o, 3)) (hp : (0 : Int) ≤ (pc : Int) + o ∧ ((pc : Int) + o).toNat = pc') (hq : pc + 3 = pc'') (K1 : ¬ x < 0 → RunW l Z y bytes ml ret R n0 Q J h k n pc' Ls st) (K2 : x < 0 → RunW l Z y bytes ml ret R n0 Q J h k n pc'' Ls st) : RunW l Z y bytes ml ret R n0 Q J h k n pc Ls (.int x :: st) := by
  subst hq
  by_cases q' : x < 0
  · exact (K2 q').step fun p e s m args below meth c T locs C X E t q => XS.ifNo X.here C.1 rfl (hb C.2.1 hd) rfl ((if0 _ _).trans (tlt q').2.1) q
  · exact (K1 q').step fun p e s m args below meth c T locs C X E t q => XS.ifYes X.here C.1 rfl rfl (hb C.2.1 hd) rfl ((if0 _ _).trans (flt q').2.1) hp.1 hp.2 q
theorem rw_icmp_gt {x z : Int32} {o : Int} (pc' pc'' : Nat) (hd : decode bytes pc = .ok (.if_icmp .gt o, 3)) (hp : (0 : Int) ≤ (pc : Int) + o ∧ ((pc : Int) + o).toNat = pc') (hq : pc + 3 = pc'') (K1 : z < x → RunW l Z y bytes ml ret R n0 Q J h k n pc' Ls st) (K2 : ¬ z < x → RunW l Z y bytes ml ret R n0 Q J h k n pc'' Ls st) : RunW l Z y bytes ml ret R n0 Q J h k n pc Ls (.int z :: .int x :: st) := by
  subst hq
  by_cases q' : z < x
  · exact (K1 q').step fun p e s m args below meth c T locs C X E t q => XS.icmpYes X.here C.1 rfl rfl (hb C.2.1 hd) rfl (tlt q').2.2.1 hp.1 hp.2 q
  · exact (K2 q').step fun p e s m args below meth c T locs C X E t q => XS.icmpNo X.here C.1 rfl (hb C.2.1 hd) rfl (flt q').2.2.1 q
theorem rw_if_gt {x : Int32} {o : Int} (pc' pc'' : Nat) (hd : decode bytes pc = .ok (.ifCond .gt o, 3)) (hp : (0 : Int) ≤ (pc : Int) + o ∧ ((pc : Int) + o).toNat = pc') (hq : pc + 3 = pc'') (K1 : 0 < x → RunW l Z y bytes ml ret R n0 Q J h k n pc' Ls st) (K2 : ¬ 0 < x → RunW l Z y bytes ml ret R n0 Q J h k n pc'' Ls st) : RunW l Z y bytes ml ret R n0 Q J h k n pc Ls (.int x :: st) := by
  subst hq
  by_cases q' : 0 < x
  · exact (K1 q').step fun p e s m args below meth c T locs C X E t q => XS.ifYes X.here C.1 rfl rfl (hb C.2.1 hd) rfl ((if0 _ _).trans (tlt q').2.2.1) hp.1 hp.2 q
  · exact (K2 q').step fun p e s m args below meth c T locs C X E t q => XS.ifNo X.here C.1 rfl (hb C.2.1 hd) rfl ((if0 _ _).trans (flt q').2.2.1) q
theorem rw_icmp_le {x z : Int32} {o : Int} (pc' pc'' : Nat) (hd : decode bytes pc = .ok (.if_icmp .le o, 3)) (hp : (0 : Int) ≤ (pc : Int) + o ∧ ((pc : Int) + o).toNat = pc') (hq : pc + 3 = pc'') (K1 : ¬ z < x → RunW l Z y bytes ml ret R n0 Q J h k n pc' Ls st) (K2 : z < x → RunW l Z y bytes ml ret R n0 Q J h k n pc'' Ls st) : RunW l Z y bytes ml ret R n0 Q J h k n pc Ls (.int z :: .int x :: st) := by
  subst hq
  by_cases q' : z < x
  · exact (K2 q').step fun p e s m args below meth c T locs C X E t q => XS.icmpNo X.here C.1 rfl (hb C.2.1 hd) rfl (tlt q').2.2.2 q
  · exact (K1 q').step fun p e s m args below meth c T locs C X E t q => XS.icmpYes X.here C.1 rfl rfl (hb C.2.1 hd) rfl (flt q').2.2.2 hp.1 hp.2 q
theorem rw_if_le {x : Int32} {o : Int} (pc' pc'' : Nat) (hd : decode bytes pc = .ok (.ifCond .le o, 3)) (hp : (0 : Int) ≤ (pc : Int) + o ∧ ((pc : Int) + o).toNat = pc') (hq : pc + 3 = pc'') (K1 : ¬ 0 < x → RunW l Z y bytes ml ret R n0 Q J h k n pc' Ls st) (K2 : 0 < x → RunW l Z y bytes ml ret R n0 Q J h k n pc'' Ls st) : RunW l Z y bytes ml ret R n0 Q J h k n pc Ls (.int x :: st) := by
  subst hq
  by_cases q' : 0 < x
  · exact (K2 q').step fun p e s m args below meth c T locs C X E t q => XS.ifNo X.here C.1 rfl (hb C.2.1 hd) rfl ((if0 _ _).trans (tlt q').2.2.2) q
  · exact (K1 q').step fun p e s m args below meth c T locs C X E t q => XS.ifYes X.here C.1 rfl rfl (hb C.2.1 hd) rfl ((if0 _ _).trans (flt q').2.2.2) hp.1 hp.2 q
theorem rw_acmp_eq {x z : Value} {o : Int} (pc' pc'' : Nat) (hd : decode bytes pc = .ok (.if_acmp .eq o, 3)) (hp : (0 : Int) ≤ (pc : Int) + o ∧ ((pc : Int) + o).toNat = pc') (hq : pc + 3 = pc'') (hx : x.isRef = true) (hz : z.isRef = true) (K1 : x = z → RunW l Z y bytes ml ret R n0 Q J h k n pc' Ls st) (K2 : ¬ x = z → RunW l Z y bytes ml ret R n0 Q J h k n pc'' Ls st) : RunW l Z y bytes ml ret R n0 Q J h k n pc Ls (z :: x :: st) := by
  subst hq
  by_cases q' : x = z
  · exact (K1 q').step fun p e s m args below meth c T locs C X E t q => XT.acmpYes X.here C.1 rfl rfl (hb C.2.1 hd) rfl hx hz (XT.aa_eq_t q') hp.1 hp.2 q
  · exact (K2 q').step fun p e s m args below meth c T locs C X E t q => XT.acmpNo X.here C.1 rfl (hb C.2.1 hd) rfl hx hz (XT.aa_eq_f q') q
theorem rw_acmp_ne {x z : Value} {o : Int} (pc' pc'' : Nat) (hd : decode bytes pc = .ok (.if_acmp .ne o, 3)) (hp : (0 : Int) ≤ (pc : Int) + o ∧ ((pc : Int) + o).toNat = pc') (hq : pc + 3 = pc'') (hx : x.isRef = true) (hz : z.isRef = true) (K1 : ¬ x = z → RunW l Z y bytes ml ret R n0 Q J h k n pc' Ls st) (K2 : x = z → RunW l Z y bytes ml ret R n0 Q J h k n pc'' Ls st) : RunW l Z y bytes ml ret R n0 Q J h k n pc Ls (z :: x :: st) := by
  subst hq
  by_cases q' : x = z
  · exact (K2 q').step fun p e s m args below meth c T locs C X E t q => XT.acmpNo X.here C.1 rfl (hb C.2.1 hd) rfl hx hz (XT.aa_ne_f q') q
  · exact (K1 q').step fun p e s m args below meth c T locs C X E t q => XT.acmpYes X.here C.1 rfl rfl (hb C.2.1 hd) rfl hx hz (XT.aa_ne_t q') hp.1 hp.2 q
theorem rw_nonnullYes {a : Addr} {o : Int} (pc' : Nat) (hd : decode bytes pc = .ok (.ifnonnull o, 3)) (hp : (0 : Int) ≤ (pc : Int) + o ∧ ((pc : Int) + o).toNat = pc') (K : RunW l Z y bytes ml ret R n0 Q J h k n pc' Ls st) : RunW l Z y bytes ml ret R n0 Q J h k n pc Ls (.ref a :: st) :=
  K.step fun p e s m args below meth c T locs C X E t q => XT.ifnonnullYes X.here C.1 rfl rfl (hb C.2.1 hd) rfl hp.1 hp.2 q
theorem rw_nonnullNo {o : Int} (pc'' : Nat) (hd : decode bytes pc = .ok (.ifnonnull o, 3)) (hq : pc + 3 = pc'') (K : RunW l Z y bytes ml ret R n0 Q J h k n pc'' Ls st) : RunW l Z y bytes ml ret R n0 Q J h k n pc Ls (.null :: st) := by
  subst hq; exact K.step fun p e s m args below meth c T locs C X E t q => XT.ifnonnullNo X.here C.1 rfl (hb C.2.1 hd) rfl q
theorem rw_nullYes {o : Int} (pc' : Nat) (hd : decode bytes pc = .ok (.ifnull o, 3)) (hp : (0 : Int) ≤ (pc : Int) + o ∧ ((pc : Int) + o).toNat = pc') (K : RunW l Z y bytes ml ret R n0 Q J h k n pc' Ls st) : RunW l Z y bytes ml ret R n0 Q J h k n pc Ls (.null :: st) :=
  K.step fun p e s m args below meth c T locs C X E t q => XS.ifnullYes X.here C.1 rfl rfl (hb C.2.1 hd) rfl hp.1 hp.2 q
theorem rw_nullNo {a : Addr} {o : Int} (pc'' : Nat) (hd : decode bytes pc = .ok (.ifnull o, 3)) (hq : pc + 3 = pc'') (K : RunW l Z y bytes ml ret R n0 Q J h k n pc'' Ls st) : RunW l Z y bytes ml ret R n0 Q J h k n pc Ls (.ref a :: st) := by
  subst hq; exact K.step fun p e s m args below meth c T locs C X E t q => XS.ifnullNo X.here C.1 rfl (hb C.2.1 hd) rfl q
theorem rw_getstatic {i : Nat} {R0 O f d : String} {v : Value} (pc' : Nat) (hd : decode bytes pc = .ok (.getstatic i, 3)) (hp : pc + 3 = pc') (w : (Jvm.Cond.fieldLink y.cls i R0 f d).before a0 Z = true) (via : Via Z R0 O f d) (F : Sta Z h O f d v)
    (K : RunW l Z y bytes ml ret R n0 Q J h k n pc' Ls (v :: st)) : RunW l Z y bytes ml ret R n0 Q J h k n pc Ls st := by
  subst hp
  exact K.move fun p e s m args below meth c T locs C X N E => by
    obtain ⟨T', X', e', q⟩ := getS X C.1 C.2.2.2.1 (host := "") C.2.2.2.2.1 w via E F (g := mkF m pc Ls.toArray st) rfl (hb C.2.1 hd)
    exact ⟨T', _, X', N, e', q⟩
theorem rw_getfield {i : Nat} {R0 O f d host : String} {v : Value} {a : Addr} (pc' : Nat) (hd : decode bytes pc = .ok (.getfield i, 3)) (hp : pc + 3 = pc') (w : (Jvm.Cond.fieldLink y.cls i R0 f d).before a0 Z = true ∨ (Jvm.Cond.fieldLinkNest y.cls i R0 f d host).before a0 Z = true) (via : Via Z R0 O f d) (F : Fld Z h a O f d v)
    (K : RunW l Z y bytes ml ret R n0 Q J h k n pc' Ls (v :: st)) : RunW l Z y bytes ml ret R n0 Q J h k n pc Ls (.ref a :: st) := by
  subst hp
  exact K.move fun p e s m args below meth c T locs C X N E => by
    obtain ⟨T', X', e', q⟩ := getF X C.1 C.2.2.2.1 C.2.2.2.2.1 w via E F (g := mkF m pc Ls.toArray (.ref a :: st)) rfl rfl (hb C.2.1 hd)
    exact ⟨T', _, X', N, e', q⟩
theorem rw_putfield {i kk : Nat} {R0 O f d host C' : String} {ty : FieldType} {v old : Value} {a : Addr} (pc' : Nat) (hd : decode bytes pc = .ok (.putfield i, 3)) (hp : pc + 3 = pc') (w : (Jvm.Cond.fieldLink y.cls i R0 f d).before a0 Z = true ∨ (Jvm.Cond.fieldLinkNest y.cls i R0 f d host).before a0 Z = true) (via : Via Z R0 O f d) (F : Fld Z h a O f d old) (E1 : Exa Z h a C')
    (L : (Jvm.Cond.lays C' O f d).before a0 Z = true ∨ ((Jvm.Cond.laysFinal C' O f d).before a0 Z = true ∧ y.cls = O ∧ y.name = "<init>")) (wi : (Jvm.Cond.instantiable C' kk).before a0 Z = true) (hty : parseFieldDescriptor d = some ty) (hn : narrow ty v = v) (hf : fits ty v = true) (ha : n0 ≤ a)
    (K : ∀ h', Wr h h' a (Jvm.RoadKit.slotOf Z O f d) v → RunW l Z y bytes ml ret R n0 Q J h' k n pc' Ls st) : RunW l Z y bytes ml ret R n0 Q J h k n pc Ls (v :: .ref a :: st) := fun p e s m args below meth c T locs s0 k0 C X N E hW hJ => by
  subst hp
  obtain ⟨T', h', X', e', W, q⟩ := putF X C.1 C.2.2.2.1 C.2.2.2.2.1 w via E F E1 (L.imp id fun ⟨u1, u2, u3⟩ => ⟨u1, u2, C.2.2.2.2.2.1.trans u3⟩) wi hty hn hf (g := mkF m pc Ls.toArray (v :: .ref a :: st)) rfl rfl (hb C.2.1 hd)
  obtain ⟨s2, o, h1, h2⟩ := K h' W p e s m args below meth c T' _ s0 k0 C X' (Fr.snoc X' N ha) e' (hW.grow (Nat.le_of_eq W.size.symm)) hJ
  exact ⟨s2, o, q _ h1, h2⟩
theorem rw_new {i nn : Nat} {C' : String} (pc' : Nat) (hd : decode bytes pc = .ok (.new i, 3)) (hp : pc + 3 = pc') (w : (Jvm.Cond.classLink y.cls i C').before a0 Z = true) (wi : (Jvm.Cond.instantiable C' nn).before a0 Z = true) (wz : (Jvm.Cond.initialized C').before a0 Z = true) (hc : k + 1 ≤ R.cells) (hl : n + nn ≤ R.slots)
    (K : ∀ h' a, a = h.size → Ext h h' → Exa Z h' a C' → (∀ {O nm d : String} {ty : FieldType}, Laid Z a0 C' O nm d → parseFieldDescriptor d = some ty → Fld Z h' a O nm d (defaultValue ty)) → RunW l Z y bytes ml ret R n0 Q J h' (k + 1) (n + nn) pc' Ls (.ref a :: st)) : RunW l Z y bytes ml ret R n0 Q J h k n pc Ls st := fun p e s m args below meth c T locs s0 k0 C X N E hW hJ => by
  subst hp
  obtain ⟨T', h', X', e', E2, A2, D2, -, q⟩ := newO X C.1 C.2.2.2.1 C.2.2.2.2.1 w wi wz E (g := mkF m pc Ls.toArray st) rfl (hb C.2.1 hd) hc hl
  obtain ⟨s2, o, h1, h2⟩ := K h' h.size rfl E2 A2 D2 p e s m args below meth c T' _ s0 k0 C X' N e' (hW.grow E2.1) hJ
  exact ⟨s2, o, q _ h1, h2⟩
theorem rw_newarray {aty : ArrayType} {z : Int32} (cap : Nat) (ad : String) (pc' : Nat) (hd : decode bytes pc = .ok (.newarray aty, 2)) (hp : pc + 2 = pc') (w : (Jvm.Cond.arrayClass (newarray.typeOf aty)).before a0 Z = true) (hz : ¬ z < 0) (hcap : z.toNatClampNeg ≤ cap) (hb8 : cap * 8 ≤ 536870912) (had : "[" ++ (newarray.typeOf aty).toString = ad) (hc : k + 1 ≤ R.cells) (hl : n + cap ≤ R.slots)
    (K : ∀ h' a cA, a = h.size → Ext h h' → Arv Z h' a cA (newarray.typeOf aty) z (List.replicate z.toNatClampNeg (defaultValue (newarray.typeOf aty))) (defaultValue (newarray.typeOf aty)) → Exa Z h' a ad → RunW l Z y bytes ml ret R n0 Q J h' (k + 1) (n + cap) pc' Ls (.ref a :: st)) : RunW l Z y bytes ml ret R n0 Q J h k n pc Ls (.int z :: st) := fun p e s m args below meth c T locs s0 k0 C X N E hW hJ => by
  subst hp
  obtain ⟨T', h', cA, X', e', E2, A2, E3, q⟩ := newPE X C.1 C.2.2.2.1 w E (g := mkF m pc Ls.toArray (.int z :: st)) rfl (hb C.2.1 hd) rfl hz hcap hb8 hc hl had
  obtain ⟨s2, o, h1, h2⟩ := K h' h.size cA rfl E2 (own_rep _ (Arv.new A2 hz)) E3 p e s m args below meth c T' _ s0 k0 C X' N e' (hW.grow E2.1) hJ
  exact ⟨s2, o, q _ h1, h2⟩
theorem rw_anewarray {i : Nat} {C' : String} {z : Int32} (cap : Nat) (ad : String) (pc' : Nat) (hd : decode bytes pc = .ok (.anewarray i, 3)) (hp : pc + 3 = pc') (w1 : (Jvm.Cond.classLink y.cls i C').before a0 Z = true) (w2 : (Jvm.Cond.arrayOver (.object C')).before a0 Z = true) (hz : ¬ z < 0) (hcap : z.toNatClampNeg ≤ cap) (hb8 : cap * 8 ≤ 536870912) (had : "[" ++ (FieldType.object C').toString = ad) (hc : k + 1 ≤ R.cells) (hl : n + cap ≤ R.slots)
    (K : ∀ h' a cA, a = h.size → Ext h h' → Arv Z h' a cA (.object C') z (List.replicate z.toNatClampNeg .null) .null → Exa Z h' a ad → Ovr Z cA C' → RunW l Z y bytes ml ret R n0 Q J h' (k + 1) (n + cap) pc' Ls (.ref a :: st)) : RunW l Z y bytes ml ret R n0 Q J h k n pc Ls (.int z :: st) := fun p e s m args below meth c T locs s0 k0 C X N E hW hJ => by
  subst hp
  obtain ⟨T', h', cA, X', e', E2, A2, E3, O3, q⟩ := newRE X C.1 C.2.2.2.1 C.2.2.2.2.1 w1 w2 E (g := mkF m pc Ls.toArray (.int z :: st)) rfl (hb C.2.1 hd) rfl hz hcap hb8 hc hl had
  obtain ⟨s2, o, h1, h2⟩ := K h' h.size cA rfl E2 (own_rep _ (Arv.new A2 hz)) E3 O3 p e s m args below meth c T' _ s0 k0 C X' N e' (hW.grow E2.1) hJ
  exact ⟨s2, o, q _ h1, h2⟩
theorem rw_arraylength {a : Addr} {cA : ClassId} {ty : FieldType} {z : Int32} {vs : List Value} {dv : Value} (pc' : Nat) (hd : decode bytes pc = .ok (.arraylength, 1)) (hp : pc + 1 = pc') (A : Arv Z h a cA ty z vs dv) (K : RunW l Z y bytes ml ret R n0 Q J h k n pc' Ls (.int z :: st)) : RunW l Z y bytes ml ret R n0 Q J h k n pc Ls (.ref a :: st) := by
  subst hp
  obtain ⟨cl, A1, -, S, hz, -⟩ := A
  rw [← len_of S hz] at K
  exact K.step fun p e s m args below meth c T locs C X E t q => X.arraylength C.1 (by rw [E]; exact A1.1) (State.isArrayOf_alike C.2.2.2.1.alike A1.2.1) (g := mkF m pc Ls.toArray (.ref a :: st)) rfl rfl (hb C.2.1 hd) _ q
theorem rw_iaload {a : Addr} {cA : ClassId} {z j : Int32} {vs : List Value} {dv : Value} (i : Nat) (v : Value) (pc' : Nat) (hd : decode bytes pc = .ok (.iaload, 1)) (hp : pc + 1 = pc') (A : Arv Z h a cA .int z vs dv) (hj : ¬ j < 0) (hi : j.toNatClampNeg = i) (hz : i < z.toNatClampNeg) (hv : vs.getD i dv = v) (K : RunW l Z y bytes ml ret R n0 Q J h k n pc' Ls (v :: st)) : RunW l Z y bytes ml ret R n0 Q J h k n pc Ls (.int j :: .ref a :: st) := by
  subst hp
  obtain ⟨cl, A1, -, S, -, H, -⟩ := A
  have hin := own_in S hj hi hz
  exact K.step fun p e s m args below meth c T locs C X E t q => X.iaload C.1 (by rw [E]; exact A1.1) (State.isArrayOf_alike C.2.2.2.1.alike A1.2.1) A1.2.2 hin (Has.at H hin (by rw [hi]; exact hv)) (g := mkF m pc Ls.toArray (.int j :: .ref a :: st)) rfl rfl (hb C.2.1 hd) _ q
theorem rw_caload {a : Addr} {cA : ClassId} {z j : Int32} {vs : List Value} {dv : Value} (i : Nat) (v : Value) (pc' : Nat) (hd : decode bytes pc = .ok (.caload, 1)) (hp : pc + 1 = pc') (A : Arv Z h a cA .char z vs dv) (hj : ¬ j < 0) (hi : j.toNatClampNeg = i) (hz : i < z.toNatClampNeg) (hv : vs.getD i dv = v) (K : RunW l Z y bytes ml ret R n0 Q J h k n pc' Ls (v :: st)) : RunW l Z y bytes ml ret R n0 Q J h k n pc Ls (.int j :: .ref a :: st) := by
  subst hp
  obtain ⟨cl, A1, -, S, -, H, -⟩ := A
  have hin := own_in S hj hi hz
  exact K.step fun p e s m args below meth c T locs C X E t q => X.caload C.1 (by rw [E]; exact A1.1) (State.isArrayOf_alike C.2.2.2.1.alike A1.2.1) A1.2.2 hin (Has.at H hin (by rw [hi]; exact hv)) (g := mkF m pc Ls.toArray (.int j :: .ref a :: st)) rfl rfl (hb C.2.1 hd) _ q
theorem rw_baload {a : Addr} {cA : ClassId} {z j : Int32} {vs : List Value} {dv : Value} (i : Nat) (v : Value) (pc' : Nat) (hd : decode bytes pc = .ok (.baload, 1)) (hp : pc + 1 = pc') (A : Arv Z h a cA .byte z vs dv) (hj : ¬ j < 0) (hi : j.toNatClampNeg = i) (hz : i < z.toNatClampNeg) (hv : vs.getD i dv = v) (K : RunW l Z y bytes ml ret R n0 Q J h k n pc' Ls (v :: st)) : RunW l Z y bytes ml ret R n0 Q J h k n pc Ls (.int j :: .ref a :: st) := by
  subst hp
  obtain ⟨cl, A1, -, S, -, H, -⟩ := A
  have hin := own_in S hj hi hz
  exact K.step fun p e s m args below meth c T locs C X E t q => X.baloadBytes C.1 (by rw [E]; exact A1.1) (State.isArrayOf_alike C.2.2.2.1.alike A1.2.1) A1.2.2 hin (Has.at H hin (by rw [hi]; exact hv)) (g := mkF m pc Ls.toArray (.int j :: .ref a :: st)) rfl rfl (hb C.2.1 hd) _ q
theorem rw_aaload {a : Addr} {cA : ClassId} {ty : FieldType} {z j : Int32} {vs : List Value} {dv : Value} (i : Nat) (v : Value) (pc' : Nat) (hd : decode bytes pc = .ok (.aaload, 1)) (hp : pc + 1 = pc') (A : Arv Z h a cA ty z vs dv) (hty : ty.isReference = true) (hj : ¬ j < 0) (hi : j.toNatClampNeg = i) (hz : i < z.toNatClampNeg) (hv : vs.getD i dv = v) (K : RunW l Z y bytes ml ret R n0 Q J h k n pc' Ls (v :: st)) : RunW l Z y bytes ml ret R n0 Q J h k n pc Ls (.int j :: .ref a :: st) := by
  subst hp
  obtain ⟨cl, A1, -, S, -, H, -⟩ := A
  have hin := own_in S hj hi hz
  exact K.step fun p e s m args below meth c T locs C X E t q => X.aaload C.1 (by rw [E]; exact A1.1) (State.isArrayOf_alike C.2.2.2.1.alike A1.2.1) hty A1.2.2 hin (Has.at H hin (by rw [hi]; exact hv)) (g := mkF m pc Ls.toArray (.int j :: .ref a :: st)) rfl rfl (hb C.2.1 hd) _ q
theorem rw_iastore {a : Addr} {cA : ClassId} {z j x : Int32} {vs : List Value} {dv : Value} (i : Nat) (pc' : Nat) (hd : decode bytes pc = .ok (.iastore, 1)) (hp : pc + 1 = pc') (A : Arv Z h a cA .int z vs dv) (hj : ¬ j < 0) (hi : j.toNatClampNeg = i) (hz : i < z.toNatClampNeg) (hl : i < vs.length) (ha : n0 ≤ a)
    (K : ∀ h', Wr h h' a i (.int x) → Arv Z h' a cA .int z (vs.set i (.int x)) dv → RunW l Z y bytes ml ret R n0 Q J h' k n pc' Ls st) : RunW l Z y bytes ml ret R n0 Q J h k n pc Ls (.int x :: .int j :: .ref a :: st) := fun p e s m args below meth c T locs s0 k0 C X N E hW hJ => by
  subst hp
  obtain ⟨cl, A1, q1, S, q3, H, G⟩ := A
  have hin := own_in S hj hi hz
  obtain ⟨T', h', X', e', W, q⟩ := stI X C.1 C.2.2.2.1 E A1 hin (g := mkF m pc Ls.toArray (.int x :: .int j :: .ref a :: st)) rfl rfl (hb C.2.1 hd)
  obtain ⟨s2, o, h1, h2⟩ := K h' (hi ▸ W) (Arv.set A1 q1 S q3 H G rfl W i hi hl) p e s m args below meth c T' _ s0 k0 C X' (Fr.snoc X' N ha) e' (hW.grow (Nat.le_of_eq W.size.symm)) hJ
  exact ⟨s2, o, q _ h1, h2⟩
theorem rw_castore {a : Addr} {cA : ClassId} {z j x : Int32} {vs : List Value} {dv : Value} (i : Nat) (pc' : Nat) (hd : decode bytes pc = .ok (.castore, 1)) (hp : pc + 1 = pc') (A : Arv Z h a cA .char z vs dv) (hj : ¬ j < 0) (hi : j.toNatClampNeg = i) (hz : i < z.toNatClampNeg) (hl : i < vs.length) (ha : n0 ≤ a)
    (K : ∀ h', Wr h h' a i (.int (nar .char x)) → Arv Z h' a cA .char z (vs.set i (.int (nar .char x))) dv → RunW l Z y bytes ml ret R n0 Q J h' k n pc' Ls st) : RunW l Z y bytes ml ret R n0 Q J h k n pc Ls (.int x :: .int j :: .ref a :: st) := fun p e s m args below meth c T locs s0 k0 C X N E hW hJ => by
  subst hp
  obtain ⟨cl, A1, q1, S, q3, H, G⟩ := A
  have hin := own_in S hj hi hz
  obtain ⟨T', h', X', e', W, q⟩ := stC X C.1 C.2.2.2.1 E A1 hin (g := mkF m pc Ls.toArray (.int x :: .int j :: .ref a :: st)) rfl rfl (hb C.2.1 hd)
  obtain ⟨s2, o, h1, h2⟩ := K h' (hi ▸ W) (Arv.set A1 q1 S q3 H G (fits_nar_char x) W i hi hl) p e s m args below meth c T' _ s0 k0 C X' (Fr.snoc X' N ha) e' (hW.grow (Nat.le_of_eq W.size.symm)) hJ
  exact ⟨s2, o, q _ h1, h2⟩
theorem rw_bastore {a : Addr} {cA : ClassId} {z j x : Int32} {vs : List Value} {dv : Value} (i : Nat) (pc' : Nat) (hd : decode bytes pc = .ok (.bastore, 1)) (hp : pc + 1 = pc') (A : Arv Z h a cA .byte z vs dv) (hj : ¬ j < 0) (hi : j.toNatClampNeg = i) (hz : i < z.toNatClampNeg) (hl : i < vs.length) (ha : n0 ≤ a)
    (K : ∀ h', Wr h h' a i (.int (nar .byte x)) → Arv Z h' a cA .byte z (vs.set i (.int (nar .byte x))) dv → RunW l Z y bytes ml ret R n0 Q J h' k n pc' Ls st) : RunW l Z y bytes ml ret R n0 Q J h k n pc Ls (.int x :: .int j :: .ref a :: st) := fun p e s m args below meth c T locs s0 k0 C X N E hW hJ => by
  subst hp
  obtain ⟨cl, A1, q1, S, q3, H, G⟩ := A
  have hin := own_in S hj hi hz
  obtain ⟨T', h', X', e', W, q⟩ := stB X C.1 C.2.2.2.1 E A1 hin (g := mkF m pc Ls.toArray (.int x :: .int j :: .ref a :: st)) rfl rfl (hb C.2.1 hd)
  obtain ⟨s2, o, h1, h2⟩ := K h' (hi ▸ W) (Arv.set A1 q1 S q3 H G (fits_nar_byte x) W i hi hl) p e s m args below meth c T' _ s0 k0 C X' (Fr.snoc X' N ha) e' (hW.grow (Nat.le_of_eq W.size.symm)) hJ
  exact ⟨s2, o, q _ h1, h2⟩
theorem rw_aastore {a : Addr} {cA : ClassId} {ty : FieldType} {z j : Int32} {v : Value} {vs : List Value} {dv : Value} (i : Nat) (pc' : Nat) (hd : decode bytes pc = .ok (.aastore, 1)) (hp : pc + 1 = pc') (A : Arv Z h a cA ty z vs dv) (hty : ty.isReference = true) (F : Sto Z h a v) (hf : fits ty v = true) (hj : ¬ j < 0) (hi : j.toNatClampNeg = i) (hz : i < z.toNatClampNeg) (hl : i < vs.length) (ha : n0 ≤ a)
    (K : ∀ h', Wr h h' a i v → Arv Z h' a cA ty z (vs.set i v) dv → RunW l Z y bytes ml ret R n0 Q J h' k n pc' Ls st) : RunW l Z y bytes ml ret R n0 Q J h k n pc Ls (v :: .int j :: .ref a :: st) := fun p e s m args below meth c T locs s0 k0 C X N E hW hJ => by
  subst hp
  obtain ⟨cl, A1, q1, S, q3, H, G⟩ := A
  have hin := own_in S hj hi hz
  obtain ⟨T', h', X', e', W, q⟩ := stR X C.1 C.2.2.2.1 E A1 hin hty F (g := mkF m pc Ls.toArray (v :: .int j :: .ref a :: st)) rfl rfl (hb C.2.1 hd)
  obtain ⟨s2, o, h1, h2⟩ := K h' (hi ▸ W) (Arv.set A1 q1 S q3 H G hf W i hi hl) p e s m args below meth c T' _ s0 k0 C X' (Fr.snoc X' N ha) e' (hW.grow (Nat.le_of_eq W.size.symm)) hJ
  exact ⟨s2, o, q _ h1, h2⟩
theorem rw_checkcast {i : Nat} {K' : String} {a : Addr} (pc' : Nat) (hd : decode bytes pc = .ok (.checkcast i, 3)) (hp : pc + 3 = pc') (w : (Jvm.Cond.classLink y.cls i K').before a0 Z = true) (F : Ins Z h a K' true)
    (K : RunW l Z y bytes ml ret R n0 Q J h k n pc' Ls (.ref a :: st)) : RunW l Z y bytes ml ret R n0 Q J h k n pc Ls (.ref a :: st) := by
  subst hp
  exact K.move fun p e s m args below meth c T locs C X N E => by
    obtain ⟨T', X', e', q⟩ := castY X C.1 C.2.2.2.1 C.2.2.2.2.1 w E F (g := mkF m pc Ls.toArray (.ref a :: st)) rfl rfl (hb C.2.1 hd)
    exact ⟨T', _, X', N, e', q⟩
theorem rw_initO {i : Nat} {a : Addr} (pc' : Nat) (hd : decode bytes pc = .ok (.invokespecial i, 3)) (hp : pc + 3 = pc') (w1 : (Jvm.Cond.methodLink y.cls i Lib.objectInit).before a0 Z = true) (w2 : (Jvm.Cond.instanceMethod Lib.objectInit).before a0 Z = true) (w3 : (Jvm.Cond.code Lib.objectInit ⟨#[0xb1]⟩ 1 none).before a0 Z = true)
    (hml : Ls.length = ml) (hf : 1 ≤ R.frames) (hl : (st.map fun v => v.category).sum + 12 ≤ R.locals) (K : RunW l Z y bytes ml ret R n0 Q J h k n pc' Ls st) : RunW l Z y bytes ml ret R n0 Q J h k n pc Ls (.ref a :: st) := by
  subst hp
  exact K.move fun p e s m args below meth c T locs C X N E => by
    obtain ⟨T', X', e', q⟩ := initO X C.1 C.2.2.2.1 C.2.2.2.2.1 w1 w2 w3 E (g := mkF m pc Ls.toArray (.ref a :: st)) rfl (by show Ls.toArray.size = _; rw [List.size_toArray, hml, C.2.2.1]) rfl (hb C.2.1 hd) hf (W := (st.map fun v => v.category).sum) (by show 2 * 0 + _ ≤ _; omega) hl
    exact ⟨T', _, X', N, e', q⟩
theorem rw_retN {t : FieldType} {z : Int32} (v : Int32) (hd : decode bytes pc = .ok (.ireturn, 1)) (hret : ret = some t) (ht : t = .boolean ∨ t = .byte ∨ t = .char ∨ t = .short) (hv : nar t z = v) (hk : k ≤ R.cells) (hn : n ≤ R.slots) (hQ : Q (some (.int v)) h) : RunW l Z y bytes ml ret R n0 Q J h k n pc Ls (.int z :: st) := by
  subst hv
  exact own_endW hQ hk hn fun p e s m args below meth c T locs C X => ⟨fun q => (by rw [C.2.2.2.2.2.2.1, hret] at q; cases q), fun fs hr => retN X C.1 (C.2.2.2.2.2.2.1.trans hret) ht (hb C.2.1 hd) hr⟩
theorem rw_retI {z : Int32} (hd : decode bytes pc = .ok (.ireturn, 1)) (hret : ret = some .int) (hk : k ≤ R.cells) (hn : n ≤ R.slots) (hQ : Q (some (.int z)) h) : RunW l Z y bytes ml ret R n0 Q J h k n pc Ls (.int z :: st) :=
  own_endW hQ hk hn fun p e s m args below meth c T locs C X => ⟨fun q => (by rw [C.2.2.2.2.2.2.1, hret] at q; cases q), fun fs hr => retOut X C.1 (C.2.2.2.2.2.2.1.trans hret) rfl (Or.inl ⟨rfl, Or.inl rfl, _, rfl⟩) (hb C.2.1 hd) hr⟩
theorem rw_retA {t : FieldType} {v : Value} (hd : decode bytes pc = .ok (.areturn, 1)) (hret : ret = some t) (ht : t.isReference = true) (hw : v.isRef = true) (hnw : narrow t v = v) (hk : k ≤ R.cells) (hn : n ≤ R.slots) (hQ : Q (some v) h) : RunW l Z y bytes ml ret R n0 Q J h k n pc Ls (v :: st) :=
  own_endW hQ hk hn fun p e s m args below meth c T locs C X => ⟨fun q => (by rw [C.2.2.2.2.2.2.1, hret] at q; cases q), fun fs hr => retOut X C.1 (C.2.2.2.2.2.2.1.trans hret) hnw (Or.inr (Or.inr (Or.inr (Or.inr ⟨rfl, ht, hw⟩)))) (hb C.2.1 hd) hr⟩
theorem rw_retV (hd : decode bytes pc = .ok (.return_, 1)) (hret : ret = none) (hk : k ≤ R.cells) (hn : n ≤ R.slots) (hQ : Q none h) : RunW l Z y bytes ml ret R n0 Q J h k n pc Ls [] :=
  own_endW hQ hk hn fun p e s m args below meth c T locs C X => ⟨fun _ => rfl, fun fs hr => X.returnOut C.1 (C.2.2.2.2.2.2.1.trans hret) (hb C.2.1 hd) hr⟩
section CallsW
variable {i : Nat} {y' : MethodName} {bytes' : ByteArray} {ml' : Nat} {ret' : Option FieldType} {R' : Room} {as' : Array Value} {Q' : Option Value → Heap → Prop} {rest : List Value} {ps : List FieldType} {r' : Option FieldType}
theorem rw_static (pc' : Nat) (hd : decode bytes pc = .ok (.invokestatic i, 3)) (hp : pc + 3 = pc') (hM : Con l Z y' bytes' ml' ret' R' n0 as' h Q' []) (w1 : (Jvm.Cond.methodLink y.cls i y').before a0 Z = true) (w2 : (Jvm.Cond.static y').before a0 Z = true) (w3 : (Jvm.Cond.initialized y'.cls).before a0 Z = true) (w4 : (Jvm.Cond.code y' bytes' ml' ret').before a0 Z = true)
    (hne : y'.cls ≠ "java/lang/invoke/MethodHandle" ∧ y'.cls ≠ "java/lang/invoke/VarHandle") (hpd : parseMethodDescriptor y'.desc = some ⟨ps, r'⟩) (hlen : as'.toList.length = ps.length) (hs : st = as'.toList.reverse ++ rest) (hml : Ls.length = ml) (hf : R'.frames + 1 ≤ R.frames) (hl : (rest.map fun v => v.category).sum + (ml' + 11) + R'.locals ≤ R.locals) (hc : k + R'.cells ≤ R.cells) (hn : n + R'.slots ≤ R.slots)
    (K : ∀ v h', Q' v h' → RunW l Z y bytes ml ret R n0 Q J h' (k + R'.cells) (n + R'.slots) pc' Ls (v.toList ++ rest)) : RunW l Z y bytes ml ret R n0 Q J h k n pc Ls st := fun p e s m args below meth c T locs s0 k0 C X N E hW hJ => by
  subst hp
  obtain ⟨v, vm1, ⟨U, locs', k', n'⟩, hW1, X', ⟨L, ⟨⟨hQ, hgr⟩, hL⟩, e1, e2, e3⟩, q⟩ := Jvm.LawKit.callS X C.1 (y := y') C.2.2.2.2.1 (mvT C.2.2.2.1 w1) (mvT C.2.2.2.1 w2) (mvT C.2.2.2.1 w3) (mvT C.2.2.2.1 w4) hne (backOf (Q := fun v h' L => (Q' v h' ∧ h.size ≤ h'.size) ∧ Fr n0 L) (W := (rest.map fun v => v.category).sum) hM.grow C.2.2.2.1 w4 w3 hf hl) (g := mkF m pc Ls.toArray st) rfl (by show Ls.toArray.size = _; rw [List.size_toArray, hml, C.2.2.1]) (argsL := as'.toList) (rest := rest) (lenOf hpd hlen) hs (by show 2 * 0 + _ ≤ _; omega) (hb C.2.1 hd) (fun _ _ => ⟨rfl, E, hc, hn⟩)
  dsimp only [Pt.U, Pt.locs, Pt.cells, Pt.slots] at X' hQ hgr e1 e2 e3 q
  subst e1 e2 e3
  obtain ⟨s2, o, h1, h2⟩ := K v U.heap hQ p e s m args below meth c U _ s0 k0 C X' (Fr.app N hL) rfl (hW.grow hgr) hJ
  exact ⟨s2, o, q _ h1, h2⟩
theorem rw_special {a : Addr} {as1 : List Value} (pc' : Nat) (hd : decode bytes pc = .ok (.invokespecial i, 3)) (hp : pc + 3 = pc') (hM : Con l Z y' bytes' ml' none R' n0 as' h Q' []) (ha : as' = (.ref a :: as1).toArray) (hy1 : y'.name = "<init>") (w1 : (Jvm.Cond.methodLink y.cls i y').before a0 Z = true) (w2 : (Jvm.Cond.instanceMethod y').before a0 Z = true) (w3 : (Jvm.Cond.initialized y'.cls).before a0 Z = true) (w4 : (Jvm.Cond.code y' bytes' ml' none).before a0 Z = true)
    (hne : y'.cls ≠ "java/lang/invoke/MethodHandle" ∧ y'.cls ≠ "java/lang/invoke/VarHandle") (hpd : parseMethodDescriptor y'.desc = some ⟨ps, r'⟩) (hlen : as1.length = ps.length) (hs : st = as1.reverse ++ .ref a :: rest) (hml : Ls.length = ml) (hf : R'.frames + 1 ≤ R.frames) (hl : (rest.map fun v => v.category).sum + (ml' + 11) + R'.locals ≤ R.locals) (hc : k + R'.cells ≤ R.cells) (hn : n + R'.slots ≤ R.slots)
    (K : ∀ v h', Q' v h' → RunW l Z y bytes ml ret R n0 Q J h' (k + R'.cells) (n + R'.slots) pc' Ls (v.toList ++ rest)) : RunW l Z y bytes ml ret R n0 Q J h k n pc Ls st := fun p e s m args below meth c T locs s0 k0 C X N E hW hJ => by
  subst hp ha
  obtain ⟨v, vm1, ⟨U, locs', k', n'⟩, hW1, X', ⟨L, ⟨⟨hQ, hgr⟩, hL⟩, e1, e2, e3⟩, q⟩ := X.specialBack C.1 (y := y') hy1 C.2.2.2.2.1 (mvT C.2.2.2.1 w1) (mvT C.2.2.2.1 w2) (mvT C.2.2.2.1 w4) hne (backOf (Q := fun v h' L => (Q' v h' ∧ h.size ≤ h'.size) ∧ Fr n0 L) (W := (rest.map fun v => v.category).sum) hM.grow C.2.2.2.1 w4 w3 hf hl) (g := mkF m pc Ls.toArray st) rfl (by show Ls.toArray.size = _; rw [List.size_toArray, hml, C.2.2.1]) (Steps.refl _) (a := a) (argsL := as1) (rest := rest) (lenOf hpd hlen) hs (by show 2 * 0 + _ ≤ _; omega) (hb C.2.1 hd) (fun _ _ => ⟨rfl, E, hc, hn⟩)
  dsimp only [Pt.U, Pt.locs, Pt.cells, Pt.slots] at X' hQ hgr e1 e2 e3 q
  subst e1 e2 e3
  obtain ⟨s2, o, h1, h2⟩ := K v U.heap hQ p e s m args below meth c U _ s0 k0 C X' (Fr.app N hL) rfl (hW.grow hgr) hJ
  exact ⟨s2, o, q.trans h1, h2⟩
theorem rw_virtual {a : Addr} {C' : String} {z' : MethodName} {as1 : List Value} (pc' : Nat) (hd : decode bytes pc = .ok (.invokevirtual i, 3)) (hp : pc + 3 = pc') (hM : Con l Z z' bytes' ml' ret' R' n0 as' h Q' []) (ha : as' = (.ref a :: as1).toArray) (w1 : (Jvm.Cond.methodLink y.cls i y').before a0 Z = true) (w2 : (Jvm.Cond.declares y').before a0 Z = true) (w5 : (Jvm.Cond.selects C' y' z').before a0 Z = true) (w6 : (Jvm.Cond.instanceMethod z').before a0 Z = true) (w3 : (Jvm.Cond.initialized z'.cls).before a0 Z = true) (w4 : (Jvm.Cond.code z' bytes' ml' ret').before a0 Z = true)
    (hne : y'.cls ≠ "java/lang/invoke/MethodHandle" ∧ y'.cls ≠ "java/lang/invoke/VarHandle") (hpd : parseMethodDescriptor y'.desc = some ⟨ps, r'⟩) (E1 : Exa Z h a C') (hlen : as1.length = ps.length) (hs : st = as1.reverse ++ .ref a :: rest) (hml : Ls.length = ml) (hf : R'.frames + 1 ≤ R.frames) (hl : (rest.map fun v => v.category).sum + (ml' + 11) + R'.locals ≤ R.locals) (hc : k + R'.cells ≤ R.cells) (hn : n + R'.slots ≤ R.slots)
    (hnf : ∀ (s : State) (args : Array Value), Z.Warmed39 s.vm → NotFace s y')
    (K : ∀ v h', Q' v h' → RunW l Z y bytes ml ret R n0 Q J h' (k + R'.cells) (n + R'.slots) pc' Ls (v.toList ++ rest)) : RunW l Z y bytes ml ret R n0 Q J h k n pc Ls st := fun p e s m args below meth c T locs s0 k0 C X N E hW hJ => by
  subst hp ha
  obtain ⟨cq, kq, qa, qb, qc⟩ := isOf (s := s) C.2.2.2.1 E E1
  obtain ⟨v, vm1, ⟨U, locs', k', n'⟩, hW1, X', ⟨L, ⟨⟨hQ, hgr⟩, hL⟩, e1, e2, e3⟩, q⟩ := X.virtualBack C.1 (y := y') (z := z') C.2.2.2.2.1 (mvT C.2.2.2.1 w1) (mvT C.2.2.2.1 w2) (hnf s args C.2.2.2.1) (mvT C.2.2.2.1 w5) (mvT C.2.2.2.1 w6) hne (backOf (Q := fun v h' L => (Q' v h' ∧ h.size ≤ h'.size) ∧ Fr n0 L) (W := (rest.map fun v => v.category).sum) hM.grow C.2.2.2.1 w4 w3 hf hl) qa qc (g := mkF m pc Ls.toArray st) rfl (by show Ls.toArray.size = _; rw [List.size_toArray, hml, C.2.2.1]) (Steps.refl _) (argsL := as1) (rest := rest) (lenOf hpd hlen) hs (by show 2 * 0 + _ ≤ _; omega) (hb C.2.1 hd) (fun _ _ => ⟨rfl, E, hc, hn⟩)
  dsimp only [Pt.U, Pt.locs, Pt.cells, Pt.slots] at X' hQ hgr e1 e2 e3 q
  subst e1 e2 e3
  obtain ⟨s2, o, h1, h2⟩ := K v U.heap hQ p e s m args below meth c U _ s0 k0 C X' (Fr.app N hL) rfl (hW.grow hgr) hJ
  exact ⟨s2, o, q.trans h1, h2⟩
def ConW (l : Launch) (Z : State) (y : MethodName) (bytes : ByteArray) (ml : Nat) (ret : Option FieldType) (R : Room) (n0 : Nat) (as' : Array Value) (h : Heap) (Q : Option Value → Heap → Prop) (ws : List Jvm.Cond) : Prop :=
  MetFree l y (head1 (Jvm.Cond.code y bytes ml ret :: ws) R) (fun a U => a = as' ∧ Z.Warmed39 U.vm ∧ U.heap = h ∧ U.vm.interned = Z.vm.interned) (fun _ _ _ _ _ => True) (fun _ U o U' => ∃ v L, o = .returned v ∧ (Q v U'.heap ∧ Fr n0 L) ∧ ReturnedEndW U o U' L R.cells R.slots)
theorem RunW.con {ws : List Jvm.Cond} (hpn : plainName y.cls = true) (hL : Jvm.Sym.laidSlots as'.toList ++ List.replicate (ml - (Jvm.Sym.laidSlots as'.toList).length) .unset = Ls) (H : RunW l Z y bytes ml ret R n0 Q (fun s => s.vm.interned = Z.vm.interned) h 0 0 0 Ls []) : ConW l Z y bytes ml ret R n0 as' h Q ws := by
  refine MetFree.of_bodySF (plainFor_of_name hpn) hisR ?_
  intro p e s m args below meth c s₁ Bd hml0 hP hK
  obtain ⟨rfl, hZ, hh, hi⟩ := hP
  have X0 : Stand p l e R s m args below meth c s₁ [] 0 0 := Stand.of_body Bd
  have e1 : s₁.heap = h := by rw [← hh, Bd.state]; rfl
  obtain ⟨s2, o, h1, h2, h3, v, L, h4, h5, h6⟩ := H p e s m args below meth c s₁ [] s 0 ⟨Bd.exec, Bd.bytes, hml0, hZ, findClass_of_methodNamed Bd.named, (name_of_methodNamed Bd.named Bd.method).1, Bd.returns, Bd.notSynchronized⟩ X0 (Fr.nil n0) e1 ⟨s.vm, rfl, (State.WarmedH.refl s).since 0, Nat.zero_le _⟩ hi
  exact ⟨s2, o, (XT.entry (Ls := Ls.toArray) hL).trans h1, h2, h3, v, L, h4, h5, h6⟩
theorem own_backW {p : Program} {e : Env} {s : State} {args : Array Value} {below : List Frame} {len W : Nat}
    (hM : ConW l Z y' bytes' ml' ret' R' n0 as' h Q' []) (hZ : Z.Warmed39 s.vm) (hi : s.vm.interned = Z.vm.interned) (wc : (Jvm.Cond.code y' bytes' ml' ret').before a0 Z = true) (wz : (Jvm.Cond.initialized y'.cls).before a0 Z = true) (hf : R'.frames + 1 ≤ R.frames) (hl : W + (ml' + 11) + R'.locals ≤ R.locals) :
    BackS l R p e below s args y' len W (fun A a => a = as' ∧ A.U.heap = h ∧ A.cells + R'.cells ≤ R.cells ∧ A.slots + R'.slots ≤ R.slots)
      (fun A _ v B => ∃ L, (Q' v B.U.heap ∧ Fr n0 L) ∧ B.locs = A.locs ++ L ∧ B.cells = A.cells + R'.cells ∧ B.slots = A.slots + R'.slots) :=
  BackS.of_freeW (bytes := bytes') (maxL := ml') (ret := ret') (E := fun _ _ o t L k n => k = R'.cells ∧ n = R'.slots ∧ ∃ v, o = .returned v ∧ (Q' v t.heap ∧ Fr n0 L)) hM hf hl
    (fun m meth c A a Y hp => have hU : Z.Warmed39 A.U.vm := wtrans hZ Y.warmed
      ⟨by show (Cond.and _ .tt).before a A.U = true; rw [Cond.before_and, mv hU wc]; rfl, mv hU wc, mv hU wz, hp.2.2.1, hp.2.2.2⟩)
    (fun m meth c A a g mk Y hp => ⟨hp.1, wtrans hZ Y.warmed, hp.2.1, (show A.U.vm.interned = _ from Y.warmed.interned_eq.trans hi)⟩) (fun _ _ _ _ _ _ _ _ _ => trivial)
    (fun _ _ _ _ ⟨v, L, h1, h2, h3⟩ => ⟨L, _, _, h3, rfl, rfl, v, h1, h2⟩)
    (fun m meth c A a g mk v t L k n Y hp _ _ ⟨e1, e2, v', e3, e4⟩ => by cases e3; subst e1 e2; exact ⟨L, e4, rfl, rfl, rfl⟩)
/-- a constructor that may intern -/
theorem rw_specialW {a : Addr} {as1 : List Value} (pc' : Nat) (hd : decode bytes pc = .ok (.invokespecial i, 3)) (hp : pc + 3 = pc') (hM : ConW l Z y' bytes' ml' none R' n0 as' h Q' []) (ha : as' = (.ref a :: as1).toArray) (hy1 : y'.name = "<init>") (w1 : (Jvm.Cond.methodLink y.cls i y').before a0 Z = true) (w2 : (Jvm.Cond.instanceMethod y').before a0 Z = true) (w3 : (Jvm.Cond.initialized y'.cls).before a0 Z = true) (w4 : (Jvm.Cond.code y' bytes' ml' none).before a0 Z = true)
    (hne : y'.cls ≠ "java/lang/invoke/MethodHandle" ∧ y'.cls ≠ "java/lang/invoke/VarHandle") (hpd : parseMethodDescriptor y'.desc = some ⟨ps, r'⟩) (hlen : as1.length = ps.length) (hs : st = as1.reverse ++ .ref a :: rest) (hml : Ls.length = ml) (hf : R'.frames + 1 ≤ R.frames) (hl : (rest.map fun v => v.category).sum + (ml' + 11) + R'.locals ≤ R.locals) (hc : k + R'.cells ≤ R.cells) (hn : n + R'.slots ≤ R.slots)
    (hJ' : ∀ s, J s → s.vm.interned = Z.vm.interned)
    (K : ∀ v h', Q' v h' → RunW l Z y bytes ml ret R n0 Q (fun _ => True) h' (k + R'.cells) (n + R'.slots) pc' Ls (v.toList ++ rest)) : RunW l Z y bytes ml ret R n0 Q J h k n pc Ls st := fun p e s m args below meth c T locs s0 k0 C X N E hW hJ => by
  subst hp ha
  obtain ⟨v, vm1, ⟨U, locs', k', n'⟩, hW1, X', hS', hgr, ⟨L, ⟨hQ, hL⟩, e1, e2, e3⟩, q⟩ := X.specialBackS C.1 (y := y') hy1 C.2.2.2.2.1 (mvT C.2.2.2.1 w1) (mvT C.2.2.2.1 w2) (mvT C.2.2.2.1 w4) hne (own_backW (W := (rest.map fun v => v.category).sum) hM C.2.2.2.1 (hJ' s hJ) w4 w3 hf hl) (g := mkF m pc Ls.toArray st) rfl (by show Ls.toArray.size = _; rw [List.size_toArray, hml, C.2.2.1]) (Steps.refl _) (a := a) (argsL := as1) (rest := rest) (lenOf hpd hlen) hs (by show 2 * 0 + _ ≤ _; omega) (hb C.2.1 hd) (fun _ _ => ⟨rfl, E, hc, hn⟩)
  dsimp only [Pt.U, Pt.locs, Pt.cells, Pt.slots] at X' hQ e1 e2 e3 q hS' hgr
  subst e1 e2 e3
  obtain ⟨vm0, rfl, hS, hk0⟩ := hW
  have C' : own_Ctx p (s0.setVm U.vm) m meth c Z y bytes ml ret := ⟨C.1, C.2.1, C.2.2.1, State.Warmed39.trans C.2.2.2.1 hS'.1, (hS'.1.alike.findClass _ _).trans C.2.2.2.2.1, C.2.2.2.2.2⟩
  obtain ⟨s2, o, h1, h2⟩ := K v U.heap hQ p e (s0.setVm U.vm) m args below meth c U _ s0 U.heap.size C' X' (Fr.app N hL) rfl ⟨U.vm, rfl, hS.trans hS' (Nat.le_trans hk0 (by rw [← E]; exact hgr)), Nat.le_refl _⟩ trivial
  exact ⟨s2, o, q.trans h1, h2⟩
end CallsW
end OwnW


theorem own_ne {a b : Addr} {n : Nat} (h : a < n) (e : b = n) : a ≠ b := fun q => by
  subst q; subst e; exact Nat.lt_irrefl _ h
theorem own_ne' {t b : Addr} {n : Nat} (h : t < n) (e : n ≤ b) : b ≠ t := fun q => by
  subst q; exact absurd h (Nat.not_lt.mpr e)
theorem own_b0 : nar .boolean 0 = 0 := rfl
theorem own_b1 : nar .boolean 1 = 1 := rfl
theorem own_sta {C f d K : String} {args : Array Value} {s : State} (h : (Jvm.Cond.exactly (.static C f d) K).value args s none s [] = some true) (hi : (Jvm.Cond.initializedFor C f d).before args s = true ∨ ((Jvm.Cond.initialized C).before args s = true ∧ (Jvm.Cond.laysStatic C f d).before args s = true)) : ∃ a, (Term.static C f d).eval args s none [] s = some (.ref a) ∧ Sta s s.heap C f d (.ref a) ∧ Exa s s.heap a K := by
  obtain ⟨a, e⟩ := exa_v h
  exact ⟨a, e, Sta.start e hi, Exa.start e h⟩
theorem own_fldI {t : Term} {C f d : String} {z : Int32} {a : Addr} {args : Array Value} {s : State} (e : t.eval args s none [] s = some (.ref a)) (h : (Jvm.Cond.eq (.field t C f d) (.int z)).value args s none s [] = some true) : Fld s s.heap a C f d (.int z) := by
  obtain ⟨u, w, h1, h2, k1, k2⟩ := cmp_v (Or.inl h)
  rw [Term.int_eval] at h2
  cases h2
  obtain ⟨u', rfl⟩ := k2
  obtain rfl := gotT (Cond.eq_ints h1 (Term.int_eval z)) h
  rw [fld_at e] at h1
  exact Fld.start h1


theorem own_mod (x m : Int32) (hm : 0 < m.toInt) : 0 ≤ ((x &&& 2147483647) % m).toInt ∧ ((x &&& 2147483647) % m).toInt < m.toInt := by
  have h1 := c_mask x 2147483647 31 (by decide) (by decide)
  rw [Int32.toInt_mod, h1]
  have h2 : 0 ≤ x.toInt % ((2 ^ 31 : Nat) : Int) := Int.emod_nonneg _ (by decide)
  rw [Int.tmod_eq_emod_of_nonneg h2]
  exact ⟨Int.emod_nonneg _ (by omega), Int.emod_lt_of_pos _ hm⟩
theorem own_nat {K : Int32} {N : Nat} (h0 : 0 ≤ K.toInt) (h1 : K.toInt < N) : ∃ i : Nat, i < N ∧ K = Int32.ofNat i := by
  refine ⟨K.toInt.toNat, by omega, ?_⟩
  apply Int32.toInt_inj.mp
  have := K.toInt_lt
  rw [Int32.toInt_ofNat_small (by omega)]
  omega


theorem own_cl {i : Nat} (h : i < 2 ^ 31) : (Int32.ofNat i).toNatClampNeg = i := by
  show (Int32.ofNat i).toInt.toNat = i
  rw [Int32.toInt_ofNat_small h]; rfl
theorem own_nn {i : Nat} (h : i < 2 ^ 31) : ¬ Int32.ofNat i < 0 := by
  rw [Int32.lt_iff_toInt_lt, Int32.toInt_ofNat_small h]
  show ¬ (i : Int) < 0
  omega
theorem own_lt {i j : Nat} (hi : i < 2 ^ 31) (hj : j < 2 ^ 31) : Int32.ofNat i < Int32.ofNat j ↔ i < j := by
  rw [Int32.lt_iff_toInt_lt, Int32.toInt_ofNat_small hi, Int32.toInt_ofNat_small hj]; omega
theorem own_eq {i j : Nat} (hi : i < 2 ^ 31) (hj : j < 2 ^ 31) : Int32.ofNat i = Int32.ofNat j ↔ i = j := by
  rw [← Int32.toInt_inj, Int32.toInt_ofNat_small hi, Int32.toInt_ofNat_small hj]; omega
theorem own_pred {i : Nat} (h : i < 2 ^ 31) (h0 : 0 < i) : Int32.ofNat i - 1 = Int32.ofNat (i - 1) := by
  apply Int32.toInt_inj.mp
  have q := c_isub (Int32.ofNat i) 1
  rw [Int32.toInt_ofNat_small h] at q
  have r := rng32 (Int32.ofNat i - 1)
  have e1 : (1 : Int32).toInt = 1 := rfl
  rw [e1] at q
  rw [Int32.toInt_ofNat_small (by omega)]
  omega

theorem own_ext {h h' : Heap} (K : Keep h h' []) : Ext h h' := ⟨K.1, fun a c q => K.2.1 a c q nin0⟩
theorem own_keep {h h1 h2 : Heap} {a : Addr} (E : Ext h h1) (ha : a = h.size) (K : Keep h1 h2 [a]) : Ext h h2 :=
  own_ext (((Keep.refl h []).ext E).trans K fun x hx => Or.inr (by cases List.mem_singleton.mp hx; exact Nat.le_of_eq ha.symm))
theorem own_kext {h h1 : Heap} (E : Ext h h1) (ws : List Addr) : Keep h h1 ws := (Keep.refl h ws).ext E
theorem own_kt {h h1 h2 : Heap} {ws : List Addr} (K : Keep h h1 ws) (K' : Keep h1 h2 ws) : Keep h h2 ws := K.trans K' fun x hx => Or.inl hx

theorem own_succ {i : Nat} (h : i + 1 < 2 ^ 31) : Int32.ofNat i + 1 = Int32.ofNat (i + 1) := by
  apply Int32.toInt_inj.mp
  have q := c_iadd (Int32.ofNat i) 1
  rw [Int32.toInt_ofNat_small (by omega)] at q
  have r := rng32 (Int32.ofNat i + 1)
  have e1 : (1 : Int32).toInt = 1 := rfl
  rw [e1] at q
  rw [Int32.toInt_ofNat_small h]
  omega
/-- a char -/
def own_ch (c : Int32) : Prop := 0 ≤ c.toInt ∧ c.toInt < 65536
theorem own_ch_nat {c : Int32} (h : own_ch c) : ∃ i : Nat, i < 65536 ∧ c = Int32.ofNat i := own_nat h.1 h.2
def own_by (c : Int32) : Value := .int (nar .byte c.toInt8.toInt32)
theorem own_at {cs : List Int32} {f : Int32 → Value} {d : Value} {i : Nat} {x : Int32} {r : List Int32} (h : cs.drop i = x :: r) : i < cs.length ∧ (cs.map f).getD i d = f x ∧ cs.drop (i + 1) = r ∧ cs.take (i + 1) = cs.take i ++ [x] ∧ x ∈ cs ∧ cs[i]? = some x := by
  have h1 : i < cs.length := by
    by_cases q : i < cs.length
    · exact q
    · rw [List.drop_of_length_le (by omega)] at h; cases h
  rw [List.drop_eq_getElem_cons h1] at h
  injection h with h2 h3
  refine ⟨h1, ?_, h3, ?_, ?_, ?_⟩
  · rw [List.getD_eq_getElem?_getD, List.getElem?_map, List.getElem?_eq_getElem h1, h2]; rfl
  · rw [List.take_add_one, List.getElem?_eq_getElem h1, h2]; rfl
  · rw [← h2]; exact List.getElem_mem h1
  · rw [List.getElem?_eq_getElem h1, h2]
theorem own_fill {cs : List Int32} {f : Int32 → Value} {d : Value} {i : Nat} {x : Int32} (h1 : i < cs.length) (h2 : cs.take (i + 1) = cs.take i ++ [x]) : ((cs.take i).map f ++ List.replicate (cs.length - i) d).set i (f x) = (cs.take (i + 1)).map f ++ List.replicate (cs.length - (i + 1)) d := by
  have hl : ((cs.take i).map f).length = i := by rw [List.length_map, List.length_take]; omega
  obtain ⟨k, hk⟩ : ∃ k, cs.length - i = k + 1 := ⟨cs.length - i - 1, by omega⟩
  rw [List.set_append_right _ _ (by omega), hl, Nat.sub_self, hk, List.replicate_succ, List.set_cons_zero, h2, List.map_append, List.append_assoc]
  have : cs.length - (i + 1) = k := by omega
  rw [this]; rfl

theorem d_jdk_52_method_21_code_0 : decode jdk_52_method_21_code 0 = .ok (.iconst 0, 1) := by decide +kernel
theorem d_jdk_52_method_21_code_1 : decode jdk_52_method_21_code 1 = .ok (.istore 5, 2) := by decide +kernel
theorem d_jdk_52_method_21_code_3 : decode jdk_52_method_21_code 3 = .ok (.iload 5, 2) := by decide +kernel
theorem d_jdk_52_method_21_code_5 : decode jdk_52_method_21_code 5 = .ok (.iload 4, 2) := by decide +kernel
theorem d_jdk_52_method_21_code_7 : decode jdk_52_method_21_code 7 = .ok (.if_icmp .ge 37, 3) := by decide +kernel
theorem d_jdk_52_method_21_code_10 : decode jdk_52_method_21_code 10 = .ok (.aload_n 0, 1) := by decide +kernel
theorem d_jdk_52_method_21_code_11 : decode jdk_52_method_21_code 11 = .ok (.iload_n 1, 1) := by decide +kernel
theorem d_jdk_52_method_21_code_12 : decode jdk_52_method_21_code 12 = .ok (.caload, 1) := by decide +kernel
theorem d_jdk_52_method_21_code_13 : decode jdk_52_method_21_code 13 = .ok (.istore 6, 2) := by decide +kernel
theorem d_jdk_52_method_21_code_15 : decode jdk_52_method_21_code 15 = .ok (.iload 6, 2) := by decide +kernel
theorem d_jdk_52_method_21_code_17 : decode jdk_52_method_21_code 17 = .ok (.sipush 255, 3) := by decide +kernel
theorem d_jdk_52_method_21_code_20 : decode jdk_52_method_21_code 20 = .ok (.if_icmp .le 6, 3) := by decide +kernel
theorem d_jdk_52_method_21_code_23 : decode jdk_52_method_21_code 23 = .ok (.iload 5, 2) := by decide +kernel
theorem d_jdk_52_method_21_code_25 : decode jdk_52_method_21_code 25 = .ok (.ireturn, 1) := by decide +kernel
theorem d_jdk_52_method_21_code_26 : decode jdk_52_method_21_code 26 = .ok (.aload_n 2, 1) := by decide +kernel
theorem d_jdk_52_method_21_code_27 : decode jdk_52_method_21_code 27 = .ok (.iload_n 3, 1) := by decide +kernel
theorem d_jdk_52_method_21_code_28 : decode jdk_52_method_21_code 28 = .ok (.iload 6, 2) := by decide +kernel
theorem d_jdk_52_method_21_code_30 : decode jdk_52_method_21_code 30 = .ok (.i2b, 1) := by decide +kernel
theorem d_jdk_52_method_21_code_31 : decode jdk_52_method_21_code 31 = .ok (.bastore, 1) := by decide +kernel
theorem d_jdk_52_method_21_code_32 : decode jdk_52_method_21_code 32 = .ok (.iinc 1 1, 3) := by decide +kernel
theorem d_jdk_52_method_21_code_35 : decode jdk_52_method_21_code 35 = .ok (.iinc 3 1, 3) := by decide +kernel
theorem d_jdk_52_method_21_code_38 : decode jdk_52_method_21_code 38 = .ok (.iinc 5 1, 3) := by decide +kernel
theorem d_jdk_52_method_21_code_41 : decode jdk_52_method_21_code 41 = .ok (.goto (-38), 3) := by decide +kernel
theorem d_jdk_52_method_21_code_44 : decode jdk_52_method_21_code 44 = .ok (.iload 4, 2) := by decide +kernel
theorem d_jdk_52_method_21_code_46 : decode jdk_52_method_21_code 46 = .ok (.ireturn, 1) := by decide +kernel
theorem d_jdk_52_method_16_code_0 : decode jdk_52_method_16_code 0 = .ok (.iload_n 2, 1) := by decide +kernel
theorem d_jdk_52_method_16_code_1 : decode jdk_52_method_16_code 1 = .ok (.newarray .byte, 2) := by decide +kernel
theorem d_jdk_52_method_16_code_3 : decode jdk_52_method_16_code 3 = .ok (.astore_n 3, 1) := by decide +kernel
theorem d_jdk_52_method_16_code_4 : decode jdk_52_method_16_code 4 = .ok (.aload_n 0, 1) := by decide +kernel
theorem d_jdk_52_method_16_code_5 : decode jdk_52_method_16_code 5 = .ok (.iload_n 1, 1) := by decide +kernel
theorem d_jdk_52_method_16_code_6 : decode jdk_52_method_16_code 6 = .ok (.aload_n 3, 1) := by decide +kernel
theorem d_jdk_52_method_16_code_7 : decode jdk_52_method_16_code 7 = .ok (.iconst 0, 1) := by decide +kernel
theorem d_jdk_52_method_16_code_8 : decode jdk_52_method_16_code 8 = .ok (.iload_n 2, 1) := by decide +kernel
theorem d_jdk_52_method_16_code_9 : decode jdk_52_method_16_code 9 = .ok (.invokestatic 115, 3) := by decide +kernel
theorem d_jdk_52_method_16_code_12 : decode jdk_52_method_16_code 12 = .ok (.istore 4, 2) := by decide +kernel
theorem d_jdk_52_method_16_code_14 : decode jdk_52_method_16_code 14 = .ok (.iload 4, 2) := by decide +kernel
theorem d_jdk_52_method_16_code_16 : decode jdk_52_method_16_code 16 = .ok (.iload_n 2, 1) := by decide +kernel
theorem d_jdk_52_method_16_code_17 : decode jdk_52_method_16_code 17 = .ok (.if_icmp .eq 40, 3) := by decide +kernel
theorem d_jdk_52_method_16_code_20 : decode jdk_52_method_16_code 20 = .ok (.aload_n 0, 1) := by decide +kernel
theorem d_jdk_52_method_16_code_21 : decode jdk_52_method_16_code 21 = .ok (.iload_n 1, 1) := by decide +kernel
theorem d_jdk_52_method_16_code_22 : decode jdk_52_method_16_code 22 = .ok (.iload_n 2, 1) := by decide +kernel
theorem d_jdk_52_method_16_code_23 : decode jdk_52_method_16_code 23 = .ok (.invokestatic 119, 3) := by decide +kernel
theorem d_jdk_52_method_16_code_26 : decode jdk_52_method_16_code 26 = .ok (.astore 5, 2) := by decide +kernel
theorem d_jdk_52_method_16_code_28 : decode jdk_52_method_16_code 28 = .ok (.aload 5, 2) := by decide +kernel
theorem d_jdk_52_method_16_code_30 : decode jdk_52_method_16_code 30 = .ok (.iload 4, 2) := by decide +kernel
theorem d_jdk_52_method_16_code_32 : decode jdk_52_method_16_code 32 = .ok (.invokestatic 71, 3) := by decide +kernel
theorem d_jdk_52_method_16_code_35 : decode jdk_52_method_16_code 35 = .ok (.sipush 255, 3) := by decide +kernel
theorem d_jdk_52_method_16_code_38 : decode jdk_52_method_16_code 38 = .ok (.if_icmp .gt 16, 3) := by decide +kernel
theorem d_jdk_52_method_16_code_41 : decode jdk_52_method_16_code 41 = .ok (.aload 5, 2) := by decide +kernel
theorem d_jdk_52_method_16_code_43 : decode jdk_52_method_16_code 43 = .ok (.iconst 0, 1) := by decide +kernel
theorem d_jdk_52_method_16_code_44 : decode jdk_52_method_16_code 44 = .ok (.aload_n 3, 1) := by decide +kernel
theorem d_jdk_52_method_16_code_45 : decode jdk_52_method_16_code 45 = .ok (.iconst 0, 1) := by decide +kernel
theorem d_jdk_52_method_16_code_46 : decode jdk_52_method_16_code 46 = .ok (.iload_n 2, 1) := by decide +kernel
theorem d_jdk_52_method_16_code_47 : decode jdk_52_method_16_code 47 = .ok (.invokestatic 123, 3) := by decide +kernel
theorem d_jdk_52_method_16_code_50 : decode jdk_52_method_16_code 50 = .ok (.iload_n 2, 1) := by decide +kernel
theorem d_jdk_52_method_16_code_51 : decode jdk_52_method_16_code 51 = .ok (.if_icmp .eq 6, 3) := by decide +kernel
theorem d_jdk_52_method_16_code_54 : decode jdk_52_method_16_code 54 = .ok (.aload 5, 2) := by decide +kernel
theorem d_jdk_52_method_16_code_56 : decode jdk_52_method_16_code 56 = .ok (.areturn, 1) := by decide +kernel
theorem d_jdk_52_method_16_code_57 : decode jdk_52_method_16_code 57 = .ok (.aload_n 3, 1) := by decide +kernel
theorem d_jdk_52_method_16_code_58 : decode jdk_52_method_16_code 58 = .ok (.areturn, 1) := by decide +kernel
theorem d_jdk_52_method_15_code_0 : decode jdk_52_method_15_code 0 = .ok (.iload_n 1, 1) := by decide +kernel
theorem d_jdk_52_method_15_code_1 : decode jdk_52_method_15_code 1 = .ok (.aload_n 0, 1) := by decide +kernel
theorem d_jdk_52_method_15_code_2 : decode jdk_52_method_15_code 2 = .ok (.arraylength, 1) := by decide +kernel
theorem d_jdk_52_method_15_code_3 : decode jdk_52_method_15_code 3 = .ok (.isub, 1) := by decide +kernel
theorem d_jdk_52_method_15_code_4 : decode jdk_52_method_15_code 4 = .ok (.bipush 31, 2) := by decide +kernel
theorem d_jdk_52_method_15_code_6 : decode jdk_52_method_15_code 6 = .ok (.iushr, 1) := by decide +kernel
theorem d_jdk_52_method_15_code_7 : decode jdk_52_method_15_code 7 = .ok (.i2b, 1) := by decide +kernel
theorem d_jdk_52_method_15_code_8 : decode jdk_52_method_15_code 8 = .ok (.ireturn, 1) := by decide +kernel
theorem d_jdk_42_method_149_code_0 : decode jdk_42_method_149_code 0 = .ok (.aload_n 0, 1) := by decide +kernel
theorem d_jdk_42_method_149_code_1 : decode jdk_42_method_149_code 1 = .ok (.invokespecial 1, 3) := by decide +kernel
theorem d_jdk_42_method_149_code_4 : decode jdk_42_method_149_code 4 = .ok (.iload_n 3, 1) := by decide +kernel
theorem d_jdk_42_method_149_code_5 : decode jdk_42_method_149_code 5 = .ok (.ifCond .ne 22, 3) := by decide +kernel
theorem d_jdk_42_method_149_code_8 : decode jdk_42_method_149_code 8 = .ok (.aload_n 0, 1) := by decide +kernel
theorem d_jdk_42_method_149_code_9 : decode jdk_42_method_149_code 9 = .ok (.ldc 7, 2) := by decide +kernel
theorem d_jdk_42_method_149_code_11 : decode jdk_42_method_149_code 11 = .ok (.getfield 9, 3) := by decide +kernel
theorem d_jdk_42_method_149_code_14 : decode jdk_42_method_149_code 14 = .ok (.putfield 9, 3) := by decide +kernel
theorem d_jdk_42_method_149_code_17 : decode jdk_42_method_149_code 17 = .ok (.aload_n 0, 1) := by decide +kernel
theorem d_jdk_42_method_149_code_18 : decode jdk_42_method_149_code 18 = .ok (.ldc 7, 2) := by decide +kernel
theorem d_jdk_42_method_149_code_20 : decode jdk_42_method_149_code 20 = .ok (.getfield 15, 3) := by decide +kernel
theorem d_jdk_42_method_149_code_23 : decode jdk_42_method_149_code 23 = .ok (.putfield 15, 3) := by decide +kernel
theorem d_jdk_42_method_149_code_26 : decode jdk_42_method_149_code 26 = .ok (.return_, 1) := by decide +kernel
theorem d_jdk_42_method_149_code_27 : decode jdk_42_method_149_code 27 = .ok (.getstatic 38, 3) := by decide +kernel
theorem d_jdk_42_method_149_code_30 : decode jdk_42_method_149_code 30 = .ok (.ifCond .eq 28, 3) := by decide +kernel
theorem d_jdk_42_method_149_code_33 : decode jdk_42_method_149_code 33 = .ok (.aload_n 1, 1) := by decide +kernel
theorem d_jdk_42_method_149_code_34 : decode jdk_42_method_149_code 34 = .ok (.iload_n 2, 1) := by decide +kernel
theorem d_jdk_42_method_149_code_35 : decode jdk_42_method_149_code 35 = .ok (.iload_n 3, 1) := by decide +kernel
theorem d_jdk_42_method_149_code_36 : decode jdk_42_method_149_code 36 = .ok (.invokestatic 177, 3) := by decide +kernel
theorem d_jdk_42_method_149_code_39 : decode jdk_42_method_149_code 39 = .ok (.astore 5, 2) := by decide +kernel
theorem d_jdk_42_method_149_code_41 : decode jdk_42_method_149_code 41 = .ok (.aload_n 0, 1) := by decide +kernel
theorem d_jdk_42_method_149_code_42 : decode jdk_42_method_149_code 42 = .ok (.aload 5, 2) := by decide +kernel
theorem d_jdk_42_method_149_code_44 : decode jdk_42_method_149_code 44 = .ok (.iload_n 3, 1) := by decide +kernel
theorem d_jdk_42_method_149_code_45 : decode jdk_42_method_149_code 45 = .ok (.invokestatic 47, 3) := by decide +kernel
theorem d_jdk_42_method_149_code_48 : decode jdk_42_method_149_code 48 = .ok (.putfield 15, 3) := by decide +kernel
theorem d_jdk_42_method_149_code_51 : decode jdk_42_method_149_code 51 = .ok (.aload_n 0, 1) := by decide +kernel
theorem d_jdk_42_method_149_code_52 : decode jdk_42_method_149_code 52 = .ok (.aload 5, 2) := by decide +kernel
theorem d_jdk_42_method_149_code_54 : decode jdk_42_method_149_code 54 = .ok (.putfield 9, 3) := by decide +kernel
theorem d_jdk_42_method_149_code_57 : decode jdk_42_method_149_code 57 = .ok (.return_, 1) := by decide +kernel
theorem d_jdk_42_method_149_code_58 : decode jdk_42_method_149_code 58 = .ok (.aload_n 0, 1) := by decide +kernel
theorem d_jdk_42_method_149_code_59 : decode jdk_42_method_149_code 59 = .ok (.iconst 1, 1) := by decide +kernel
theorem d_jdk_42_method_149_code_60 : decode jdk_42_method_149_code 60 = .ok (.putfield 15, 3) := by decide +kernel
theorem d_jdk_42_method_149_code_63 : decode jdk_42_method_149_code 63 = .ok (.aload_n 0, 1) := by decide +kernel
theorem d_jdk_42_method_149_code_64 : decode jdk_42_method_149_code 64 = .ok (.aload_n 1, 1) := by decide +kernel
theorem d_jdk_42_method_149_code_65 : decode jdk_42_method_149_code 65 = .ok (.iload_n 2, 1) := by decide +kernel
theorem d_jdk_42_method_149_code_66 : decode jdk_42_method_149_code 66 = .ok (.iload_n 3, 1) := by decide +kernel
theorem d_jdk_42_method_149_code_67 : decode jdk_42_method_149_code 67 = .ok (.invokestatic 180, 3) := by decide +kernel
theorem d_jdk_42_method_149_code_70 : decode jdk_42_method_149_code 70 = .ok (.putfield 9, 3) := by decide +kernel
theorem d_jdk_42_method_149_code_73 : decode jdk_42_method_149_code 73 = .ok (.return_, 1) := by decide +kernel
theorem d_jdk_42_method_3_code_0 : decode jdk_42_method_3_code 0 = .ok (.aload_n 0, 1) := by decide +kernel
theorem d_jdk_42_method_3_code_1 : decode jdk_42_method_3_code 1 = .ok (.aload_n 1, 1) := by decide +kernel
theorem d_jdk_42_method_3_code_2 : decode jdk_42_method_3_code 2 = .ok (.iconst 0, 1) := by decide +kernel
theorem d_jdk_42_method_3_code_3 : decode jdk_42_method_3_code 3 = .ok (.aload_n 1, 1) := by decide +kernel
theorem d_jdk_42_method_3_code_4 : decode jdk_42_method_3_code 4 = .ok (.arraylength, 1) := by decide +kernel
theorem d_jdk_42_method_3_code_5 : decode jdk_42_method_3_code 5 = .ok (.aconst_null, 1) := by decide +kernel
theorem d_jdk_42_method_3_code_6 : decode jdk_42_method_3_code 6 = .ok (.invokespecial 27, 3) := by decide +kernel
theorem d_jdk_42_method_3_code_9 : decode jdk_42_method_3_code 9 = .ok (.return_, 1) := by decide +kernel
theorem d_jdk_52_method_3_code_0 : decode jdk_52_method_3_code 0 = .ok (.iload_n 0, 1) := by decide +kernel
theorem d_jdk_52_method_3_code_1 : decode jdk_52_method_3_code 1 = .ok (.ifCond .ge 11, 3) := by decide +kernel
theorem d_jdk_52_method_3_code_4 : decode jdk_52_method_3_code 4 = .ok (.new 17, 3) := by decide +kernel
theorem d_jdk_52_method_3_code_7 : decode jdk_52_method_3_code 7 = .ok (.dup, 1) := by decide +kernel
theorem d_jdk_52_method_3_code_8 : decode jdk_52_method_3_code 8 = .ok (.invokespecial 19, 3) := by decide +kernel
theorem d_jdk_52_method_3_code_11 : decode jdk_52_method_3_code 11 = .ok (.athrow, 1) := by decide +kernel
theorem d_jdk_52_method_3_code_12 : decode jdk_52_method_3_code 12 = .ok (.iload_n 0, 1) := by decide +kernel
theorem d_jdk_52_method_3_code_13 : decode jdk_52_method_3_code 13 = .ok (.ldc 20, 2) := by decide +kernel
theorem d_jdk_52_method_3_code_15 : decode jdk_52_method_3_code 15 = .ok (.if_icmp .lt 40, 3) := by decide +kernel
theorem d_jdk_52_method_3_code_18 : decode jdk_52_method_3_code 18 = .ok (.new 21, 3) := by decide +kernel
theorem d_jdk_52_method_3_code_21 : decode jdk_52_method_3_code 21 = .ok (.dup, 1) := by decide +kernel
theorem d_jdk_52_method_3_code_22 : decode jdk_52_method_3_code 22 = .ok (.new 23, 3) := by decide +kernel
theorem d_jdk_52_method_3_code_25 : decode jdk_52_method_3_code 25 = .ok (.dup, 1) := by decide +kernel
theorem d_jdk_52_method_3_code_26 : decode jdk_52_method_3_code 26 = .ok (.invokespecial 25, 3) := by decide +kernel
theorem d_jdk_52_method_3_code_29 : decode jdk_52_method_3_code 29 = .ok (.ldc 26, 2) := by decide +kernel
theorem d_jdk_52_method_3_code_31 : decode jdk_52_method_3_code 31 = .ok (.invokevirtual 28, 3) := by decide +kernel
theorem d_jdk_52_method_3_code_34 : decode jdk_52_method_3_code 34 = .ok (.iload_n 0, 1) := by decide +kernel
theorem d_jdk_52_method_3_code_35 : decode jdk_52_method_3_code 35 = .ok (.invokevirtual 32, 3) := by decide +kernel
theorem d_jdk_52_method_3_code_38 : decode jdk_52_method_3_code 38 = .ok (.ldc 35, 2) := by decide +kernel
theorem d_jdk_52_method_3_code_40 : decode jdk_52_method_3_code 40 = .ok (.invokevirtual 28, 3) := by decide +kernel
theorem d_jdk_52_method_3_code_43 : decode jdk_52_method_3_code 43 = .ok (.ldc 20, 2) := by decide +kernel
theorem d_jdk_52_method_3_code_45 : decode jdk_52_method_3_code 45 = .ok (.invokevirtual 32, 3) := by decide +kernel
theorem d_jdk_52_method_3_code_48 : decode jdk_52_method_3_code 48 = .ok (.invokevirtual 37, 3) := by decide +kernel
theorem d_jdk_52_method_3_code_51 : decode jdk_52_method_3_code 51 = .ok (.invokespecial 41, 3) := by decide +kernel
theorem d_jdk_52_method_3_code_54 : decode jdk_52_method_3_code 54 = .ok (.athrow, 1) := by decide +kernel
theorem d_jdk_52_method_3_code_55 : decode jdk_52_method_3_code 55 = .ok (.iload_n 0, 1) := by decide +kernel
theorem d_jdk_52_method_3_code_56 : decode jdk_52_method_3_code 56 = .ok (.iconst 1, 1) := by decide +kernel
theorem d_jdk_52_method_3_code_57 : decode jdk_52_method_3_code 57 = .ok (.ishl, 1) := by decide +kernel
theorem d_jdk_52_method_3_code_58 : decode jdk_52_method_3_code 58 = .ok (.ireturn, 1) := by decide +kernel
theorem d_jdk_52_method_2_code_0 : decode jdk_52_method_2_code 0 = .ok (.iload_n 0, 1) := by decide +kernel
theorem d_jdk_52_method_2_code_1 : decode jdk_52_method_2_code 1 = .ok (.invokestatic 11, 3) := by decide +kernel
theorem d_jdk_52_method_2_code_4 : decode jdk_52_method_2_code 4 = .ok (.newarray .byte, 2) := by decide +kernel
theorem d_jdk_52_method_2_code_6 : decode jdk_52_method_2_code 6 = .ok (.areturn, 1) := by decide +kernel
theorem d_jdk_52_method_4_code_0 : decode jdk_52_method_4_code 0 = .ok (.getstatic 44, 3) := by decide +kernel
theorem d_jdk_52_method_4_code_3 : decode jdk_52_method_4_code 3 = .ok (.ifCond .ne 25, 3) := by decide +kernel
theorem d_jdk_52_method_4_code_6 : decode jdk_52_method_4_code 6 = .ok (.iload_n 1, 1) := by decide +kernel
theorem d_jdk_52_method_4_code_7 : decode jdk_52_method_4_code 7 = .ok (.ifCond .lt 11, 3) := by decide +kernel
theorem d_jdk_52_method_4_code_10 : decode jdk_52_method_4_code 10 = .ok (.iload_n 1, 1) := by decide +kernel
theorem d_jdk_52_method_4_code_11 : decode jdk_52_method_4_code 11 = .ok (.aload_n 0, 1) := by decide +kernel
theorem d_jdk_52_method_4_code_12 : decode jdk_52_method_4_code 12 = .ok (.invokestatic 48, 3) := by decide +kernel
theorem d_jdk_52_method_4_code_15 : decode jdk_52_method_4_code 15 = .ok (.if_icmp .lt 13, 3) := by decide +kernel
theorem d_jdk_52_method_4_code_18 : decode jdk_52_method_4_code 18 = .ok (.new 52, 3) := by decide +kernel
theorem d_jdk_52_method_4_code_21 : decode jdk_52_method_4_code 21 = .ok (.dup, 1) := by decide +kernel
theorem d_jdk_52_method_4_code_22 : decode jdk_52_method_4_code 22 = .ok (.ldc 54, 2) := by decide +kernel
theorem d_jdk_52_method_4_code_24 : decode jdk_52_method_4_code 24 = .ok (.invokespecial 56, 3) := by decide +kernel
theorem d_jdk_52_method_4_code_27 : decode jdk_52_method_4_code 27 = .ok (.athrow, 1) := by decide +kernel
theorem d_jdk_52_method_4_code_28 : decode jdk_52_method_4_code 28 = .ok (.iload_n 1, 1) := by decide +kernel
theorem d_jdk_52_method_4_code_29 : decode jdk_52_method_4_code 29 = .ok (.iconst 1, 1) := by decide +kernel
theorem d_jdk_52_method_4_code_30 : decode jdk_52_method_4_code 30 = .ok (.ishl, 1) := by decide +kernel
theorem d_jdk_52_method_4_code_31 : decode jdk_52_method_4_code 31 = .ok (.istore_n 1, 1) := by decide +kernel
theorem d_jdk_52_method_4_code_32 : decode jdk_52_method_4_code 32 = .ok (.aload_n 0, 1) := by decide +kernel
theorem d_jdk_52_method_4_code_33 : decode jdk_52_method_4_code 33 = .ok (.iload_n 1, 1) := by decide +kernel
theorem d_jdk_52_method_4_code_34 : decode jdk_52_method_4_code 34 = .ok (.iinc 1 1, 3) := by decide +kernel
theorem d_jdk_52_method_4_code_37 : decode jdk_52_method_4_code 37 = .ok (.iload_n 2, 1) := by decide +kernel
theorem d_jdk_52_method_4_code_38 : decode jdk_52_method_4_code 38 = .ok (.getstatic 59, 3) := by decide +kernel
theorem d_jdk_52_method_4_code_41 : decode jdk_52_method_4_code 41 = .ok (.ishr, 1) := by decide +kernel
theorem d_jdk_52_method_4_code_42 : decode jdk_52_method_4_code 42 = .ok (.i2b, 1) := by decide +kernel
theorem d_jdk_52_method_4_code_43 : decode jdk_52_method_4_code 43 = .ok (.bastore, 1) := by decide +kernel
theorem d_jdk_52_method_4_code_44 : decode jdk_52_method_4_code 44 = .ok (.aload_n 0, 1) := by decide +kernel
theorem d_jdk_52_method_4_code_45 : decode jdk_52_method_4_code 45 = .ok (.iload_n 1, 1) := by decide +kernel
theorem d_jdk_52_method_4_code_46 : decode jdk_52_method_4_code 46 = .ok (.iload_n 2, 1) := by decide +kernel
theorem d_jdk_52_method_4_code_47 : decode jdk_52_method_4_code 47 = .ok (.getstatic 63, 3) := by decide +kernel
theorem d_jdk_52_method_4_code_50 : decode jdk_52_method_4_code 50 = .ok (.ishr, 1) := by decide +kernel
theorem d_jdk_52_method_4_code_51 : decode jdk_52_method_4_code 51 = .ok (.i2b, 1) := by decide +kernel
theorem d_jdk_52_method_4_code_52 : decode jdk_52_method_4_code 52 = .ok (.bastore, 1) := by decide +kernel
theorem d_jdk_52_method_4_code_53 : decode jdk_52_method_4_code 53 = .ok (.return_, 1) := by decide +kernel
theorem d_jdk_52_method_14_code_0 : decode jdk_52_method_14_code 0 = .ok (.iload_n 2, 1) := by decide +kernel
theorem d_jdk_52_method_14_code_1 : decode jdk_52_method_14_code 1 = .ok (.invokestatic 107, 3) := by decide +kernel
theorem d_jdk_52_method_14_code_4 : decode jdk_52_method_14_code 4 = .ok (.astore_n 3, 1) := by decide +kernel
theorem d_jdk_52_method_14_code_5 : decode jdk_52_method_14_code 5 = .ok (.iconst 0, 1) := by decide +kernel
theorem d_jdk_52_method_14_code_6 : decode jdk_52_method_14_code 6 = .ok (.istore 4, 2) := by decide +kernel
theorem d_jdk_52_method_14_code_8 : decode jdk_52_method_14_code 8 = .ok (.iload 4, 2) := by decide +kernel
theorem d_jdk_52_method_14_code_10 : decode jdk_52_method_14_code 10 = .ok (.iload_n 2, 1) := by decide +kernel
theorem d_jdk_52_method_14_code_11 : decode jdk_52_method_14_code 11 = .ok (.if_icmp .ge 21, 3) := by decide +kernel
theorem d_jdk_52_method_14_code_14 : decode jdk_52_method_14_code 14 = .ok (.aload_n 3, 1) := by decide +kernel
theorem d_jdk_52_method_14_code_15 : decode jdk_52_method_14_code 15 = .ok (.iload 4, 2) := by decide +kernel
theorem d_jdk_52_method_14_code_17 : decode jdk_52_method_14_code 17 = .ok (.aload_n 0, 1) := by decide +kernel
theorem d_jdk_52_method_14_code_18 : decode jdk_52_method_14_code 18 = .ok (.iload_n 1, 1) := by decide +kernel
theorem d_jdk_52_method_14_code_19 : decode jdk_52_method_14_code 19 = .ok (.caload, 1) := by decide +kernel
theorem d_jdk_52_method_14_code_20 : decode jdk_52_method_14_code 20 = .ok (.invokestatic 111, 3) := by decide +kernel
theorem d_jdk_52_method_14_code_23 : decode jdk_52_method_14_code 23 = .ok (.iinc 1 1, 3) := by decide +kernel
theorem d_jdk_52_method_14_code_26 : decode jdk_52_method_14_code 26 = .ok (.iinc 4 1, 3) := by decide +kernel
theorem d_jdk_52_method_14_code_29 : decode jdk_52_method_14_code 29 = .ok (.goto (-21), 3) := by decide +kernel
theorem d_jdk_52_method_14_code_32 : decode jdk_52_method_14_code 32 = .ok (.aload_n 3, 1) := by decide +kernel
theorem d_jdk_52_method_14_code_33 : decode jdk_52_method_14_code 33 = .ok (.areturn, 1) := by decide +kernel
theorem d_jdk_52_method_5_code_0 : decode jdk_52_method_5_code 0 = .ok (.getstatic 44, 3) := by decide +kernel
theorem d_jdk_52_method_5_code_3 : decode jdk_52_method_5_code 3 = .ok (.ifCond .ne 25, 3) := by decide +kernel
theorem d_jdk_52_method_5_code_6 : decode jdk_52_method_5_code 6 = .ok (.iload_n 1, 1) := by decide +kernel
theorem d_jdk_52_method_5_code_7 : decode jdk_52_method_5_code 7 = .ok (.ifCond .lt 11, 3) := by decide +kernel
theorem d_jdk_52_method_5_code_10 : decode jdk_52_method_5_code 10 = .ok (.iload_n 1, 1) := by decide +kernel
theorem d_jdk_52_method_5_code_11 : decode jdk_52_method_5_code 11 = .ok (.aload_n 0, 1) := by decide +kernel
theorem d_jdk_52_method_5_code_12 : decode jdk_52_method_5_code 12 = .ok (.invokestatic 48, 3) := by decide +kernel
theorem d_jdk_52_method_5_code_15 : decode jdk_52_method_5_code 15 = .ok (.if_icmp .lt 13, 3) := by decide +kernel
theorem d_jdk_52_method_5_code_18 : decode jdk_52_method_5_code 18 = .ok (.new 52, 3) := by decide +kernel
theorem d_jdk_52_method_5_code_21 : decode jdk_52_method_5_code 21 = .ok (.dup, 1) := by decide +kernel
theorem d_jdk_52_method_5_code_22 : decode jdk_52_method_5_code 22 = .ok (.ldc 54, 2) := by decide +kernel
theorem d_jdk_52_method_5_code_24 : decode jdk_52_method_5_code 24 = .ok (.invokespecial 56, 3) := by decide +kernel
theorem d_jdk_52_method_5_code_27 : decode jdk_52_method_5_code 27 = .ok (.athrow, 1) := by decide +kernel
theorem d_jdk_52_method_5_code_28 : decode jdk_52_method_5_code 28 = .ok (.iload_n 1, 1) := by decide +kernel
theorem d_jdk_52_method_5_code_29 : decode jdk_52_method_5_code 29 = .ok (.iconst 1, 1) := by decide +kernel
theorem d_jdk_52_method_5_code_30 : decode jdk_52_method_5_code 30 = .ok (.ishl, 1) := by decide +kernel
theorem d_jdk_52_method_5_code_31 : decode jdk_52_method_5_code 31 = .ok (.istore_n 1, 1) := by decide +kernel
theorem d_jdk_52_method_5_code_32 : decode jdk_52_method_5_code 32 = .ok (.aload_n 0, 1) := by decide +kernel
theorem d_jdk_52_method_5_code_33 : decode jdk_52_method_5_code 33 = .ok (.iload_n 1, 1) := by decide +kernel
theorem d_jdk_52_method_5_code_34 : decode jdk_52_method_5_code 34 = .ok (.iinc 1 1, 3) := by decide +kernel
theorem d_jdk_52_method_5_code_37 : decode jdk_52_method_5_code 37 = .ok (.baload, 1) := by decide +kernel
theorem d_jdk_52_method_5_code_38 : decode jdk_52_method_5_code 38 = .ok (.sipush 255, 3) := by decide +kernel
theorem d_jdk_52_method_5_code_41 : decode jdk_52_method_5_code 41 = .ok (.iand, 1) := by decide +kernel
theorem d_jdk_52_method_5_code_42 : decode jdk_52_method_5_code 42 = .ok (.getstatic 59, 3) := by decide +kernel
theorem d_jdk_52_method_5_code_45 : decode jdk_52_method_5_code 45 = .ok (.ishl, 1) := by decide +kernel
theorem d_jdk_52_method_5_code_46 : decode jdk_52_method_5_code 46 = .ok (.aload_n 0, 1) := by decide +kernel
theorem d_jdk_52_method_5_code_47 : decode jdk_52_method_5_code 47 = .ok (.iload_n 1, 1) := by decide +kernel
theorem d_jdk_52_method_5_code_48 : decode jdk_52_method_5_code 48 = .ok (.baload, 1) := by decide +kernel
theorem d_jdk_52_method_5_code_49 : decode jdk_52_method_5_code 49 = .ok (.sipush 255, 3) := by decide +kernel
theorem d_jdk_52_method_5_code_52 : decode jdk_52_method_5_code 52 = .ok (.iand, 1) := by decide +kernel
theorem d_jdk_52_method_5_code_53 : decode jdk_52_method_5_code 53 = .ok (.getstatic 63, 3) := by decide +kernel
theorem d_jdk_52_method_5_code_56 : decode jdk_52_method_5_code 56 = .ok (.ishl, 1) := by decide +kernel
theorem d_jdk_52_method_5_code_57 : decode jdk_52_method_5_code 57 = .ok (.ior, 1) := by decide +kernel
theorem d_jdk_52_method_5_code_58 : decode jdk_52_method_5_code 58 = .ok (.i2c, 1) := by decide +kernel
theorem d_jdk_52_method_5_code_59 : decode jdk_52_method_5_code 59 = .ok (.ireturn, 1) := by decide +kernel
theorem d_jdk_52_method_6_code_0 : decode jdk_52_method_6_code 0 = .ok (.aload_n 0, 1) := by decide +kernel
theorem d_jdk_52_method_6_code_1 : decode jdk_52_method_6_code 1 = .ok (.arraylength, 1) := by decide +kernel
theorem d_jdk_52_method_6_code_2 : decode jdk_52_method_6_code 2 = .ok (.iconst 1, 1) := by decide +kernel
theorem d_jdk_52_method_6_code_3 : decode jdk_52_method_6_code 3 = .ok (.ishr, 1) := by decide +kernel
theorem d_jdk_52_method_6_code_4 : decode jdk_52_method_6_code 4 = .ok (.ireturn, 1) := by decide +kernel
theorem d_jdk_52_method_83_code_0 : decode jdk_52_method_83_code 0 = .ok (.iload_n 1, 1) := by decide +kernel
theorem d_jdk_52_method_83_code_1 : decode jdk_52_method_83_code 1 = .ok (.aload_n 0, 1) := by decide +kernel
theorem d_jdk_52_method_83_code_2 : decode jdk_52_method_83_code 2 = .ok (.invokestatic 67, 3) := by decide +kernel
theorem d_jdk_52_method_83_code_5 : decode jdk_52_method_83_code 5 = .ok (.aload_n 0, 1) := by decide +kernel
theorem d_jdk_52_method_83_code_6 : decode jdk_52_method_83_code 6 = .ok (.iload_n 1, 1) := by decide +kernel
theorem d_jdk_52_method_83_code_7 : decode jdk_52_method_83_code 7 = .ok (.invokestatic 71, 3) := by decide +kernel
theorem d_jdk_52_method_83_code_10 : decode jdk_52_method_83_code 10 = .ok (.ireturn, 1) := by decide +kernel
theorem d_jdk_52_method_91_code_0 : decode jdk_52_method_91_code 0 = .ok (.iload_n 0, 1) := by decide +kernel
theorem d_jdk_52_method_91_code_1 : decode jdk_52_method_91_code 1 = .ok (.aload_n 1, 1) := by decide +kernel
theorem d_jdk_52_method_91_code_2 : decode jdk_52_method_91_code 2 = .ok (.invokestatic 48, 3) := by decide +kernel
theorem d_jdk_52_method_91_code_5 : decode jdk_52_method_91_code 5 = .ok (.invokestatic 414, 3) := by decide +kernel
theorem d_jdk_52_method_91_code_8 : decode jdk_52_method_91_code 8 = .ok (.return_, 1) := by decide +kernel
theorem d_jdk_42_method_54_code_0 : decode jdk_42_method_54_code 0 = .ok (.aload_n 0, 1) := by decide +kernel
theorem d_jdk_42_method_54_code_1 : decode jdk_42_method_54_code 1 = .ok (.getfield 9, 3) := by decide +kernel
theorem d_jdk_42_method_54_code_4 : decode jdk_42_method_54_code 4 = .ok (.arraylength, 1) := by decide +kernel
theorem d_jdk_42_method_54_code_5 : decode jdk_42_method_54_code 5 = .ok (.aload_n 0, 1) := by decide +kernel
theorem d_jdk_42_method_54_code_6 : decode jdk_42_method_54_code 6 = .ok (.invokevirtual 335, 3) := by decide +kernel
theorem d_jdk_42_method_54_code_9 : decode jdk_42_method_54_code 9 = .ok (.ishr, 1) := by decide +kernel
theorem d_jdk_42_method_54_code_10 : decode jdk_42_method_54_code 10 = .ok (.ireturn, 1) := by decide +kernel
theorem d_jdk_42_method_152_code_0 : decode jdk_42_method_152_code 0 = .ok (.getstatic 38, 3) := by decide +kernel
theorem d_jdk_42_method_152_code_3 : decode jdk_42_method_152_code 3 = .ok (.ifCond .eq 10, 3) := by decide +kernel
theorem d_jdk_42_method_152_code_6 : decode jdk_42_method_152_code 6 = .ok (.aload_n 0, 1) := by decide +kernel
theorem d_jdk_42_method_152_code_7 : decode jdk_42_method_152_code 7 = .ok (.getfield 15, 3) := by decide +kernel
theorem d_jdk_42_method_152_code_10 : decode jdk_42_method_152_code 10 = .ok (.goto 4, 3) := by decide +kernel
theorem d_jdk_42_method_152_code_13 : decode jdk_42_method_152_code 13 = .ok (.iconst 1, 1) := by decide +kernel
theorem d_jdk_42_method_152_code_14 : decode jdk_42_method_152_code 14 = .ok (.ireturn, 1) := by decide +kernel
theorem d_jdk_42_method_154_code_0 : decode jdk_42_method_154_code 0 = .ok (.getstatic 38, 3) := by decide +kernel
theorem d_jdk_42_method_154_code_3 : decode jdk_42_method_154_code 3 = .ok (.ifCond .eq 14, 3) := by decide +kernel
theorem d_jdk_42_method_154_code_6 : decode jdk_42_method_154_code 6 = .ok (.aload_n 0, 1) := by decide +kernel
theorem d_jdk_42_method_154_code_7 : decode jdk_42_method_154_code 7 = .ok (.getfield 15, 3) := by decide +kernel
theorem d_jdk_42_method_154_code_10 : decode jdk_42_method_154_code 10 = .ok (.ifCond .ne 7, 3) := by decide +kernel
theorem d_jdk_42_method_154_code_13 : decode jdk_42_method_154_code 13 = .ok (.iconst 1, 1) := by decide +kernel
theorem d_jdk_42_method_154_code_14 : decode jdk_42_method_154_code 14 = .ok (.goto 4, 3) := by decide +kernel
theorem d_jdk_42_method_154_code_17 : decode jdk_42_method_154_code 17 = .ok (.iconst 0, 1) := by decide +kernel
theorem d_jdk_42_method_154_code_18 : decode jdk_42_method_154_code 18 = .ok (.ireturn, 1) := by decide +kernel
theorem d_jdk_42_method_56_code_0 : decode jdk_42_method_56_code 0 = .ok (.aload_n 0, 1) := by decide +kernel
theorem d_jdk_42_method_56_code_1 : decode jdk_42_method_56_code 1 = .ok (.invokevirtual 492, 3) := by decide +kernel
theorem d_jdk_42_method_56_code_4 : decode jdk_42_method_56_code 4 = .ok (.ifCond .eq 12, 3) := by decide +kernel
theorem d_jdk_42_method_56_code_7 : decode jdk_42_method_56_code 7 = .ok (.aload_n 0, 1) := by decide +kernel
theorem d_jdk_42_method_56_code_8 : decode jdk_42_method_56_code 8 = .ok (.getfield 9, 3) := by decide +kernel
theorem d_jdk_42_method_56_code_11 : decode jdk_42_method_56_code 11 = .ok (.iload_n 1, 1) := by decide +kernel
theorem d_jdk_42_method_56_code_12 : decode jdk_42_method_56_code 12 = .ok (.invokestatic 495, 3) := by decide +kernel
theorem d_jdk_42_method_56_code_15 : decode jdk_42_method_56_code 15 = .ok (.ireturn, 1) := by decide +kernel
theorem d_jdk_42_method_56_code_16 : decode jdk_42_method_56_code 16 = .ok (.aload_n 0, 1) := by decide +kernel
theorem d_jdk_42_method_56_code_17 : decode jdk_42_method_56_code 17 = .ok (.getfield 9, 3) := by decide +kernel
theorem d_jdk_42_method_56_code_20 : decode jdk_42_method_56_code 20 = .ok (.iload_n 1, 1) := by decide +kernel
theorem d_jdk_42_method_56_code_21 : decode jdk_42_method_56_code 21 = .ok (.invokestatic 498, 3) := by decide +kernel
theorem d_jdk_42_method_56_code_24 : decode jdk_42_method_56_code 24 = .ok (.ireturn, 1) := by decide +kernel
theorem d_jdk_43_method_2_code_0 : decode jdk_43_method_2_code 0 = .ok (.iload_n 1, 1) := by decide +kernel
theorem d_jdk_43_method_2_code_1 : decode jdk_43_method_2_code 1 = .ok (.aload_n 0, 1) := by decide +kernel
theorem d_jdk_43_method_2_code_2 : decode jdk_43_method_2_code 2 = .ok (.arraylength, 1) := by decide +kernel
theorem d_jdk_43_method_2_code_3 : decode jdk_43_method_2_code 3 = .ok (.invokestatic 9, 3) := by decide +kernel
theorem d_jdk_43_method_2_code_6 : decode jdk_43_method_2_code 6 = .ok (.aload_n 0, 1) := by decide +kernel
theorem d_jdk_43_method_2_code_7 : decode jdk_43_method_2_code 7 = .ok (.iload_n 1, 1) := by decide +kernel
theorem d_jdk_43_method_2_code_8 : decode jdk_43_method_2_code 8 = .ok (.baload, 1) := by decide +kernel
theorem d_jdk_43_method_2_code_9 : decode jdk_43_method_2_code 9 = .ok (.sipush 255, 3) := by decide +kernel
theorem d_jdk_43_method_2_code_12 : decode jdk_43_method_2_code 12 = .ok (.iand, 1) := by decide +kernel
theorem d_jdk_43_method_2_code_13 : decode jdk_43_method_2_code 13 = .ok (.i2c, 1) := by decide +kernel
theorem d_jdk_43_method_2_code_14 : decode jdk_43_method_2_code 14 = .ok (.ireturn, 1) := by decide +kernel
theorem d_jdk_42_method_155_code_0 : decode jdk_42_method_155_code 0 = .ok (.iload_n 0, 1) := by decide +kernel
theorem d_jdk_42_method_155_code_1 : decode jdk_42_method_155_code 1 = .ok (.iload_n 1, 1) := by decide +kernel
theorem d_jdk_42_method_155_code_2 : decode jdk_42_method_155_code 2 = .ok (.getstatic 1053, 3) := by decide +kernel
theorem d_jdk_42_method_155_code_5 : decode jdk_42_method_155_code 5 = .ok (.invokestatic 1059, 3) := by decide +kernel
theorem d_jdk_42_method_155_code_8 : decode jdk_42_method_155_code 8 = .ok (.pop, 1) := by decide +kernel
theorem d_jdk_42_method_155_code_9 : decode jdk_42_method_155_code 9 = .ok (.return_, 1) := by decide +kernel
theorem d_jdk_41_method_11_code_0 : decode jdk_41_method_11_code 0 = .ok (.iload_n 0, 1) := by decide +kernel
theorem d_jdk_41_method_11_code_1 : decode jdk_41_method_11_code 1 = .ok (.ifCond .lt 8, 3) := by decide +kernel
theorem d_jdk_41_method_11_code_4 : decode jdk_41_method_11_code 4 = .ok (.iload_n 0, 1) := by decide +kernel
theorem d_jdk_41_method_11_code_5 : decode jdk_41_method_11_code 5 = .ok (.iload_n 1, 1) := by decide +kernel
theorem d_jdk_41_method_11_code_6 : decode jdk_41_method_11_code 6 = .ok (.if_icmp .lt 10, 3) := by decide +kernel
theorem d_jdk_41_method_11_code_9 : decode jdk_41_method_11_code 9 = .ok (.aload_n 2, 1) := by decide +kernel
theorem d_jdk_41_method_11_code_10 : decode jdk_41_method_11_code 10 = .ok (.iload_n 0, 1) := by decide +kernel
theorem d_jdk_41_method_11_code_11 : decode jdk_41_method_11_code 11 = .ok (.iload_n 1, 1) := by decide +kernel
theorem d_jdk_41_method_11_code_12 : decode jdk_41_method_11_code 12 = .ok (.invokestatic 95, 3) := by decide +kernel
theorem d_jdk_41_method_11_code_15 : decode jdk_41_method_11_code 15 = .ok (.athrow, 1) := by decide +kernel
theorem d_jdk_41_method_11_code_16 : decode jdk_41_method_11_code 16 = .ok (.iload_n 0, 1) := by decide +kernel
theorem d_jdk_41_method_11_code_17 : decode jdk_41_method_11_code 17 = .ok (.ireturn, 1) := by decide +kernel
theorem d_method_2_code_0 : decode method_2_code 0 = .ok (.iload_n 0, 1) := by decide +kernel
theorem d_method_2_code_1 : decode method_2_code 1 = .ok (.ldc 7, 2) := by decide +kernel
theorem d_method_2_code_3 : decode method_2_code 3 = .ok (.iand, 1) := by decide +kernel
theorem d_method_2_code_4 : decode method_2_code 4 = .ok (.ifCond .eq 36, 3) := by decide +kernel
theorem d_method_2_code_7 : decode method_2_code 7 = .ok (.iload_n 0, 1) := by decide +kernel
theorem d_method_2_code_8 : decode method_2_code 8 = .ok (.bipush 17, 2) := by decide +kernel
theorem d_method_2_code_10 : decode method_2_code 10 = .ok (.iushr, 1) := by decide +kernel
theorem d_method_2_code_11 : decode method_2_code 11 = .ok (.iconst 3, 1) := by decide +kernel
theorem d_method_2_code_12 : decode method_2_code 12 = .ok (.iand, 1) := by decide +kernel
theorem d_method_2_code_13 : decode method_2_code 13 = .ok (.istore_n 1, 1) := by decide +kernel
theorem d_method_2_code_14 : decode method_2_code 14 = .ok (.iload_n 1, 1) := by decide +kernel
theorem d_method_2_code_15 : decode method_2_code 15 = .ok (.ifCond .ne 6, 3) := by decide +kernel
theorem d_method_2_code_18 : decode method_2_code 18 = .ok (.bipush 32, 2) := by decide +kernel
theorem d_method_2_code_20 : decode method_2_code 20 = .ok (.ireturn, 1) := by decide +kernel
theorem d_method_2_code_21 : decode method_2_code 21 = .ok (.iload_n 1, 1) := by decide +kernel
theorem d_method_2_code_22 : decode method_2_code 22 = .ok (.iconst 1, 1) := by decide +kernel
theorem d_method_2_code_23 : decode method_2_code 23 = .ok (.if_icmp .ne 6, 3) := by decide +kernel
theorem d_method_2_code_26 : decode method_2_code 26 = .ok (.bipush 9, 2) := by decide +kernel
theorem d_method_2_code_28 : decode method_2_code 28 = .ok (.ireturn, 1) := by decide +kernel
theorem d_method_2_code_29 : decode method_2_code 29 = .ok (.iload_n 1, 1) := by decide +kernel
theorem d_method_2_code_30 : decode method_2_code 30 = .ok (.iconst 2, 1) := by decide +kernel
theorem d_method_2_code_31 : decode method_2_code 31 = .ok (.if_icmp .ne 6, 3) := by decide +kernel
theorem d_method_2_code_34 : decode method_2_code 34 = .ok (.bipush 10, 2) := by decide +kernel
theorem d_method_2_code_36 : decode method_2_code 36 = .ok (.ireturn, 1) := by decide +kernel
theorem d_method_2_code_37 : decode method_2_code 37 = .ok (.bipush 13, 2) := by decide +kernel
theorem d_method_2_code_39 : decode method_2_code 39 = .ok (.ireturn, 1) := by decide +kernel
theorem d_method_2_code_40 : decode method_2_code 40 = .ok (.iload_n 0, 1) := by decide +kernel
theorem d_method_2_code_41 : decode method_2_code 41 = .ok (.ldc 8, 2) := by decide +kernel
theorem d_method_2_code_43 : decode method_2_code 43 = .ok (.iand, 1) := by decide +kernel
theorem d_method_2_code_44 : decode method_2_code 44 = .ok (.i2c, 1) := by decide +kernel
theorem d_method_2_code_45 : decode method_2_code 45 = .ok (.ireturn, 1) := by decide +kernel
theorem d_method_3_code_0 : decode method_3_code 0 = .ok (.iload_n 0, 1) := by decide +kernel
theorem d_method_3_code_1 : decode method_3_code 1 = .ok (.bipush 32, 2) := by decide +kernel
theorem d_method_3_code_3 : decode method_3_code 3 = .ok (.if_icmp .eq 15, 3) := by decide +kernel
theorem d_method_3_code_6 : decode method_3_code 6 = .ok (.iload_n 0, 1) := by decide +kernel
theorem d_method_3_code_7 : decode method_3_code 7 = .ok (.bipush 9, 2) := by decide +kernel
theorem d_method_3_code_9 : decode method_3_code 9 = .ok (.if_icmp .eq 9, 3) := by decide +kernel
theorem d_method_3_code_12 : decode method_3_code 12 = .ok (.iload_n 0, 1) := by decide +kernel
theorem d_method_3_code_13 : decode method_3_code 13 = .ok (.bipush 10, 2) := by decide +kernel
theorem d_method_3_code_15 : decode method_3_code 15 = .ok (.if_icmp .ne 7, 3) := by decide +kernel
theorem d_method_3_code_18 : decode method_3_code 18 = .ok (.iconst 1, 1) := by decide +kernel
theorem d_method_3_code_19 : decode method_3_code 19 = .ok (.goto 4, 3) := by decide +kernel
theorem d_method_3_code_22 : decode method_3_code 22 = .ok (.iconst 0, 1) := by decide +kernel
theorem d_method_3_code_23 : decode method_3_code 23 = .ok (.ireturn, 1) := by decide +kernel
theorem d_prog_216_method_10_code_0 : decode prog_216_method_10_code 0 = .ok (.iconst 0, 1) := by decide +kernel
theorem d_prog_216_method_10_code_1 : decode prog_216_method_10_code 1 = .ok (.istore_n 1, 1) := by decide +kernel
theorem d_prog_216_method_10_code_2 : decode prog_216_method_10_code 2 = .ok (.iload_n 1, 1) := by decide +kernel
theorem d_prog_216_method_10_code_3 : decode prog_216_method_10_code 3 = .ok (.aload_n 0, 1) := by decide +kernel
theorem d_prog_216_method_10_code_4 : decode prog_216_method_10_code 4 = .ok (.invokevirtual 29, 3) := by decide +kernel
theorem d_prog_216_method_10_code_7 : decode prog_216_method_10_code 7 = .ok (.if_icmp .ge 22, 3) := by decide +kernel
theorem d_prog_216_method_10_code_10 : decode prog_216_method_10_code 10 = .ok (.aload_n 0, 1) := by decide +kernel
theorem d_prog_216_method_10_code_11 : decode prog_216_method_10_code 11 = .ok (.iload_n 1, 1) := by decide +kernel
theorem d_prog_216_method_10_code_12 : decode prog_216_method_10_code 12 = .ok (.invokevirtual 23, 3) := by decide +kernel
theorem d_prog_216_method_10_code_15 : decode prog_216_method_10_code 15 = .ok (.invokestatic 122, 3) := by decide +kernel
theorem d_prog_216_method_10_code_18 : decode prog_216_method_10_code 18 = .ok (.ifCond .ne 5, 3) := by decide +kernel
theorem d_prog_216_method_10_code_21 : decode prog_216_method_10_code 21 = .ok (.iconst 0, 1) := by decide +kernel
theorem d_prog_216_method_10_code_22 : decode prog_216_method_10_code 22 = .ok (.ireturn, 1) := by decide +kernel
theorem d_prog_216_method_10_code_23 : decode prog_216_method_10_code 23 = .ok (.iinc 1 1, 3) := by decide +kernel
theorem d_prog_216_method_10_code_26 : decode prog_216_method_10_code 26 = .ok (.goto (-24), 3) := by decide +kernel
theorem d_prog_216_method_10_code_29 : decode prog_216_method_10_code 29 = .ok (.iconst 1, 1) := by decide +kernel
theorem d_prog_216_method_10_code_30 : decode prog_216_method_10_code 30 = .ok (.ireturn, 1) := by decide +kernel
theorem d_prog_216_method_11_code_0 : decode prog_216_method_11_code 0 = .ok (.iload_n 0, 1) := by decide +kernel
theorem d_prog_216_method_11_code_1 : decode prog_216_method_11_code 1 = .ok (.bipush 32, 2) := by decide +kernel
theorem d_prog_216_method_11_code_3 : decode prog_216_method_11_code 3 = .ok (.if_icmp .eq 15, 3) := by decide +kernel
theorem d_prog_216_method_11_code_6 : decode prog_216_method_11_code 6 = .ok (.iload_n 0, 1) := by decide +kernel
theorem d_prog_216_method_11_code_7 : decode prog_216_method_11_code 7 = .ok (.bipush 9, 2) := by decide +kernel
theorem d_prog_216_method_11_code_9 : decode prog_216_method_11_code 9 = .ok (.if_icmp .eq 9, 3) := by decide +kernel
theorem d_prog_216_method_11_code_12 : decode prog_216_method_11_code 12 = .ok (.iload_n 0, 1) := by decide +kernel
theorem d_prog_216_method_11_code_13 : decode prog_216_method_11_code 13 = .ok (.bipush 10, 2) := by decide +kernel
theorem d_prog_216_method_11_code_15 : decode prog_216_method_11_code 15 = .ok (.if_icmp .ne 7, 3) := by decide +kernel
theorem d_prog_216_method_11_code_18 : decode prog_216_method_11_code 18 = .ok (.iconst 1, 1) := by decide +kernel
theorem d_prog_216_method_11_code_19 : decode prog_216_method_11_code 19 = .ok (.goto 4, 3) := by decide +kernel
theorem d_prog_216_method_11_code_22 : decode prog_216_method_11_code 22 = .ok (.iconst 0, 1) := by decide +kernel
theorem d_prog_216_method_11_code_23 : decode prog_216_method_11_code 23 = .ok (.ireturn, 1) := by decide +kernel
theorem pn_law : plainName "com/example/libxqopt/libxqopt/XQueryCharactersIsWhitespacePinLaw" = true := by first | (simp [plainName, overriddenIn]; done) | decide +kernel
theorem pn_x : plainName "com/example/libxqopt/libxqopt/XQueryCharacters" = true := by first | (simp [plainName, overriddenIn]; done) | decide +kernel
theorem pn_s : plainName "java/lang/String" = true := by first | (simp [plainName, overriddenIn]; done) | decide +kernel
theorem pn_u : plainName "java/lang/StringUTF16" = true := by first | (simp [plainName, overriddenIn]; done) | decide +kernel
theorem pn_l : plainName "java/lang/StringLatin1" = true := by first | (simp [plainName, overriddenIn]; done) | decide +kernel
theorem pn_pc : plainName "jdk/internal/util/Preconditions" = true := by first | (simp [plainName, overriddenIn]; done) | decide +kernel
set_option maxRecDepth 65536 in
set_option maxHeartbeats 40000000 in
theorem loop_c5 (l : Launch) (Z : State) (a0 : Array Value) (hw : ∀ d ∈ tables_1, d.before a0 Z = true) (h0 : Heap) (n0 : Nat) (a b : Addr) (cA cB : ClassId) (cs : List Int32) (hl : cs.length ≤ 4) (ne : a ≠ b) (gb : n0 ≤ b) (rest : List Int32) : ∀ (i : Nat) (h : Heap) (w6 : Slot), own_one w6 = true → cs.drop i = rest → i ≤ cs.length → Arv Z h a cA .char (Int32.ofNat cs.length) (cs.map Value.int) (.int 0) → Arv Z h b cB .byte (Int32.ofNat cs.length) ((cs.take i).map own_by ++ List.replicate (cs.length - i) (.int 0)) (.int 0) → Keep h0 h [b] → (∀ c ∈ cs.take i, ¬ 255 < c) →
    Run l Z (⟨"java/lang/StringUTF16", "compress", "([CI[BII)I"⟩ : MethodName) jdk_52_method_21_code 7 (Option.some Jvm.ClassFile.FieldType.int) ({ frames := 0, cells := 0, slots := 0, locals := 0 } : Room) n0 (fun v h' => ∃ j, v = some (.int (Int32.ofNat j)) ∧ Keep h0 h' [b] ∧ ((j = cs.length ∧ (∀ c ∈ cs, ¬ 255 < c) ∧ Arv Z h' b cB .byte (Int32.ofNat cs.length) (cs.map own_by) (.int 0)) ∨ (j < cs.length ∧ ∃ c, cs[j]? = some c ∧ 255 < c))) h 0 0 3 [.val (.ref a), .val (.int (Int32.ofNat i)), .val (.ref b), .val (.int (Int32.ofNat i)), .val (.int (Int32.ofNat cs.length)), .val (.int (Int32.ofNat i)), w6] [] := by
  induction rest with
  | nil =>
    intro i h w6 h6 hi hle A B K hs
    have hlen : i = cs.length := Nat.le_antisymm hle (List.drop_eq_nil_iff.mp hi)
    subst hlen
    rw [List.take_length] at hs
    have hB : Arv Z h b cB .byte (Int32.ofNat cs.length) (cs.map own_by) (.int 0) := by rw [List.take_length, Nat.sub_self, List.replicate_zero, List.append_nil] at B; exact B
    refine r_iload 5 d_jdk_52_method_21_code_3 rfl rfl ?_
    refine r_iload 7 d_jdk_52_method_21_code_5 rfl rfl ?_
    refine r_icmp_ge 44 10 d_jdk_52_method_21_code_7 (by decide) rfl (fun q7 => ?_) (fun q7 => absurd ((own_lt (by omega) (by omega)).mp q7) (by omega))
    refine r_iload 46 d_jdk_52_method_21_code_44 rfl rfl ?_
    exact r_retI d_jdk_52_method_21_code_46 rfl (Nat.le_of_ble_eq_true rfl) (Nat.le_of_ble_eq_true rfl) (⟨cs.length, rfl, K, Or.inl ⟨rfl, hs, hB⟩⟩)
  | cons x r ih =>
    intro i h w6 h6 hi hle A B K hs
    obtain ⟨hlt, hx, hi2, htk, -, hix⟩ := own_at (f := Value.int) (d := .int 0) hi
    refine r_iload 5 d_jdk_52_method_21_code_3 rfl rfl ?_
    refine r_iload 7 d_jdk_52_method_21_code_5 rfl rfl ?_
    refine r_icmp_ge 44 10 d_jdk_52_method_21_code_7 (by decide) rfl (fun q7 => absurd ((own_lt (by omega) (by omega)).mpr hlt) q7) (fun q7 => ?_)
    refine r_aloadN 11 d_jdk_52_method_21_code_10 rfl rfl ?_
    refine r_iloadN 12 d_jdk_52_method_21_code_11 rfl rfl ?_
    refine r_caload i (.int x) 13 d_jdk_52_method_21_code_12 rfl A (own_nn (by omega)) (own_cl (by omega)) (by rw [own_cl (by omega)]; exact hlt) hx ?_
    refine r_istore 15 d_jdk_52_method_21_code_13 rfl (congrArg some h6) ?_
    refine r_iload 17 d_jdk_52_method_21_code_15 rfl rfl ?_
    refine r_sipush 255 20 d_jdk_52_method_21_code_17 rfl rfl ?_
    refine r_icmp_le 26 23 d_jdk_52_method_21_code_20 (by decide) rfl (fun q20 => ?_) (fun q20 => ?_)
    · refine r_aloadN 27 d_jdk_52_method_21_code_26 rfl rfl ?_
      refine r_iloadN 28 d_jdk_52_method_21_code_27 rfl rfl ?_
      refine r_iload 30 d_jdk_52_method_21_code_28 rfl rfl ?_
      refine r_i2b 31 d_jdk_52_method_21_code_30 rfl ?_
      refine r_bastore i 32 d_jdk_52_method_21_code_31 rfl B (own_nn (by omega)) (own_cl (by omega)) (by rw [own_cl (by omega)]; exact hlt) (by rw [List.length_append, List.length_map, List.length_take, List.length_replicate]; omega) gb ?_
      intro h2 W2 B2
      rw [show (Value.int (nar .byte x.toInt8.toInt32)) = own_by x from rfl, own_fill hlt htk] at B2
      refine r_iinc 1 35 d_jdk_52_method_21_code_32 rfl rfl rfl ?_
      refine r_iinc 1 38 d_jdk_52_method_21_code_35 rfl rfl rfl ?_
      refine r_iinc 1 41 d_jdk_52_method_21_code_38 rfl rfl rfl ?_
      refine r_goto 3 d_jdk_52_method_21_code_41 (by decide) ?_
      rw [own_succ (by omega)]
      exact ih (i + 1) h2 _ rfl hi2 (by omega) (A.other W2 ne) B2 (K.wr W2 (Or.inl (List.mem_of_getElem? (i := 0) rfl))) (fun c hc => by rw [htk] at hc; rcases List.mem_append.mp hc with hc | hc; exact hs c hc; cases List.mem_singleton.mp hc; exact q20)
    · refine r_iload 25 d_jdk_52_method_21_code_23 rfl rfl ?_
      exact r_retI d_jdk_52_method_21_code_25 rfl (Nat.le_of_ble_eq_true rfl) (Nat.le_of_ble_eq_true rfl) (⟨i, rfl, K, Or.inr ⟨hlt, x, hix, q20⟩⟩)
set_option maxRecDepth 65536 in
set_option maxHeartbeats 40000000 in
theorem rm_c5 (l : Launch) (Z : State) (a0 : Array Value) (hw : ∀ d ∈ tables_1, d.before a0 Z = true) (h : Heap) (n0 : Nat) (a b : Addr) (cA cB : ClassId) (cs : List Int32) (hl : cs.length ≤ 4) (ne : a ≠ b) (gb : n0 ≤ b) (A : Arv Z h a cA .char (Int32.ofNat cs.length) (cs.map Value.int) (.int 0)) (B : Arv Z h b cB .byte (Int32.ofNat cs.length) (List.replicate cs.length (.int 0)) (.int 0)) : Con l Z (⟨"java/lang/StringUTF16", "compress", "([CI[BII)I"⟩ : MethodName) jdk_52_method_21_code 7 (Option.some Jvm.ClassFile.FieldType.int) ({ frames := 0, cells := 0, slots := 0, locals := 0 } : Room) n0 #[.ref a, .int 0, .ref b, .int 0, .int (Int32.ofNat cs.length)] h (fun v h' => ∃ j, v = some (.int (Int32.ofNat j)) ∧ Keep h h' [b] ∧ ((j = cs.length ∧ (∀ c ∈ cs, ¬ 255 < c) ∧ Arv Z h' b cB .byte (Int32.ofNat cs.length) (cs.map own_by) (.int 0)) ∨ (j < cs.length ∧ ∃ c, cs[j]? = some c ∧ 255 < c))) [] := by
  refine Run.con pn_u (Ls := [.val (.ref a), .val (.int 0), .val (.ref b), .val (.int 0), .val (.int (Int32.ofNat cs.length)), .unset, .unset]) rfl ?_
  refine r_iconst 0 1 d_jdk_52_method_21_code_0 rfl rfl ?_
  refine r_istore 3 d_jdk_52_method_21_code_1 rfl rfl ?_
  exact loop_c5 l Z a0 hw h n0 a b cA cB cs hl ne gb cs 0 h .unset rfl rfl (by omega) A B (Keep.refl _ _) (fun c hc => by simp at hc)
def own_cfl (n z : Int32) : Int32 := nar .byte (XT.ushr (n - z) 31).toInt8.toInt32
set_option maxRecDepth 65536 in
set_option maxHeartbeats 40000000 in
theorem rm_cfl (l : Launch) (Z : State) (a0 : Array Value) (hw : ∀ d ∈ tables_1, d.before a0 Z = true) (h : Heap) (n0 : Nat) (b : Addr) (cB : ClassId) (n z : Int32) (vs : List Value) (dv : Value) (B : Arv Z h b cB .byte z vs dv) : Con l Z (⟨"java/lang/StringUTF16", "coderFromArrayLen", "([BI)B"⟩ : MethodName) jdk_52_method_15_code 2 (Option.some Jvm.ClassFile.FieldType.byte) ({ frames := 0, cells := 0, slots := 0, locals := 0 } : Room) n0 #[.ref b, .int n] h (fun v h' => v = some (.int (own_cfl n z)) ∧ h' = h) [] := by
  refine Run.con pn_u (Ls := [.val (.ref b), .val (.int n)]) rfl ?_
  refine r_iloadN 1 d_jdk_52_method_15_code_0 rfl rfl ?_
  refine r_aloadN 2 d_jdk_52_method_15_code_1 rfl rfl ?_
  refine r_arraylength 3 d_jdk_52_method_15_code_2 rfl B ?_
  refine r_isub 4 d_jdk_52_method_15_code_3 rfl ?_
  refine r_bipush 31 6 d_jdk_52_method_15_code_4 rfl rfl ?_
  refine r_iushr 7 d_jdk_52_method_15_code_6 rfl ?_
  refine r_i2b 8 d_jdk_52_method_15_code_7 rfl ?_
  exact r_retN _ d_jdk_52_method_15_code_8 rfl (by simp) rfl (Nat.le_of_ble_eq_true rfl) (Nat.le_of_ble_eq_true rfl) (⟨rfl, rfl⟩)

def own_lo (c : Int32) : Value := .int (nar .byte (c >>> (0 &&& 31)).toInt8.toInt32)
def own_hi (c : Int32) : Value := .int (nar .byte (c >>> (8 &&& 31)).toInt8.toInt32)
def own_u (cs : List Int32) : List Value := cs.flatMap fun c => [own_lo c, own_hi c]
theorem own_u_len (cs : List Int32) : (own_u cs).length = 2 * cs.length := by
  induction cs with
  | nil => rfl
  | cons c r ih => show (own_lo c :: own_hi c :: own_u r).length = _; simp only [List.length_cons, ih]; omega
theorem own_u_at {cs : List Int32} {i : Nat} {c : Int32} (h : cs[i]? = some c) (d : Value) : (own_u cs).getD (2 * i) d = own_lo c ∧ (own_u cs).getD (2 * i + 1) d = own_hi c := by
  induction cs generalizing i with
  | nil => cases h
  | cons x r ih =>
    cases i with
    | zero => cases h; exact ⟨rfl, rfl⟩
    | succ i =>
      have := ih (i := i) h
      have e : 2 * (i + 1) = 2 * i + 1 + 1 := by omega
      rw [e]
      exact this
theorem own_u_snoc (cs : List Int32) (x : Int32) : own_u (cs ++ [x]) = own_u cs ++ [own_lo x, own_hi x] := by simp [own_u]
theorem own_fill2 {cs : List Int32} {i : Nat} {x : Int32} {d : Value} (h1 : i < cs.length) (h2 : cs.take (i + 1) = cs.take i ++ [x]) :
    ((own_u (cs.take i) ++ List.replicate (2 * (cs.length - i)) d).set (2 * i) (own_lo x)).set (2 * i + 1) (own_hi x) = own_u (cs.take (i + 1)) ++ List.replicate (2 * (cs.length - (i + 1))) d := by
  have hl : (own_u (cs.take i)).length = 2 * i := by rw [own_u_len, List.length_take]; omega
  obtain ⟨k, hk⟩ : ∃ k, 2 * (cs.length - i) = k + 1 + 1 := ⟨2 * (cs.length - i) - 2, by omega⟩
  have e : 2 * (cs.length - (i + 1)) = k := by omega
  rw [List.set_append_right _ _ (by omega), hl, Nat.sub_self, hk, List.replicate_succ, List.set_cons_zero, List.set_append_right _ _ (by omega), hl, List.replicate_succ, e, h2, own_u_snoc, List.append_assoc]
  have e2 : 2 * i + 1 - 2 * i = 1 := by omega
  rw [e2]; rfl
theorem own_le4 {P : Nat → Prop} (h0 : P 0) (h1 : P 1) (h2 : P 2) (h3 : P 3) (h4 : P 4) {n : Nat} (h : n ≤ 4) : P n := by
  match n, h with
  | 0, _ => exact h0
  | 1, _ => exact h1
  | 2, _ => exact h2
  | 3, _ => exact h3
  | 4, _ => exact h4
theorem own_dbl {n : Nat} (h : n ≤ 4) : Int32.ofNat n <<< (1 &&& 31) = Int32.ofNat (2 * n) := own_le4 (P := fun n => Int32.ofNat n <<< (1 &&& 31) = Int32.ofNat (2 * n)) (by decide) (by decide) (by decide) (by decide) (by decide) h
theorem own_hlf {n : Nat} (h : n ≤ 4) : Int32.ofNat (2 * n) >>> (1 &&& 31) = Int32.ofNat n := own_le4 (P := fun n => Int32.ofNat (2 * n) >>> (1 &&& 31) = Int32.ofNat n) (by decide) (by decide) (by decide) (by decide) (by decide) h
theorem own_hl0 {n : Nat} (h : n ≤ 4) : Int32.ofNat n >>> ((0 : Int32) &&& 31) = Int32.ofNat n := own_le4 (P := fun n => Int32.ofNat n >>> ((0 : Int32) &&& 31) = Int32.ofNat n) (by decide) (by decide) (by decide) (by decide) (by decide) h
theorem own_cfl1 {n : Nat} (h : n ≤ 4) (h0 : 0 < n) : own_cfl (Int32.ofNat n) (Int32.ofNat (2 * n)) = 1 := own_le4 (P := fun n => 0 < n → own_cfl (Int32.ofNat n) (Int32.ofNat (2 * n)) = 1) (by decide) (by decide) (by decide) (by decide) (by decide) h h0


theorem own_narc {c : Int32} (hc : own_ch c) : nar .char c = c := by
  apply Int32.toInt_inj.mp
  have h := c_i2c c
  have e : nar .char c = c.toUInt32.toUInt16.toUInt32.toInt32 := rfl
  rw [e]
  obtain ⟨h1, h2⟩ := hc
  omega
theorem own_b8 (x : Int32) : (nar .byte x.toInt8.toInt32 &&& 255).toInt = x.toInt % 256 := by
  have e : nar .byte x.toInt8.toInt32 = x.toInt8.toInt32.toInt8.toInt32 := rfl
  rw [e, c_mask _ 255 8 (by decide) (by decide)]
  have h1 := (c_i2b x).1
  have h2 := (c_i2b x.toInt8.toInt32).1
  show _ % 256 = _
  omega
theorem own_mk_l {c : Int32} (hc : own_ch c) (h : ¬ 255 < c) : nar .char (nar .byte c.toInt8.toInt32 &&& 255).toUInt32.toUInt16.toUInt32.toInt32 = c := by
  apply Int32.toInt_inj.mp
  have h1 := own_b8 c
  have h2 := c_i2c (nar .byte c.toInt8.toInt32 &&& 255)
  have h3 := c_i2c (nar .byte c.toInt8.toInt32 &&& 255).toUInt32.toUInt16.toUInt32.toInt32
  have e : nar .char (nar .byte c.toInt8.toInt32 &&& 255).toUInt32.toUInt16.toUInt32.toInt32 = (nar .byte c.toInt8.toInt32 &&& 255).toUInt32.toUInt16.toUInt32.toInt32.toUInt32.toUInt16.toUInt32.toInt32 := rfl
  rw [e]
  rw [Int32.lt_iff_toInt_lt] at h
  have e2 : (255 : Int32).toInt = 255 := rfl
  obtain ⟨h5, h6⟩ := hc
  omega
theorem own_mk_u {c : Int32} (hc : own_ch c) : nar .char (((nar .byte (c >>> (0 &&& 31)).toInt8.toInt32 &&& 255) <<< (0 &&& 31)) ||| ((nar .byte (c >>> (8 &&& 31)).toInt8.toInt32 &&& 255) <<< (8 &&& 31))).toUInt32.toUInt16.toUInt32.toInt32 = c := by
  have a1 := own_b8 (c >>> (0 &&& 31))
  have b1 := own_b8 (c >>> (8 &&& 31))
  have a2 := c_ishr c 0 0 (by decide)
  have b2 := c_ishr c 8 8 (by decide)
  generalize nar .byte (c >>> (0 &&& 31)).toInt8.toInt32 &&& 255 = A at *
  generalize nar .byte (c >>> (8 &&& 31)).toInt8.toInt32 &&& 255 = B at *
  have a3 := c_ishl A 0 0 (by decide)
  have b3 := c_ishl B 8 8 (by decide)
  have a4 := rng32 (A <<< (0 &&& 31))
  have b4 := rng32 (B <<< (8 &&& 31))
  generalize A <<< (0 &&& 31) = A2 at *
  generalize B <<< (8 &&& 31) = B2 at *
  have p0 : ((2 ^ 0 : Nat) : Int) = 1 := rfl
  have p8 : ((2 ^ 8 : Nat) : Int) = 256 := rfl
  rw [p0] at a2 a3
  rw [p8] at b2 b3
  obtain ⟨h5, h6⟩ := hc
  have o1 := c_or' A2 B2 8 (by decide) 256 rfl (by omega) (by omega) (by omega)
  generalize A2 ||| B2 = X at *
  have r1 := rng32 X
  have h2 := c_i2c X
  have h3 := c_i2c X.toUInt32.toUInt16.toUInt32.toInt32
  apply Int32.toInt_inj.mp
  show X.toUInt32.toUInt16.toUInt32.toInt32.toUInt32.toUInt16.toUInt32.toInt32.toInt = _
  omega
theorem own_chn (z : Int32) : own_ch (nar .char z) := (c_i2c z).2


set_option maxRecDepth 65536 in
set_option maxHeartbeats 40000000 in
theorem rm_nbl (l : Launch) (Z : State) (a0 : Array Value) (hw : ∀ d ∈ tables_1, d.before a0 Z = true) (h : Heap) (n0 : Nat) (i : Nat) (hn : i ≤ 4) : Con l Z (⟨"java/lang/StringUTF16", "newBytesLength", "(I)I"⟩ : MethodName) jdk_52_method_3_code 1 (Option.some Jvm.ClassFile.FieldType.int) ({ frames := 0, cells := 0, slots := 0, locals := 0 } : Room) n0 #[.int (Int32.ofNat i)] h (fun v h' => v = some (.int (Int32.ofNat (2 * i))) ∧ h' = h) [] := by
  refine Run.con pn_u (Ls := [.val (.int (Int32.ofNat i))]) rfl ?_
  refine r_iloadN 1 d_jdk_52_method_3_code_0 rfl rfl ?_
  refine r_if_ge 12 4 d_jdk_52_method_3_code_1 (by decide) rfl (fun q1 => ?_) (fun q1 => absurd q1 (own_nn (by omega)))
  refine r_iloadN 13 d_jdk_52_method_3_code_12 rfl rfl ?_
  refine r_ldc 15 d_jdk_52_method_3_code_13 rfl (hw _ (List.mem_of_getElem? (i := 91) rfl)) ?_
  refine r_icmp_lt 55 18 d_jdk_52_method_3_code_15 (by decide) rfl (fun q15 => ?_) (fun q15 => absurd ((own_lt (j := 1073741823) (by omega) (by omega)).mpr (by omega)) q15)
  refine r_iloadN 56 d_jdk_52_method_3_code_55 rfl rfl ?_
  refine r_iconst 1 57 d_jdk_52_method_3_code_56 rfl rfl ?_
  refine r_ishl 58 d_jdk_52_method_3_code_57 rfl ?_
  exact r_retI d_jdk_52_method_3_code_58 rfl (Nat.le_of_ble_eq_true rfl) (Nat.le_of_ble_eq_true rfl) (⟨by rw [own_dbl hn], rfl⟩)
set_option maxRecDepth 65536 in
set_option maxHeartbeats 40000000 in
theorem rm_nbf (l : Launch) (Z : State) (a0 : Array Value) (hw : ∀ d ∈ tables_1, d.before a0 Z = true) (h : Heap) (n0 : Nat) (i : Nat) (hn : i ≤ 4) : Con l Z (⟨"java/lang/StringUTF16", "newBytesFor", "(I)[B"⟩ : MethodName) jdk_52_method_2_code 1 (Option.some (Jvm.ClassFile.FieldType.array Jvm.ClassFile.FieldType.byte)) ({ frames := 1, cells := 1, slots := 8, locals := 12 } : Room) n0 #[.int (Int32.ofNat i)] h (fun v h' => ∃ b cB, v = some (.ref b) ∧ Ext h h' ∧ Arv Z h' b cB .byte (Int32.ofNat (2 * i)) (List.replicate (2 * i) (.int 0)) (.int 0) ∧ b = h.size) [] := by
  refine Run.con pn_u (Ls := [.val (.int (Int32.ofNat i))]) rfl ?_
  refine r_iloadN 1 d_jdk_52_method_2_code_0 rfl rfl ?_
  refine r_static 4 d_jdk_52_method_2_code_1 rfl (rm_nbl l Z a0 hw h n0 i hn) (hw _ (List.mem_of_getElem? (i := 88) rfl)) (hw _ (List.mem_of_getElem? (i := 89) rfl)) (hw _ (List.mem_of_getElem? (i := 46) rfl)) (hw _ (List.mem_of_getElem? (i := 90) rfl)) (by decide) (ps := [.int]) (r' := (some .int)) (by decide +kernel) rfl rfl rfl (Nat.le_of_ble_eq_true rfl) (Nat.le_of_ble_eq_true rfl) (Nat.le_of_ble_eq_true rfl) (Nat.le_of_ble_eq_true rfl) ?_
  rintro v h1 ⟨rfl, rfl⟩
  show Run _ _ _ _ _ _ _ _ _ _ _ _ _ _ [.int (Int32.ofNat (2 * i))]
  refine r_newarray 8 "[B" 6 d_jdk_52_method_2_code_4 rfl (hw _ (List.mem_of_getElem? (i := 22) rfl)) (own_nn (by omega)) (by rw [own_cl (by omega)]; omega) (by decide) rfl (Nat.le_of_ble_eq_true rfl) (Nat.le_of_ble_eq_true rfl) ?_
  intro h1 b cB hb E1 B1 X1
  rw [own_cl (by omega)] at B1
  exact r_retA d_jdk_52_method_2_code_6 rfl rfl rfl rfl (Nat.le_of_ble_eq_true rfl) (Nat.le_of_ble_eq_true rfl) (⟨b, cB, rfl, E1, B1, hb⟩)
set_option maxRecDepth 65536 in
set_option maxHeartbeats 40000000 in
theorem rm_put (l : Launch) (Z : State) (a0 : Array Value) (hw : ∀ d ∈ tables_1, d.before a0 Z = true) (h : Heap) (n0 : Nat) (O : Old Z n0 h) (SD : Sta Z Z.heap "java/lang/StringUTF16" "$assertionsDisabled" "Z" (.int 1)) (SH : Sta Z Z.heap "java/lang/StringUTF16" "HI_BYTE_SHIFT" "I" (.int 0)) (SL : Sta Z Z.heap "java/lang/StringUTF16" "LO_BYTE_SHIFT" "I" (.int 8)) (b : Addr) (cB : ClassId) (i N : Nat) (hi : i < N) (hN : N ≤ 4) (c : Int32) (vs : List Value) (hv : vs.length = 2 * N) (B : Arv Z h b cB .byte (Int32.ofNat (2 * N)) vs (.int 0)) (gb : n0 ≤ b) : Con l Z (⟨"java/lang/StringUTF16", "putChar", "([BII)V"⟩ : MethodName) jdk_52_method_4_code 3 (Option.none : Option Jvm.ClassFile.FieldType) ({ frames := 0, cells := 0, slots := 0, locals := 0 } : Room) n0 #[.ref b, .int (Int32.ofNat i), .int c] h (fun v h' => v = none ∧ Keep h h' [b] ∧ Arv Z h' b cB .byte (Int32.ofNat (2 * N)) ((vs.set (2 * i) (own_lo c)).set (2 * i + 1) (own_hi c)) (.int 0)) [] := by
  refine Run.con pn_u (Ls := [.val (.ref b), .val (.int (Int32.ofNat i)), .val (.int c)]) rfl ?_
  refine r_getstatic 3 d_jdk_52_method_4_code_0 rfl (hw _ (List.mem_of_getElem? (i := 95) rfl)) Via.refl (SD.ext O.2) ?_
  refine r_if_ne 28 6 d_jdk_52_method_4_code_3 (by decide) rfl (fun q3 => ?_) (fun q3 => absurd q3 (by decide))
  refine r_iloadN 29 d_jdk_52_method_4_code_28 rfl rfl ?_
  refine r_iconst 1 30 d_jdk_52_method_4_code_29 rfl rfl ?_
  refine r_ishl 31 d_jdk_52_method_4_code_30 rfl ?_
  rw [own_dbl (by omega)]
  refine r_istoreN 32 d_jdk_52_method_4_code_31 rfl rfl ?_
  refine r_aloadN 33 d_jdk_52_method_4_code_32 rfl rfl ?_
  refine r_iloadN 34 d_jdk_52_method_4_code_33 rfl rfl ?_
  refine r_iinc 1 37 d_jdk_52_method_4_code_34 rfl rfl rfl ?_
  rw [own_succ (by omega)]
  refine r_iloadN 38 d_jdk_52_method_4_code_37 rfl rfl ?_
  refine r_getstatic 41 d_jdk_52_method_4_code_38 rfl (hw _ (List.mem_of_getElem? (i := 96) rfl)) Via.refl (SH.ext O.2) ?_
  refine r_ishr 42 d_jdk_52_method_4_code_41 rfl ?_
  refine r_i2b 43 d_jdk_52_method_4_code_42 rfl ?_
  refine r_bastore (2 * i) 44 d_jdk_52_method_4_code_43 rfl B (own_nn (by omega)) (own_cl (by omega)) (by rw [own_cl (by omega)]; omega) (by omega) gb ?_
  intro h1 W1 B1
  replace O := O.wr W1 gb
  refine r_aloadN 45 d_jdk_52_method_4_code_44 rfl rfl ?_
  refine r_iloadN 46 d_jdk_52_method_4_code_45 rfl rfl ?_
  refine r_iloadN 47 d_jdk_52_method_4_code_46 rfl rfl ?_
  refine r_getstatic 50 d_jdk_52_method_4_code_47 rfl (hw _ (List.mem_of_getElem? (i := 97) rfl)) Via.refl (SL.ext O.2) ?_
  refine r_ishr 51 d_jdk_52_method_4_code_50 rfl ?_
  refine r_i2b 52 d_jdk_52_method_4_code_51 rfl ?_
  refine r_bastore (2 * i + 1) 53 d_jdk_52_method_4_code_52 rfl B1 (own_nn (by omega)) (own_cl (by omega)) (by rw [own_cl (by omega)]; omega) (by rw [List.length_set]; omega) gb ?_
  intro h2 W2 B2
  exact r_retV d_jdk_52_method_4_code_53 rfl (Nat.le_of_ble_eq_true rfl) (Nat.le_of_ble_eq_true rfl) (⟨rfl, (Keep.of_wr W1).wr W2 (Or.inl (List.mem_of_getElem? (i := 0) rfl)), B2⟩)
set_option maxRecDepth 65536 in
set_option maxHeartbeats 40000000 in
theorem rm_get (l : Launch) (Z : State) (a0 : Array Value) (hw : ∀ d ∈ tables_1, d.before a0 Z = true) (h : Heap) (n0 : Nat) (O : Old Z n0 h) (SD : Sta Z Z.heap "java/lang/StringUTF16" "$assertionsDisabled" "Z" (.int 1)) (SH : Sta Z Z.heap "java/lang/StringUTF16" "HI_BYTE_SHIFT" "I" (.int 0)) (SL : Sta Z Z.heap "java/lang/StringUTF16" "LO_BYTE_SHIFT" "I" (.int 8)) (b : Addr) (cB : ClassId) (cs : List Int32) (hl : cs.length ≤ 4) (i : Nat) (c : Int32) (hi : cs[i]? = some c) (hc : own_ch c) (B : Arv Z h b cB .byte (Int32.ofNat (2 * cs.length)) (own_u cs) (.int 0)) : Con l Z (⟨"java/lang/StringUTF16", "getChar", "([BI)C"⟩ : MethodName) jdk_52_method_5_code 2 (Option.some Jvm.ClassFile.FieldType.char) ({ frames := 0, cells := 0, slots := 0, locals := 0 } : Room) n0 #[.ref b, .int (Int32.ofNat i)] h (fun v h' => v = some (.int c) ∧ h' = h) [] := by
  refine Run.con pn_u (Ls := [.val (.ref b), .val (.int (Int32.ofNat i))]) rfl ?_
  have hlt : i < cs.length := (List.getElem?_eq_some_iff.mp hi).1
  refine r_getstatic 3 d_jdk_52_method_5_code_0 rfl (hw _ (List.mem_of_getElem? (i := 95) rfl)) Via.refl (SD.ext O.2) ?_
  refine r_if_ne 28 6 d_jdk_52_method_5_code_3 (by decide) rfl (fun q3 => ?_) (fun q3 => absurd q3 (by decide))
  refine r_iloadN 29 d_jdk_52_method_5_code_28 rfl rfl ?_
  refine r_iconst 1 30 d_jdk_52_method_5_code_29 rfl rfl ?_
  refine r_ishl 31 d_jdk_52_method_5_code_30 rfl ?_
  rw [own_dbl (by omega)]
  refine r_istoreN 32 d_jdk_52_method_5_code_31 rfl rfl ?_
  refine r_aloadN 33 d_jdk_52_method_5_code_32 rfl rfl ?_
  refine r_iloadN 34 d_jdk_52_method_5_code_33 rfl rfl ?_
  refine r_iinc 1 37 d_jdk_52_method_5_code_34 rfl rfl rfl ?_
  rw [own_succ (by omega)]
  refine r_baload (2 * i) (own_lo c) 38 d_jdk_52_method_5_code_37 rfl B (own_nn (by omega)) (own_cl (by omega)) (by rw [own_cl (by omega)]; omega) (own_u_at hi _).1 ?_
  unfold own_lo
  refine r_sipush 255 41 d_jdk_52_method_5_code_38 rfl rfl ?_
  refine r_iand 42 d_jdk_52_method_5_code_41 rfl ?_
  refine r_getstatic 45 d_jdk_52_method_5_code_42 rfl (hw _ (List.mem_of_getElem? (i := 96) rfl)) Via.refl (SH.ext O.2) ?_
  refine r_ishl 46 d_jdk_52_method_5_code_45 rfl ?_
  refine r_aloadN 47 d_jdk_52_method_5_code_46 rfl rfl ?_
  refine r_iloadN 48 d_jdk_52_method_5_code_47 rfl rfl ?_
  refine r_baload (2 * i + 1) (own_hi c) 49 d_jdk_52_method_5_code_48 rfl B (own_nn (by omega)) (own_cl (by omega)) (by rw [own_cl (by omega)]; omega) (own_u_at hi _).2 ?_
  unfold own_hi
  refine r_sipush 255 52 d_jdk_52_method_5_code_49 rfl rfl ?_
  refine r_iand 53 d_jdk_52_method_5_code_52 rfl ?_
  refine r_getstatic 56 d_jdk_52_method_5_code_53 rfl (hw _ (List.mem_of_getElem? (i := 97) rfl)) Via.refl (SL.ext O.2) ?_
  refine r_ishl 57 d_jdk_52_method_5_code_56 rfl ?_
  refine r_ior 58 d_jdk_52_method_5_code_57 rfl ?_
  refine r_i2c 59 d_jdk_52_method_5_code_58 rfl ?_
  exact r_retN _ d_jdk_52_method_5_code_59 rfl (by simp) rfl (Nat.le_of_ble_eq_true rfl) (Nat.le_of_ble_eq_true rfl) (⟨by rw [own_mk_u hc], rfl⟩)
set_option maxRecDepth 65536 in
set_option maxHeartbeats 40000000 in
theorem loop_tob (l : Launch) (Z : State) (a0 : Array Value) (hw : ∀ d ∈ tables_1, d.before a0 Z = true) (h0 : Heap) (n0 : Nat) (SD : Sta Z Z.heap "java/lang/StringUTF16" "$assertionsDisabled" "Z" (.int 1)) (SH : Sta Z Z.heap "java/lang/StringUTF16" "HI_BYTE_SHIFT" "I" (.int 0)) (SL : Sta Z Z.heap "java/lang/StringUTF16" "LO_BYTE_SHIFT" "I" (.int 8)) (a b : Addr) (cA cB : ClassId) (cs : List Int32) (hl : cs.length ≤ 4) (ne : a ≠ b) (gb : n0 ≤ b) (hb : h0.size ≤ b) (rest : List Int32) : ∀ (i : Nat) (h : Heap), cs.drop i = rest → i ≤ cs.length → Old Z n0 h → Arv Z h a cA .char (Int32.ofNat cs.length) (cs.map Value.int) (.int 0) → Arv Z h b cB .byte (Int32.ofNat (2 * cs.length)) (own_u (cs.take i) ++ List.replicate (2 * (cs.length - i)) (.int 0)) (.int 0) → Ext h0 h →
    Run l Z (⟨"java/lang/StringUTF16", "toBytes", "([CII)[B"⟩ : MethodName) jdk_52_method_14_code 5 (Option.some (Jvm.ClassFile.FieldType.array Jvm.ClassFile.FieldType.byte)) ({ frames := 2, cells := 1, slots := 8, locals := 24 } : Room) n0 (fun v h' => ∃ b cB, v = some (.ref b) ∧ Ext h0 h' ∧ Arv Z h' b cB .byte (Int32.ofNat (2 * cs.length)) (own_u cs) (.int 0) ∧ h0.size ≤ b) h 1 8 8 [.val (.ref a), .val (.int (Int32.ofNat i)), .val (.int (Int32.ofNat cs.length)), .val (.ref b), .val (.int (Int32.ofNat i))] [] := by
  induction rest with
  | nil =>
    intro i h hi hle O A B E
    have hlen : i = cs.length := Nat.le_antisymm hle (List.drop_eq_nil_iff.mp hi)
    subst hlen
    have hB : Arv Z h b cB .byte (Int32.ofNat (2 * cs.length)) (own_u cs) (.int 0) := by rw [List.take_length, Nat.sub_self, Nat.mul_zero, List.replicate_zero, List.append_nil] at B; exact B
    refine r_iload 10 d_jdk_52_method_14_code_8 rfl rfl ?_
    refine r_iloadN 11 d_jdk_52_method_14_code_10 rfl rfl ?_
    refine r_icmp_ge 32 14 d_jdk_52_method_14_code_11 (by decide) rfl (fun q11 => ?_) (fun q11 => absurd ((own_lt (by omega) (by omega)).mp q11) (by omega))
    refine r_aloadN 33 d_jdk_52_method_14_code_32 rfl rfl ?_
    exact r_retA d_jdk_52_method_14_code_33 rfl rfl rfl rfl (Nat.le_of_ble_eq_true rfl) (Nat.le_of_ble_eq_true rfl) (⟨b, cB, rfl, E, hB, hb⟩)
  | cons x r ih =>
    intro i h hi hle O A B E
    obtain ⟨hlt, hx, hi2, htk, -, hix⟩ := own_at (f := Value.int) (d := .int 0) hi
    refine r_iload 10 d_jdk_52_method_14_code_8 rfl rfl ?_
    refine r_iloadN 11 d_jdk_52_method_14_code_10 rfl rfl ?_
    refine r_icmp_ge 32 14 d_jdk_52_method_14_code_11 (by decide) rfl (fun q11 => absurd ((own_lt (by omega) (by omega)).mpr hlt) q11) (fun q11 => ?_)
    refine r_aloadN 15 d_jdk_52_method_14_code_14 rfl rfl ?_
    refine r_iload 17 d_jdk_52_method_14_code_15 rfl rfl ?_
    refine r_aloadN 18 d_jdk_52_method_14_code_17 rfl rfl ?_
    refine r_iloadN 19 d_jdk_52_method_14_code_18 rfl rfl ?_
    refine r_caload i (.int x) 20 d_jdk_52_method_14_code_19 rfl A (own_nn (by omega)) (own_cl (by omega)) (by rw [own_cl (by omega)]; exact hlt) hx ?_
    refine r_static 23 d_jdk_52_method_14_code_20 rfl (rm_put l Z a0 hw h n0 O SD SH SL b cB i cs.length hlt hl x _ (by rw [List.length_append, own_u_len, List.length_take, List.length_replicate]; omega) B gb) (hw _ (List.mem_of_getElem? (i := 92) rfl)) (hw _ (List.mem_of_getElem? (i := 93) rfl)) (hw _ (List.mem_of_getElem? (i := 46) rfl)) (hw _ (List.mem_of_getElem? (i := 94) rfl)) (by decide) (ps := [(.array .byte), .int, .int]) (r' := none) (by decide +kernel) rfl rfl rfl (Nat.le_of_ble_eq_true rfl) (Nat.le_of_ble_eq_true rfl) (Nat.le_of_ble_eq_true rfl) (Nat.le_of_ble_eq_true rfl) ?_
    rintro v h2 ⟨rfl, K2, B2⟩
    rw [own_fill2 hlt htk] at B2
    show Run _ _ _ _ _ _ _ _ _ _ _ _ _ _ []
    refine r_iinc 1 26 d_jdk_52_method_14_code_23 rfl rfl rfl ?_
    refine r_iinc 1 29 d_jdk_52_method_14_code_26 rfl rfl rfl ?_
    refine r_goto 8 d_jdk_52_method_14_code_29 (by decide) ?_
    rw [own_succ (by omega)]
    exact ih (i + 1) h2 hi2 (by omega) (O.keep K2 (allS gb all0)) (A.keep K2 (ninS ne nin0)) B2 (own_ext ((own_kext E []).trans K2 fun x hx => Or.inr (by cases List.mem_singleton.mp hx; exact hb)))
set_option maxRecDepth 65536 in
set_option maxHeartbeats 40000000 in
theorem rm_tob (l : Launch) (Z : State) (a0 : Array Value) (hw : ∀ d ∈ tables_1, d.before a0 Z = true) (h : Heap) (n0 : Nat) (O : Old Z n0 h) (SD : Sta Z Z.heap "java/lang/StringUTF16" "$assertionsDisabled" "Z" (.int 1)) (SH : Sta Z Z.heap "java/lang/StringUTF16" "HI_BYTE_SHIFT" "I" (.int 0)) (SL : Sta Z Z.heap "java/lang/StringUTF16" "LO_BYTE_SHIFT" "I" (.int 8)) (a : Addr) (cA : ClassId) (cs : List Int32) (hl : cs.length ≤ 4) (A : Arv Z h a cA .char (Int32.ofNat cs.length) (cs.map Value.int) (.int 0)) : Con l Z (⟨"java/lang/StringUTF16", "toBytes", "([CII)[B"⟩ : MethodName) jdk_52_method_14_code 5 (Option.some (Jvm.ClassFile.FieldType.array Jvm.ClassFile.FieldType.byte)) ({ frames := 2, cells := 1, slots := 8, locals := 24 } : Room) n0 #[.ref a, .int 0, .int (Int32.ofNat cs.length)] h (fun v h' => ∃ b cB, v = some (.ref b) ∧ Ext h h' ∧ Arv Z h' b cB .byte (Int32.ofNat (2 * cs.length)) (own_u cs) (.int 0) ∧ h.size ≤ b) [] := by
  refine Run.con pn_u (Ls := [.val (.ref a), .val (.int 0), .val (.int (Int32.ofNat cs.length)), .unset, .unset]) rfl ?_
  refine r_iloadN 1 d_jdk_52_method_14_code_0 rfl rfl ?_
  refine r_static 4 d_jdk_52_method_14_code_1 rfl (rm_nbf l Z a0 hw h n0 cs.length hl) (hw _ (List.mem_of_getElem? (i := 85) rfl)) (hw _ (List.mem_of_getElem? (i := 86) rfl)) (hw _ (List.mem_of_getElem? (i := 46) rfl)) (hw _ (List.mem_of_getElem? (i := 87) rfl)) (by decide) (ps := [.int]) (r' := (some (.array .byte))) (by decide +kernel) rfl rfl rfl (Nat.le_of_ble_eq_true rfl) (Nat.le_of_ble_eq_true rfl) (Nat.le_of_ble_eq_true rfl) (Nat.le_of_ble_eq_true rfl) ?_
  rintro v h1 ⟨b, cB, rfl, E1, B1, hb⟩
  have ne : a ≠ b := own_ne A.lt hb
  show Run _ _ _ _ _ _ _ _ _ _ _ _ _ _ [.ref b]
  refine r_astoreN 5 d_jdk_52_method_14_code_4 rfl rfl ?_
  refine r_iconst 0 6 d_jdk_52_method_14_code_5 rfl rfl ?_
  refine r_istore 8 d_jdk_52_method_14_code_6 rfl rfl ?_
  exact loop_tob l Z a0 hw h n0 SD SH SL a b cA cB cs hl ne (by rw [hb]; exact O.1 ▸ O.2.1) (Nat.le_of_eq hb.symm) cs 0 h1 rfl (by omega) (O.ext E1) (A.ext E1) B1 E1
set_option maxRecDepth 65536 in
set_option maxHeartbeats 40000000 in
theorem rm_c3 (l : Launch) (Z : State) (a0 : Array Value) (hw : ∀ d ∈ tables_1, d.before a0 Z = true) (h : Heap) (n0 : Nat) (O : Old Z n0 h) (SD : Sta Z Z.heap "java/lang/StringUTF16" "$assertionsDisabled" "Z" (.int 1)) (SH : Sta Z Z.heap "java/lang/StringUTF16" "HI_BYTE_SHIFT" "I" (.int 0)) (SL : Sta Z Z.heap "java/lang/StringUTF16" "LO_BYTE_SHIFT" "I" (.int 8)) (a : Addr) (cA : ClassId) (cs : List Int32) (hl : cs.length ≤ 4) (hch : ∀ c ∈ cs, own_ch c) (A : Arv Z h a cA .char (Int32.ofNat cs.length) (cs.map Value.int) (.int 0)) : Con l Z (⟨"java/lang/StringUTF16", "compress", "([CII)[B"⟩ : MethodName) jdk_52_method_16_code 6 (Option.some (Jvm.ClassFile.FieldType.array Jvm.ClassFile.FieldType.byte)) ({ frames := 3, cells := 2, slots := 12, locals := 44 } : Room) n0 #[.ref a, .int 0, .int (Int32.ofNat cs.length)] h (fun v h' => ∃ b cB, v = some (.ref b) ∧ Ext h h' ∧ h.size ≤ b ∧ (((∀ c ∈ cs, ¬ 255 < c) ∧ Arv Z h' b cB .byte (Int32.ofNat cs.length) (cs.map own_by) (.int 0)) ∨ Arv Z h' b cB .byte (Int32.ofNat (2 * cs.length)) (own_u cs) (.int 0))) [] := by
  refine Run.con pn_u (Ls := [.val (.ref a), .val (.int 0), .val (.int (Int32.ofNat cs.length)), .unset, .unset, .unset]) rfl ?_
  refine r_iloadN 1 d_jdk_52_method_16_code_0 rfl rfl ?_
  refine r_newarray 4 "[B" 3 d_jdk_52_method_16_code_1 rfl (hw _ (List.mem_of_getElem? (i := 22) rfl)) (own_nn (by omega)) (by rw [own_cl (by omega)]; exact hl) (by decide) rfl (Nat.le_of_ble_eq_true rfl) (Nat.le_of_ble_eq_true rfl) ?_
  intro h1 b cB hb E1 B1 X1
  rw [own_cl (by omega)] at B1
  have gb : n0 ≤ b := by rw [hb]; exact O.1 ▸ O.2.1
  have ne : a ≠ b := own_ne A.lt hb
  replace A := A.ext E1
  replace O := O.ext E1
  refine r_astoreN 4 d_jdk_52_method_16_code_3 rfl rfl ?_
  refine r_aloadN 5 d_jdk_52_method_16_code_4 rfl rfl ?_
  refine r_iloadN 6 d_jdk_52_method_16_code_5 rfl rfl ?_
  refine r_aloadN 7 d_jdk_52_method_16_code_6 rfl rfl ?_
  refine r_iconst 0 8 d_jdk_52_method_16_code_7 rfl rfl ?_
  refine r_iloadN 9 d_jdk_52_method_16_code_8 rfl rfl ?_
  refine r_static 12 d_jdk_52_method_16_code_9 rfl (rm_c5 l Z a0 hw h1 n0 a b cA cB cs hl ne gb A B1) (hw _ (List.mem_of_getElem? (i := 48) rfl)) (hw _ (List.mem_of_getElem? (i := 49) rfl)) (hw _ (List.mem_of_getElem? (i := 46) rfl)) (hw _ (List.mem_of_getElem? (i := 50) rfl)) (by decide) (ps := [(.array .char), .int, (.array .byte), .int, .int]) (r' := (some .int)) (by decide +kernel) rfl rfl rfl (Nat.le_of_ble_eq_true rfl) (Nat.le_of_ble_eq_true rfl) (Nat.le_of_ble_eq_true rfl) (Nat.le_of_ble_eq_true rfl) ?_
  rintro v h2 ⟨j, rfl, K2, hj⟩
  replace A := A.keep K2 (ninS ne nin0)
  replace O := O.keep K2 (allS gb all0)
  have E2 := own_keep E1 hb K2
  rcases hj with ⟨rfl, hL, B2⟩ | ⟨hlt, c, hi, hgt⟩
  · show Run _ _ _ _ _ _ _ _ _ _ _ _ _ _ [.int (Int32.ofNat cs.length)]
    refine r_istore 14 d_jdk_52_method_16_code_12 rfl rfl ?_
    refine r_iload 16 d_jdk_52_method_16_code_14 rfl rfl ?_
    refine r_iloadN 17 d_jdk_52_method_16_code_16 rfl rfl ?_
    refine r_icmp_eq 57 20 d_jdk_52_method_16_code_17 (by decide) rfl (fun q17 => ?_) (fun q17 => absurd rfl q17)
    refine r_aloadN 58 d_jdk_52_method_16_code_57 rfl rfl ?_
    exact r_retA d_jdk_52_method_16_code_58 rfl rfl rfl rfl (Nat.le_of_ble_eq_true rfl) (Nat.le_of_ble_eq_true rfl) (⟨b, cB, rfl, own_keep E1 hb K2, Nat.le_of_eq hb.symm, Or.inl ⟨hL, B2⟩⟩)
  · show Run _ _ _ _ _ _ _ _ _ _ _ _ _ _ [.int (Int32.ofNat j)]
    refine r_istore 14 d_jdk_52_method_16_code_12 rfl rfl ?_
    refine r_iload 16 d_jdk_52_method_16_code_14 rfl rfl ?_
    refine r_iloadN 17 d_jdk_52_method_16_code_16 rfl rfl ?_
    refine r_icmp_eq 57 20 d_jdk_52_method_16_code_17 (by decide) rfl (fun q17 => absurd ((own_eq (by omega) (by omega)).mp q17) (by omega)) (fun q17 => ?_)
    refine r_aloadN 21 d_jdk_52_method_16_code_20 rfl rfl ?_
    refine r_iloadN 22 d_jdk_52_method_16_code_21 rfl rfl ?_
    refine r_iloadN 23 d_jdk_52_method_16_code_22 rfl rfl ?_
    refine r_static 26 d_jdk_52_method_16_code_23 rfl (rm_tob l Z a0 hw h2 n0 O SD SH SL a cA cs hl A) (hw _ (List.mem_of_getElem? (i := 82) rfl)) (hw _ (List.mem_of_getElem? (i := 83) rfl)) (hw _ (List.mem_of_getElem? (i := 46) rfl)) (hw _ (List.mem_of_getElem? (i := 84) rfl)) (by decide) (ps := [(.array .char), .int, .int]) (r' := (some (.array .byte))) (by decide +kernel) rfl rfl rfl (Nat.le_of_ble_eq_true rfl) (Nat.le_of_ble_eq_true rfl) (Nat.le_of_ble_eq_true rfl) (Nat.le_of_ble_eq_true rfl) ?_
    rintro v h3 ⟨d, cD, rfl, E3, D3, hd⟩
    replace O := O.ext E3
    show Run _ _ _ _ _ _ _ _ _ _ _ _ _ _ [.ref d]
    refine r_astore 28 d_jdk_52_method_16_code_26 rfl rfl ?_
    refine r_aload 30 d_jdk_52_method_16_code_28 rfl rfl ?_
    refine r_iload 32 d_jdk_52_method_16_code_30 rfl rfl ?_
    refine r_static 35 d_jdk_52_method_16_code_32 rfl (rm_get l Z a0 hw h3 n0 O SD SH SL d cD cs hl j c hi (hch c (List.mem_of_getElem? hi)) D3) (hw _ (List.mem_of_getElem? (i := 98) rfl)) (hw _ (List.mem_of_getElem? (i := 99) rfl)) (hw _ (List.mem_of_getElem? (i := 46) rfl)) (hw _ (List.mem_of_getElem? (i := 100) rfl)) (by decide) (ps := [(.array .byte), .int]) (r' := (some .char)) (by decide +kernel) rfl rfl rfl (Nat.le_of_ble_eq_true rfl) (Nat.le_of_ble_eq_true rfl) (Nat.le_of_ble_eq_true rfl) (Nat.le_of_ble_eq_true rfl) ?_
    rintro v h4 ⟨rfl, rfl⟩
    show Run _ _ _ _ _ _ _ _ _ _ _ _ _ _ [.int c]
    refine r_sipush 255 38 d_jdk_52_method_16_code_35 rfl rfl ?_
    refine r_icmp_gt 54 41 d_jdk_52_method_16_code_38 (by decide) rfl (fun q38 => ?_) (fun q38 => absurd hgt q38)
    refine r_aload 56 d_jdk_52_method_16_code_54 rfl rfl ?_
    exact r_retA d_jdk_52_method_16_code_56 rfl rfl rfl rfl (Nat.le_of_ble_eq_true rfl) (Nat.le_of_ble_eq_true rfl) (⟨d, cD, rfl, ⟨Nat.le_trans E2.1 E3.1, fun x cc q => E3.2 x cc (E2.2 x cc q)⟩, Nat.le_trans E2.1 hd, Or.inr D3⟩)
def own_Str (Z : State) (h : Heap) (t : Addr) (cs : List Int32) : Prop := Exa Z h t "java/lang/String" ∧ ∃ b cB, Fld Z h t "java/lang/String" "value" "[B" (.ref b) ∧ ((Fld Z h t "java/lang/String" "coder" "B" (.int 0) ∧ (∀ c ∈ cs, ¬ 255 < c) ∧ Arv Z h b cB .byte (Int32.ofNat cs.length) (cs.map own_by) (.int 0)) ∨ (Fld Z h t "java/lang/String" "coder" "B" (.int 1) ∧ Arv Z h b cB .byte (Int32.ofNat (2 * cs.length)) (own_u cs) (.int 0)))
theorem own_Str.ext {Z : State} {h h' : Heap} {t : Addr} {cs : List Int32} (F : own_Str Z h t cs) (E : Ext h h') : own_Str Z h' t cs := by
  obtain ⟨X, b, cB, V, ⟨C, hL, B⟩ | ⟨C, B⟩⟩ := F
  · exact ⟨X.ext E, b, cB, V.ext E, Or.inl ⟨C.ext E, hL, B.ext E⟩⟩
  · exact ⟨X.ext E, b, cB, V.ext E, Or.inr ⟨C.ext E, B.ext E⟩⟩
theorem own_cfl0 (n : Int32) : own_cfl n n = 0 := by
  have e : n - n = 0 := Int32.sub_self n
  unfold own_cfl
  rw [e]
  rfl
set_option maxRecDepth 65536 in
set_option maxHeartbeats 40000000 in
theorem rm_i4 (l : Launch) (Z : State) (a0 : Array Value) (hw : ∀ d ∈ tables_1, d.before a0 Z = true) (h : Heap) (n0 : Nat) (O : Old Z n0 h) (cz : Int32) (SC : Sta Z Z.heap "java/lang/String" "COMPACT_STRINGS" "Z" (.int cz)) (hcz : ¬ cz = 0) (SD : Sta Z Z.heap "java/lang/StringUTF16" "$assertionsDisabled" "Z" (.int 1)) (SH : Sta Z Z.heap "java/lang/StringUTF16" "HI_BYTE_SHIFT" "I" (.int 0)) (SL : Sta Z Z.heap "java/lang/StringUTF16" "LO_BYTE_SHIFT" "I" (.int 8)) (t : Addr) (F1 : Fld Z h t "java/lang/String" "value" "[B" .null) (F2 : Fld Z h t "java/lang/String" "coder" "B" (.int 0)) (E1 : Exa Z h t "java/lang/String") (ht : n0 ≤ t) (a : Addr) (cA : ClassId) (cs : List Int32) (hl : cs.length ≤ 4) (hp : 0 < cs.length) (hch : ∀ c ∈ cs, own_ch c) (A : Arv Z h a cA .char (Int32.ofNat cs.length) (cs.map Value.int) (.int 0)) : Con l Z (⟨"java/lang/String", "<init>", "([CIILjava/lang/Void;)V"⟩ : MethodName) jdk_42_method_149_code 6 (Option.none : Option Jvm.ClassFile.FieldType) ({ frames := 4, cells := 2, slots := 12, locals := 61 } : Room) n0 #[.ref t, .ref a, .int 0, .int (Int32.ofNat cs.length), .null] h (fun v h' => v = none ∧ Keep h h' [t] ∧ own_Str Z h' t cs) [] := by
  refine Run.con pn_s (Ls := [.val (.ref t), .val (.ref a), .val (.int 0), .val (.int (Int32.ofNat cs.length)), .val .null, .unset]) rfl ?_
  refine r_aloadN 1 d_jdk_42_method_149_code_0 rfl rfl ?_
  refine r_initO 4 d_jdk_42_method_149_code_1 rfl (hw _ (List.mem_of_getElem? (i := 18) rfl)) (hw _ (List.mem_of_getElem? (i := 19) rfl)) (hw _ (List.mem_of_getElem? (i := 20) rfl)) rfl (Nat.le_of_ble_eq_true rfl) (Nat.le_of_ble_eq_true rfl) ?_
  refine r_iloadN 5 d_jdk_42_method_149_code_4 rfl rfl ?_
  refine r_if_ne 27 8 d_jdk_42_method_149_code_5 (by decide) rfl (fun q5 => ?_) (fun q5 => absurd ((own_eq (j := 0) (by omega) (by omega)).mp q5) (by omega))
  refine r_getstatic 30 d_jdk_42_method_149_code_27 rfl (hw _ (List.mem_of_getElem? (i := 43) rfl)) Via.refl (SC.ext O.2) ?_
  refine r_if_eq 58 33 d_jdk_42_method_149_code_30 (by decide) rfl (fun q30 => absurd q30 hcz) (fun q30 => ?_)
  refine r_aloadN 34 d_jdk_42_method_149_code_33 rfl rfl ?_
  refine r_iloadN 35 d_jdk_42_method_149_code_34 rfl rfl ?_
  refine r_iloadN 36 d_jdk_42_method_149_code_35 rfl rfl ?_
  refine r_static 39 d_jdk_42_method_149_code_36 rfl (rm_c3 l Z a0 hw h n0 O SD SH SL a cA cs hl hch A) (hw _ (List.mem_of_getElem? (i := 44) rfl)) (hw _ (List.mem_of_getElem? (i := 45) rfl)) (hw _ (List.mem_of_getElem? (i := 46) rfl)) (hw _ (List.mem_of_getElem? (i := 47) rfl)) (by decide) (ps := [(.array .char), .int, .int]) (r' := (some (.array .byte))) (by decide +kernel) rfl rfl rfl (Nat.le_of_ble_eq_true rfl) (Nat.le_of_ble_eq_true rfl) (Nat.le_of_ble_eq_true rfl) (Nat.le_of_ble_eq_true rfl) ?_
  rintro v h1 ⟨b, cB, rfl, E2, hb, hq⟩
  have tb : b ≠ t := own_ne' E1.lt hb
  replace F1 := F1.ext E2
  replace F2 := F2.ext E2
  replace E1 := E1.ext E2
  rcases hq with ⟨hL, B2⟩ | B2
  · show Run _ _ _ _ _ _ _ _ _ _ _ _ _ _ [.ref b]
    refine r_astore 41 d_jdk_42_method_149_code_39 rfl rfl ?_
    refine r_aloadN 42 d_jdk_42_method_149_code_41 rfl rfl ?_
    refine r_aload 44 d_jdk_42_method_149_code_42 rfl rfl ?_
    refine r_iloadN 45 d_jdk_42_method_149_code_44 rfl rfl ?_
    refine r_static 48 d_jdk_42_method_149_code_45 rfl (rm_cfl l Z a0 hw h1 n0 b cB (Int32.ofNat cs.length) (Int32.ofNat cs.length) _ _ B2) (hw _ (List.mem_of_getElem? (i := 51) rfl)) (hw _ (List.mem_of_getElem? (i := 52) rfl)) (hw _ (List.mem_of_getElem? (i := 46) rfl)) (hw _ (List.mem_of_getElem? (i := 53) rfl)) (by decide) (ps := [(.array .byte), .int]) (r' := (some .byte)) (by decide +kernel) rfl rfl rfl (Nat.le_of_ble_eq_true rfl) (Nat.le_of_ble_eq_true rfl) (Nat.le_of_ble_eq_true rfl) (Nat.le_of_ble_eq_true rfl) ?_
    rintro v h' ⟨rfl, rfl⟩
    rw [own_cfl0]
    show Run _ _ _ _ _ _ _ _ _ _ _ _ _ _ [.int 0, .ref t]
    refine r_putfield (host := "") 51 d_jdk_42_method_149_code_48 rfl (Or.inl (hw _ (List.mem_of_getElem? (i := 28) rfl))) Via.refl (F2) (E1) (Or.inr ⟨(hw _ (List.mem_of_getElem? (i := 24) rfl)), rfl, rfl⟩) (hw _ (List.mem_of_getElem? (i := 8) rfl)) (ty := .byte) (by decide) rfl rfl (ht) ?_
    intro h3 W3
    replace E1 := E1.wr W3
    replace F2 := F2.same W3
    replace F1 := F1.other W3 (Or.inr (slot_ne (Or.inr (hw _ (List.mem_of_getElem? (i := 23) rfl))) (Or.inr (hw _ (List.mem_of_getElem? (i := 24) rfl))) (by decide) (t := (.array .byte)) (t' := .byte) (by decide) (by decide)))
    replace B2 := B2.other W3 tb
    refine r_aloadN 52 d_jdk_42_method_149_code_51 rfl rfl ?_
    refine r_aload 54 d_jdk_42_method_149_code_52 rfl rfl ?_
    refine r_putfield (host := "") 57 d_jdk_42_method_149_code_54 rfl (Or.inl (hw _ (List.mem_of_getElem? (i := 27) rfl))) Via.refl (F1) (E1) (Or.inr ⟨(hw _ (List.mem_of_getElem? (i := 23) rfl)), rfl, rfl⟩) (hw _ (List.mem_of_getElem? (i := 8) rfl)) (ty := (.array .byte)) (by decide) rfl rfl (ht) ?_
    intro h4 W4
    replace E1 := E1.wr W4
    replace F1 := F1.same W4
    replace F2 := F2.other W4 (Or.inr (slot_ne (Or.inr (hw _ (List.mem_of_getElem? (i := 24) rfl))) (Or.inr (hw _ (List.mem_of_getElem? (i := 23) rfl))) (by decide) (t := .byte) (t' := (.array .byte)) (by decide) (by decide)))
    replace B2 := B2.other W4 tb
    exact r_retV d_jdk_42_method_149_code_57 rfl (Nat.le_of_ble_eq_true rfl) (Nat.le_of_ble_eq_true rfl) (⟨rfl, ((own_kext E2 [t]).wr W3 (Or.inl (List.mem_of_getElem? (i := 0) rfl))).wr W4 (Or.inl (List.mem_of_getElem? (i := 0) rfl)), E1, b, cB, F1, Or.inl ⟨F2, hL, B2⟩⟩)
  · show Run _ _ _ _ _ _ _ _ _ _ _ _ _ _ [.ref b]
    refine r_astore 41 d_jdk_42_method_149_code_39 rfl rfl ?_
    refine r_aloadN 42 d_jdk_42_method_149_code_41 rfl rfl ?_
    refine r_aload 44 d_jdk_42_method_149_code_42 rfl rfl ?_
    refine r_iloadN 45 d_jdk_42_method_149_code_44 rfl rfl ?_
    refine r_static 48 d_jdk_42_method_149_code_45 rfl (rm_cfl l Z a0 hw h1 n0 b cB (Int32.ofNat cs.length) (Int32.ofNat (2 * cs.length)) _ _ B2) (hw _ (List.mem_of_getElem? (i := 51) rfl)) (hw _ (List.mem_of_getElem? (i := 52) rfl)) (hw _ (List.mem_of_getElem? (i := 46) rfl)) (hw _ (List.mem_of_getElem? (i := 53) rfl)) (by decide) (ps := [(.array .byte), .int]) (r' := (some .byte)) (by decide +kernel) rfl rfl rfl (Nat.le_of_ble_eq_true rfl) (Nat.le_of_ble_eq_true rfl) (Nat.le_of_ble_eq_true rfl) (Nat.le_of_ble_eq_true rfl) ?_
    rintro v h' ⟨rfl, rfl⟩
    rw [own_cfl1 hl hp]
    show Run _ _ _ _ _ _ _ _ _ _ _ _ _ _ [.int 1, .ref t]
    refine r_putfield (host := "") 51 d_jdk_42_method_149_code_48 rfl (Or.inl (hw _ (List.mem_of_getElem? (i := 28) rfl))) Via.refl (F2) (E1) (Or.inr ⟨(hw _ (List.mem_of_getElem? (i := 24) rfl)), rfl, rfl⟩) (hw _ (List.mem_of_getElem? (i := 8) rfl)) (ty := .byte) (by decide) rfl rfl (ht) ?_
    intro h3 W3
    replace E1 := E1.wr W3
    replace F2 := F2.same W3
    replace F1 := F1.other W3 (Or.inr (slot_ne (Or.inr (hw _ (List.mem_of_getElem? (i := 23) rfl))) (Or.inr (hw _ (List.mem_of_getElem? (i := 24) rfl))) (by decide) (t := (.array .byte)) (t' := .byte) (by decide) (by decide)))
    replace B2 := B2.other W3 tb
    refine r_aloadN 52 d_jdk_42_method_149_code_51 rfl rfl ?_
    refine r_aload 54 d_jdk_42_method_149_code_52 rfl rfl ?_
    refine r_putfield (host := "") 57 d_jdk_42_method_149_code_54 rfl (Or.inl (hw _ (List.mem_of_getElem? (i := 27) rfl))) Via.refl (F1) (E1) (Or.inr ⟨(hw _ (List.mem_of_getElem? (i := 23) rfl)), rfl, rfl⟩) (hw _ (List.mem_of_getElem? (i := 8) rfl)) (ty := (.array .byte)) (by decide) rfl rfl (ht) ?_
    intro h4 W4
    replace E1 := E1.wr W4
    replace F1 := F1.same W4
    replace F2 := F2.other W4 (Or.inr (slot_ne (Or.inr (hw _ (List.mem_of_getElem? (i := 24) rfl))) (Or.inr (hw _ (List.mem_of_getElem? (i := 23) rfl))) (by decide) (t := .byte) (t' := (.array .byte)) (by decide) (by decide)))
    replace B2 := B2.other W4 tb
    exact r_retV d_jdk_42_method_149_code_57 rfl (Nat.le_of_ble_eq_true rfl) (Nat.le_of_ble_eq_true rfl) (⟨rfl, ((own_kext E2 [t]).wr W3 (Or.inl (List.mem_of_getElem? (i := 0) rfl))).wr W4 (Or.inl (List.mem_of_getElem? (i := 0) rfl)), E1, b, cB, F1, Or.inr ⟨F2, B2⟩⟩)
set_option maxRecDepth 65536 in
set_option maxHeartbeats 40000000 in
theorem rm_i1 (l : Launch) (Z : State) (a0 : Array Value) (hw : ∀ d ∈ tables_1, d.before a0 Z = true) (h : Heap) (n0 : Nat) (O : Old Z n0 h) (cz : Int32) (SC : Sta Z Z.heap "java/lang/String" "COMPACT_STRINGS" "Z" (.int cz)) (hcz : ¬ cz = 0) (SD : Sta Z Z.heap "java/lang/StringUTF16" "$assertionsDisabled" "Z" (.int 1)) (SH : Sta Z Z.heap "java/lang/StringUTF16" "HI_BYTE_SHIFT" "I" (.int 0)) (SL : Sta Z Z.heap "java/lang/StringUTF16" "LO_BYTE_SHIFT" "I" (.int 8)) (t : Addr) (F1 : Fld Z h t "java/lang/String" "value" "[B" .null) (F2 : Fld Z h t "java/lang/String" "coder" "B" (.int 0)) (E1 : Exa Z h t "java/lang/String") (ht : n0 ≤ t) (a : Addr) (cA : ClassId) (cs : List Int32) (hl : cs.length ≤ 4) (hp : 0 < cs.length) (hch : ∀ c ∈ cs, own_ch c) (A : Arv Z h a cA .char (Int32.ofNat cs.length) (cs.map Value.int) (.int 0)) : Con l Z (⟨"java/lang/String", "<init>", "([C)V"⟩ : MethodName) jdk_42_method_3_code 2 (Option.none : Option Jvm.ClassFile.FieldType) ({ frames := 5, cells := 2, slots := 12, locals := 78 } : Room) n0 #[.ref t, .ref a] h (fun v h' => v = none ∧ Keep h h' [t] ∧ own_Str Z h' t cs) [] := by
  refine Run.con pn_s (Ls := [.val (.ref t), .val (.ref a)]) rfl ?_
  refine r_aloadN 1 d_jdk_42_method_3_code_0 rfl rfl ?_
  refine r_aloadN 2 d_jdk_42_method_3_code_1 rfl rfl ?_
  refine r_iconst 0 3 d_jdk_42_method_3_code_2 rfl rfl ?_
  refine r_aloadN 4 d_jdk_42_method_3_code_3 rfl rfl ?_
  refine r_arraylength 5 d_jdk_42_method_3_code_4 rfl A ?_
  refine r_null 6 d_jdk_42_method_3_code_5 rfl ?_
  refine r_special 9 d_jdk_42_method_3_code_6 rfl (rm_i4 l Z a0 hw h n0 O cz SC hcz SD SH SL t F1 F2 E1 ht a cA cs hl hp hch A) (as1 := [.ref a, .int 0, .int (Int32.ofNat cs.length), .null]) rfl rfl (hw _ (List.mem_of_getElem? (i := 14) rfl)) (hw _ (List.mem_of_getElem? (i := 15) rfl)) (hw _ (List.mem_of_getElem? (i := 9) rfl)) (hw _ (List.mem_of_getElem? (i := 17) rfl)) (by decide) (ps := [(.array .char), .int, .int, (.object "java/lang/Void")]) (r' := none) (by decide +kernel) rfl rfl rfl (Nat.le_of_ble_eq_true rfl) (Nat.le_of_ble_eq_true rfl) (Nat.le_of_ble_eq_true rfl) (Nat.le_of_ble_eq_true rfl) ?_
  rintro v h1 ⟨rfl, q⟩
  show Run _ _ _ _ _ _ _ _ _ _ _ _ _ _ []
  exact r_retV d_jdk_42_method_3_code_9 rfl (Nat.le_of_ble_eq_true rfl) (Nat.le_of_ble_eq_true rfl) (⟨rfl, q⟩)
set_option maxRecDepth 65536 in
set_option maxHeartbeats 40000000 in
theorem rm_cor (l : Launch) (Z : State) (a0 : Array Value) (hw : ∀ d ∈ tables_1, d.before a0 Z = true) (h : Heap) (n0 : Nat) (O : Old Z n0 h) (cz : Int32) (SC : Sta Z Z.heap "java/lang/String" "COMPACT_STRINGS" "Z" (.int cz)) (hcz : ¬ cz = 0) (t : Addr) (d : Int32) (hd : d = 0 ∨ d = 1) (F : Fld Z h t "java/lang/String" "coder" "B" (.int d)) : Con l Z (⟨"java/lang/String", "coder", "()B"⟩ : MethodName) jdk_42_method_152_code 1 (Option.some Jvm.ClassFile.FieldType.byte) ({ frames := 0, cells := 0, slots := 0, locals := 0 } : Room) n0 #[.ref t] h (fun v h' => v = some (.int d) ∧ h' = h) [] := by
  refine Run.con pn_s (Ls := [.val (.ref t)]) rfl ?_
  refine r_getstatic 3 d_jdk_42_method_152_code_0 rfl (hw _ (List.mem_of_getElem? (i := 43) rfl)) Via.refl (SC.ext O.2) ?_
  refine r_if_eq 13 6 d_jdk_42_method_152_code_3 (by decide) rfl (fun q3 => absurd q3 hcz) (fun q3 => ?_)
  refine r_aloadN 7 d_jdk_42_method_152_code_6 rfl rfl ?_
  refine r_getfield (host := "") 10 d_jdk_42_method_152_code_7 rfl (Or.inl (hw _ (List.mem_of_getElem? (i := 28) rfl))) Via.refl (F) ?_
  refine r_goto 14 d_jdk_42_method_152_code_10 (by decide) ?_
  rcases hd with rfl | rfl
  · exact r_retN _ d_jdk_42_method_152_code_14 rfl (by simp) rfl (Nat.le_of_ble_eq_true rfl) (Nat.le_of_ble_eq_true rfl) (⟨rfl, rfl⟩)
  · exact r_retN _ d_jdk_42_method_152_code_14 rfl (by simp) rfl (Nat.le_of_ble_eq_true rfl) (Nat.le_of_ble_eq_true rfl) (⟨rfl, rfl⟩)
set_option maxRecDepth 65536 in
set_option maxHeartbeats 40000000 in
theorem rm_len (l : Launch) (Z : State) (a0 : Array Value) (hw : ∀ d ∈ tables_1, d.before a0 Z = true) (h : Heap) (n0 : Nat) (O : Old Z n0 h) (cz : Int32) (SC : Sta Z Z.heap "java/lang/String" "COMPACT_STRINGS" "Z" (.int cz)) (hcz : ¬ cz = 0) (t : Addr) (cs : List Int32) (hl : cs.length ≤ 4) (F : own_Str Z h t cs) : Con l Z (⟨"java/lang/String", "length", "()I"⟩ : MethodName) jdk_42_method_54_code 1 (Option.some Jvm.ClassFile.FieldType.int) ({ frames := 1, cells := 0, slots := 0, locals := 13 } : Room) n0 #[.ref t] h (fun v h' => v = some (.int (Int32.ofNat cs.length)) ∧ h' = h) [] := by
  refine Run.con pn_s (Ls := [.val (.ref t)]) rfl ?_
  obtain ⟨X, b, cB, V, ⟨C, hL, B⟩ | ⟨C, B⟩⟩ := F
  · refine r_aloadN 1 d_jdk_42_method_54_code_0 rfl rfl ?_
    refine r_getfield (host := "") 4 d_jdk_42_method_54_code_1 rfl (Or.inl (hw _ (List.mem_of_getElem? (i := 27) rfl))) Via.refl (V) ?_
    refine r_arraylength 5 d_jdk_42_method_54_code_4 rfl B ?_
    refine r_aloadN 6 d_jdk_42_method_54_code_5 rfl rfl ?_
    refine r_virtual 9 d_jdk_42_method_54_code_6 rfl (rm_cor l Z a0 hw h n0 O cz SC hcz t 0 (by decide) C) (as1 := []) rfl (hw _ (List.mem_of_getElem? (i := 38) rfl)) (hw _ (List.mem_of_getElem? (i := 39) rfl)) (hw _ (List.mem_of_getElem? (i := 41) rfl)) (hw _ (List.mem_of_getElem? (i := 40) rfl)) (hw _ (List.mem_of_getElem? (i := 9) rfl)) (hw _ (List.mem_of_getElem? (i := 42) rfl)) (by decide) (ps := []) (r' := (some .byte)) (by decide +kernel) (X) rfl rfl rfl (Nat.le_of_ble_eq_true rfl) (Nat.le_of_ble_eq_true rfl) (Nat.le_of_ble_eq_true rfl) (Nat.le_of_ble_eq_true rfl) (fun s args hZ => notFace_of_selects (args := args) (mvT hZ (hw _ (List.mem_of_getElem? (i := 41) rfl)))) ?_
    rintro v h' ⟨rfl, rfl⟩
    show Run _ _ _ _ _ _ _ _ _ _ _ _ _ _ [.int 0, .int (Int32.ofNat cs.length)]
    refine r_ishr 10 d_jdk_42_method_54_code_9 rfl ?_
    exact r_retI d_jdk_42_method_54_code_10 rfl (Nat.le_of_ble_eq_true rfl) (Nat.le_of_ble_eq_true rfl) (⟨by rw [own_hl0 hl], rfl⟩)
  · refine r_aloadN 1 d_jdk_42_method_54_code_0 rfl rfl ?_
    refine r_getfield (host := "") 4 d_jdk_42_method_54_code_1 rfl (Or.inl (hw _ (List.mem_of_getElem? (i := 27) rfl))) Via.refl (V) ?_
    refine r_arraylength 5 d_jdk_42_method_54_code_4 rfl B ?_
    refine r_aloadN 6 d_jdk_42_method_54_code_5 rfl rfl ?_
    refine r_virtual 9 d_jdk_42_method_54_code_6 rfl (rm_cor l Z a0 hw h n0 O cz SC hcz t 1 (by decide) C) (as1 := []) rfl (hw _ (List.mem_of_getElem? (i := 38) rfl)) (hw _ (List.mem_of_getElem? (i := 39) rfl)) (hw _ (List.mem_of_getElem? (i := 41) rfl)) (hw _ (List.mem_of_getElem? (i := 40) rfl)) (hw _ (List.mem_of_getElem? (i := 9) rfl)) (hw _ (List.mem_of_getElem? (i := 42) rfl)) (by decide) (ps := []) (r' := (some .byte)) (by decide +kernel) (X) rfl rfl rfl (Nat.le_of_ble_eq_true rfl) (Nat.le_of_ble_eq_true rfl) (Nat.le_of_ble_eq_true rfl) (Nat.le_of_ble_eq_true rfl) (fun s args hZ => notFace_of_selects (args := args) (mvT hZ (hw _ (List.mem_of_getElem? (i := 41) rfl)))) ?_
    rintro v h' ⟨rfl, rfl⟩
    show Run _ _ _ _ _ _ _ _ _ _ _ _ _ _ [.int 1, .int (Int32.ofNat (2 * cs.length))]
    refine r_ishr 10 d_jdk_42_method_54_code_9 rfl ?_
    exact r_retI d_jdk_42_method_54_code_10 rfl (Nat.le_of_ble_eq_true rfl) (Nat.le_of_ble_eq_true rfl) (⟨by rw [own_hlf hl], rfl⟩)
def own_isl (d : Int32) : Int32 := if d = 0 then 1 else 0
set_option maxRecDepth 65536 in
set_option maxHeartbeats 40000000 in
theorem rm_isl (l : Launch) (Z : State) (a0 : Array Value) (hw : ∀ d ∈ tables_1, d.before a0 Z = true) (h : Heap) (n0 : Nat) (O : Old Z n0 h) (cz : Int32) (SC : Sta Z Z.heap "java/lang/String" "COMPACT_STRINGS" "Z" (.int cz)) (hcz : ¬ cz = 0) (t : Addr) (d : Int32) (F : Fld Z h t "java/lang/String" "coder" "B" (.int d)) : Con l Z (⟨"java/lang/String", "isLatin1", "()Z"⟩ : MethodName) jdk_42_method_154_code 1 (Option.some Jvm.ClassFile.FieldType.boolean) ({ frames := 0, cells := 0, slots := 0, locals := 0 } : Room) n0 #[.ref t] h (fun v h' => v = some (.int (own_isl d)) ∧ h' = h) [] := by
  refine Run.con pn_s (Ls := [.val (.ref t)]) rfl ?_
  refine r_getstatic 3 d_jdk_42_method_154_code_0 rfl (hw _ (List.mem_of_getElem? (i := 43) rfl)) Via.refl (SC.ext O.2) ?_
  refine r_if_eq 17 6 d_jdk_42_method_154_code_3 (by decide) rfl (fun q3 => absurd q3 hcz) (fun q3 => ?_)
  refine r_aloadN 7 d_jdk_42_method_154_code_6 rfl rfl ?_
  refine r_getfield (host := "") 10 d_jdk_42_method_154_code_7 rfl (Or.inl (hw _ (List.mem_of_getElem? (i := 28) rfl))) Via.refl (F) ?_
  refine r_if_ne 17 13 d_jdk_42_method_154_code_10 (by decide) rfl (fun q10 => ?_) (fun q10 => ?_)
  · refine r_iconst 0 18 d_jdk_42_method_154_code_17 rfl rfl ?_
    exact r_retN _ d_jdk_42_method_154_code_18 rfl (by simp) rfl (Nat.le_of_ble_eq_true rfl) (Nat.le_of_ble_eq_true rfl) (⟨by simp [own_isl, own_b0, own_b1, *], rfl⟩)
  · refine r_iconst 1 14 d_jdk_42_method_154_code_13 rfl rfl ?_
    refine r_goto 18 d_jdk_42_method_154_code_14 (by decide) ?_
    exact r_retN _ d_jdk_42_method_154_code_18 rfl (by simp) rfl (Nat.le_of_ble_eq_true rfl) (Nat.le_of_ble_eq_true rfl) (⟨by simp [own_isl, own_b0, own_b1, *], rfl⟩)
theorem own_laid3 {i j : Int32} {v : Value} (h : v.isRef = true) : Jvm.Sym.laidSlots (#[.int i, .int j, v] : Array Value).toList ++ List.replicate (3 - (Jvm.Sym.laidSlots (#[.int i, .int j, v] : Array Value).toList).length) .unset = [.val (.int i), .val (.int j), .val v] := by cases v <;> first | rfl | cases h
set_option maxRecDepth 65536 in
set_option maxHeartbeats 40000000 in
theorem rm_pci (l : Launch) (Z : State) (a0 : Array Value) (hw : ∀ d ∈ tables_1, d.before a0 Z = true) (h : Heap) (n0 : Nat) (i j : Nat) (hi : i < j) (hj : j ≤ 4) (fv : Value) (hf : fv.isRef = true) : Con l Z (⟨"jdk/internal/util/Preconditions", "checkIndex", "(IILjava/util/function/BiFunction;)I"⟩ : MethodName) jdk_41_method_11_code 3 (Option.some Jvm.ClassFile.FieldType.int) ({ frames := 0, cells := 0, slots := 0, locals := 0 } : Room) n0 #[.int (Int32.ofNat i), .int (Int32.ofNat j), fv] h (fun v h' => v = some (.int (Int32.ofNat i)) ∧ h' = h) [] := by
  refine Run.con pn_pc (Ls := [.val (.int (Int32.ofNat i)), .val (.int (Int32.ofNat j)), .val fv]) (own_laid3 hf) ?_
  refine r_iloadN 1 d_jdk_41_method_11_code_0 rfl rfl ?_
  refine r_if_lt 9 4 d_jdk_41_method_11_code_1 (by decide) rfl (fun q1 => absurd q1 (own_nn (by omega))) (fun q1 => ?_)
  refine r_iloadN 5 d_jdk_41_method_11_code_4 rfl rfl ?_
  refine r_iloadN 6 d_jdk_41_method_11_code_5 rfl rfl ?_
  refine r_icmp_lt 16 9 d_jdk_41_method_11_code_6 (by decide) rfl (fun q6 => ?_) (fun q6 => absurd ((own_lt (by omega) (by omega)).mpr hi) q6)
  refine r_iloadN 17 d_jdk_41_method_11_code_16 rfl rfl ?_
  exact r_retI d_jdk_41_method_11_code_17 rfl (Nat.le_of_ble_eq_true rfl) (Nat.le_of_ble_eq_true rfl) (⟨rfl, rfl⟩)
set_option maxRecDepth 65536 in
set_option maxHeartbeats 40000000 in
theorem rm_cix (l : Launch) (Z : State) (a0 : Array Value) (hw : ∀ d ∈ tables_1, d.before a0 Z = true) (h : Heap) (n0 : Nat) (O : Old Z n0 h) (fv : Value) (hf : fv.isRef = true) (SF : Sta Z Z.heap "jdk/internal/util/Preconditions" "SIOOBE_FORMATTER" "Ljava/util/function/BiFunction;" fv) (i j : Nat) (hi : i < j) (hj : j ≤ 4) : Con l Z (⟨"java/lang/String", "checkIndex", "(II)V"⟩ : MethodName) jdk_42_method_155_code 2 (Option.none : Option Jvm.ClassFile.FieldType) ({ frames := 1, cells := 0, slots := 0, locals := 14 } : Room) n0 #[.int (Int32.ofNat i), .int (Int32.ofNat j)] h (fun v h' => v = none ∧ h' = h) [] := by
  refine Run.con pn_s (Ls := [.val (.int (Int32.ofNat i)), .val (.int (Int32.ofNat j))]) rfl ?_
  refine r_iloadN 1 d_jdk_42_method_155_code_0 rfl rfl ?_
  refine r_iloadN 2 d_jdk_42_method_155_code_1 rfl rfl ?_
  refine r_getstatic 5 d_jdk_42_method_155_code_2 rfl (hw _ (List.mem_of_getElem? (i := 74) rfl)) Via.refl (SF.ext O.2) ?_
  refine r_static 8 d_jdk_42_method_155_code_5 rfl (rm_pci l Z a0 hw h n0 i j hi hj fv hf) (hw _ (List.mem_of_getElem? (i := 76) rfl)) (hw _ (List.mem_of_getElem? (i := 77) rfl)) (hw _ (List.mem_of_getElem? (i := 75) rfl)) (hw _ (List.mem_of_getElem? (i := 78) rfl)) (by decide) (ps := [.int, .int, (.object "java/util/function/BiFunction")]) (r' := (some .int)) (by decide +kernel) rfl rfl rfl (Nat.le_of_ble_eq_true rfl) (Nat.le_of_ble_eq_true rfl) (Nat.le_of_ble_eq_true rfl) (Nat.le_of_ble_eq_true rfl) ?_
  rintro v h' ⟨rfl, rfl⟩
  show Run _ _ _ _ _ _ _ _ _ _ _ _ _ _ [.int (Int32.ofNat i)]
  refine r_pop 9 d_jdk_42_method_155_code_8 rfl rfl ?_
  exact r_retV d_jdk_42_method_155_code_9 rfl (Nat.le_of_ble_eq_true rfl) (Nat.le_of_ble_eq_true rfl) (⟨rfl, rfl⟩)
set_option maxRecDepth 65536 in
set_option maxHeartbeats 40000000 in
theorem rm_chl (l : Launch) (Z : State) (a0 : Array Value) (hw : ∀ d ∈ tables_1, d.before a0 Z = true) (h : Heap) (n0 : Nat) (O : Old Z n0 h) (fv : Value) (hf : fv.isRef = true) (SF : Sta Z Z.heap "jdk/internal/util/Preconditions" "SIOOBE_FORMATTER" "Ljava/util/function/BiFunction;" fv) (b : Addr) (cB : ClassId) (cs : List Int32) (hl : cs.length ≤ 4) (i : Nat) (c : Int32) (hi : cs[i]? = some c) (hc : own_ch c) (hL : ∀ c ∈ cs, ¬ 255 < c) (B : Arv Z h b cB .byte (Int32.ofNat cs.length) (cs.map own_by) (.int 0)) : Con l Z (⟨"java/lang/StringLatin1", "charAt", "([BI)C"⟩ : MethodName) jdk_43_method_2_code 2 (Option.some Jvm.ClassFile.FieldType.char) ({ frames := 2, cells := 0, slots := 0, locals := 27 } : Room) n0 #[.ref b, .int (Int32.ofNat i)] h (fun v h' => v = some (.int c) ∧ h' = h) [] := by
  refine Run.con pn_l (Ls := [.val (.ref b), .val (.int (Int32.ofNat i))]) rfl ?_
  have hlt : i < cs.length := (List.getElem?_eq_some_iff.mp hi).1
  refine r_iloadN 1 d_jdk_43_method_2_code_0 rfl rfl ?_
  refine r_aloadN 2 d_jdk_43_method_2_code_1 rfl rfl ?_
  refine r_arraylength 3 d_jdk_43_method_2_code_2 rfl B ?_
  refine r_static 6 d_jdk_43_method_2_code_3 rfl (rm_cix l Z a0 hw h n0 O fv hf SF i cs.length hlt hl) (hw _ (List.mem_of_getElem? (i := 71) rfl)) (hw _ (List.mem_of_getElem? (i := 72) rfl)) (hw _ (List.mem_of_getElem? (i := 9) rfl)) (hw _ (List.mem_of_getElem? (i := 73) rfl)) (by decide) (ps := [.int, .int]) (r' := none) (by decide +kernel) rfl rfl rfl (Nat.le_of_ble_eq_true rfl) (Nat.le_of_ble_eq_true rfl) (Nat.le_of_ble_eq_true rfl) (Nat.le_of_ble_eq_true rfl) ?_
  rintro v h' ⟨rfl, rfl⟩
  show Run _ _ _ _ _ _ _ _ _ _ _ _ _ _ []
  refine r_aloadN 7 d_jdk_43_method_2_code_6 rfl rfl ?_
  refine r_iloadN 8 d_jdk_43_method_2_code_7 rfl rfl ?_
  refine r_baload i (own_by c) 9 d_jdk_43_method_2_code_8 rfl B (own_nn (by omega)) (own_cl (by omega)) (by rw [own_cl (by omega)]; exact hlt) (by rw [List.getD_eq_getElem?_getD, List.getElem?_map, hi]; rfl) ?_
  unfold own_by
  refine r_sipush 255 12 d_jdk_43_method_2_code_9 rfl rfl ?_
  refine r_iand 13 d_jdk_43_method_2_code_12 rfl ?_
  refine r_i2c 14 d_jdk_43_method_2_code_13 rfl ?_
  exact r_retN _ d_jdk_43_method_2_code_14 rfl (by simp) rfl (Nat.le_of_ble_eq_true rfl) (Nat.le_of_ble_eq_true rfl) (⟨by rw [own_mk_l hc (hL c (List.mem_of_getElem? hi))], rfl⟩)
set_option maxRecDepth 65536 in
set_option maxHeartbeats 40000000 in
theorem rm_len16 (l : Launch) (Z : State) (a0 : Array Value) (hw : ∀ d ∈ tables_1, d.before a0 Z = true) (h : Heap) (n0 : Nat) (b : Addr) (cB : ClassId) (N : Nat) (hn : N ≤ 4) (vs : List Value) (dv : Value) (B : Arv Z h b cB .byte (Int32.ofNat (2 * N)) vs dv) : Con l Z (⟨"java/lang/StringUTF16", "length", "([B)I"⟩ : MethodName) jdk_52_method_6_code 1 (Option.some Jvm.ClassFile.FieldType.int) ({ frames := 0, cells := 0, slots := 0, locals := 0 } : Room) n0 #[.ref b] h (fun v h' => v = some (.int (Int32.ofNat N)) ∧ h' = h) [] := by
  refine Run.con pn_u (Ls := [.val (.ref b)]) rfl ?_
  refine r_aloadN 1 d_jdk_52_method_6_code_0 rfl rfl ?_
  refine r_arraylength 2 d_jdk_52_method_6_code_1 rfl B ?_
  refine r_iconst 1 3 d_jdk_52_method_6_code_2 rfl rfl ?_
  refine r_ishr 4 d_jdk_52_method_6_code_3 rfl ?_
  exact r_retI d_jdk_52_method_6_code_4 rfl (Nat.le_of_ble_eq_true rfl) (Nat.le_of_ble_eq_true rfl) (⟨by rw [own_hlf hn], rfl⟩)
set_option maxRecDepth 65536 in
set_option maxHeartbeats 40000000 in
theorem rm_ci16 (l : Launch) (Z : State) (a0 : Array Value) (hw : ∀ d ∈ tables_1, d.before a0 Z = true) (h : Heap) (n0 : Nat) (O : Old Z n0 h) (fv : Value) (hf : fv.isRef = true) (SF : Sta Z Z.heap "jdk/internal/util/Preconditions" "SIOOBE_FORMATTER" "Ljava/util/function/BiFunction;" fv) (b : Addr) (cB : ClassId) (i N : Nat) (hi : i < N) (hN : N ≤ 4) (vs : List Value) (dv : Value) (B : Arv Z h b cB .byte (Int32.ofNat (2 * N)) vs dv) : Con l Z (⟨"java/lang/StringUTF16", "checkIndex", "(I[B)V"⟩ : MethodName) jdk_52_method_91_code 2 (Option.none : Option Jvm.ClassFile.FieldType) ({ frames := 2, cells := 0, slots := 0, locals := 27 } : Room) n0 #[.int (Int32.ofNat i), .ref b] h (fun v h' => v = none ∧ h' = h) [] := by
  refine Run.con pn_u (Ls := [.val (.int (Int32.ofNat i)), .val (.ref b)]) rfl ?_
  refine r_iloadN 1 d_jdk_52_method_91_code_0 rfl rfl ?_
  refine r_aloadN 2 d_jdk_52_method_91_code_1 rfl rfl ?_
  refine r_static 5 d_jdk_52_method_91_code_2 rfl (rm_len16 l Z a0 hw h n0 b cB N hN _ _ B) (hw _ (List.mem_of_getElem? (i := 107) rfl)) (hw _ (List.mem_of_getElem? (i := 108) rfl)) (hw _ (List.mem_of_getElem? (i := 46) rfl)) (hw _ (List.mem_of_getElem? (i := 109) rfl)) (by decide) (ps := [(.array .byte)]) (r' := (some .int)) (by decide +kernel) rfl rfl rfl (Nat.le_of_ble_eq_true rfl) (Nat.le_of_ble_eq_true rfl) (Nat.le_of_ble_eq_true rfl) (Nat.le_of_ble_eq_true rfl) ?_
  rintro v h' ⟨rfl, rfl⟩
  show Run _ _ _ _ _ _ _ _ _ _ _ _ _ _ [.int (Int32.ofNat N), .int (Int32.ofNat i)]
  refine r_static 8 d_jdk_52_method_91_code_5 rfl (rm_cix l Z a0 hw _ n0 O fv hf SF i N hi hN) (hw _ (List.mem_of_getElem? (i := 110) rfl)) (hw _ (List.mem_of_getElem? (i := 72) rfl)) (hw _ (List.mem_of_getElem? (i := 9) rfl)) (hw _ (List.mem_of_getElem? (i := 73) rfl)) (by decide) (ps := [.int, .int]) (r' := none) (by decide +kernel) rfl rfl rfl (Nat.le_of_ble_eq_true rfl) (Nat.le_of_ble_eq_true rfl) (Nat.le_of_ble_eq_true rfl) (Nat.le_of_ble_eq_true rfl) ?_
  rintro v h' ⟨rfl, rfl⟩
  show Run _ _ _ _ _ _ _ _ _ _ _ _ _ _ []
  exact r_retV d_jdk_52_method_91_code_8 rfl (Nat.le_of_ble_eq_true rfl) (Nat.le_of_ble_eq_true rfl) (⟨rfl, rfl⟩)
set_option maxRecDepth 65536 in
set_option maxHeartbeats 40000000 in
theorem rm_ch16 (l : Launch) (Z : State) (a0 : Array Value) (hw : ∀ d ∈ tables_1, d.before a0 Z = true) (h : Heap) (n0 : Nat) (O : Old Z n0 h) (fv : Value) (hf : fv.isRef = true) (SF : Sta Z Z.heap "jdk/internal/util/Preconditions" "SIOOBE_FORMATTER" "Ljava/util/function/BiFunction;" fv) (SD : Sta Z Z.heap "java/lang/StringUTF16" "$assertionsDisabled" "Z" (.int 1)) (SH : Sta Z Z.heap "java/lang/StringUTF16" "HI_BYTE_SHIFT" "I" (.int 0)) (SL : Sta Z Z.heap "java/lang/StringUTF16" "LO_BYTE_SHIFT" "I" (.int 8)) (b : Addr) (cB : ClassId) (cs : List Int32) (hl : cs.length ≤ 4) (i : Nat) (c : Int32) (hi : cs[i]? = some c) (hc : own_ch c) (B : Arv Z h b cB .byte (Int32.ofNat (2 * cs.length)) (own_u cs) (.int 0)) : Con l Z (⟨"java/lang/StringUTF16", "charAt", "([BI)C"⟩ : MethodName) jdk_52_method_83_code 2 (Option.some Jvm.ClassFile.FieldType.char) ({ frames := 3, cells := 0, slots := 0, locals := 40 } : Room) n0 #[.ref b, .int (Int32.ofNat i)] h (fun v h' => v = some (.int c) ∧ h' = h) [] := by
  refine Run.con pn_u (Ls := [.val (.ref b), .val (.int (Int32.ofNat i))]) rfl ?_
  have hlt : i < cs.length := (List.getElem?_eq_some_iff.mp hi).1
  refine r_iloadN 1 d_jdk_52_method_83_code_0 rfl rfl ?_
  refine r_aloadN 2 d_jdk_52_method_83_code_1 rfl rfl ?_
  refine r_static 5 d_jdk_52_method_83_code_2 rfl (rm_ci16 l Z a0 hw h n0 O fv hf SF b cB i cs.length hlt hl _ _ B) (hw _ (List.mem_of_getElem? (i := 104) rfl)) (hw _ (List.mem_of_getElem? (i := 105) rfl)) (hw _ (List.mem_of_getElem? (i := 46) rfl)) (hw _ (List.mem_of_getElem? (i := 106) rfl)) (by decide) (ps := [.int, (.array .byte)]) (r' := none) (by decide +kernel) rfl rfl rfl (Nat.le_of_ble_eq_true rfl) (Nat.le_of_ble_eq_true rfl) (Nat.le_of_ble_eq_true rfl) (Nat.le_of_ble_eq_true rfl) ?_
  rintro v h' ⟨rfl, rfl⟩
  show Run _ _ _ _ _ _ _ _ _ _ _ _ _ _ []
  refine r_aloadN 6 d_jdk_52_method_83_code_5 rfl rfl ?_
  refine r_iloadN 7 d_jdk_52_method_83_code_6 rfl rfl ?_
  refine r_static 10 d_jdk_52_method_83_code_7 rfl (rm_get l Z a0 hw _ n0 O SD SH SL b cB cs hl i c hi hc B) (hw _ (List.mem_of_getElem? (i := 98) rfl)) (hw _ (List.mem_of_getElem? (i := 99) rfl)) (hw _ (List.mem_of_getElem? (i := 46) rfl)) (hw _ (List.mem_of_getElem? (i := 100) rfl)) (by decide) (ps := [(.array .byte), .int]) (r' := (some .char)) (by decide +kernel) rfl rfl rfl (Nat.le_of_ble_eq_true rfl) (Nat.le_of_ble_eq_true rfl) (Nat.le_of_ble_eq_true rfl) (Nat.le_of_ble_eq_true rfl) ?_
  rintro v h' ⟨rfl, rfl⟩
  show Run _ _ _ _ _ _ _ _ _ _ _ _ _ _ [.int c]
  exact r_retN _ d_jdk_52_method_83_code_10 rfl (by simp) rfl (Nat.le_of_ble_eq_true rfl) (Nat.le_of_ble_eq_true rfl) (⟨by rw [own_narc hc], rfl⟩)
set_option maxRecDepth 65536 in
set_option maxHeartbeats 40000000 in
theorem rm_cha (l : Launch) (Z : State) (a0 : Array Value) (hw : ∀ d ∈ tables_1, d.before a0 Z = true) (h : Heap) (n0 : Nat) (O : Old Z n0 h) (cz : Int32) (SC : Sta Z Z.heap "java/lang/String" "COMPACT_STRINGS" "Z" (.int cz)) (hcz : ¬ cz = 0) (fv : Value) (hf : fv.isRef = true) (SF : Sta Z Z.heap "jdk/internal/util/Preconditions" "SIOOBE_FORMATTER" "Ljava/util/function/BiFunction;" fv) (SD : Sta Z Z.heap "java/lang/StringUTF16" "$assertionsDisabled" "Z" (.int 1)) (SH : Sta Z Z.heap "java/lang/StringUTF16" "HI_BYTE_SHIFT" "I" (.int 0)) (SL : Sta Z Z.heap "java/lang/StringUTF16" "LO_BYTE_SHIFT" "I" (.int 8)) (t : Addr) (cs : List Int32) (hl : cs.length ≤ 4) (i : Nat) (c : Int32) (hi : cs[i]? = some c) (hc : own_ch c) (F : own_Str Z h t cs) : Con l Z (⟨"java/lang/String", "charAt", "(I)C"⟩ : MethodName) jdk_42_method_56_code 2 (Option.some Jvm.ClassFile.FieldType.char) ({ frames := 4, cells := 0, slots := 0, locals := 53 } : Room) n0 #[.ref t, .int (Int32.ofNat i)] h (fun v h' => v = some (.int c) ∧ h' = h) [] := by
  refine Run.con pn_s (Ls := [.val (.ref t), .val (.int (Int32.ofNat i))]) rfl ?_
  obtain ⟨X, b, cB, V, ⟨C, hL, B⟩ | ⟨C, B⟩⟩ := F
  · refine r_aloadN 1 d_jdk_42_method_56_code_0 rfl rfl ?_
    refine r_virtual 4 d_jdk_42_method_56_code_1 rfl (rm_isl l Z a0 hw h n0 O cz SC hcz t 0 C) (as1 := []) rfl (hw _ (List.mem_of_getElem? (i := 62) rfl)) (hw _ (List.mem_of_getElem? (i := 63) rfl)) (hw _ (List.mem_of_getElem? (i := 65) rfl)) (hw _ (List.mem_of_getElem? (i := 64) rfl)) (hw _ (List.mem_of_getElem? (i := 9) rfl)) (hw _ (List.mem_of_getElem? (i := 66) rfl)) (by decide) (ps := []) (r' := (some .boolean)) (by decide +kernel) (X) rfl rfl rfl (Nat.le_of_ble_eq_true rfl) (Nat.le_of_ble_eq_true rfl) (Nat.le_of_ble_eq_true rfl) (Nat.le_of_ble_eq_true rfl) (fun s args hZ => notFace_of_selects (args := args) (mvT hZ (hw _ (List.mem_of_getElem? (i := 65) rfl)))) ?_
    rintro v h' ⟨rfl, rfl⟩
    show Run _ _ _ _ _ _ _ _ _ _ _ _ _ _ [.int 1]
    refine r_if_eq 16 7 d_jdk_42_method_56_code_4 (by decide) rfl (fun q4 => absurd q4 (by decide)) (fun q4 => ?_)
    refine r_aloadN 8 d_jdk_42_method_56_code_7 rfl rfl ?_
    refine r_getfield (host := "") 11 d_jdk_42_method_56_code_8 rfl (Or.inl (hw _ (List.mem_of_getElem? (i := 27) rfl))) Via.refl (V) ?_
    refine r_iloadN 12 d_jdk_42_method_56_code_11 rfl rfl ?_
    refine r_static 15 d_jdk_42_method_56_code_12 rfl (rm_chl l Z a0 hw _ n0 O fv hf SF b cB cs hl i c hi hc hL B) (hw _ (List.mem_of_getElem? (i := 67) rfl)) (hw _ (List.mem_of_getElem? (i := 68) rfl)) (hw _ (List.mem_of_getElem? (i := 69) rfl)) (hw _ (List.mem_of_getElem? (i := 70) rfl)) (by decide) (ps := [(.array .byte), .int]) (r' := (some .char)) (by decide +kernel) rfl rfl rfl (Nat.le_of_ble_eq_true rfl) (Nat.le_of_ble_eq_true rfl) (Nat.le_of_ble_eq_true rfl) (Nat.le_of_ble_eq_true rfl) ?_
    rintro v h' ⟨rfl, rfl⟩
    show Run _ _ _ _ _ _ _ _ _ _ _ _ _ _ [.int c]
    exact r_retN _ d_jdk_42_method_56_code_15 rfl (by simp) rfl (Nat.le_of_ble_eq_true rfl) (Nat.le_of_ble_eq_true rfl) (⟨by rw [own_narc hc], rfl⟩)
  · refine r_aloadN 1 d_jdk_42_method_56_code_0 rfl rfl ?_
    refine r_virtual 4 d_jdk_42_method_56_code_1 rfl (rm_isl l Z a0 hw h n0 O cz SC hcz t 1 C) (as1 := []) rfl (hw _ (List.mem_of_getElem? (i := 62) rfl)) (hw _ (List.mem_of_getElem? (i := 63) rfl)) (hw _ (List.mem_of_getElem? (i := 65) rfl)) (hw _ (List.mem_of_getElem? (i := 64) rfl)) (hw _ (List.mem_of_getElem? (i := 9) rfl)) (hw _ (List.mem_of_getElem? (i := 66) rfl)) (by decide) (ps := []) (r' := (some .boolean)) (by decide +kernel) (X) rfl rfl rfl (Nat.le_of_ble_eq_true rfl) (Nat.le_of_ble_eq_true rfl) (Nat.le_of_ble_eq_true rfl) (Nat.le_of_ble_eq_true rfl) (fun s args hZ => notFace_of_selects (args := args) (mvT hZ (hw _ (List.mem_of_getElem? (i := 65) rfl)))) ?_
    rintro v h' ⟨rfl, rfl⟩
    show Run _ _ _ _ _ _ _ _ _ _ _ _ _ _ [.int 0]
    refine r_if_eq 16 7 d_jdk_42_method_56_code_4 (by decide) rfl (fun q4 => ?_) (fun q4 => absurd q4 (by decide))
    refine r_aloadN 17 d_jdk_42_method_56_code_16 rfl rfl ?_
    refine r_getfield (host := "") 20 d_jdk_42_method_56_code_17 rfl (Or.inl (hw _ (List.mem_of_getElem? (i := 27) rfl))) Via.refl (V) ?_
    refine r_iloadN 21 d_jdk_42_method_56_code_20 rfl rfl ?_
    refine r_static 24 d_jdk_42_method_56_code_21 rfl (rm_ch16 l Z a0 hw _ n0 O fv hf SF SD SH SL b cB cs hl i c hi hc B) (hw _ (List.mem_of_getElem? (i := 101) rfl)) (hw _ (List.mem_of_getElem? (i := 102) rfl)) (hw _ (List.mem_of_getElem? (i := 46) rfl)) (hw _ (List.mem_of_getElem? (i := 103) rfl)) (by decide) (ps := [(.array .byte), .int]) (r' := (some .char)) (by decide +kernel) rfl rfl rfl (Nat.le_of_ble_eq_true rfl) (Nat.le_of_ble_eq_true rfl) (Nat.le_of_ble_eq_true rfl) (Nat.le_of_ble_eq_true rfl) ?_
    rintro v h' ⟨rfl, rfl⟩
    show Run _ _ _ _ _ _ _ _ _ _ _ _ _ _ [.int c]
    exact r_retN _ d_jdk_42_method_56_code_24 rfl (by simp) rfl (Nat.le_of_ble_eq_true rfl) (Nat.le_of_ble_eq_true rfl) (⟨by rw [own_narc hc], rfl⟩)
set_option maxRecDepth 65536 in
set_option maxHeartbeats 40000000 in
theorem rm_i4e (l : Launch) (Z : State) (a0 : Array Value) (hw : ∀ d ∈ tables_1, d.before a0 Z = true) (h : Heap) (n0 : Nat) (O : Old Z n0 h) (hh : Jvm.Lit.constHeld Z "java/lang/String" 7) (hcw : Jvm.Lit.compactW.before a0 Z = true) (wS : ∀ d ∈ Bundle.stringAtoms, d.before a0 Z = true) (t : Addr) (F1 : Fld Z h t "java/lang/String" "value" "[B" .null) (F2 : Fld Z h t "java/lang/String" "coder" "B" (.int 0)) (E1 : Exa Z h t "java/lang/String") (ht : n0 ≤ t) (a : Addr) : ConW l Z (⟨"java/lang/String", "<init>", "([CIILjava/lang/Void;)V"⟩ : MethodName) jdk_42_method_149_code 6 none ({ frames := 1, cells := 2, slots := 4, locals := 13 } : Room) n0 #[.ref t, .ref a, .int 0, .int 0, .null] h (fun v h' => v = none ∧ Keep h h' [t] ∧ own_Str Z h' t []) [] := by
  refine MetFree.of_bodySF (plainFor_of_name pn_s) hisR ?_
  intro p e s m args below meth c s₁ Bd hml0 hP hK
  obtain ⟨rfl, hZ, hh0, hi⟩ := hP
  have hx := Bd.exec
  have hby := Bd.bytes
  have hml : c.maxLocals = 6 := hml0
  have hown : s.vm.findClass "java/lang/String" = some m.cls := findClass_of_methodNamed Bd.named
  have hnm := (name_of_methodNamed Bd.named Bd.method).1
  have X0 : Stand p l e ({ frames := 1, cells := 2, slots := 4, locals := 13 } : Room) s m #[.ref t, .ref a, .int 0, .int 0, .null] below meth c s₁ [] 0 0 := Stand.of_body Bd
  have e0 : s₁.heap = h := by rw [← hh0, Bd.state]; rfl
  obtain ⟨T1, X1, e1, st1⟩ := initO X0 hx hZ hown (hw _ (List.mem_of_getElem? (i := 18) rfl)) (hw _ (List.mem_of_getElem? (i := 19) rfl)) (hw _ (List.mem_of_getElem? (i := 20) rfl)) e0 (g := (mkF m 1 #[.val (.ref t), .val (.ref a), .val (.int 0), .val (.int 0), .val .null, .unset] [.ref t])) rfl (by rw [hml]; rfl) rfl (hb hby d_jdk_42_method_149_code_1) (by decide) (W := 0) (by show 2 * 0 + _ ≤ _; exact Nat.le_of_eq rfl) (by decide)
  have I0 : IB Z s.vm [] := ⟨#[], by rw [hi]; simp, fun q hq => by simp at hq⟩
  have hkeep : ∀ (b : Addr) (cl : Cell), Z.heap[b]? = some cl → s.heap[b]? = some cl := fun b cl q => by rw [hh0]; exact O.2.2 b cl q
  obtain ⟨aL, T2, h2, k1, bL, kL, X2, e2, E2, hS2, hk2, hZ2, hown2, XL, CL, VL, AL, -, -, -, LL, st2⟩ := ldcSVL (s := s) (vm0 := s.vm) (Ts := []) X1 hx hZ hown (hw _ (List.mem_of_getElem? (i := 21) rfl)) wS e1 ((State.WarmedH.refl s).since 0) (Nat.zero_le _) (Fr.nil _) hkeep I0 (by simp) hh hcw (vs := []) (z := 0) ⟨fun c hc => by simp at hc, rfl⟩ (by decide) rfl (g := (mkF m 9 #[.val (.ref t), .val (.ref a), .val (.int 0), .val (.int 0), .val .null, .unset] [.ref t])) rfl (hb hby d_jdk_42_method_149_code_9) (n := 0) (by decide) (by decide) (by decide) (by decide)
  replace F1 := F1.ext E2
  replace F2 := F2.ext E2
  replace E1 := E1.ext E2
  have tL : aL ≠ t := Fld.ne VL F1 (by simp)
  have tb : bL ≠ t := Ne.symm (Exa.neArv E1 AL (hw _ (List.mem_of_getElem? (i := 8) rfl)))
  obtain ⟨T3, X3, e3, st3⟩ := getF X2 hx hZ2 hown2 (host := "") (Or.inl (hw _ (List.mem_of_getElem? (i := 27) rfl))) Via.refl e2 VL (g := (mkF m 11 #[.val (.ref t), .val (.ref a), .val (.int 0), .val (.int 0), .val .null, .unset] [.ref aL, .ref t])) rfl rfl (hb hby d_jdk_42_method_149_code_11)
  obtain ⟨T4, h4, X4, e4, W4, st4⟩ := putF X3 hx hZ2 hown2 (host := "") (Or.inl (hw _ (List.mem_of_getElem? (i := 27) rfl))) Via.refl e3 F1 E1 (Or.inr ⟨(hw _ (List.mem_of_getElem? (i := 23) rfl)), rfl, hnm⟩) (hw _ (List.mem_of_getElem? (i := 8) rfl)) (ty := .array .byte) (by decide) rfl rfl (g := (mkF m 14 #[.val (.ref t), .val (.ref a), .val (.int 0), .val (.int 0), .val .null, .unset] [.ref bL, .ref t])) rfl rfl (hb hby d_jdk_42_method_149_code_14)
  replace CL := CL.other W4 (Or.inl tL)
  replace AL := AL.other W4 tb
  replace E1 := E1.wr W4
  replace F1 := F1.same W4
  replace F2 := F2.other W4 (Or.inr (slot_ne (Or.inr (hw _ (List.mem_of_getElem? (i := 24) rfl))) (Or.inr (hw _ (List.mem_of_getElem? (i := 23) rfl))) (by decide) (t := .byte) (t' := (.array .byte)) (by decide) (by decide)))
  have st5 := ldcAgain (s := s) (vm0 := T2.vm) X4 hx hZ2 hown2 (hw _ (List.mem_of_getElem? (i := 21) rfl)) LL (g := (mkF m 18 #[.val (.ref t), .val (.ref a), .val (.int 0), .val (.int 0), .val .null, .unset] [.ref t])) rfl (hb hby d_jdk_42_method_149_code_18)
  obtain ⟨T6, X6, e6, st6⟩ := getF X4 hx hZ2 hown2 (host := "") (Or.inl (hw _ (List.mem_of_getElem? (i := 28) rfl))) Via.refl e4 CL (g := (mkF m 20 #[.val (.ref t), .val (.ref a), .val (.int 0), .val (.int 0), .val .null, .unset] [.ref aL, .ref t])) rfl rfl (hb hby d_jdk_42_method_149_code_20)
  obtain ⟨T7, h7, X7, e7, W7, st7⟩ := putF X6 hx hZ2 hown2 (host := "") (Or.inl (hw _ (List.mem_of_getElem? (i := 28) rfl))) Via.refl e6 F2 E1 (Or.inr ⟨(hw _ (List.mem_of_getElem? (i := 24) rfl)), rfl, hnm⟩) (hw _ (List.mem_of_getElem? (i := 8) rfl)) (ty := .byte) (by decide) rfl rfl (g := (mkF m 23 #[.val (.ref t), .val (.ref a), .val (.int 0), .val (.int 0), .val .null, .unset] [.int 0, .ref t])) rfl rfl (hb hby d_jdk_42_method_149_code_23)
  replace AL := AL.other W7 tb
  replace E1 := E1.wr W7
  replace F2 := F2.same W7
  replace F1 := F1.other W7 (Or.inr (slot_ne (Or.inr (hw _ (List.mem_of_getElem? (i := 23) rfl))) (Or.inr (hw _ (List.mem_of_getElem? (i := 24) rfl))) (by decide) (t := (.array .byte)) (t' := .byte) (by decide) (by decide)))
  have hsz : k1 ≤ T7.heap.size := by rw [e7, W7.size, W4.size]; exact hk2
  obtain ⟨fs, hr, hrun, hended, hq⟩ := X7.leaveW hS2 hsz (v := none) (fun _ => rfl)
  refine ⟨_, _, (XT.entry (Ls := #[.val (.ref t), .val (.ref a), .val (.int 0), .val (.int 0), .val .null, .unset]) rfl).trans ?_, hrun, hended, none, _, rfl, ⟨⟨rfl, ?_, ?_⟩, Fr.snoc X7 (Fr.snoc X4 (Fr.nil n0) ht) ht⟩, hq.1, hq.2.1, hq.2.2.1, hq.2.2.2.mono (by decide) (by decide)⟩
  · show Steps p.tables e below (s₁.setTop (mkF m 0 #[.val (.ref t), .val (.ref a), .val (.int 0), .val (.int 0), .val .null, .unset] [])) _
    refine XS.aloadN X0.here hx rfl (hb hby d_jdk_42_method_149_code_0) rfl rfl ?_
    show Steps p.tables e below (s₁.setTop (mkF m 1 #[.val (.ref t), .val (.ref a), .val (.int 0), .val (.int 0), .val .null, .unset] [.ref t])) _
    refine st1 _ ?_
    show Steps p.tables e below (T1.setTop (mkF m 4 #[.val (.ref t), .val (.ref a), .val (.int 0), .val (.int 0), .val .null, .unset] [])) _
    refine XS.iloadN X1.here hx rfl (hb hby d_jdk_42_method_149_code_4) rfl ?_
    show Steps p.tables e below (T1.setTop (mkF m 5 #[.val (.ref t), .val (.ref a), .val (.int 0), .val (.int 0), .val .null, .unset] [.int 0])) _
    refine XS.ifNo X1.here hx rfl (hb hby d_jdk_42_method_149_code_5) rfl (by decide) ?_
    show Steps p.tables e below (T1.setTop (mkF m 8 #[.val (.ref t), .val (.ref a), .val (.int 0), .val (.int 0), .val .null, .unset] [])) _
    refine XS.aloadN X1.here hx rfl (hb hby d_jdk_42_method_149_code_8) rfl rfl ?_
    show Steps p.tables e below (T1.setTop (mkF m 9 #[.val (.ref t), .val (.ref a), .val (.int 0), .val (.int 0), .val .null, .unset] [.ref t])) _
    refine st2 _ ?_
    show Steps p.tables e below (T2.setTop (mkF m 11 #[.val (.ref t), .val (.ref a), .val (.int 0), .val (.int 0), .val .null, .unset] [.ref aL, .ref t])) _
    refine st3 _ ?_
    show Steps p.tables e below (T3.setTop (mkF m 14 #[.val (.ref t), .val (.ref a), .val (.int 0), .val (.int 0), .val .null, .unset] [.ref bL, .ref t])) _
    refine st4 _ ?_
    show Steps p.tables e below (T4.setTop (mkF m 17 #[.val (.ref t), .val (.ref a), .val (.int 0), .val (.int 0), .val .null, .unset] [])) _
    refine XS.aloadN X4.here hx rfl (hb hby d_jdk_42_method_149_code_17) rfl rfl ?_
    show Steps p.tables e below (T4.setTop (mkF m 18 #[.val (.ref t), .val (.ref a), .val (.int 0), .val (.int 0), .val .null, .unset] [.ref t])) _
    refine st5 _ ?_
    show Steps p.tables e below (T4.setTop (mkF m 20 #[.val (.ref t), .val (.ref a), .val (.int 0), .val (.int 0), .val .null, .unset] [.ref aL, .ref t])) _
    refine st6 _ ?_
    show Steps p.tables e below (T6.setTop (mkF m 23 #[.val (.ref t), .val (.ref a), .val (.int 0), .val (.int 0), .val .null, .unset] [.int 0, .ref t])) _
    refine st7 _ ?_
    show Steps p.tables e below (T7.setTop (mkF m 26 #[.val (.ref t), .val (.ref a), .val (.int 0), .val (.int 0), .val .null, .unset] [])) _
    exact X7.returnOut hx Bd.returns (hb hby d_jdk_42_method_149_code_26) hr
  · show Keep h T7.heap [t]
    rw [e7]
    exact ((own_kext E2 [t]).wr W4 (Or.inl (List.mem_of_getElem? (i := 0) rfl))).wr W7 (Or.inl (List.mem_of_getElem? (i := 0) rfl))
  · show own_Str Z T7.heap t []
    rw [e7]
    exact ⟨E1, bL, kL, F1, Or.inl ⟨F2, fun c hc => by simp at hc, AL⟩⟩
set_option maxRecDepth 65536 in
set_option maxHeartbeats 40000000 in
theorem rm_i1e (l : Launch) (Z : State) (a0 : Array Value) (hw : ∀ d ∈ tables_1, d.before a0 Z = true) (h : Heap) (n0 : Nat) (O : Old Z n0 h) (hh : Jvm.Lit.constHeld Z "java/lang/String" 7) (hcw : Jvm.Lit.compactW.before a0 Z = true) (wS : ∀ d ∈ Bundle.stringAtoms, d.before a0 Z = true) (t : Addr) (F1 : Fld Z h t "java/lang/String" "value" "[B" .null) (F2 : Fld Z h t "java/lang/String" "coder" "B" (.int 0)) (E1 : Exa Z h t "java/lang/String") (ht : n0 ≤ t) (a : Addr) (cA : ClassId) (vs : List Value) (dv : Value) (A : Arv Z h a cA .char 0 vs dv) : ConW l Z (⟨"java/lang/String", "<init>", "([C)V"⟩ : MethodName) jdk_42_method_3_code 2 none ({ frames := 2, cells := 2, slots := 4, locals := 30 } : Room) n0 #[.ref t, .ref a] h (fun v h' => v = none ∧ Keep h h' [t] ∧ own_Str Z h' t []) [] := by
  refine RunW.con pn_s (Ls := [.val (.ref t), .val (.ref a)]) rfl ?_
  refine rw_aloadN 1 d_jdk_42_method_3_code_0 rfl rfl ?_
  refine rw_aloadN 2 d_jdk_42_method_3_code_1 rfl rfl ?_
  refine rw_iconst 0 3 d_jdk_42_method_3_code_2 rfl rfl ?_
  refine rw_aloadN 4 d_jdk_42_method_3_code_3 rfl rfl ?_
  refine rw_arraylength 5 d_jdk_42_method_3_code_4 rfl A ?_
  refine rw_null 6 d_jdk_42_method_3_code_5 rfl ?_
  refine rw_specialW 9 d_jdk_42_method_3_code_6 rfl (rm_i4e l Z a0 hw h n0 O hh hcw wS t F1 F2 E1 ht a) (as1 := [.ref a, .int 0, .int 0, .null]) rfl rfl (hw _ (List.mem_of_getElem? (i := 14) rfl)) (hw _ (List.mem_of_getElem? (i := 15) rfl)) (hw _ (List.mem_of_getElem? (i := 9) rfl)) (hw _ (List.mem_of_getElem? (i := 17) rfl)) (by decide) (ps := [(.array .char), .int, .int, (.object "java/lang/Void")]) (r' := none) (by decide +kernel) rfl rfl rfl (Nat.le_of_ble_eq_true rfl) (Nat.le_of_ble_eq_true rfl) (Nat.le_of_ble_eq_true rfl) (Nat.le_of_ble_eq_true rfl) (fun _ q => q) ?_
  rintro v h1 ⟨rfl, q⟩
  show RunW _ _ _ _ _ _ _ _ _ _ _ _ _ _ _ []
  exact rw_retV d_jdk_42_method_3_code_9 rfl (Nat.le_of_ble_eq_true rfl) (Nat.le_of_ble_eq_true rfl) (⟨rfl, q⟩)
theorem Con.wide {l : Launch} {Z : State} {y : MethodName} {bytes : ByteArray} {ml : Nat} {ret : Option FieldType} {R : Room} {n0 : Nat} {Q : Option Value → Heap → Prop} {h : Heap} {as' : Array Value} {ws : List Jvm.Cond} (hM : Con l Z y bytes ml ret R n0 as' h Q ws) : ConW l Z y bytes ml ret R n0 as' h Q ws := fun p e ha hc hk s m args below hf happ hP hK => by
  obtain ⟨nn, o, h1, h2, h3, v, L, h4, h5, h6⟩ := hM p e ha hc hk s m args below hf happ ⟨hP.1, hP.2.1, hP.2.2.1⟩ hK
  exact ⟨nn, o, h1, h2, h3, v, L, h4, h5, ReturnedEndW.of_narrow h6.1 h6.2.1 h6.2.2⟩
set_option maxRecDepth 65536 in
set_option maxHeartbeats 40000000 in
theorem rm_pick (l : Launch) (Z : State) (a0 : Array Value) (hw : ∀ d ∈ tables_1, d.before a0 Z = true) (h : Heap) (n0 : Nat) (x : Int32) : Con l Z (⟨"com/example/libxqopt/libxqopt/XQueryCharactersIsWhitespacePinLaw", "pick", "(I)C"⟩ : MethodName) method_2_code 2 (Option.some Jvm.ClassFile.FieldType.char) ({ frames := 0, cells := 0, slots := 0, locals := 0 } : Room) n0 #[.int x] h (fun v h' => ∃ c, v = some (.int c) ∧ own_ch c ∧ h' = h) [] := by
  refine Run.con pn_law (Ls := [.val (.int x), .unset]) rfl ?_
  refine r_iloadN 1 d_method_2_code_0 rfl rfl ?_
  refine r_ldc 3 d_method_2_code_1 rfl (hw _ (List.mem_of_getElem? (i := 5) rfl)) ?_
  refine r_iand 4 d_method_2_code_3 rfl ?_
  refine r_if_eq 40 7 d_method_2_code_4 (by decide) rfl (fun q4 => ?_) (fun q4 => ?_)
  · refine r_iloadN 41 d_method_2_code_40 rfl rfl ?_
    refine r_ldc 43 d_method_2_code_41 rfl (hw _ (List.mem_of_getElem? (i := 6) rfl)) ?_
    refine r_iand 44 d_method_2_code_43 rfl ?_
    refine r_i2c 45 d_method_2_code_44 rfl ?_
    exact r_retN _ d_method_2_code_45 rfl (by simp) rfl (Nat.le_of_ble_eq_true rfl) (Nat.le_of_ble_eq_true rfl) (⟨_, rfl, own_chn _, rfl⟩)
  · refine r_iloadN 8 d_method_2_code_7 rfl rfl ?_
    refine r_bipush 17 10 d_method_2_code_8 rfl rfl ?_
    refine r_iushr 11 d_method_2_code_10 rfl ?_
    refine r_iconst 3 12 d_method_2_code_11 rfl rfl ?_
    refine r_iand 13 d_method_2_code_12 rfl ?_
    refine r_istoreN 14 d_method_2_code_13 rfl rfl ?_
    refine r_iloadN 15 d_method_2_code_14 rfl rfl ?_
    refine r_if_ne 21 18 d_method_2_code_15 (by decide) rfl (fun q15 => ?_) (fun q15 => ?_)
    · refine r_iloadN 22 d_method_2_code_21 rfl rfl ?_
      refine r_iconst 1 23 d_method_2_code_22 rfl rfl ?_
      refine r_icmp_ne 29 26 d_method_2_code_23 (by decide) rfl (fun q23 => ?_) (fun q23 => ?_)
      · refine r_iloadN 30 d_method_2_code_29 rfl rfl ?_
        refine r_iconst 2 31 d_method_2_code_30 rfl rfl ?_
        refine r_icmp_ne 37 34 d_method_2_code_31 (by decide) rfl (fun q31 => ?_) (fun q31 => ?_)
        · refine r_bipush 13 39 d_method_2_code_37 rfl rfl ?_
          exact r_retN _ d_method_2_code_39 rfl (by simp) rfl (Nat.le_of_ble_eq_true rfl) (Nat.le_of_ble_eq_true rfl) (⟨_, rfl, own_chn _, rfl⟩)
        · refine r_bipush 10 36 d_method_2_code_34 rfl rfl ?_
          exact r_retN _ d_method_2_code_36 rfl (by simp) rfl (Nat.le_of_ble_eq_true rfl) (Nat.le_of_ble_eq_true rfl) (⟨_, rfl, own_chn _, rfl⟩)
      · refine r_bipush 9 28 d_method_2_code_26 rfl rfl ?_
        exact r_retN _ d_method_2_code_28 rfl (by simp) rfl (Nat.le_of_ble_eq_true rfl) (Nat.le_of_ble_eq_true rfl) (⟨_, rfl, own_chn _, rfl⟩)
    · refine r_bipush 32 20 d_method_2_code_18 rfl rfl ?_
      exact r_retN _ d_method_2_code_20 rfl (by simp) rfl (Nat.le_of_ble_eq_true rfl) (Nat.le_of_ble_eq_true rfl) (⟨_, rfl, own_chn _, rfl⟩)
def own_ws (c : Int32) : Int32 := if c = 32 then 1 else if c = 9 then 1 else if c = 10 then 1 else 0
set_option maxRecDepth 65536 in
set_option maxHeartbeats 40000000 in
theorem rm_ws (l : Launch) (Z : State) (a0 : Array Value) (hw : ∀ d ∈ tables_1, d.before a0 Z = true) (h : Heap) (n0 : Nat) (c : Int32) : Con l Z (⟨"com/example/libxqopt/libxqopt/XQueryCharactersIsWhitespacePinLaw", "ws", "(C)Z"⟩ : MethodName) method_3_code 1 (Option.some Jvm.ClassFile.FieldType.boolean) ({ frames := 0, cells := 0, slots := 0, locals := 0 } : Room) n0 #[.int c] h (fun v h' => v = some (.int (own_ws c)) ∧ h' = h) [] := by
  refine Run.con pn_law (Ls := [.val (.int c)]) rfl ?_
  refine r_iloadN 1 d_method_3_code_0 rfl rfl ?_
  refine r_bipush 32 3 d_method_3_code_1 rfl rfl ?_
  refine r_icmp_eq 18 6 d_method_3_code_3 (by decide) rfl (fun q3 => ?_) (fun q3 => ?_)
  · refine r_iconst 1 19 d_method_3_code_18 rfl rfl ?_
    refine r_goto 23 d_method_3_code_19 (by decide) ?_
    exact r_retN _ d_method_3_code_23 rfl (by simp) rfl (Nat.le_of_ble_eq_true rfl) (Nat.le_of_ble_eq_true rfl) (⟨by subst_vars; simp [own_ws, own_b0, own_b1, *], rfl⟩)
  · refine r_iloadN 7 d_method_3_code_6 rfl rfl ?_
    refine r_bipush 9 9 d_method_3_code_7 rfl rfl ?_
    refine r_icmp_eq 18 12 d_method_3_code_9 (by decide) rfl (fun q9 => ?_) (fun q9 => ?_)
    · refine r_iconst 1 19 d_method_3_code_18 rfl rfl ?_
      refine r_goto 23 d_method_3_code_19 (by decide) ?_
      exact r_retN _ d_method_3_code_23 rfl (by simp) rfl (Nat.le_of_ble_eq_true rfl) (Nat.le_of_ble_eq_true rfl) (⟨by subst_vars; simp [own_ws, own_b0, own_b1, *], rfl⟩)
    · refine r_iloadN 13 d_method_3_code_12 rfl rfl ?_
      refine r_bipush 10 15 d_method_3_code_13 rfl rfl ?_
      refine r_icmp_ne 22 18 d_method_3_code_15 (by decide) rfl (fun q15 => ?_) (fun q15 => ?_)
      · refine r_iconst 0 23 d_method_3_code_22 rfl rfl ?_
        exact r_retN _ d_method_3_code_23 rfl (by simp) rfl (Nat.le_of_ble_eq_true rfl) (Nat.le_of_ble_eq_true rfl) (⟨by subst_vars; simp [own_ws, own_b0, own_b1, *], rfl⟩)
      · refine r_iconst 1 19 d_method_3_code_18 rfl rfl ?_
        refine r_goto 23 d_method_3_code_19 (by decide) ?_
        exact r_retN _ d_method_3_code_23 rfl (by simp) rfl (Nat.le_of_ble_eq_true rfl) (Nat.le_of_ble_eq_true rfl) (⟨by subst_vars; simp [own_ws, own_b0, own_b1, *], rfl⟩)
set_option maxRecDepth 65536 in
set_option maxHeartbeats 40000000 in
theorem rm_isi (l : Launch) (Z : State) (a0 : Array Value) (hw : ∀ d ∈ tables_1, d.before a0 Z = true) (h : Heap) (n0 : Nat) (c : Int32) : Con l Z (⟨"com/example/libxqopt/libxqopt/XQueryCharacters", "isWhitespace", "(I)Z"⟩ : MethodName) prog_216_method_11_code 1 (Option.some Jvm.ClassFile.FieldType.boolean) ({ frames := 0, cells := 0, slots := 0, locals := 0 } : Room) n0 #[.int c] h (fun v h' => v = some (.int (own_ws c)) ∧ h' = h) [] := by
  refine Run.con pn_x (Ls := [.val (.int c)]) rfl ?_
  refine r_iloadN 1 d_prog_216_method_11_code_0 rfl rfl ?_
  refine r_bipush 32 3 d_prog_216_method_11_code_1 rfl rfl ?_
  refine r_icmp_eq 18 6 d_prog_216_method_11_code_3 (by decide) rfl (fun q3 => ?_) (fun q3 => ?_)
  · refine r_iconst 1 19 d_prog_216_method_11_code_18 rfl rfl ?_
    refine r_goto 23 d_prog_216_method_11_code_19 (by decide) ?_
    exact r_retN _ d_prog_216_method_11_code_23 rfl (by simp) rfl (Nat.le_of_ble_eq_true rfl) (Nat.le_of_ble_eq_true rfl) (⟨by subst_vars; simp [own_ws, own_b0, own_b1, *], rfl⟩)
  · refine r_iloadN 7 d_prog_216_method_11_code_6 rfl rfl ?_
    refine r_bipush 9 9 d_prog_216_method_11_code_7 rfl rfl ?_
    refine r_icmp_eq 18 12 d_prog_216_method_11_code_9 (by decide) rfl (fun q9 => ?_) (fun q9 => ?_)
    · refine r_iconst 1 19 d_prog_216_method_11_code_18 rfl rfl ?_
      refine r_goto 23 d_prog_216_method_11_code_19 (by decide) ?_
      exact r_retN _ d_prog_216_method_11_code_23 rfl (by simp) rfl (Nat.le_of_ble_eq_true rfl) (Nat.le_of_ble_eq_true rfl) (⟨by subst_vars; simp [own_ws, own_b0, own_b1, *], rfl⟩)
    · refine r_iloadN 13 d_prog_216_method_11_code_12 rfl rfl ?_
      refine r_bipush 10 15 d_prog_216_method_11_code_13 rfl rfl ?_
      refine r_icmp_ne 22 18 d_prog_216_method_11_code_15 (by decide) rfl (fun q15 => ?_) (fun q15 => ?_)
      · refine r_iconst 0 23 d_prog_216_method_11_code_22 rfl rfl ?_
        exact r_retN _ d_prog_216_method_11_code_23 rfl (by simp) rfl (Nat.le_of_ble_eq_true rfl) (Nat.le_of_ble_eq_true rfl) (⟨by subst_vars; simp [own_ws, own_b0, own_b1, *], rfl⟩)
      · refine r_iconst 1 19 d_prog_216_method_11_code_18 rfl rfl ?_
        refine r_goto 23 d_prog_216_method_11_code_19 (by decide) ?_
        exact r_retN _ d_prog_216_method_11_code_23 rfl (by simp) rfl (Nat.le_of_ble_eq_true rfl) (Nat.le_of_ble_eq_true rfl) (⟨by subst_vars; simp [own_ws, own_b0, own_b1, *], rfl⟩)
def own_all : List Int32 → Int32
  | [] => 1
  | c :: r => if own_ws c = 0 then 0 else own_all r
set_option maxRecDepth 65536 in
set_option maxHeartbeats 40000000 in
theorem loop_iss (l : Launch) (Z : State) (a0 : Array Value) (hw : ∀ d ∈ tables_1, d.before a0 Z = true) (h : Heap) (n0 : Nat) (O : Old Z n0 h) (cz : Int32) (SC : Sta Z Z.heap "java/lang/String" "COMPACT_STRINGS" "Z" (.int cz)) (hcz : ¬ cz = 0) (fv : Value) (hf : fv.isRef = true) (SF : Sta Z Z.heap "jdk/internal/util/Preconditions" "SIOOBE_FORMATTER" "Ljava/util/function/BiFunction;" fv) (SD : Sta Z Z.heap "java/lang/StringUTF16" "$assertionsDisabled" "Z" (.int 1)) (SH : Sta Z Z.heap "java/lang/StringUTF16" "HI_BYTE_SHIFT" "I" (.int 0)) (SL : Sta Z Z.heap "java/lang/StringUTF16" "LO_BYTE_SHIFT" "I" (.int 8)) (t : Addr) (cs : List Int32) (hl : cs.length ≤ 4) (hch : ∀ c ∈ cs, own_ch c) (F : own_Str Z h t cs) (rest : List Int32) : ∀ (i : Nat), cs.drop i = rest → i ≤ cs.length → own_all rest = own_all cs → Run l Z (⟨"com/example/libxqopt/libxqopt/XQueryCharacters", "isWhitespace", "(Ljava/lang/String;)Z"⟩ : MethodName) prog_216_method_10_code 2 (Option.some Jvm.ClassFile.FieldType.boolean) ({ frames := 5, cells := 0, slots := 0, locals := 66 } : Room) n0 (fun v h' => v = some (.int (own_all cs)) ∧ h' = h) h 0 0 2 [.val (.ref t), .val (.int (Int32.ofNat i))] [] := by
  induction rest with
  | nil =>
    intro i hi hle hS
    have hlen : cs.length ≤ i := List.drop_eq_nil_iff.mp hi
    refine r_iloadN 3 d_prog_216_method_10_code_2 rfl rfl ?_
    refine r_aloadN 4 d_prog_216_method_10_code_3 rfl rfl ?_
    refine r_virtual 7 d_prog_216_method_10_code_4 rfl (rm_len l Z a0 hw h n0 O cz SC hcz t cs hl F) (as1 := []) rfl (hw _ (List.mem_of_getElem? (i := 33) rfl)) (hw _ (List.mem_of_getElem? (i := 34) rfl)) (hw _ (List.mem_of_getElem? (i := 36) rfl)) (hw _ (List.mem_of_getElem? (i := 35) rfl)) (hw _ (List.mem_of_getElem? (i := 9) rfl)) (hw _ (List.mem_of_getElem? (i := 37) rfl)) (by decide) (ps := []) (r' := (some .int)) (by decide +kernel) (F.1) rfl rfl rfl (Nat.le_of_ble_eq_true rfl) (Nat.le_of_ble_eq_true rfl) (Nat.le_of_ble_eq_true rfl) (Nat.le_of_ble_eq_true rfl) (fun s args hZ => notFace_of_selects (args := args) (mvT hZ (hw _ (List.mem_of_getElem? (i := 36) rfl)))) ?_
    rintro v h' ⟨rfl, rfl⟩
    show Run _ _ _ _ _ _ _ _ _ _ _ _ _ _ [.int (Int32.ofNat cs.length), .int (Int32.ofNat i)]
    refine r_icmp_ge 29 10 d_prog_216_method_10_code_7 (by decide) rfl (fun q7 => ?_) (fun q7 => absurd ((own_lt (by omega) (by omega)).mp q7) (by omega))
    refine r_iconst 1 30 d_prog_216_method_10_code_29 rfl rfl ?_
    exact r_retN _ d_prog_216_method_10_code_30 rfl (by simp) rfl (Nat.le_of_ble_eq_true rfl) (Nat.le_of_ble_eq_true rfl) (⟨by rw [← hS]; rfl, rfl⟩)
  | cons x r ih =>
    intro i hi hle hS
    obtain ⟨hlt, -, hi2, -, hmem, hix⟩ := own_at (f := Value.int) (d := .int 0) hi
    refine r_iloadN 3 d_prog_216_method_10_code_2 rfl rfl ?_
    refine r_aloadN 4 d_prog_216_method_10_code_3 rfl rfl ?_
    refine r_virtual 7 d_prog_216_method_10_code_4 rfl (rm_len l Z a0 hw h n0 O cz SC hcz t cs hl F) (as1 := []) rfl (hw _ (List.mem_of_getElem? (i := 33) rfl)) (hw _ (List.mem_of_getElem? (i := 34) rfl)) (hw _ (List.mem_of_getElem? (i := 36) rfl)) (hw _ (List.mem_of_getElem? (i := 35) rfl)) (hw _ (List.mem_of_getElem? (i := 9) rfl)) (hw _ (List.mem_of_getElem? (i := 37) rfl)) (by decide) (ps := []) (r' := (some .int)) (by decide +kernel) (F.1) rfl rfl rfl (Nat.le_of_ble_eq_true rfl) (Nat.le_of_ble_eq_true rfl) (Nat.le_of_ble_eq_true rfl) (Nat.le_of_ble_eq_true rfl) (fun s args hZ => notFace_of_selects (args := args) (mvT hZ (hw _ (List.mem_of_getElem? (i := 36) rfl)))) ?_
    rintro v h' ⟨rfl, rfl⟩
    show Run _ _ _ _ _ _ _ _ _ _ _ _ _ _ [.int (Int32.ofNat cs.length), .int (Int32.ofNat i)]
    refine r_icmp_ge 29 10 d_prog_216_method_10_code_7 (by decide) rfl (fun q7 => absurd ((own_lt (by omega) (by omega)).mpr hlt) q7) (fun q7 => ?_)
    refine r_aloadN 11 d_prog_216_method_10_code_10 rfl rfl ?_
    refine r_iloadN 12 d_prog_216_method_10_code_11 rfl rfl ?_
    refine r_virtual 15 d_prog_216_method_10_code_12 rfl (rm_cha l Z a0 hw _ n0 O cz SC hcz fv hf SF SD SH SL t cs hl i x hix (hch x hmem) F) (as1 := [.int (Int32.ofNat i)]) rfl (hw _ (List.mem_of_getElem? (i := 57) rfl)) (hw _ (List.mem_of_getElem? (i := 58) rfl)) (hw _ (List.mem_of_getElem? (i := 60) rfl)) (hw _ (List.mem_of_getElem? (i := 59) rfl)) (hw _ (List.mem_of_getElem? (i := 9) rfl)) (hw _ (List.mem_of_getElem? (i := 61) rfl)) (by decide) (ps := [.int]) (r' := (some .char)) (by decide +kernel) (F.1) rfl rfl rfl (Nat.le_of_ble_eq_true rfl) (Nat.le_of_ble_eq_true rfl) (Nat.le_of_ble_eq_true rfl) (Nat.le_of_ble_eq_true rfl) (fun s args hZ => notFace_of_selects (args := args) (mvT hZ (hw _ (List.mem_of_getElem? (i := 60) rfl)))) ?_
    rintro v h' ⟨rfl, rfl⟩
    show Run _ _ _ _ _ _ _ _ _ _ _ _ _ _ [.int x]
    refine r_static 18 d_prog_216_method_10_code_15 rfl (rm_isi l Z a0 hw _ n0 x) (hw _ (List.mem_of_getElem? (i := 79) rfl)) (hw _ (List.mem_of_getElem? (i := 80) rfl)) (hw _ (List.mem_of_getElem? (i := 31) rfl)) (hw _ (List.mem_of_getElem? (i := 81) rfl)) (by decide) (ps := [.int]) (r' := (some .boolean)) (by decide +kernel) rfl rfl rfl (Nat.le_of_ble_eq_true rfl) (Nat.le_of_ble_eq_true rfl) (Nat.le_of_ble_eq_true rfl) (Nat.le_of_ble_eq_true rfl) ?_
    rintro v h' ⟨rfl, rfl⟩
    show Run _ _ _ _ _ _ _ _ _ _ _ _ _ _ [.int (own_ws x)]
    refine r_if_ne 23 21 d_prog_216_method_10_code_18 (by decide) rfl (fun q18 => ?_) (fun q18 => ?_)
    · refine r_iinc 1 26 d_prog_216_method_10_code_23 rfl rfl rfl ?_
      refine r_goto 2 d_prog_216_method_10_code_26 (by decide) ?_
      rw [own_succ (by omega)]
      exact ih (i + 1) hi2 (by omega) (by rw [← hS]; simp [own_all, q18])
    · refine r_iconst 0 22 d_prog_216_method_10_code_21 rfl rfl ?_
      exact r_retN _ d_prog_216_method_10_code_22 rfl (by simp) rfl (Nat.le_of_ble_eq_true rfl) (Nat.le_of_ble_eq_true rfl) (⟨by rw [← hS]; simp [own_all, q18, own_b0], rfl⟩)
set_option maxRecDepth 65536 in
set_option maxHeartbeats 40000000 in
theorem rm_iss (l : Launch) (Z : State) (a0 : Array Value) (hw : ∀ d ∈ tables_1, d.before a0 Z = true) (h : Heap) (n0 : Nat) (O : Old Z n0 h) (cz : Int32) (SC : Sta Z Z.heap "java/lang/String" "COMPACT_STRINGS" "Z" (.int cz)) (hcz : ¬ cz = 0) (fv : Value) (hf : fv.isRef = true) (SF : Sta Z Z.heap "jdk/internal/util/Preconditions" "SIOOBE_FORMATTER" "Ljava/util/function/BiFunction;" fv) (SD : Sta Z Z.heap "java/lang/StringUTF16" "$assertionsDisabled" "Z" (.int 1)) (SH : Sta Z Z.heap "java/lang/StringUTF16" "HI_BYTE_SHIFT" "I" (.int 0)) (SL : Sta Z Z.heap "java/lang/StringUTF16" "LO_BYTE_SHIFT" "I" (.int 8)) (t : Addr) (cs : List Int32) (hl : cs.length ≤ 4) (hch : ∀ c ∈ cs, own_ch c) (F : own_Str Z h t cs) : Con l Z (⟨"com/example/libxqopt/libxqopt/XQueryCharacters", "isWhitespace", "(Ljava/lang/String;)Z"⟩ : MethodName) prog_216_method_10_code 2 (Option.some Jvm.ClassFile.FieldType.boolean) ({ frames := 5, cells := 0, slots := 0, locals := 66 } : Room) n0 #[.ref t] h (fun v h' => v = some (.int (own_all cs)) ∧ h' = h) [] := by
  refine Run.con pn_x (Ls := [.val (.ref t), .unset]) rfl ?_
  refine r_iconst 0 1 d_prog_216_method_10_code_0 rfl rfl ?_
  refine r_istoreN 2 d_prog_216_method_10_code_1 rfl rfl ?_
  exact loop_iss l Z a0 hw h n0 O cz SC hcz fv hf SF SD SH SL t cs hl hch F cs 0 rfl (by omega) rfl
set_option maxRecDepth 65536 in
set_option maxHeartbeats 40000000 in
theorem run_33_1 (l : Launch) (Z : State) (a0 : Array Value) (hw : ∀ d ∈ tables_1, d.before a0 Z = true) (h : Heap) (n0 : Nat) (O : Old Z n0 h) (cz : Int32) (SC : Sta Z Z.heap "java/lang/String" "COMPACT_STRINGS" "Z" (.int cz)) (hcz : ¬ cz = 0) (fv : Value) (hf : fv.isRef = true) (SF : Sta Z Z.heap "jdk/internal/util/Preconditions" "SIOOBE_FORMATTER" "Ljava/util/function/BiFunction;" fv) (SD : Sta Z Z.heap "java/lang/StringUTF16" "$assertionsDisabled" "Z" (.int 1)) (SH : Sta Z Z.heap "java/lang/StringUTF16" "HI_BYTE_SHIFT" "I" (.int 0)) (SL : Sta Z Z.heap "java/lang/StringUTF16" "LO_BYTE_SHIFT" "I" (.int 8)) (i0 i1 i2 i3 i4 c0 c1 c2 c3 : Int32) (hc0 : own_ch c0) (hc1 : own_ch c1) (hc2 : own_ch c2) (hc3 : own_ch c3) : Run l Z x code maxLocals ret room_1 n0 (fun v h' => v = some (.int 1) ∧ True) h 0 0 33 [.val (.int i0), .val (.int i1), .val (.int i2), .val (.int i3), .val (.int i4), .val (.int 1), .val (.int c0), .val (.int c1), .val (.int c2), .val (.int c3), .unset, .unset] [] := by
  have hch : ∀ c ∈ [c0], own_ch c := by
    intro c hc
    simp only [List.mem_cons, List.not_mem_nil, or_false] at hc
    rcases hc with rfl <;> assumption
  refine r_iload 35 at_33 rfl rfl ?_
  refine r_if_ne 53 38 at_35 (by decide) rfl (fun q35 => ?_) (fun q35 => absurd q35 (by decide))
  refine r_iload 55 at_53 rfl rfl ?_
  refine r_iconst 1 56 at_55 rfl rfl ?_
  refine r_icmp_ne 79 59 at_56 (by decide) rfl (fun q56 => absurd q56 (by decide)) (fun q56 => ?_)
  refine r_new 62 at_59 rfl (hw _ (List.mem_of_getElem? (i := 7) rfl)) (hw _ (List.mem_of_getElem? (i := 8) rfl)) (hw _ (List.mem_of_getElem? (i := 9) rfl)) (Nat.le_of_ble_eq_true rfl) (Nat.le_of_ble_eq_true rfl) ?_
  intro h1 t ht E1 X1 D1
  have gt : n0 ≤ t := by rw [ht]; exact O.1 ▸ O.2.1
  replace O := O.ext E1
  have F1 := (D1 (Or.inr (hw _ (List.mem_of_getElem? (i := 23) rfl))) (ty := (.array .byte)) (by decide))
  have F2 := (D1 (Or.inr (hw _ (List.mem_of_getElem? (i := 24) rfl))) (ty := .byte) (by decide))
  refine r_dup 63 at_62 rfl rfl ?_
  refine r_iconst 1 64 at_63 rfl rfl ?_
  refine r_newarray 1 "[C" 66 at_64 rfl (hw _ (List.mem_of_getElem? (i := 10) rfl)) (by decide) (by decide) (by decide) rfl (Nat.le_of_ble_eq_true rfl) (Nat.le_of_ble_eq_true rfl) ?_
  intro h2 b cA hb E2 A1 Xb
  have gb : n0 ≤ b := by rw [hb]; exact O.1 ▸ O.2.1
  have bt : t ≠ b := own_ne X1.lt hb
  replace O := O.ext E2
  replace X1 := X1.ext E2
  replace F1 := F1.ext E2
  replace F2 := F2.ext E2
  replace A1 : Arv Z _ b cA .char 1 (List.replicate 1 (.int 0)) (.int 0) := A1
  refine r_dup 67 at_66 rfl rfl ?_
  refine r_iconst 0 68 at_67 rfl rfl ?_
  refine r_iload 70 at_68 rfl rfl ?_
  refine r_castore 0 71 at_70 rfl A1 (by decide) (by decide) (by decide) (by simp) gb ?_
  intro h' W1 A1
  rw [own_narc hc0] at A1
  replace O := O.wr W1 gb
  replace X1 := X1.wr W1
  replace F1 := F1.other W1 (Or.inl bt)
  replace F2 := F2.other W1 (Or.inl bt)
  clear W1
  replace A1 : Arv Z _ b cA .char (Int32.ofNat ([c0] : List Int32).length) (([c0] : List Int32).map Value.int) (.int 0) := A1
  refine r_special 74 at_71 rfl (rm_i1 l Z a0 hw _ n0 O cz SC hcz SD SH SL t F1 F2 X1 gt b cA [c0] (Nat.le_of_ble_eq_true rfl) (Nat.le_of_ble_eq_true rfl) hch A1) (as1 := [.ref b]) rfl rfl (hw _ (List.mem_of_getElem? (i := 11) rfl)) (hw _ (List.mem_of_getElem? (i := 12) rfl)) (hw _ (List.mem_of_getElem? (i := 9) rfl)) (hw _ (List.mem_of_getElem? (i := 13) rfl)) (by decide) (ps := [(.array .char)]) (r' := none) (by decide +kernel) rfl rfl rfl (Nat.le_of_ble_eq_true rfl) (Nat.le_of_ble_eq_true rfl) (Nat.le_of_ble_eq_true rfl) (Nat.le_of_ble_eq_true rfl) ?_
  rintro v h3 ⟨rfl, K3, FS⟩
  replace O := O.keep K3 (allS gt all0)
  show Run _ _ _ _ _ _ _ _ _ _ _ _ _ _ [.ref t]
  refine r_astore 76 at_74 rfl rfl ?_
  refine r_goto 178 at_76 (by decide) ?_
  refine r_iload 180 at_178 rfl rfl ?_
  refine r_iconst 1 181 at_180 rfl rfl ?_
  refine r_icmp_lt 192 184 at_181 (by decide) rfl (fun q181 => absurd q181 (by decide)) (fun q181 => ?_)
  refine r_iload 186 at_184 rfl rfl ?_
  refine r_static 189 at_186 rfl (rm_ws l Z a0 hw _ n0 c0) (hw _ (List.mem_of_getElem? (i := 54) rfl)) (hw _ (List.mem_of_getElem? (i := 55) rfl)) (hw _ (List.mem_of_getElem? (i := 3) rfl)) (hw _ (List.mem_of_getElem? (i := 56) rfl)) (by decide) (ps := [.char]) (r' := (some .boolean)) (by decide +kernel) rfl rfl rfl (Nat.le_of_ble_eq_true rfl) (Nat.le_of_ble_eq_true rfl) (Nat.le_of_ble_eq_true rfl) (Nat.le_of_ble_eq_true rfl) ?_
  rintro v h' ⟨rfl, rfl⟩
  show Run _ _ _ _ _ _ _ _ _ _ _ _ _ _ [.int (own_ws c0)]
  refine r_if_eq 238 192 at_189 (by decide) rfl (fun q189 => ?_) (fun q189 => ?_)
  · refine r_iconst 0 239 at_238 rfl rfl ?_
    refine r_istore 241 at_239 rfl rfl ?_
    refine r_aload 243 at_241 rfl rfl ?_
    refine r_static 246 at_243 rfl (rm_iss l Z a0 hw _ n0 O cz SC hcz fv hf SF SD SH SL t [c0] (Nat.le_of_ble_eq_true rfl) hch FS) (hw _ (List.mem_of_getElem? (i := 29) rfl)) (hw _ (List.mem_of_getElem? (i := 30) rfl)) (hw _ (List.mem_of_getElem? (i := 31) rfl)) (hw _ (List.mem_of_getElem? (i := 32) rfl)) (by decide) (ps := [(.object "java/lang/String")]) (r' := (some .boolean)) (by decide +kernel) rfl rfl rfl (Nat.le_of_ble_eq_true rfl) (Nat.le_of_ble_eq_true rfl) (Nat.le_of_ble_eq_true rfl) (Nat.le_of_ble_eq_true rfl) ?_
    rintro v h' ⟨rfl, rfl⟩
    show Run _ _ _ _ _ _ _ _ _ _ _ _ _ _ [.int (own_all [c0])]
    refine r_iload 248 at_246 rfl rfl ?_
    refine r_icmp_ne 255 251 at_248 (by decide) rfl (fun q248 => absurd (by simp [own_all, q189]) q248) (fun q248 => ?_)
    refine r_iconst 1 252 at_251 rfl rfl ?_
    refine r_goto 256 at_252 (by decide) ?_
    exact r_retN _ at_256 rfl (by simp) rfl (Nat.le_of_ble_eq_true rfl) (Nat.le_of_ble_eq_true rfl) (⟨rfl, trivial⟩)
  · refine r_iload 194 at_192 rfl rfl ?_
    refine r_iconst 2 195 at_194 rfl rfl ?_
    refine r_icmp_lt 206 198 at_195 (by decide) rfl (fun q195 => ?_) (fun q195 => absurd q195 (by decide))
    refine r_iload 208 at_206 rfl rfl ?_
    refine r_iconst 3 209 at_208 rfl rfl ?_
    refine r_icmp_lt 220 212 at_209 (by decide) rfl (fun q209 => ?_) (fun q209 => absurd q209 (by decide))
    refine r_iload 222 at_220 rfl rfl ?_
    refine r_iconst 4 223 at_222 rfl rfl ?_
    refine r_icmp_lt 234 226 at_223 (by decide) rfl (fun q223 => ?_) (fun q223 => absurd q223 (by decide))
    refine r_iconst 1 235 at_234 rfl rfl ?_
    refine r_goto 239 at_235 (by decide) ?_
    refine r_istore 241 at_239 rfl rfl ?_
    refine r_aload 243 at_241 rfl rfl ?_
    refine r_static 246 at_243 rfl (rm_iss l Z a0 hw _ n0 O cz SC hcz fv hf SF SD SH SL t [c0] (Nat.le_of_ble_eq_true rfl) hch FS) (hw _ (List.mem_of_getElem? (i := 29) rfl)) (hw _ (List.mem_of_getElem? (i := 30) rfl)) (hw _ (List.mem_of_getElem? (i := 31) rfl)) (hw _ (List.mem_of_getElem? (i := 32) rfl)) (by decide) (ps := [(.object "java/lang/String")]) (r' := (some .boolean)) (by decide +kernel) rfl rfl rfl (Nat.le_of_ble_eq_true rfl) (Nat.le_of_ble_eq_true rfl) (Nat.le_of_ble_eq_true rfl) (Nat.le_of_ble_eq_true rfl) ?_
    rintro v h' ⟨rfl, rfl⟩
    show Run _ _ _ _ _ _ _ _ _ _ _ _ _ _ [.int (own_all [c0])]
    refine r_iload 248 at_246 rfl rfl ?_
    refine r_icmp_ne 255 251 at_248 (by decide) rfl (fun q248 => absurd (by simp [own_all, q189]) q248) (fun q248 => ?_)
    refine r_iconst 1 252 at_251 rfl rfl ?_
    refine r_goto 256 at_252 (by decide) ?_
    exact r_retN _ at_256 rfl (by simp) rfl (Nat.le_of_ble_eq_true rfl) (Nat.le_of_ble_eq_true rfl) (⟨rfl, trivial⟩)
set_option maxRecDepth 65536 in
set_option maxHeartbeats 40000000 in
theorem run_33_2 (l : Launch) (Z : State) (a0 : Array Value) (hw : ∀ d ∈ tables_1, d.before a0 Z = true) (h : Heap) (n0 : Nat) (O : Old Z n0 h) (cz : Int32) (SC : Sta Z Z.heap "java/lang/String" "COMPACT_STRINGS" "Z" (.int cz)) (hcz : ¬ cz = 0) (fv : Value) (hf : fv.isRef = true) (SF : Sta Z Z.heap "jdk/internal/util/Preconditions" "SIOOBE_FORMATTER" "Ljava/util/function/BiFunction;" fv) (SD : Sta Z Z.heap "java/lang/StringUTF16" "$assertionsDisabled" "Z" (.int 1)) (SH : Sta Z Z.heap "java/lang/StringUTF16" "HI_BYTE_SHIFT" "I" (.int 0)) (SL : Sta Z Z.heap "java/lang/StringUTF16" "LO_BYTE_SHIFT" "I" (.int 8)) (i0 i1 i2 i3 i4 c0 c1 c2 c3 : Int32) (hc0 : own_ch c0) (hc1 : own_ch c1) (hc2 : own_ch c2) (hc3 : own_ch c3) : Run l Z x code maxLocals ret room_1 n0 (fun v h' => v = some (.int 1) ∧ True) h 0 0 33 [.val (.int i0), .val (.int i1), .val (.int i2), .val (.int i3), .val (.int i4), .val (.int 2), .val (.int c0), .val (.int c1), .val (.int c2), .val (.int c3), .unset, .unset] [] := by
  have hch : ∀ c ∈ [c0, c1], own_ch c := by
    intro c hc
    simp only [List.mem_cons, List.not_mem_nil, or_false] at hc
    rcases hc with rfl | rfl <;> assumption
  refine r_iload 35 at_33 rfl rfl ?_
  refine r_if_ne 53 38 at_35 (by decide) rfl (fun q35 => ?_) (fun q35 => absurd q35 (by decide))
  refine r_iload 55 at_53 rfl rfl ?_
  refine r_iconst 1 56 at_55 rfl rfl ?_
  refine r_icmp_ne 79 59 at_56 (by decide) rfl (fun q56 => ?_) (fun q56 => absurd q56 (by decide))
  refine r_iload 81 at_79 rfl rfl ?_
  refine r_iconst 2 82 at_81 rfl rfl ?_
  refine r_icmp_ne 110 85 at_82 (by decide) rfl (fun q82 => absurd q82 (by decide)) (fun q82 => ?_)
  refine r_new 88 at_85 rfl (hw _ (List.mem_of_getElem? (i := 7) rfl)) (hw _ (List.mem_of_getElem? (i := 8) rfl)) (hw _ (List.mem_of_getElem? (i := 9) rfl)) (Nat.le_of_ble_eq_true rfl) (Nat.le_of_ble_eq_true rfl) ?_
  intro h1 t ht E1 X1 D1
  have gt : n0 ≤ t := by rw [ht]; exact O.1 ▸ O.2.1
  replace O := O.ext E1
  have F1 := (D1 (Or.inr (hw _ (List.mem_of_getElem? (i := 23) rfl))) (ty := (.array .byte)) (by decide))
  have F2 := (D1 (Or.inr (hw _ (List.mem_of_getElem? (i := 24) rfl))) (ty := .byte) (by decide))
  refine r_dup 89 at_88 rfl rfl ?_
  refine r_iconst 2 90 at_89 rfl rfl ?_
  refine r_newarray 2 "[C" 92 at_90 rfl (hw _ (List.mem_of_getElem? (i := 10) rfl)) (by decide) (by decide) (by decide) rfl (Nat.le_of_ble_eq_true rfl) (Nat.le_of_ble_eq_true rfl) ?_
  intro h2 b cA hb E2 A1 Xb
  have gb : n0 ≤ b := by rw [hb]; exact O.1 ▸ O.2.1
  have bt : t ≠ b := own_ne X1.lt hb
  replace O := O.ext E2
  replace X1 := X1.ext E2
  replace F1 := F1.ext E2
  replace F2 := F2.ext E2
  replace A1 : Arv Z _ b cA .char 2 (List.replicate 2 (.int 0)) (.int 0) := A1
  refine r_dup 93 at_92 rfl rfl ?_
  refine r_iconst 0 94 at_93 rfl rfl ?_
  refine r_iload 96 at_94 rfl rfl ?_
  refine r_castore 0 97 at_96 rfl A1 (by decide) (by decide) (by decide) (by simp) gb ?_
  intro h' W1 A1
  rw [own_narc hc0] at A1
  replace O := O.wr W1 gb
  replace X1 := X1.wr W1
  replace F1 := F1.other W1 (Or.inl bt)
  replace F2 := F2.other W1 (Or.inl bt)
  clear W1
  refine r_dup 98 at_97 rfl rfl ?_
  refine r_iconst 1 99 at_98 rfl rfl ?_
  refine r_iload 101 at_99 rfl rfl ?_
  refine r_castore 1 102 at_101 rfl A1 (by decide) (by decide) (by decide) (by simp) gb ?_
  intro h' W1 A1
  rw [own_narc hc1] at A1
  replace O := O.wr W1 gb
  replace X1 := X1.wr W1
  replace F1 := F1.other W1 (Or.inl bt)
  replace F2 := F2.other W1 (Or.inl bt)
  clear W1
  replace A1 : Arv Z _ b cA .char (Int32.ofNat ([c0, c1] : List Int32).length) (([c0, c1] : List Int32).map Value.int) (.int 0) := A1
  refine r_special 105 at_102 rfl (rm_i1 l Z a0 hw _ n0 O cz SC hcz SD SH SL t F1 F2 X1 gt b cA [c0, c1] (Nat.le_of_ble_eq_true rfl) (Nat.le_of_ble_eq_true rfl) hch A1) (as1 := [.ref b]) rfl rfl (hw _ (List.mem_of_getElem? (i := 11) rfl)) (hw _ (List.mem_of_getElem? (i := 12) rfl)) (hw _ (List.mem_of_getElem? (i := 9) rfl)) (hw _ (List.mem_of_getElem? (i := 13) rfl)) (by decide) (ps := [(.array .char)]) (r' := none) (by decide +kernel) rfl rfl rfl (Nat.le_of_ble_eq_true rfl) (Nat.le_of_ble_eq_true rfl) (Nat.le_of_ble_eq_true rfl) (Nat.le_of_ble_eq_true rfl) ?_
  rintro v h3 ⟨rfl, K3, FS⟩
  replace O := O.keep K3 (allS gt all0)
  show Run _ _ _ _ _ _ _ _ _ _ _ _ _ _ [.ref t]
  refine r_astore 107 at_105 rfl rfl ?_
  refine r_goto 178 at_107 (by decide) ?_
  refine r_iload 180 at_178 rfl rfl ?_
  refine r_iconst 1 181 at_180 rfl rfl ?_
  refine r_icmp_lt 192 184 at_181 (by decide) rfl (fun q181 => absurd q181 (by decide)) (fun q181 => ?_)
  refine r_iload 186 at_184 rfl rfl ?_
  refine r_static 189 at_186 rfl (rm_ws l Z a0 hw _ n0 c0) (hw _ (List.mem_of_getElem? (i := 54) rfl)) (hw _ (List.mem_of_getElem? (i := 55) rfl)) (hw _ (List.mem_of_getElem? (i := 3) rfl)) (hw _ (List.mem_of_getElem? (i := 56) rfl)) (by decide) (ps := [.char]) (r' := (some .boolean)) (by decide +kernel) rfl rfl rfl (Nat.le_of_ble_eq_true rfl) (Nat.le_of_ble_eq_true rfl) (Nat.le_of_ble_eq_true rfl) (Nat.le_of_ble_eq_true rfl) ?_
  rintro v h' ⟨rfl, rfl⟩
  show Run _ _ _ _ _ _ _ _ _ _ _ _ _ _ [.int (own_ws c0)]
  refine r_if_eq 238 192 at_189 (by decide) rfl (fun q189 => ?_) (fun q189 => ?_)
  · refine r_iconst 0 239 at_238 rfl rfl ?_
    refine r_istore 241 at_239 rfl rfl ?_
    refine r_aload 243 at_241 rfl rfl ?_
    refine r_static 246 at_243 rfl (rm_iss l Z a0 hw _ n0 O cz SC hcz fv hf SF SD SH SL t [c0, c1] (Nat.le_of_ble_eq_true rfl) hch FS) (hw _ (List.mem_of_getElem? (i := 29) rfl)) (hw _ (List.mem_of_getElem? (i := 30) rfl)) (hw _ (List.mem_of_getElem? (i := 31) rfl)) (hw _ (List.mem_of_getElem? (i := 32) rfl)) (by decide) (ps := [(.object "java/lang/String")]) (r' := (some .boolean)) (by decide +kernel) rfl rfl rfl (Nat.le_of_ble_eq_true rfl) (Nat.le_of_ble_eq_true rfl) (Nat.le_of_ble_eq_true rfl) (Nat.le_of_ble_eq_true rfl) ?_
    rintro v h' ⟨rfl, rfl⟩
    show Run _ _ _ _ _ _ _ _ _ _ _ _ _ _ [.int (own_all [c0, c1])]
    refine r_iload 248 at_246 rfl rfl ?_
    refine r_icmp_ne 255 251 at_248 (by decide) rfl (fun q248 => absurd (by simp [own_all, q189]) q248) (fun q248 => ?_)
    refine r_iconst 1 252 at_251 rfl rfl ?_
    refine r_goto 256 at_252 (by decide) ?_
    exact r_retN _ at_256 rfl (by simp) rfl (Nat.le_of_ble_eq_true rfl) (Nat.le_of_ble_eq_true rfl) (⟨rfl, trivial⟩)
  · refine r_iload 194 at_192 rfl rfl ?_
    refine r_iconst 2 195 at_194 rfl rfl ?_
    refine r_icmp_lt 206 198 at_195 (by decide) rfl (fun q195 => absurd q195 (by decide)) (fun q195 => ?_)
    refine r_iload 200 at_198 rfl rfl ?_
    refine r_static 203 at_200 rfl (rm_ws l Z a0 hw _ n0 c1) (hw _ (List.mem_of_getElem? (i := 54) rfl)) (hw _ (List.mem_of_getElem? (i := 55) rfl)) (hw _ (List.mem_of_getElem? (i := 3) rfl)) (hw _ (List.mem_of_getElem? (i := 56) rfl)) (by decide) (ps := [.char]) (r' := (some .boolean)) (by decide +kernel) rfl rfl rfl (Nat.le_of_ble_eq_true rfl) (Nat.le_of_ble_eq_true rfl) (Nat.le_of_ble_eq_true rfl) (Nat.le_of_ble_eq_true rfl) ?_
    rintro v h' ⟨rfl, rfl⟩
    show Run _ _ _ _ _ _ _ _ _ _ _ _ _ _ [.int (own_ws c1)]
    refine r_if_eq 238 206 at_203 (by decide) rfl (fun q203 => ?_) (fun q203 => ?_)
    · refine r_iconst 0 239 at_238 rfl rfl ?_
      refine r_istore 241 at_239 rfl rfl ?_
      refine r_aload 243 at_241 rfl rfl ?_
      refine r_static 246 at_243 rfl (rm_iss l Z a0 hw _ n0 O cz SC hcz fv hf SF SD SH SL t [c0, c1] (Nat.le_of_ble_eq_true rfl) hch FS) (hw _ (List.mem_of_getElem? (i := 29) rfl)) (hw _ (List.mem_of_getElem? (i := 30) rfl)) (hw _ (List.mem_of_getElem? (i := 31) rfl)) (hw _ (List.mem_of_getElem? (i := 32) rfl)) (by decide) (ps := [(.object "java/lang/String")]) (r' := (some .boolean)) (by decide +kernel) rfl rfl rfl (Nat.le_of_ble_eq_true rfl) (Nat.le_of_ble_eq_true rfl) (Nat.le_of_ble_eq_true rfl) (Nat.le_of_ble_eq_true rfl) ?_
      rintro v h' ⟨rfl, rfl⟩
      show Run _ _ _ _ _ _ _ _ _ _ _ _ _ _ [.int (own_all [c0, c1])]
      refine r_iload 248 at_246 rfl rfl ?_
      refine r_icmp_ne 255 251 at_248 (by decide) rfl (fun q248 => absurd (by simp [own_all, q189, q203]) q248) (fun q248 => ?_)
      refine r_iconst 1 252 at_251 rfl rfl ?_
      refine r_goto 256 at_252 (by decide) ?_
      exact r_retN _ at_256 rfl (by simp) rfl (Nat.le_of_ble_eq_true rfl) (Nat.le_of_ble_eq_true rfl) (⟨rfl, trivial⟩)
    · refine r_iload 208 at_206 rfl rfl ?_
      refine r_iconst 3 209 at_208 rfl rfl ?_
      refine r_icmp_lt 220 212 at_209 (by decide) rfl (fun q209 => ?_) (fun q209 => absurd q209 (by decide))
      refine r_iload 222 at_220 rfl rfl ?_
      refine r_iconst 4 223 at_222 rfl rfl ?_
      refine r_icmp_lt 234 226 at_223 (by decide) rfl (fun q223 => ?_) (fun q223 => absurd q223 (by decide))
      refine r_iconst 1 235 at_234 rfl rfl ?_
      refine r_goto 239 at_235 (by decide) ?_
      refine r_istore 241 at_239 rfl rfl ?_
      refine r_aload 243 at_241 rfl rfl ?_
      refine r_static 246 at_243 rfl (rm_iss l Z a0 hw _ n0 O cz SC hcz fv hf SF SD SH SL t [c0, c1] (Nat.le_of_ble_eq_true rfl) hch FS) (hw _ (List.mem_of_getElem? (i := 29) rfl)) (hw _ (List.mem_of_getElem? (i := 30) rfl)) (hw _ (List.mem_of_getElem? (i := 31) rfl)) (hw _ (List.mem_of_getElem? (i := 32) rfl)) (by decide) (ps := [(.object "java/lang/String")]) (r' := (some .boolean)) (by decide +kernel) rfl rfl rfl (Nat.le_of_ble_eq_true rfl) (Nat.le_of_ble_eq_true rfl) (Nat.le_of_ble_eq_true rfl) (Nat.le_of_ble_eq_true rfl) ?_
      rintro v h' ⟨rfl, rfl⟩
      show Run _ _ _ _ _ _ _ _ _ _ _ _ _ _ [.int (own_all [c0, c1])]
      refine r_iload 248 at_246 rfl rfl ?_
      refine r_icmp_ne 255 251 at_248 (by decide) rfl (fun q248 => absurd (by simp [own_all, q189, q203]) q248) (fun q248 => ?_)
      refine r_iconst 1 252 at_251 rfl rfl ?_
      refine r_goto 256 at_252 (by decide) ?_
      exact r_retN _ at_256 rfl (by simp) rfl (Nat.le_of_ble_eq_true rfl) (Nat.le_of_ble_eq_true rfl) (⟨rfl, trivial⟩)
set_option maxRecDepth 65536 in
set_option maxHeartbeats 40000000 in
theorem run_33_3 (l : Launch) (Z : State) (a0 : Array Value) (hw : ∀ d ∈ tables_1, d.before a0 Z = true) (h : Heap) (n0 : Nat) (O : Old Z n0 h) (cz : Int32) (SC : Sta Z Z.heap "java/lang/String" "COMPACT_STRINGS" "Z" (.int cz)) (hcz : ¬ cz = 0) (fv : Value) (hf : fv.isRef = true) (SF : Sta Z Z.heap "jdk/internal/util/Preconditions" "SIOOBE_FORMATTER" "Ljava/util/function/BiFunction;" fv) (SD : Sta Z Z.heap "java/lang/StringUTF16" "$assertionsDisabled" "Z" (.int 1)) (SH : Sta Z Z.heap "java/lang/StringUTF16" "HI_BYTE_SHIFT" "I" (.int 0)) (SL : Sta Z Z.heap "java/lang/StringUTF16" "LO_BYTE_SHIFT" "I" (.int 8)) (i0 i1 i2 i3 i4 c0 c1 c2 c3 : Int32) (hc0 : own_ch c0) (hc1 : own_ch c1) (hc2 : own_ch c2) (hc3 : own_ch c3) : Run l Z x code maxLocals ret room_1 n0 (fun v h' => v = some (.int 1) ∧ True) h 0 0 33 [.val (.int i0), .val (.int i1), .val (.int i2), .val (.int i3), .val (.int i4), .val (.int 3), .val (.int c0), .val (.int c1), .val (.int c2), .val (.int c3), .unset, .unset] [] := by
  have hch : ∀ c ∈ [c0, c1, c2], own_ch c := by
    intro c hc
    simp only [List.mem_cons, List.not_mem_nil, or_false] at hc
    rcases hc with rfl | rfl | rfl <;> assumption
  refine r_iload 35 at_33 rfl rfl ?_
  refine r_if_ne 53 38 at_35 (by decide) rfl (fun q35 => ?_) (fun q35 => absurd q35 (by decide))
  refine r_iload 55 at_53 rfl rfl ?_
  refine r_iconst 1 56 at_55 rfl rfl ?_
  refine r_icmp_ne 79 59 at_56 (by decide) rfl (fun q56 => ?_) (fun q56 => absurd q56 (by decide))
  refine r_iload 81 at_79 rfl rfl ?_
  refine r_iconst 2 82 at_81 rfl rfl ?_
  refine r_icmp_ne 110 85 at_82 (by decide) rfl (fun q82 => ?_) (fun q82 => absurd q82 (by decide))
  refine r_iload 112 at_110 rfl rfl ?_
  refine r_iconst 3 113 at_112 rfl rfl ?_
  refine r_icmp_ne 146 116 at_113 (by decide) rfl (fun q113 => absurd q113 (by decide)) (fun q113 => ?_)
  refine r_new 119 at_116 rfl (hw _ (List.mem_of_getElem? (i := 7) rfl)) (hw _ (List.mem_of_getElem? (i := 8) rfl)) (hw _ (List.mem_of_getElem? (i := 9) rfl)) (Nat.le_of_ble_eq_true rfl) (Nat.le_of_ble_eq_true rfl) ?_
  intro h1 t ht E1 X1 D1
  have gt : n0 ≤ t := by rw [ht]; exact O.1 ▸ O.2.1
  replace O := O.ext E1
  have F1 := (D1 (Or.inr (hw _ (List.mem_of_getElem? (i := 23) rfl))) (ty := (.array .byte)) (by decide))
  have F2 := (D1 (Or.inr (hw _ (List.mem_of_getElem? (i := 24) rfl))) (ty := .byte) (by decide))
  refine r_dup 120 at_119 rfl rfl ?_
  refine r_iconst 3 121 at_120 rfl rfl ?_
  refine r_newarray 3 "[C" 123 at_121 rfl (hw _ (List.mem_of_getElem? (i := 10) rfl)) (by decide) (by decide) (by decide) rfl (Nat.le_of_ble_eq_true rfl) (Nat.le_of_ble_eq_true rfl) ?_
  intro h2 b cA hb E2 A1 Xb
  have gb : n0 ≤ b := by rw [hb]; exact O.1 ▸ O.2.1
  have bt : t ≠ b := own_ne X1.lt hb
  replace O := O.ext E2
  replace X1 := X1.ext E2
  replace F1 := F1.ext E2
  replace F2 := F2.ext E2
  replace A1 : Arv Z _ b cA .char 3 (List.replicate 3 (.int 0)) (.int 0) := A1
  refine r_dup 124 at_123 rfl rfl ?_
  refine r_iconst 0 125 at_124 rfl rfl ?_
  refine r_iload 127 at_125 rfl rfl ?_
  refine r_castore 0 128 at_127 rfl A1 (by decide) (by decide) (by decide) (by simp) gb ?_
  intro h' W1 A1
  rw [own_narc hc0] at A1
  replace O := O.wr W1 gb
  replace X1 := X1.wr W1
  replace F1 := F1.other W1 (Or.inl bt)
  replace F2 := F2.other W1 (Or.inl bt)
  clear W1
  refine r_dup 129 at_128 rfl rfl ?_
  refine r_iconst 1 130 at_129 rfl rfl ?_
  refine r_iload 132 at_130 rfl rfl ?_
  refine r_castore 1 133 at_132 rfl A1 (by decide) (by decide) (by decide) (by simp) gb ?_
  intro h' W1 A1
  rw [own_narc hc1] at A1
  replace O := O.wr W1 gb
  replace X1 := X1.wr W1
  replace F1 := F1.other W1 (Or.inl bt)
  replace F2 := F2.other W1 (Or.inl bt)
  clear W1
  refine r_dup 134 at_133 rfl rfl ?_
  refine r_iconst 2 135 at_134 rfl rfl ?_
  refine r_iload 137 at_135 rfl rfl ?_
  refine r_castore 2 138 at_137 rfl A1 (by decide) (by decide) (by decide) (by simp) gb ?_
  intro h' W1 A1
  rw [own_narc hc2] at A1
  replace O := O.wr W1 gb
  replace X1 := X1.wr W1
  replace F1 := F1.other W1 (Or.inl bt)
  replace F2 := F2.other W1 (Or.inl bt)
  clear W1
  replace A1 : Arv Z _ b cA .char (Int32.ofNat ([c0, c1, c2] : List Int32).length) (([c0, c1, c2] : List Int32).map Value.int) (.int 0) := A1
  refine r_special 141 at_138 rfl (rm_i1 l Z a0 hw _ n0 O cz SC hcz SD SH SL t F1 F2 X1 gt b cA [c0, c1, c2] (Nat.le_of_ble_eq_true rfl) (Nat.le_of_ble_eq_true rfl) hch A1) (as1 := [.ref b]) rfl rfl (hw _ (List.mem_of_getElem? (i := 11) rfl)) (hw _ (List.mem_of_getElem? (i := 12) rfl)) (hw _ (List.mem_of_getElem? (i := 9) rfl)) (hw _ (List.mem_of_getElem? (i := 13) rfl)) (by decide) (ps := [(.array .char)]) (r' := none) (by decide +kernel) rfl rfl rfl (Nat.le_of_ble_eq_true rfl) (Nat.le_of_ble_eq_true rfl) (Nat.le_of_ble_eq_true rfl) (Nat.le_of_ble_eq_true rfl) ?_
  rintro v h3 ⟨rfl, K3, FS⟩
  replace O := O.keep K3 (allS gt all0)
  show Run _ _ _ _ _ _ _ _ _ _ _ _ _ _ [.ref t]
  refine r_astore 143 at_141 rfl rfl ?_
  refine r_goto 178 at_143 (by decide) ?_
  refine r_iload 180 at_178 rfl rfl ?_
  refine r_iconst 1 181 at_180 rfl rfl ?_
  refine r_icmp_lt 192 184 at_181 (by decide) rfl (fun q181 => absurd q181 (by decide)) (fun q181 => ?_)
  refine r_iload 186 at_184 rfl rfl ?_
  refine r_static 189 at_186 rfl (rm_ws l Z a0 hw _ n0 c0) (hw _ (List.mem_of_getElem? (i := 54) rfl)) (hw _ (List.mem_of_getElem? (i := 55) rfl)) (hw _ (List.mem_of_getElem? (i := 3) rfl)) (hw _ (List.mem_of_getElem? (i := 56) rfl)) (by decide) (ps := [.char]) (r' := (some .boolean)) (by decide +kernel) rfl rfl rfl (Nat.le_of_ble_eq_true rfl) (Nat.le_of_ble_eq_true rfl) (Nat.le_of_ble_eq_true rfl) (Nat.le_of_ble_eq_true rfl) ?_
  rintro v h' ⟨rfl, rfl⟩
  show Run _ _ _ _ _ _ _ _ _ _ _ _ _ _ [.int (own_ws c0)]
  refine r_if_eq 238 192 at_189 (by decide) rfl (fun q189 => ?_) (fun q189 => ?_)
  · refine r_iconst 0 239 at_238 rfl rfl ?_
    refine r_istore 241 at_239 rfl rfl ?_
    refine r_aload 243 at_241 rfl rfl ?_
    refine r_static 246 at_243 rfl (rm_iss l Z a0 hw _ n0 O cz SC hcz fv hf SF SD SH SL t [c0, c1, c2] (Nat.le_of_ble_eq_true rfl) hch FS) (hw _ (List.mem_of_getElem? (i := 29) rfl)) (hw _ (List.mem_of_getElem? (i := 30) rfl)) (hw _ (List.mem_of_getElem? (i := 31) rfl)) (hw _ (List.mem_of_getElem? (i := 32) rfl)) (by decide) (ps := [(.object "java/lang/String")]) (r' := (some .boolean)) (by decide +kernel) rfl rfl rfl (Nat.le_of_ble_eq_true rfl) (Nat.le_of_ble_eq_true rfl) (Nat.le_of_ble_eq_true rfl) (Nat.le_of_ble_eq_true rfl) ?_
    rintro v h' ⟨rfl, rfl⟩
    show Run _ _ _ _ _ _ _ _ _ _ _ _ _ _ [.int (own_all [c0, c1, c2])]
    refine r_iload 248 at_246 rfl rfl ?_
    refine r_icmp_ne 255 251 at_248 (by decide) rfl (fun q248 => absurd (by simp [own_all, q189]) q248) (fun q248 => ?_)
    refine r_iconst 1 252 at_251 rfl rfl ?_
    refine r_goto 256 at_252 (by decide) ?_
    exact r_retN _ at_256 rfl (by simp) rfl (Nat.le_of_ble_eq_true rfl) (Nat.le_of_ble_eq_true rfl) (⟨rfl, trivial⟩)
  · refine r_iload 194 at_192 rfl rfl ?_
    refine r_iconst 2 195 at_194 rfl rfl ?_
    refine r_icmp_lt 206 198 at_195 (by decide) rfl (fun q195 => absurd q195 (by decide)) (fun q195 => ?_)
    refine r_iload 200 at_198 rfl rfl ?_
    refine r_static 203 at_200 rfl (rm_ws l Z a0 hw _ n0 c1) (hw _ (List.mem_of_getElem? (i := 54) rfl)) (hw _ (List.mem_of_getElem? (i := 55) rfl)) (hw _ (List.mem_of_getElem? (i := 3) rfl)) (hw _ (List.mem_of_getElem? (i := 56) rfl)) (by decide) (ps := [.char]) (r' := (some .boolean)) (by decide +kernel) rfl rfl rfl (Nat.le_of_ble_eq_true rfl) (Nat.le_of_ble_eq_true rfl) (Nat.le_of_ble_eq_true rfl) (Nat.le_of_ble_eq_true rfl) ?_
    rintro v h' ⟨rfl, rfl⟩
    show Run _ _ _ _ _ _ _ _ _ _ _ _ _ _ [.int (own_ws c1)]
    refine r_if_eq 238 206 at_203 (by decide) rfl (fun q203 => ?_) (fun q203 => ?_)
    · refine r_iconst 0 239 at_238 rfl rfl ?_
      refine r_istore 241 at_239 rfl rfl ?_
      refine r_aload 243 at_241 rfl rfl ?_
      refine r_static 246 at_243 rfl (rm_iss l Z a0 hw _ n0 O cz SC hcz fv hf SF SD SH SL t [c0, c1, c2] (Nat.le_of_ble_eq_true rfl) hch FS) (hw _ (List.mem_of_getElem? (i := 29) rfl)) (hw _ (List.mem_of_getElem? (i := 30) rfl)) (hw _ (List.mem_of_getElem? (i := 31) rfl)) (hw _ (List.mem_of_getElem? (i := 32) rfl)) (by decide) (ps := [(.object "java/lang/String")]) (r' := (some .boolean)) (by decide +kernel) rfl rfl rfl (Nat.le_of_ble_eq_true rfl) (Nat.le_of_ble_eq_true rfl) (Nat.le_of_ble_eq_true rfl) (Nat.le_of_ble_eq_true rfl) ?_
      rintro v h' ⟨rfl, rfl⟩
      show Run _ _ _ _ _ _ _ _ _ _ _ _ _ _ [.int (own_all [c0, c1, c2])]
      refine r_iload 248 at_246 rfl rfl ?_
      refine r_icmp_ne 255 251 at_248 (by decide) rfl (fun q248 => absurd (by simp [own_all, q189, q203]) q248) (fun q248 => ?_)
      refine r_iconst 1 252 at_251 rfl rfl ?_
      refine r_goto 256 at_252 (by decide) ?_
      exact r_retN _ at_256 rfl (by simp) rfl (Nat.le_of_ble_eq_true rfl) (Nat.le_of_ble_eq_true rfl) (⟨rfl, trivial⟩)
    · refine r_iload 208 at_206 rfl rfl ?_
      refine r_iconst 3 209 at_208 rfl rfl ?_
      refine r_icmp_lt 220 212 at_209 (by decide) rfl (fun q209 => absurd q209 (by decide)) (fun q209 => ?_)
      refine r_iload 214 at_212 rfl rfl ?_
      refine r_static 217 at_214 rfl (rm_ws l Z a0 hw _ n0 c2) (hw _ (List.mem_of_getElem? (i := 54) rfl)) (hw _ (List.mem_of_getElem? (i := 55) rfl)) (hw _ (List.mem_of_getElem? (i := 3) rfl)) (hw _ (List.mem_of_getElem? (i := 56) rfl)) (by decide) (ps := [.char]) (r' := (some .boolean)) (by decide +kernel) rfl rfl rfl (Nat.le_of_ble_eq_true rfl) (Nat.le_of_ble_eq_true rfl) (Nat.le_of_ble_eq_true rfl) (Nat.le_of_ble_eq_true rfl) ?_
      rintro v h' ⟨rfl, rfl⟩
      show Run _ _ _ _ _ _ _ _ _ _ _ _ _ _ [.int (own_ws c2)]
      refine r_if_eq 238 220 at_217 (by decide) rfl (fun q217 => ?_) (fun q217 => ?_)
      · refine r_iconst 0 239 at_238 rfl rfl ?_
        refine r_istore 241 at_239 rfl rfl ?_
        refine r_aload 243 at_241 rfl rfl ?_
        refine r_static 246 at_243 rfl (rm_iss l Z a0 hw _ n0 O cz SC hcz fv hf SF SD SH SL t [c0, c1, c2] (Nat.le_of_ble_eq_true rfl) hch FS) (hw _ (List.mem_of_getElem? (i := 29) rfl)) (hw _ (List.mem_of_getElem? (i := 30) rfl)) (hw _ (List.mem_of_getElem? (i := 31) rfl)) (hw _ (List.mem_of_getElem? (i := 32) rfl)) (by decide) (ps := [(.object "java/lang/String")]) (r' := (some .boolean)) (by decide +kernel) rfl rfl rfl (Nat.le_of_ble_eq_true rfl) (Nat.le_of_ble_eq_true rfl) (Nat.le_of_ble_eq_true rfl) (Nat.le_of_ble_eq_true rfl) ?_
        rintro v h' ⟨rfl, rfl⟩
        show Run _ _ _ _ _ _ _ _ _ _ _ _ _ _ [.int (own_all [c0, c1, c2])]
        refine r_iload 248 at_246 rfl rfl ?_
        refine r_icmp_ne 255 251 at_248 (by decide) rfl (fun q248 => absurd (by simp [own_all, q189, q203, q217]) q248) (fun q248 => ?_)
        refine r_iconst 1 252 at_251 rfl rfl ?_
        refine r_goto 256 at_252 (by decide) ?_
        exact r_retN _ at_256 rfl (by simp) rfl (Nat.le_of_ble_eq_true rfl) (Nat.le_of_ble_eq_true rfl) (⟨rfl, trivial⟩)
      · refine r_iload 222 at_220 rfl rfl ?_
        refine r_iconst 4 223 at_222 rfl rfl ?_
        refine r_icmp_lt 234 226 at_223 (by decide) rfl (fun q223 => ?_) (fun q223 => absurd q223 (by decide))
        refine r_iconst 1 235 at_234 rfl rfl ?_
        refine r_goto 239 at_235 (by decide) ?_
        refine r_istore 241 at_239 rfl rfl ?_
        refine r_aload 243 at_241 rfl rfl ?_
        refine r_static 246 at_243 rfl (rm_iss l Z a0 hw _ n0 O cz SC hcz fv hf SF SD SH SL t [c0, c1, c2] (Nat.le_of_ble_eq_true rfl) hch FS) (hw _ (List.mem_of_getElem? (i := 29) rfl)) (hw _ (List.mem_of_getElem? (i := 30) rfl)) (hw _ (List.mem_of_getElem? (i := 31) rfl)) (hw _ (List.mem_of_getElem? (i := 32) rfl)) (by decide) (ps := [(.object "java/lang/String")]) (r' := (some .boolean)) (by decide +kernel) rfl rfl rfl (Nat.le_of_ble_eq_true rfl) (Nat.le_of_ble_eq_true rfl) (Nat.le_of_ble_eq_true rfl) (Nat.le_of_ble_eq_true rfl) ?_
        rintro v h' ⟨rfl, rfl⟩
        show Run _ _ _ _ _ _ _ _ _ _ _ _ _ _ [.int (own_all [c0, c1, c2])]
        refine r_iload 248 at_246 rfl rfl ?_
        refine r_icmp_ne 255 251 at_248 (by decide) rfl (fun q248 => absurd (by simp [own_all, q189, q203, q217]) q248) (fun q248 => ?_)
        refine r_iconst 1 252 at_251 rfl rfl ?_
        refine r_goto 256 at_252 (by decide) ?_
        exact r_retN _ at_256 rfl (by simp) rfl (Nat.le_of_ble_eq_true rfl) (Nat.le_of_ble_eq_true rfl) (⟨rfl, trivial⟩)
set_option maxRecDepth 65536 in
set_option maxHeartbeats 40000000 in
theorem run_33_4 (l : Launch) (Z : State) (a0 : Array Value) (hw : ∀ d ∈ tables_1, d.before a0 Z = true) (h : Heap) (n0 : Nat) (O : Old Z n0 h) (cz : Int32) (SC : Sta Z Z.heap "java/lang/String" "COMPACT_STRINGS" "Z" (.int cz)) (hcz : ¬ cz = 0) (fv : Value) (hf : fv.isRef = true) (SF : Sta Z Z.heap "jdk/internal/util/Preconditions" "SIOOBE_FORMATTER" "Ljava/util/function/BiFunction;" fv) (SD : Sta Z Z.heap "java/lang/StringUTF16" "$assertionsDisabled" "Z" (.int 1)) (SH : Sta Z Z.heap "java/lang/StringUTF16" "HI_BYTE_SHIFT" "I" (.int 0)) (SL : Sta Z Z.heap "java/lang/StringUTF16" "LO_BYTE_SHIFT" "I" (.int 8)) (i0 i1 i2 i3 i4 c0 c1 c2 c3 : Int32) (hc0 : own_ch c0) (hc1 : own_ch c1) (hc2 : own_ch c2) (hc3 : own_ch c3) : Run l Z x code maxLocals ret room_1 n0 (fun v h' => v = some (.int 1) ∧ True) h 0 0 33 [.val (.int i0), .val (.int i1), .val (.int i2), .val (.int i3), .val (.int i4), .val (.int 4), .val (.int c0), .val (.int c1), .val (.int c2), .val (.int c3), .unset, .unset] [] := by
  have hch : ∀ c ∈ [c0, c1, c2, c3], own_ch c := by
    intro c hc
    simp only [List.mem_cons, List.not_mem_nil, or_false] at hc
    rcases hc with rfl | rfl | rfl | rfl <;> assumption
  refine r_iload 35 at_33 rfl rfl ?_
  refine r_if_ne 53 38 at_35 (by decide) rfl (fun q35 => ?_) (fun q35 => absurd q35 (by decide))
  refine r_iload 55 at_53 rfl rfl ?_
  refine r_iconst 1 56 at_55 rfl rfl ?_
  refine r_icmp_ne 79 59 at_56 (by decide) rfl (fun q56 => ?_) (fun q56 => absurd q56 (by decide))
  refine r_iload 81 at_79 rfl rfl ?_
  refine r_iconst 2 82 at_81 rfl rfl ?_
  refine r_icmp_ne 110 85 at_82 (by decide) rfl (fun q82 => ?_) (fun q82 => absurd q82 (by decide))
  refine r_iload 112 at_110 rfl rfl ?_
  refine r_iconst 3 113 at_112 rfl rfl ?_
  refine r_icmp_ne 146 116 at_113 (by decide) rfl (fun q113 => ?_) (fun q113 => absurd q113 (by decide))
  refine r_new 149 at_146 rfl (hw _ (List.mem_of_getElem? (i := 7) rfl)) (hw _ (List.mem_of_getElem? (i := 8) rfl)) (hw _ (List.mem_of_getElem? (i := 9) rfl)) (Nat.le_of_ble_eq_true rfl) (Nat.le_of_ble_eq_true rfl) ?_
  intro h1 t ht E1 X1 D1
  have gt : n0 ≤ t := by rw [ht]; exact O.1 ▸ O.2.1
  replace O := O.ext E1
  have F1 := (D1 (Or.inr (hw _ (List.mem_of_getElem? (i := 23) rfl))) (ty := (.array .byte)) (by decide))
  have F2 := (D1 (Or.inr (hw _ (List.mem_of_getElem? (i := 24) rfl))) (ty := .byte) (by decide))
  refine r_dup 150 at_149 rfl rfl ?_
  refine r_iconst 4 151 at_150 rfl rfl ?_
  refine r_newarray 4 "[C" 153 at_151 rfl (hw _ (List.mem_of_getElem? (i := 10) rfl)) (by decide) (by decide) (by decide) rfl (Nat.le_of_ble_eq_true rfl) (Nat.le_of_ble_eq_true rfl) ?_
  intro h2 b cA hb E2 A1 Xb
  have gb : n0 ≤ b := by rw [hb]; exact O.1 ▸ O.2.1
  have bt : t ≠ b := own_ne X1.lt hb
  replace O := O.ext E2
  replace X1 := X1.ext E2
  replace F1 := F1.ext E2
  replace F2 := F2.ext E2
  replace A1 : Arv Z _ b cA .char 4 (List.replicate 4 (.int 0)) (.int 0) := A1
  refine r_dup 154 at_153 rfl rfl ?_
  refine r_iconst 0 155 at_154 rfl rfl ?_
  refine r_iload 157 at_155 rfl rfl ?_
  refine r_castore 0 158 at_157 rfl A1 (by decide) (by decide) (by decide) (by simp) gb ?_
  intro h' W1 A1
  rw [own_narc hc0] at A1
  replace O := O.wr W1 gb
  replace X1 := X1.wr W1
  replace F1 := F1.other W1 (Or.inl bt)
  replace F2 := F2.other W1 (Or.inl bt)
  clear W1
  refine r_dup 159 at_158 rfl rfl ?_
  refine r_iconst 1 160 at_159 rfl rfl ?_
  refine r_iload 162 at_160 rfl rfl ?_
  refine r_castore 1 163 at_162 rfl A1 (by decide) (by decide) (by decide) (by simp) gb ?_
  intro h' W1 A1
  rw [own_narc hc1] at A1
  replace O := O.wr W1 gb
  replace X1 := X1.wr W1
  replace F1 := F1.other W1 (Or.inl bt)
  replace F2 := F2.other W1 (Or.inl bt)
  clear W1
  refine r_dup 164 at_163 rfl rfl ?_
  refine r_iconst 2 165 at_164 rfl rfl ?_
  refine r_iload 167 at_165 rfl rfl ?_
  refine r_castore 2 168 at_167 rfl A1 (by decide) (by decide) (by decide) (by simp) gb ?_
  intro h' W1 A1
  rw [own_narc hc2] at A1
  replace O := O.wr W1 gb
  replace X1 := X1.wr W1
  replace F1 := F1.other W1 (Or.inl bt)
  replace F2 := F2.other W1 (Or.inl bt)
  clear W1
  refine r_dup 169 at_168 rfl rfl ?_
  refine r_iconst 3 170 at_169 rfl rfl ?_
  refine r_iload 172 at_170 rfl rfl ?_
  refine r_castore 3 173 at_172 rfl A1 (by decide) (by decide) (by decide) (by simp) gb ?_
  intro h' W1 A1
  rw [own_narc hc3] at A1
  replace O := O.wr W1 gb
  replace X1 := X1.wr W1
  replace F1 := F1.other W1 (Or.inl bt)
  replace F2 := F2.other W1 (Or.inl bt)
  clear W1
  replace A1 : Arv Z _ b cA .char (Int32.ofNat ([c0, c1, c2, c3] : List Int32).length) (([c0, c1, c2, c3] : List Int32).map Value.int) (.int 0) := A1
  refine r_special 176 at_173 rfl (rm_i1 l Z a0 hw _ n0 O cz SC hcz SD SH SL t F1 F2 X1 gt b cA [c0, c1, c2, c3] (Nat.le_of_ble_eq_true rfl) (Nat.le_of_ble_eq_true rfl) hch A1) (as1 := [.ref b]) rfl rfl (hw _ (List.mem_of_getElem? (i := 11) rfl)) (hw _ (List.mem_of_getElem? (i := 12) rfl)) (hw _ (List.mem_of_getElem? (i := 9) rfl)) (hw _ (List.mem_of_getElem? (i := 13) rfl)) (by decide) (ps := [(.array .char)]) (r' := none) (by decide +kernel) rfl rfl rfl (Nat.le_of_ble_eq_true rfl) (Nat.le_of_ble_eq_true rfl) (Nat.le_of_ble_eq_true rfl) (Nat.le_of_ble_eq_true rfl) ?_
  rintro v h3 ⟨rfl, K3, FS⟩
  replace O := O.keep K3 (allS gt all0)
  show Run _ _ _ _ _ _ _ _ _ _ _ _ _ _ [.ref t]
  refine r_astore 178 at_176 rfl rfl ?_
  refine r_iload 180 at_178 rfl rfl ?_
  refine r_iconst 1 181 at_180 rfl rfl ?_
  refine r_icmp_lt 192 184 at_181 (by decide) rfl (fun q181 => absurd q181 (by decide)) (fun q181 => ?_)
  refine r_iload 186 at_184 rfl rfl ?_
  refine r_static 189 at_186 rfl (rm_ws l Z a0 hw _ n0 c0) (hw _ (List.mem_of_getElem? (i := 54) rfl)) (hw _ (List.mem_of_getElem? (i := 55) rfl)) (hw _ (List.mem_of_getElem? (i := 3) rfl)) (hw _ (List.mem_of_getElem? (i := 56) rfl)) (by decide) (ps := [.char]) (r' := (some .boolean)) (by decide +kernel) rfl rfl rfl (Nat.le_of_ble_eq_true rfl) (Nat.le_of_ble_eq_true rfl) (Nat.le_of_ble_eq_true rfl) (Nat.le_of_ble_eq_true rfl) ?_
  rintro v h' ⟨rfl, rfl⟩
  show Run _ _ _ _ _ _ _ _ _ _ _ _ _ _ [.int (own_ws c0)]
  refine r_if_eq 238 192 at_189 (by decide) rfl (fun q189 => ?_) (fun q189 => ?_)
  · refine r_iconst 0 239 at_238 rfl rfl ?_
    refine r_istore 241 at_239 rfl rfl ?_
    refine r_aload 243 at_241 rfl rfl ?_
    refine r_static 246 at_243 rfl (rm_iss l Z a0 hw _ n0 O cz SC hcz fv hf SF SD SH SL t [c0, c1, c2, c3] (Nat.le_of_ble_eq_true rfl) hch FS) (hw _ (List.mem_of_getElem? (i := 29) rfl)) (hw _ (List.mem_of_getElem? (i := 30) rfl)) (hw _ (List.mem_of_getElem? (i := 31) rfl)) (hw _ (List.mem_of_getElem? (i := 32) rfl)) (by decide) (ps := [(.object "java/lang/String")]) (r' := (some .boolean)) (by decide +kernel) rfl rfl rfl (Nat.le_of_ble_eq_true rfl) (Nat.le_of_ble_eq_true rfl) (Nat.le_of_ble_eq_true rfl) (Nat.le_of_ble_eq_true rfl) ?_
    rintro v h' ⟨rfl, rfl⟩
    show Run _ _ _ _ _ _ _ _ _ _ _ _ _ _ [.int (own_all [c0, c1, c2, c3])]
    refine r_iload 248 at_246 rfl rfl ?_
    refine r_icmp_ne 255 251 at_248 (by decide) rfl (fun q248 => absurd (by simp [own_all, q189]) q248) (fun q248 => ?_)
    refine r_iconst 1 252 at_251 rfl rfl ?_
    refine r_goto 256 at_252 (by decide) ?_
    exact r_retN _ at_256 rfl (by simp) rfl (Nat.le_of_ble_eq_true rfl) (Nat.le_of_ble_eq_true rfl) (⟨rfl, trivial⟩)
  · refine r_iload 194 at_192 rfl rfl ?_
    refine r_iconst 2 195 at_194 rfl rfl ?_
    refine r_icmp_lt 206 198 at_195 (by decide) rfl (fun q195 => absurd q195 (by decide)) (fun q195 => ?_)
    refine r_iload 200 at_198 rfl rfl ?_
    refine r_static 203 at_200 rfl (rm_ws l Z a0 hw _ n0 c1) (hw _ (List.mem_of_getElem? (i := 54) rfl)) (hw _ (List.mem_of_getElem? (i := 55) rfl)) (hw _ (List.mem_of_getElem? (i := 3) rfl)) (hw _ (List.mem_of_getElem? (i := 56) rfl)) (by decide) (ps := [.char]) (r' := (some .boolean)) (by decide +kernel) rfl rfl rfl (Nat.le_of_ble_eq_true rfl) (Nat.le_of_ble_eq_true rfl) (Nat.le_of_ble_eq_true rfl) (Nat.le_of_ble_eq_true rfl) ?_
    rintro v h' ⟨rfl, rfl⟩
    show Run _ _ _ _ _ _ _ _ _ _ _ _ _ _ [.int (own_ws c1)]
    refine r_if_eq 238 206 at_203 (by decide) rfl (fun q203 => ?_) (fun q203 => ?_)
    · refine r_iconst 0 239 at_238 rfl rfl ?_
      refine r_istore 241 at_239 rfl rfl ?_
      refine r_aload 243 at_241 rfl rfl ?_
      refine r_static 246 at_243 rfl (rm_iss l Z a0 hw _ n0 O cz SC hcz fv hf SF SD SH SL t [c0, c1, c2, c3] (Nat.le_of_ble_eq_true rfl) hch FS) (hw _ (List.mem_of_getElem? (i := 29) rfl)) (hw _ (List.mem_of_getElem? (i := 30) rfl)) (hw _ (List.mem_of_getElem? (i := 31) rfl)) (hw _ (List.mem_of_getElem? (i := 32) rfl)) (by decide) (ps := [(.object "java/lang/String")]) (r' := (some .boolean)) (by decide +kernel) rfl rfl rfl (Nat.le_of_ble_eq_true rfl) (Nat.le_of_ble_eq_true rfl) (Nat.le_of_ble_eq_true rfl) (Nat.le_of_ble_eq_true rfl) ?_
      rintro v h' ⟨rfl, rfl⟩
      show Run _ _ _ _ _ _ _ _ _ _ _ _ _ _ [.int (own_all [c0, c1, c2, c3])]
      refine r_iload 248 at_246 rfl rfl ?_
      refine r_icmp_ne 255 251 at_248 (by decide) rfl (fun q248 => absurd (by simp [own_all, q189, q203]) q248) (fun q248 => ?_)
      refine r_iconst 1 252 at_251 rfl rfl ?_
      refine r_goto 256 at_252 (by decide) ?_
      exact r_retN _ at_256 rfl (by simp) rfl (Nat.le_of_ble_eq_true rfl) (Nat.le_of_ble_eq_true rfl) (⟨rfl, trivial⟩)
    · refine r_iload 208 at_206 rfl rfl ?_
      refine r_iconst 3 209 at_208 rfl rfl ?_
      refine r_icmp_lt 220 212 at_209 (by decide) rfl (fun q209 => absurd q209 (by decide)) (fun q209 => ?_)
      refine r_iload 214 at_212 rfl rfl ?_
      refine r_static 217 at_214 rfl (rm_ws l Z a0 hw _ n0 c2) (hw _ (List.mem_of_getElem? (i := 54) rfl)) (hw _ (List.mem_of_getElem? (i := 55) rfl)) (hw _ (List.mem_of_getElem? (i := 3) rfl)) (hw _ (List.mem_of_getElem? (i := 56) rfl)) (by decide) (ps := [.char]) (r' := (some .boolean)) (by decide +kernel) rfl rfl rfl (Nat.le_of_ble_eq_true rfl) (Nat.le_of_ble_eq_true rfl) (Nat.le_of_ble_eq_true rfl) (Nat.le_of_ble_eq_true rfl) ?_
      rintro v h' ⟨rfl, rfl⟩
      show Run _ _ _ _ _ _ _ _ _ _ _ _ _ _ [.int (own_ws c2)]
      refine r_if_eq 238 220 at_217 (by decide) rfl (fun q217 => ?_) (fun q217 => ?_)
      · refine r_iconst 0 239 at_238 rfl rfl ?_
        refine r_istore 241 at_239 rfl rfl ?_
        refine r_aload 243 at_241 rfl rfl ?_
        refine r_static 246 at_243 rfl (rm_iss l Z a0 hw _ n0 O cz SC hcz fv hf SF SD SH SL t [c0, c1, c2, c3] (Nat.le_of_ble_eq_true rfl) hch FS) (hw _ (List.mem_of_getElem? (i := 29) rfl)) (hw _ (List.mem_of_getElem? (i := 30) rfl)) (hw _ (List.mem_of_getElem? (i := 31) rfl)) (hw _ (List.mem_of_getElem? (i := 32) rfl)) (by decide) (ps := [(.object "java/lang/String")]) (r' := (some .boolean)) (by decide +kernel) rfl rfl rfl (Nat.le_of_ble_eq_true rfl) (Nat.le_of_ble_eq_true rfl) (Nat.le_of_ble_eq_true rfl) (Nat.le_of_ble_eq_true rfl) ?_
        rintro v h' ⟨rfl, rfl⟩
        show Run _ _ _ _ _ _ _ _ _ _ _ _ _ _ [.int (own_all [c0, c1, c2, c3])]
        refine r_iload 248 at_246 rfl rfl ?_
        refine r_icmp_ne 255 251 at_248 (by decide) rfl (fun q248 => absurd (by simp [own_all, q189, q203, q217]) q248) (fun q248 => ?_)
        refine r_iconst 1 252 at_251 rfl rfl ?_
        refine r_goto 256 at_252 (by decide) ?_
        exact r_retN _ at_256 rfl (by simp) rfl (Nat.le_of_ble_eq_true rfl) (Nat.le_of_ble_eq_true rfl) (⟨rfl, trivial⟩)
      · refine r_iload 222 at_220 rfl rfl ?_
        refine r_iconst 4 223 at_222 rfl rfl ?_
        refine r_icmp_lt 234 226 at_223 (by decide) rfl (fun q223 => absurd q223 (by decide)) (fun q223 => ?_)
        refine r_iload 228 at_226 rfl rfl ?_
        refine r_static 231 at_228 rfl (rm_ws l Z a0 hw _ n0 c3) (hw _ (List.mem_of_getElem? (i := 54) rfl)) (hw _ (List.mem_of_getElem? (i := 55) rfl)) (hw _ (List.mem_of_getElem? (i := 3) rfl)) (hw _ (List.mem_of_getElem? (i := 56) rfl)) (by decide) (ps := [.char]) (r' := (some .boolean)) (by decide +kernel) rfl rfl rfl (Nat.le_of_ble_eq_true rfl) (Nat.le_of_ble_eq_true rfl) (Nat.le_of_ble_eq_true rfl) (Nat.le_of_ble_eq_true rfl) ?_
        rintro v h' ⟨rfl, rfl⟩
        show Run _ _ _ _ _ _ _ _ _ _ _ _ _ _ [.int (own_ws c3)]
        refine r_if_eq 238 234 at_231 (by decide) rfl (fun q231 => ?_) (fun q231 => ?_)
        · refine r_iconst 0 239 at_238 rfl rfl ?_
          refine r_istore 241 at_239 rfl rfl ?_
          refine r_aload 243 at_241 rfl rfl ?_
          refine r_static 246 at_243 rfl (rm_iss l Z a0 hw _ n0 O cz SC hcz fv hf SF SD SH SL t [c0, c1, c2, c3] (Nat.le_of_ble_eq_true rfl) hch FS) (hw _ (List.mem_of_getElem? (i := 29) rfl)) (hw _ (List.mem_of_getElem? (i := 30) rfl)) (hw _ (List.mem_of_getElem? (i := 31) rfl)) (hw _ (List.mem_of_getElem? (i := 32) rfl)) (by decide) (ps := [(.object "java/lang/String")]) (r' := (some .boolean)) (by decide +kernel) rfl rfl rfl (Nat.le_of_ble_eq_true rfl) (Nat.le_of_ble_eq_true rfl) (Nat.le_of_ble_eq_true rfl) (Nat.le_of_ble_eq_true rfl) ?_
          rintro v h' ⟨rfl, rfl⟩
          show Run _ _ _ _ _ _ _ _ _ _ _ _ _ _ [.int (own_all [c0, c1, c2, c3])]
          refine r_iload 248 at_246 rfl rfl ?_
          refine r_icmp_ne 255 251 at_248 (by decide) rfl (fun q248 => absurd (by simp [own_all, q189, q203, q217, q231]) q248) (fun q248 => ?_)
          refine r_iconst 1 252 at_251 rfl rfl ?_
          refine r_goto 256 at_252 (by decide) ?_
          exact r_retN _ at_256 rfl (by simp) rfl (Nat.le_of_ble_eq_true rfl) (Nat.le_of_ble_eq_true rfl) (⟨rfl, trivial⟩)
        · refine r_iconst 1 235 at_234 rfl rfl ?_
          refine r_goto 239 at_235 (by decide) ?_
          refine r_istore 241 at_239 rfl rfl ?_
          refine r_aload 243 at_241 rfl rfl ?_
          refine r_static 246 at_243 rfl (rm_iss l Z a0 hw _ n0 O cz SC hcz fv hf SF SD SH SL t [c0, c1, c2, c3] (Nat.le_of_ble_eq_true rfl) hch FS) (hw _ (List.mem_of_getElem? (i := 29) rfl)) (hw _ (List.mem_of_getElem? (i := 30) rfl)) (hw _ (List.mem_of_getElem? (i := 31) rfl)) (hw _ (List.mem_of_getElem? (i := 32) rfl)) (by decide) (ps := [(.object "java/lang/String")]) (r' := (some .boolean)) (by decide +kernel) rfl rfl rfl (Nat.le_of_ble_eq_true rfl) (Nat.le_of_ble_eq_true rfl) (Nat.le_of_ble_eq_true rfl) (Nat.le_of_ble_eq_true rfl) ?_
          rintro v h' ⟨rfl, rfl⟩
          show Run _ _ _ _ _ _ _ _ _ _ _ _ _ _ [.int (own_all [c0, c1, c2, c3])]
          refine r_iload 248 at_246 rfl rfl ?_
          refine r_icmp_ne 255 251 at_248 (by decide) rfl (fun q248 => absurd (by simp [own_all, q189, q203, q217, q231]) q248) (fun q248 => ?_)
          refine r_iconst 1 252 at_251 rfl rfl ?_
          refine r_goto 256 at_252 (by decide) ?_
          exact r_retN _ at_256 rfl (by simp) rfl (Nat.le_of_ble_eq_true rfl) (Nat.le_of_ble_eq_true rfl) (⟨rfl, trivial⟩)
set_option maxRecDepth 65536 in
set_option maxHeartbeats 40000000 in
theorem rm_lawN (l : Launch) (Z : State) (a0 : Array Value) (hw : ∀ d ∈ tables_1, d.before a0 Z = true) (h : Heap) (n0 : Nat) (O : Old Z n0 h) (cz : Int32) (SC : Sta Z Z.heap "java/lang/String" "COMPACT_STRINGS" "Z" (.int cz)) (hcz : ¬ cz = 0) (fv : Value) (hf : fv.isRef = true) (SF : Sta Z Z.heap "jdk/internal/util/Preconditions" "SIOOBE_FORMATTER" "Ljava/util/function/BiFunction;" fv) (SD : Sta Z Z.heap "java/lang/StringUTF16" "$assertionsDisabled" "Z" (.int 1)) (SH : Sta Z Z.heap "java/lang/StringUTF16" "HI_BYTE_SHIFT" "I" (.int 0)) (SL : Sta Z Z.heap "java/lang/StringUTF16" "LO_BYTE_SHIFT" "I" (.int 8)) (i0 i1 i2 i3 i4 : Int32) (nn : Nat) (hnn : nn < 5) (h0 : 0 < nn) (hK : (i0 &&& 2147483647) % 5 = Int32.ofNat nn) : Con l Z x code maxLocals ret room_1 n0 #[.int i0, .int i1, .int i2, .int i3, .int i4] h (fun v h' => v = some (.int 1) ∧ True) tables_1 := by
  refine Run.con pn_law (Ls := [.val (.int i0), .val (.int i1), .val (.int i2), .val (.int i3), .val (.int i4), .unset, .unset, .unset, .unset, .unset, .unset, .unset]) rfl ?_
  refine r_iloadN 1 at_0 rfl rfl ?_
  refine r_ldc 3 at_1 rfl (hw _ (List.mem_of_getElem? (i := 0) rfl)) ?_
  refine r_iand 4 at_3 rfl ?_
  refine r_iconst 5 5 at_4 rfl rfl ?_
  refine r_irem 6 at_5 rfl (by decide) ?_
  rw [hK]
  refine r_istore 8 at_6 rfl rfl ?_
  refine r_iloadN 9 at_8 rfl rfl ?_
  refine r_static 12 at_9 rfl (rm_pick l Z a0 hw _ n0 i1) (hw _ (List.mem_of_getElem? (i := 1) rfl)) (hw _ (List.mem_of_getElem? (i := 2) rfl)) (hw _ (List.mem_of_getElem? (i := 3) rfl)) (hw _ (List.mem_of_getElem? (i := 4) rfl)) (by decide) (ps := [.int]) (r' := (some .char)) (by decide +kernel) rfl rfl rfl (Nat.le_of_ble_eq_true rfl) (Nat.le_of_ble_eq_true rfl) (Nat.le_of_ble_eq_true rfl) (Nat.le_of_ble_eq_true rfl) ?_
  rintro v h' ⟨c0, rfl, hc0, rfl⟩
  show Run _ _ _ _ _ _ _ _ _ _ _ _ _ _ [.int c0]
  refine r_istore 14 at_12 rfl rfl ?_
  refine r_iloadN 15 at_14 rfl rfl ?_
  refine r_static 18 at_15 rfl (rm_pick l Z a0 hw _ n0 i2) (hw _ (List.mem_of_getElem? (i := 1) rfl)) (hw _ (List.mem_of_getElem? (i := 2) rfl)) (hw _ (List.mem_of_getElem? (i := 3) rfl)) (hw _ (List.mem_of_getElem? (i := 4) rfl)) (by decide) (ps := [.int]) (r' := (some .char)) (by decide +kernel) rfl rfl rfl (Nat.le_of_ble_eq_true rfl) (Nat.le_of_ble_eq_true rfl) (Nat.le_of_ble_eq_true rfl) (Nat.le_of_ble_eq_true rfl) ?_
  rintro v h' ⟨c1, rfl, hc1, rfl⟩
  show Run _ _ _ _ _ _ _ _ _ _ _ _ _ _ [.int c1]
  refine r_istore 20 at_18 rfl rfl ?_
  refine r_iloadN 21 at_20 rfl rfl ?_
  refine r_static 24 at_21 rfl (rm_pick l Z a0 hw _ n0 i3) (hw _ (List.mem_of_getElem? (i := 1) rfl)) (hw _ (List.mem_of_getElem? (i := 2) rfl)) (hw _ (List.mem_of_getElem? (i := 3) rfl)) (hw _ (List.mem_of_getElem? (i := 4) rfl)) (by decide) (ps := [.int]) (r' := (some .char)) (by decide +kernel) rfl rfl rfl (Nat.le_of_ble_eq_true rfl) (Nat.le_of_ble_eq_true rfl) (Nat.le_of_ble_eq_true rfl) (Nat.le_of_ble_eq_true rfl) ?_
  rintro v h' ⟨c2, rfl, hc2, rfl⟩
  show Run _ _ _ _ _ _ _ _ _ _ _ _ _ _ [.int c2]
  refine r_istore 26 at_24 rfl rfl ?_
  refine r_iload 28 at_26 rfl rfl ?_
  refine r_static 31 at_28 rfl (rm_pick l Z a0 hw _ n0 i4) (hw _ (List.mem_of_getElem? (i := 1) rfl)) (hw _ (List.mem_of_getElem? (i := 2) rfl)) (hw _ (List.mem_of_getElem? (i := 3) rfl)) (hw _ (List.mem_of_getElem? (i := 4) rfl)) (by decide) (ps := [.int]) (r' := (some .char)) (by decide +kernel) rfl rfl rfl (Nat.le_of_ble_eq_true rfl) (Nat.le_of_ble_eq_true rfl) (Nat.le_of_ble_eq_true rfl) (Nat.le_of_ble_eq_true rfl) ?_
  rintro v h' ⟨c3, rfl, hc3, rfl⟩
  show Run _ _ _ _ _ _ _ _ _ _ _ _ _ _ [.int c3]
  refine r_istore 33 at_31 rfl rfl ?_
  match nn, hnn, h0 with
  | 1, _, _ => exact run_33_1 l Z a0 hw _ n0 O cz SC hcz fv hf SF SD SH SL i0 i1 i2 i3 i4 c0 c1 c2 c3 hc0 hc1 hc2 hc3
  | 2, _, _ => exact run_33_2 l Z a0 hw _ n0 O cz SC hcz fv hf SF SD SH SL i0 i1 i2 i3 i4 c0 c1 c2 c3 hc0 hc1 hc2 hc3
  | 3, _, _ => exact run_33_3 l Z a0 hw _ n0 O cz SC hcz fv hf SF SD SH SL i0 i1 i2 i3 i4 c0 c1 c2 c3 hc0 hc1 hc2 hc3
  | 4, _, _ => exact run_33_4 l Z a0 hw _ n0 O cz SC hcz fv hf SF SD SH SL i0 i1 i2 i3 i4 c0 c1 c2 c3 hc0 hc1 hc2 hc3
set_option maxRecDepth 65536 in
set_option maxHeartbeats 40000000 in
theorem rm_law0 (l : Launch) (Z : State) (a0 : Array Value) (hw : ∀ d ∈ tables_1, d.before a0 Z = true) (h : Heap) (n0 : Nat) (O : Old Z n0 h) (cz : Int32) (SC : Sta Z Z.heap "java/lang/String" "COMPACT_STRINGS" "Z" (.int cz)) (hcz : ¬ cz = 0) (fv : Value) (hf : fv.isRef = true) (SF : Sta Z Z.heap "jdk/internal/util/Preconditions" "SIOOBE_FORMATTER" "Ljava/util/function/BiFunction;" fv) (SD : Sta Z Z.heap "java/lang/StringUTF16" "$assertionsDisabled" "Z" (.int 1)) (SH : Sta Z Z.heap "java/lang/StringUTF16" "HI_BYTE_SHIFT" "I" (.int 0)) (SL : Sta Z Z.heap "java/lang/StringUTF16" "LO_BYTE_SHIFT" "I" (.int 8)) (hh : Jvm.Lit.constHeld Z "java/lang/String" 7) (hcw : Jvm.Lit.compactW.before a0 Z = true) (wS : ∀ d ∈ Bundle.stringAtoms, d.before a0 Z = true) (i0 i1 i2 i3 i4 : Int32) (hK : (i0 &&& 2147483647) % 5 = 0) : ConW l Z x code maxLocals ret room_1 n0 #[.int i0, .int i1, .int i2, .int i3, .int i4] h (fun v h' => v = some (.int 1) ∧ True) tables_1 := by
  refine RunW.con pn_law (Ls := [.val (.int i0), .val (.int i1), .val (.int i2), .val (.int i3), .val (.int i4), .unset, .unset, .unset, .unset, .unset, .unset, .unset]) rfl ?_
  refine rw_iloadN 1 at_0 rfl rfl ?_
  refine rw_ldc 3 at_1 rfl (hw _ (List.mem_of_getElem? (i := 0) rfl)) ?_
  refine rw_iand 4 at_3 rfl ?_
  refine rw_iconst 5 5 at_4 rfl rfl ?_
  refine rw_irem 6 at_5 rfl (by decide) ?_
  rw [hK]
  refine rw_istore 8 at_6 rfl rfl ?_
  refine rw_iloadN 9 at_8 rfl rfl ?_
  refine rw_static 12 at_9 rfl (rm_pick l Z a0 hw _ n0 i1) (hw _ (List.mem_of_getElem? (i := 1) rfl)) (hw _ (List.mem_of_getElem? (i := 2) rfl)) (hw _ (List.mem_of_getElem? (i := 3) rfl)) (hw _ (List.mem_of_getElem? (i := 4) rfl)) (by decide) (ps := [.int]) (r' := (some .char)) (by decide +kernel) rfl rfl rfl (Nat.le_of_ble_eq_true rfl) (Nat.le_of_ble_eq_true rfl) (Nat.le_of_ble_eq_true rfl) (Nat.le_of_ble_eq_true rfl) ?_
  rintro v h' ⟨c0, rfl, hc0, rfl⟩
  show RunW _ _ _ _ _ _ _ _ _ _ _ _ _ _ _ [.int c0]
  refine rw_istore 14 at_12 rfl rfl ?_
  refine rw_iloadN 15 at_14 rfl rfl ?_
  refine rw_static 18 at_15 rfl (rm_pick l Z a0 hw _ n0 i2) (hw _ (List.mem_of_getElem? (i := 1) rfl)) (hw _ (List.mem_of_getElem? (i := 2) rfl)) (hw _ (List.mem_of_getElem? (i := 3) rfl)) (hw _ (List.mem_of_getElem? (i := 4) rfl)) (by decide) (ps := [.int]) (r' := (some .char)) (by decide +kernel) rfl rfl rfl (Nat.le_of_ble_eq_true rfl) (Nat.le_of_ble_eq_true rfl) (Nat.le_of_ble_eq_true rfl) (Nat.le_of_ble_eq_true rfl) ?_
  rintro v h' ⟨c1, rfl, hc1, rfl⟩
  show RunW _ _ _ _ _ _ _ _ _ _ _ _ _ _ _ [.int c1]
  refine rw_istore 20 at_18 rfl rfl ?_
  refine rw_iloadN 21 at_20 rfl rfl ?_
  refine rw_static 24 at_21 rfl (rm_pick l Z a0 hw _ n0 i3) (hw _ (List.mem_of_getElem? (i := 1) rfl)) (hw _ (List.mem_of_getElem? (i := 2) rfl)) (hw _ (List.mem_of_getElem? (i := 3) rfl)) (hw _ (List.mem_of_getElem? (i := 4) rfl)) (by decide) (ps := [.int]) (r' := (some .char)) (by decide +kernel) rfl rfl rfl (Nat.le_of_ble_eq_true rfl) (Nat.le_of_ble_eq_true rfl) (Nat.le_of_ble_eq_true rfl) (Nat.le_of_ble_eq_true rfl) ?_
  rintro v h' ⟨c2, rfl, hc2, rfl⟩
  show RunW _ _ _ _ _ _ _ _ _ _ _ _ _ _ _ [.int c2]
  refine rw_istore 26 at_24 rfl rfl ?_
  refine rw_iload 28 at_26 rfl rfl ?_
  refine rw_static 31 at_28 rfl (rm_pick l Z a0 hw _ n0 i4) (hw _ (List.mem_of_getElem? (i := 1) rfl)) (hw _ (List.mem_of_getElem? (i := 2) rfl)) (hw _ (List.mem_of_getElem? (i := 3) rfl)) (hw _ (List.mem_of_getElem? (i := 4) rfl)) (by decide) (ps := [.int]) (r' := (some .char)) (by decide +kernel) rfl rfl rfl (Nat.le_of_ble_eq_true rfl) (Nat.le_of_ble_eq_true rfl) (Nat.le_of_ble_eq_true rfl) (Nat.le_of_ble_eq_true rfl) ?_
  rintro v h' ⟨c3, rfl, hc3, rfl⟩
  show RunW _ _ _ _ _ _ _ _ _ _ _ _ _ _ _ [.int c3]
  refine rw_istore 33 at_31 rfl rfl ?_
  refine rw_iload 35 at_33 rfl rfl ?_
  refine rw_if_ne 53 38 at_35 (by decide) rfl (fun q35 => absurd q35 (by decide)) (fun q35 => ?_)
  refine rw_new 41 at_38 rfl (hw _ (List.mem_of_getElem? (i := 7) rfl)) (hw _ (List.mem_of_getElem? (i := 8) rfl)) (hw _ (List.mem_of_getElem? (i := 9) rfl)) (Nat.le_of_ble_eq_true rfl) (Nat.le_of_ble_eq_true rfl) ?_
  intro h1 t ht E1 X1 D1
  have gt : n0 ≤ t := by rw [ht]; exact O.1 ▸ O.2.1
  replace O := O.ext E1
  have F1 := (D1 (Or.inr (hw _ (List.mem_of_getElem? (i := 23) rfl))) (ty := (.array .byte)) (by decide))
  have F2 := (D1 (Or.inr (hw _ (List.mem_of_getElem? (i := 24) rfl))) (ty := .byte) (by decide))
  refine rw_dup 42 at_41 rfl rfl ?_
  refine rw_iconst 0 43 at_42 rfl rfl ?_
  refine rw_newarray 0 "[C" 45 at_43 rfl (hw _ (List.mem_of_getElem? (i := 10) rfl)) (by decide) (by decide) (by decide) rfl (Nat.le_of_ble_eq_true rfl) (Nat.le_of_ble_eq_true rfl) ?_
  intro h2 b cA hb E2 A1 Xb
  have gb : n0 ≤ b := by rw [hb]; exact O.1 ▸ O.2.1
  have bt : t ≠ b := own_ne X1.lt hb
  replace O := O.ext E2
  replace X1 := X1.ext E2
  replace F1 := F1.ext E2
  replace F2 := F2.ext E2
  replace A1 : Arv Z _ b cA .char 0 (List.replicate 0 (.int 0)) (.int 0) := A1
  refine rw_specialW 48 at_45 rfl (rm_i1e l Z a0 hw _ n0 O hh hcw wS t F1 F2 X1 gt b cA _ _ A1) (as1 := [.ref b]) rfl rfl (hw _ (List.mem_of_getElem? (i := 11) rfl)) (hw _ (List.mem_of_getElem? (i := 12) rfl)) (hw _ (List.mem_of_getElem? (i := 9) rfl)) (hw _ (List.mem_of_getElem? (i := 13) rfl)) (by decide) (ps := [(.array .char)]) (r' := none) (by decide +kernel) rfl rfl rfl (Nat.le_of_ble_eq_true rfl) (Nat.le_of_ble_eq_true rfl) (Nat.le_of_ble_eq_true rfl) (Nat.le_of_ble_eq_true rfl) (fun _ q => q) ?_
  rintro v h3 ⟨rfl, K3, FS⟩
  replace O := O.keep K3 (allS gt all0)
  show RunW _ _ _ _ _ _ _ _ _ _ _ _ _ _ _ [.ref t]
  refine rw_astore 50 at_48 rfl rfl ?_
  refine rw_goto 178 at_50 (by decide) ?_
  refine rw_iload 180 at_178 rfl rfl ?_
  refine rw_iconst 1 181 at_180 rfl rfl ?_
  refine rw_icmp_lt 192 184 at_181 (by decide) rfl (fun q181 => ?_) (fun q181 => absurd q181 (by decide))
  refine rw_iload 194 at_192 rfl rfl ?_
  refine rw_iconst 2 195 at_194 rfl rfl ?_
  refine rw_icmp_lt 206 198 at_195 (by decide) rfl (fun q195 => ?_) (fun q195 => absurd q195 (by decide))
  refine rw_iload 208 at_206 rfl rfl ?_
  refine rw_iconst 3 209 at_208 rfl rfl ?_
  refine rw_icmp_lt 220 212 at_209 (by decide) rfl (fun q209 => ?_) (fun q209 => absurd q209 (by decide))
  refine rw_iload 222 at_220 rfl rfl ?_
  refine rw_iconst 4 223 at_222 rfl rfl ?_
  refine rw_icmp_lt 234 226 at_223 (by decide) rfl (fun q223 => ?_) (fun q223 => absurd q223 (by decide))
  refine rw_iconst 1 235 at_234 rfl rfl ?_
  refine rw_goto 239 at_235 (by decide) ?_
  refine rw_istore 241 at_239 rfl rfl ?_
  refine rw_aload 243 at_241 rfl rfl ?_
  refine rw_static 246 at_243 rfl (rm_iss l Z a0 hw _ n0 O cz SC hcz fv hf SF SD SH SL t [] (Nat.le_of_ble_eq_true rfl) (fun c hc => by simp at hc) FS) (hw _ (List.mem_of_getElem? (i := 29) rfl)) (hw _ (List.mem_of_getElem? (i := 30) rfl)) (hw _ (List.mem_of_getElem? (i := 31) rfl)) (hw _ (List.mem_of_getElem? (i := 32) rfl)) (by decide) (ps := [(.object "java/lang/String")]) (r' := (some .boolean)) (by decide +kernel) rfl rfl rfl (Nat.le_of_ble_eq_true rfl) (Nat.le_of_ble_eq_true rfl) (Nat.le_of_ble_eq_true rfl) (Nat.le_of_ble_eq_true rfl) ?_
  rintro v h' ⟨rfl, rfl⟩
  show RunW _ _ _ _ _ _ _ _ _ _ _ _ _ _ _ [.int 1]
  refine rw_iload 248 at_246 rfl rfl ?_
  refine rw_icmp_ne 255 251 at_248 (by decide) rfl (fun q248 => absurd rfl q248) (fun q248 => ?_)
  refine rw_iconst 1 252 at_251 rfl rfl ?_
  refine rw_goto 256 at_252 (by decide) ?_
  exact rw_retN _ at_256 rfl (by simp) rfl (Nat.le_of_ble_eq_true rfl) (Nat.le_of_ble_eq_true rfl) (⟨rfl, trivial⟩)
set_option maxRecDepth 65536 in
set_option maxHeartbeats 40000000 in
theorem rm_law (l : Launch) (Z : State) (a0 : Array Value) (hw : ∀ d ∈ tables_1, d.before a0 Z = true) (h : Heap) (n0 : Nat) (O : Old Z n0 h) (cz : Int32) (SC : Sta Z Z.heap "java/lang/String" "COMPACT_STRINGS" "Z" (.int cz)) (hcz : ¬ cz = 0) (fv : Value) (hf : fv.isRef = true) (SF : Sta Z Z.heap "jdk/internal/util/Preconditions" "SIOOBE_FORMATTER" "Ljava/util/function/BiFunction;" fv) (SD : Sta Z Z.heap "java/lang/StringUTF16" "$assertionsDisabled" "Z" (.int 1)) (SH : Sta Z Z.heap "java/lang/StringUTF16" "HI_BYTE_SHIFT" "I" (.int 0)) (SL : Sta Z Z.heap "java/lang/StringUTF16" "LO_BYTE_SHIFT" "I" (.int 8)) (hh : Jvm.Lit.constHeld Z "java/lang/String" 7) (hcw : Jvm.Lit.compactW.before a0 Z = true) (wS : ∀ d ∈ Bundle.stringAtoms, d.before a0 Z = true) (i0 i1 i2 i3 i4 : Int32) : ConW l Z x code maxLocals ret room_1 n0 #[.int i0, .int i1, .int i2, .int i3, .int i4] h (fun v h' => v = some (.int 1) ∧ True) tables_1 := by
  obtain ⟨nn, hnn, hK⟩ := own_nat (K := (i0 &&& 2147483647) % 5) (N := 5) (own_mod i0 5 (by decide)).1 (own_mod i0 5 (by decide)).2
  by_cases q : nn = 0
  · subst q
    exact rm_law0 l Z a0 hw h n0 O cz SC hcz fv hf SF SD SH SL hh hcw wS i0 i1 i2 i3 i4 hK
  · exact (rm_lawN l Z a0 hw h n0 O cz SC hcz fv hf SF SD SH SL i0 i1 i2 i3 i4 nn hnn (by omega) hK).wide
theorem own_staI {C f d : String} {z : Int32} {args : Array Value} {s : State} (h : (Jvm.Cond.eq (.static C f d) (.int z)).value args s none s [] = some true) (hi : (Jvm.Cond.initializedFor C f d).before args s = true) : Sta s s.heap C f d (.int z) := by
  obtain ⟨u, w, h1, h2, k1, k2⟩ := cmp_v (Or.inl h)
  rw [Term.int_eval] at h2
  cases h2
  obtain ⟨u', rfl⟩ := k2
  obtain rfl := gotT (Cond.eq_ints h1 (Term.int_eval z)) h
  exact Sta.start h1 (Or.inl hi)
set_option maxRecDepth 65536 in
set_option maxHeartbeats 40000000 in
theorem comes_1 {Post : Tables → Env → Array Value → State → Outcome → State → Prop} (hpost : ∀ tb e args s v u, (limb_1_1.after args s (.returned v) u = true ∧ limb_1_2.after args s (.returned v) u = true ∧ True) → ReturnedEndW s (.returned v) u (Jvm.fieldLocs frame_1_writes args s ++ Jvm.arrayLocs frame_1_arrays args s ++ Jvm.staticLocs frame_1_statics s) 24 1152 → Post tb e args s (.returned v) u) :
    ArmFor flags0 classFile x code maxLocals ret World_1 tables_1 room_1 Calls_1 rest_1 Pre_1 Post := by
  intro l hfl _ _ p e ha hc hk s m args below hf hA hF happ hP
  obtain ⟨hcalls, hrest, hpre⟩ := hP
  obtain ⟨-, -, -, hnamed, -, -, -, hat⟩ := (Spec.applies_iff hf).mp happ
  obtain ⟨hg, hn⟩ := and_e (Cond.before_iff.mp (show (Jvm.Cond.and given_1 narrow_1).before args s = true from hpre))
  obtain ⟨hcount, hg⟩ := and_e hg
  obtain ⟨g0, hg⟩ := and_e hg
  obtain ⟨g1, hg⟩ := and_e hg
  obtain ⟨g2, hg⟩ := and_e hg
  obtain ⟨g3, hg⟩ := and_e hg
  have g4 := hg
  obtain ⟨w0, w1, w2, w3, w4, rfl⟩ : ∃ w0 w1 w2 w3 w4 : Value, args = #[w0, w1, w2, w3, w4] := by
    have hs : args.size = 5 := by simpa [Cond.value, given_1] using hcount
    obtain ⟨L⟩ := args
    match L, hs with
    | [w0, w1, w2, w3, w4], _ => exact ⟨w0, w1, w2, w3, w4, rfl⟩
  have hw := fun d (hd : d ∈ tables_1) => atoms_spec (ws := Jvm.Cond.code x code maxLocals ret :: tables_1) hat d (List.mem_cons_of_mem _ hd)
  obtain ⟨hsets, hown0⟩ := atoms_of _ (rest_1_c_eq ▸ (show rest_1_c.before _ s = true from hrest))
  have hfit : Fit s := fun {y c} hc i hi => by
    obtain ⟨ha, rfl⟩ := Array.getElem?_eq_some_iff.mp hc
    have q := List.all_eq_true.mp ((Array.all_eq_true_iff_forall_mem.mp hF) _ (Array.getElem_mem ha)) i (List.mem_range.mpr hi)
    simpa [Array.getElem?_eq_getElem hi] using q
  obtain ⟨i0, ea0⟩ := is_v g0
  obtain rfl : w0 = (.int i0) := Option.some.inj ea0
  obtain ⟨i1, ea1⟩ := is_v g1
  obtain rfl : w1 = (.int i1) := Option.some.inj ea1
  obtain ⟨i2, ea2⟩ := is_v g2
  obtain rfl : w2 = (.int i2) := Option.some.inj ea2
  obtain ⟨i3, ea3⟩ := is_v g3
  obtain rfl : w3 = (.int i3) := Option.some.inj ea3
  obtain ⟨i4, ea4⟩ := is_v g4
  obtain rfl : w4 = (.int i4) := Option.some.inj ea4
  obtain ⟨cz, eC⟩ := is_v (Cond.before_iff.mp (hsets _ (List.mem_of_getElem? (i := 1) rfl)))
  have SC : Sta s s.heap "java/lang/String" "COMPACT_STRINGS" "Z" (.int cz) := Sta.start eC (Or.inl (hsets _ (List.mem_of_getElem? (i := 0) rfl)))
  have hcw0 := (hsets _ (List.mem_of_getElem? (i := 2) rfl))
  have hcz : ¬ cz = 0 := gotF (Cond.eq_ints eC (Term.int_eval 0)) (not_v (Cond.before_iff.mp hcw0))
  obtain ⟨fv, eF, hf'⟩ := isR_v (Cond.before_iff.mp (hsets _ (List.mem_of_getElem? (i := 8) rfl)))
  have SF : Sta s s.heap "jdk/internal/util/Preconditions" "SIOOBE_FORMATTER" "Ljava/util/function/BiFunction;" fv := Sta.start eF (Or.inl (hsets _ (List.mem_of_getElem? (i := 7) rfl)))
  have SD := own_staI (Cond.before_iff.mp (hsets _ (List.mem_of_getElem? (i := 12) rfl))) (hsets _ (List.mem_of_getElem? (i := 11) rfl))
  have SH := own_staI (Cond.before_iff.mp (hsets _ (List.mem_of_getElem? (i := 15) rfl))) (hsets _ (List.mem_of_getElem? (i := 14) rfl))
  have SL := own_staI (Cond.before_iff.mp (hsets _ (List.mem_of_getElem? (i := 18) rfl))) (hsets _ (List.mem_of_getElem? (i := 17) rfl))
  have hh : Jvm.Lit.constHeld s "java/lang/String" 7 := hcalls.1 ("java/lang/String", 7) (by simp [consts_1])
  have wS : ∀ d ∈ Bundle.stringAtoms, d.before #[Value.int i0, Value.int i1, Value.int i2, Value.int i3, Value.int i4] s = true := fun d hd => by
    simp only [Bundle.stringAtoms, Bundle.sN, List.mem_cons, List.not_mem_nil, or_false] at hd
    rcases hd with rfl | rfl | rfl | rfl | rfl | rfl | rfl
    · exact (hw _ (List.mem_of_getElem? (i := 9) rfl))
    · exact (hw _ (List.mem_of_getElem? (i := 8) rfl))
    · exact (hw _ (List.mem_of_getElem? (i := 22) rfl))
    · exact (hw _ (List.mem_of_getElem? (i := 23) rfl))
    · exact (hw _ (List.mem_of_getElem? (i := 24) rfl))
    · exact (hw _ (List.mem_of_getElem? (i := 25) rfl))
    · exact (hw _ (List.mem_of_getElem? (i := 26) rfl))
  obtain ⟨nn, o, h1, h2, h3, _, L, rfl, ⟨⟨rfl, -⟩, N⟩, hq⟩ := rm_law l s _ hw s.heap s.heap.size (Old.start s) cz SC hcz fv hf' SF SD SH SL hh hcw0 wS i0 i1 i2 i3 i4 p e ha hc hk s m _ below hf ((Spec.applies_iff_loose hf).mp happ).1 ⟨rfl, State.Warmed39.refl s, rfl, rfl⟩ trivial
  refine ⟨nn, _, h1, h2, h3, hpost _ _ _ _ _ _ ⟨Cond.after_iff.mpr rfl, Cond.after_iff.mpr (eq_i res_at (Term.int_eval (1)) rfl), trivial⟩ ⟨hq.1, hq.2.1, hq.2.2.1, (hq.2.2.2.sift fun y hy => Or.inr (N y hy)).mono (by decide) (by decide)⟩⟩
theorem main_1_1 : Claimed_1_1 := comes_1 fun _ _ _ _ _ _ h hF => ⟨h.1, hF⟩
theorem main_1_2 : Claimed_1_2 := comes_1 fun _ _ _ _ _ _ h hF => ⟨h.2.1, hF⟩
end Jvm.Pilot.@@N@@
namespace Jvm.Pilot.@@N@@
open Jvm Jvm.ClassFile Sem Op Lib Jvm.Free Jvm.Stand Jvm.Pilot.@@N@@.Jvm.D
/-! MADE BY PROGRAM (witnessworld.py) out of the Statement's table words and the real class files: 20 classes; the members and pool entries that the words name. The judged class is class 1, her method 3. -/
namespace start1
open Jvm.ClassFile
def u (s : String) : CpInfo := .utf8 (stringToUtf16 s)
/-- a pool by its gaps: so many unusable entries, then the entry; so many at the end -/
def gap : Nat → List CpInfo → List CpInfo
  | 0, r => r
  | n + 1, r => .unusable :: gap n r
def poolList (es : List (Nat × CpInfo)) (last : Nat) : List CpInfo := es.foldr (fun e r => gap e.1 (e.2 :: r)) (gap last [])
def pool (es : List (Nat × CpInfo)) (last : Nat) : Array CpInfo := ⟨poolList es last⟩
def fileOf (pool : Array CpInfo) (this : Nat) (attrs : Array Attribute := #[]) (ms : Array MethodInfo := #[]) (fl : Nat := 33) (sup : Nat := 0) (ifs : Array Nat := #[]) (fds : Array FieldInfo := #[]) : ClassFile where
  minorVersion := 0
  majorVersion := 65
  constantPool := pool
  accessFlags := fl
  thisClass := this
  superClass := sup
  interfaces := ifs
  fields := fds
  methods := ms
  attributes := attrs
def plain (name : String) (sup : Option ClassId) : Class where
  name := name
  kind := .ordinary
  loader := none
  accessFlags := 33
  super := sup
  interfaces := #[]
  cf := none
  fields := #[]
  methods := #[]
  instanceTypes := #[]
  staticTypes := #[]
  resolved := #[]
  callSites := []
  init := .initialized
  statics := none
  mirror := none

def pool0 : Array CpInfo := pool [(5, u "<init>"), (0, u "()V"), (1, .class_ 10), (1, u "java/lang/Object")] 113

def k0c0 : Code := { maxStack := 0, maxLocals := 1, code := object_method_1_code, exceptionTable := #[], attributes := #[] }
def k0m0 : Method := { name := "<init>", desc := "()V", sig := { parameters := [], returnType := none }, accessFlags := 1, code := some k0c0 }
/-- java/lang/Object -/
def k0 : Class := { plain "java/lang/Object" none with
  accessFlags := 33
  interfaces := #[]
  cf := some (fileOf pool0 8 #[] #[{ accessFlags := 1, nameIndex := 5, descriptorIndex := 6, attributes := #[] }] 33 0 #[] #[])
  fields := #[]
  methods := #[k0m0]
  instanceTypes := #[]
  staticTypes := #[]
  resolved := Array.replicate 124 none
  statics := none }

def pool1 : Array CpInfo := pool [(2, .class_ 4), (1, u "java/lang/Object"), (0, u "<init>"), (0, u "()V"), (0, .integer 65536), (0, .integer 65535), (0, .integer 2147483647), (0, .methodref 11 12), (0, .class_ 13), (0, .nameAndType 14 15), (0, u "com/example/libxqopt/libxqopt/XQueryCharactersIsWhitespacePinLaw"), (0, u "pick"), (0, u "(I)C"), (0, .class_ 17), (0, u "java/lang/String"), (0, .methodref 16 19), (0, .nameAndType 5 20), (0, u "([C)V"), (0, .methodref 11 22), (0, .nameAndType 23 24), (0, u "ws"), (0, u "(C)Z"), (0, .methodref 26 27), (0, .class_ 28), (0, .nameAndType 29 30), (0, u "com/example/libxqopt/libxqopt/XQueryCharacters"), (0, u "isWhitespace"), (0, u "(Ljava/lang/String;)Z"), (3, u "law"), (0, u "(IIIII)Z")] 2

def k1m0 : Method := { name := "<init>", desc := "()V", sig := { parameters := [], returnType := none }, accessFlags := 2, code := none }
def k1c1 : Code := { maxStack := 2, maxLocals := 2, code := method_2_code, exceptionTable := #[], attributes := #[] }
def k1m1 : Method := { name := "pick", desc := "(I)C", sig := { parameters := [.int], returnType := some .char }, accessFlags := 10, code := some k1c1 }
def k1c2 : Code := { maxStack := 2, maxLocals := 1, code := method_3_code, exceptionTable := #[], attributes := #[] }
def k1m2 : Method := { name := "ws", desc := "(C)Z", sig := { parameters := [.char], returnType := some .boolean }, accessFlags := 10, code := some k1c2 }
def k1c3 : Code := { maxStack := 6, maxLocals := 12, code := code, exceptionTable := #[], attributes := #[] }
def k1m3 : Method := { name := "law", desc := "(IIIII)Z", sig := { parameters := [.int, .int, .int, .int, .int], returnType := some .boolean }, accessFlags := 9, code := some k1c3 }
/-- com/example/libxqopt/libxqopt/XQueryCharactersIsWhitespacePinLaw -/
def k1 : Class := { plain "com/example/libxqopt/libxqopt/XQueryCharactersIsWhitespacePinLaw" (some 0) with
  accessFlags := 49
  interfaces := #[]
  cf := some (fileOf pool1 11 #[] #[{ accessFlags := 2, nameIndex := 5, descriptorIndex := 6, attributes := #[] }, { accessFlags := 10, nameIndex := 14, descriptorIndex := 15, attributes := #[] }, { accessFlags := 10, nameIndex := 23, descriptorIndex := 24, attributes := #[] }, { accessFlags := 9, nameIndex := 34, descriptorIndex := 35, attributes := #[] }] 49 2 #[] #[])
  fields := #[]
  methods := #[k1m0, k1m1, k1m2, k1m3]
  instanceTypes := #[]
  staticTypes := #[]
  resolved := Array.replicate 38 none
  statics := none }

def pool2 : Array CpInfo := pool [(1, .class_ 2), (0, u "java/io/Serializable"), (0, .class_ 4), (0, u "java/lang/Object")] 2

/-- java/io/Serializable -/
def k2 : Class := { plain "java/io/Serializable" (some 0) with
  accessFlags := 1537
  interfaces := #[]
  cf := some (fileOf pool2 1 #[] #[] 1537 3 #[] #[])
  fields := #[]
  methods := #[]
  instanceTypes := #[]
  staticTypes := #[]
  resolved := Array.replicate 7 none
  statics := none }

def pool3 : Array CpInfo := pool [(1, .class_ 2), (0, u "java/lang/Comparable"), (0, .class_ 4), (0, u "java/lang/Object")] 7

/-- java/lang/Comparable -/
def k3 : Class := { plain "java/lang/Comparable" (some 0) with
  accessFlags := 1537
  interfaces := #[]
  cf := some (fileOf pool3 1 #[] #[] 1537 3 #[] #[])
  fields := #[]
  methods := #[]
  instanceTypes := #[]
  staticTypes := #[]
  resolved := Array.replicate 12 none
  statics := none }

def pool4 : Array CpInfo := pool [(2, .class_ 4), (1, u "java/lang/CharSequence"), (42, .class_ 48), (0, u "java/lang/CharSequence$1CodePointIterator"), (10, .class_ 60), (0, u "java/lang/CharSequence$1CharIterator"), (5, .class_ 67), (0, u "java/lang/Object")] 63

/-- java/lang/CharSequence -/
def k4 : Class := { plain "java/lang/CharSequence" (some 0) with
  accessFlags := 1537
  interfaces := #[]
  cf := some (fileOf pool4 2 #[.nestMembers #[47, 59]] #[] 1537 66 #[] #[])
  fields := #[]
  methods := #[]
  instanceTypes := #[]
  staticTypes := #[]
  resolved := Array.replicate 131 none
  statics := none }

def pool5 : Array CpInfo := pool [(1, .class_ 2), (0, u "java/lang/constant/Constable"), (0, .class_ 4), (0, u "java/lang/Object")] 6

/-- java/lang/constant/Constable -/
def k5 : Class := { plain "java/lang/constant/Constable" (some 0) with
  accessFlags := 1537
  interfaces := #[]
  cf := some (fileOf pool5 1 #[] #[] 1537 3 #[] #[])
  fields := #[]
  methods := #[]
  instanceTypes := #[]
  staticTypes := #[]
  resolved := Array.replicate 11 none
  statics := none }

def pool6 : Array CpInfo := pool [(1, .class_ 2), (0, u "java/lang/constant/ConstantDesc"), (0, .class_ 4), (0, u "java/lang/Object")] 32

/-- java/lang/constant/ConstantDesc -/
def k6 : Class := { plain "java/lang/constant/ConstantDesc" (some 0) with
  accessFlags := 1537
  interfaces := #[]
  cf := some (fileOf pool6 1 #[] #[] 1537 3 #[] #[])
  fields := #[]
  methods := #[]
  instanceTypes := #[]
  staticTypes := #[]
  resolved := Array.replicate 37 none
  statics := none }

def pool7 : Array CpInfo := pool [(1, .methodref 2 3), (0, .class_ 4), (0, .nameAndType 5 6), (0, u "java/lang/Object"), (0, u "<init>"), (0, u "()V"), (0, .string 8), (0, u ""), (0, .fieldref 10 11), (0, .class_ 12), (0, .nameAndType 13 14), (0, u "java/lang/String"), (0, u "value"), (0, u "[B"), (0, .fieldref 10 16), (0, .nameAndType 17 18), (0, u "coder"), (0, u "B"), (2, u "hash"), (0, u "I"), (2, u "hashIsZero"), (0, u "Z"), (0, .methodref 10 28), (0, .nameAndType 5 29), (0, u "([CIILjava/lang/Void;)V"), (8, .fieldref 10 39), (0, .nameAndType 40 26), (0, u "COMPACT_STRINGS"), (1, .class_ 44), (1, u "java/lang/StringUTF16"), (0, u "compress"), (1, .methodref 42 48), (0, .nameAndType 49 50), (0, u "coderFromArrayLen"), (0, u "([BI)B"), (56, .class_ 109), (1, u "java/lang/StringLatin1"), (32, u "()Z"), (34, .methodref 42 178), (0, .nameAndType 45 179), (0, u "([CII)[B"), (154, u "()I"), (0, .methodref 10 336), (0, .nameAndType 17 337), (0, u "()B"), (25, u "([BI)C"), (27, u "(II)V"), (35, u "(I)C"), (64, .methodref 10 493), (0, .nameAndType 494 142), (0, u "isLatin1"), (0, .methodref 107 496), (0, .nameAndType 497 363), (0, u "charAt"), (0, .methodref 42 496), (2, u "checkIndex"), (5, u "length"), (67, .class_ 576), (0, u "java/lang/CharSequence"), (22, u "CASE_INSENSITIVE_ORDER"), (0, u "Ljava/util/Comparator;"), (409, u "([C)V"), (42, .fieldref 1054 1055), (0, .class_ 1056), (0, .nameAndType 1057 1058), (0, u "jdk/internal/util/Preconditions"), (0, u "SIOOBE_FORMATTER"), (0, u "Ljava/util/function/BiFunction;"), (0, .methodref 1054 1060), (0, .nameAndType 501 1061), (0, u "(IILjava/util/function/BiFunction;)I"), (39, u "serialPersistentFields"), (0, u "[Ljava/io/ObjectStreamField;"), (0, .class_ 1104), (0, u "java/lang/String$CaseInsensitiveComparator"), (1, .class_ 1107), (0, u "java/io/Serializable"), (0, .class_ 1109), (0, u "java/lang/Comparable"), (0, .class_ 1111), (0, u "java/lang/constant/Constable"), (0, .class_ 1113), (0, u "java/lang/constant/ConstantDesc"), (2, u "serialVersionUID"), (0, u "J"), (3, u "REPL"), (0, u "C"), (2, u "LATIN1"), (1, u "UTF16")] 323

def k7m0 : Method := { name := "<init>", desc := "()V", sig := { parameters := [], returnType := none }, accessFlags := 1, code := none }
def k7c1 : Code := { maxStack := 5, maxLocals := 2, code := jdk_42_method_3_code, exceptionTable := #[], attributes := #[] }
def k7m1 : Method := { name := "<init>", desc := "([C)V", sig := { parameters := [(.array .char)], returnType := none }, accessFlags := 1, code := some k7c1 }
def k7c2 : Code := { maxStack := 2, maxLocals := 1, code := jdk_42_method_54_code, exceptionTable := #[], attributes := #[] }
def k7m2 : Method := { name := "length", desc := "()I", sig := { parameters := [], returnType := some .int }, accessFlags := 1, code := some k7c2 }
def k7c3 : Code := { maxStack := 2, maxLocals := 2, code := jdk_42_method_56_code, exceptionTable := #[], attributes := #[] }
def k7m3 : Method := { name := "charAt", desc := "(I)C", sig := { parameters := [.int], returnType := some .char }, accessFlags := 1, code := some k7c3 }
def k7c4 : Code := { maxStack := 4, maxLocals := 6, code := jdk_42_method_149_code, exceptionTable := #[], attributes := #[] }
def k7m4 : Method := { name := "<init>", desc := "([CIILjava/lang/Void;)V", sig := { parameters := [(.array .char), .int, .int, (.object "java/lang/Void")], returnType := none }, accessFlags := 2, code := some k7c4 }
def k7c5 : Code := { maxStack := 1, maxLocals := 1, code := jdk_42_method_152_code, exceptionTable := #[], attributes := #[] }
def k7m5 : Method := { name := "coder", desc := "()B", sig := { parameters := [], returnType := some .byte }, accessFlags := 0, code := some k7c5 }
def k7c6 : Code := { maxStack := 1, maxLocals := 1, code := jdk_42_method_154_code, exceptionTable := #[], attributes := #[] }
def k7m6 : Method := { name := "isLatin1", desc := "()Z", sig := { parameters := [], returnType := some .boolean }, accessFlags := 0, code := some k7c6 }
def k7c7 : Code := { maxStack := 3, maxLocals := 2, code := jdk_42_method_155_code, exceptionTable := #[], attributes := #[] }
def k7m7 : Method := { name := "checkIndex", desc := "(II)V", sig := { parameters := [.int, .int], returnType := none }, accessFlags := 8, code := some k7c7 }
/-- java/lang/String -/
def k7 : Class := { plain "java/lang/String" (some 0) with
  accessFlags := 49
  interfaces := #[2, 3, 4, 5, 6]
  cf := some (fileOf pool7 10 #[.nestMembers #[1103]] #[{ accessFlags := 1, nameIndex := 5, descriptorIndex := 6, attributes := #[] }, { accessFlags := 1, nameIndex := 5, descriptorIndex := 1010, attributes := #[] }, { accessFlags := 1, nameIndex := 507, descriptorIndex := 334, attributes := #[] }, { accessFlags := 1, nameIndex := 497, descriptorIndex := 427, attributes := #[] }, { accessFlags := 2, nameIndex := 5, descriptorIndex := 29, attributes := #[] }, { accessFlags := 0, nameIndex := 17, descriptorIndex := 337, attributes := #[] }, { accessFlags := 0, nameIndex := 494, descriptorIndex := 142, attributes := #[] }, { accessFlags := 8, nameIndex := 501, descriptorIndex := 391, attributes := #[] }] 49 2 #[1106, 1108, 575, 1110, 1112] #[{ accessFlags := 18, nameIndex := 13, descriptorIndex := 14, attributes := #[] }, { accessFlags := 18, nameIndex := 17, descriptorIndex := 18, attributes := #[] }, { accessFlags := 2, nameIndex := 21, descriptorIndex := 22, attributes := #[] }, { accessFlags := 2, nameIndex := 25, descriptorIndex := 26, attributes := #[] }, { accessFlags := 26, nameIndex := 1116, descriptorIndex := 1117, attributes := #[] }, { accessFlags := 24, nameIndex := 40, descriptorIndex := 26, attributes := #[] }, { accessFlags := 26, nameIndex := 1101, descriptorIndex := 1102, attributes := #[] }, { accessFlags := 26, nameIndex := 1121, descriptorIndex := 1122, attributes := #[] }, { accessFlags := 25, nameIndex := 599, descriptorIndex := 600, attributes := #[] }, { accessFlags := 24, nameIndex := 1125, descriptorIndex := 18, attributes := #[] }, { accessFlags := 24, nameIndex := 1127, descriptorIndex := 18, attributes := #[] }])
  fields := #[{ name := "value", type := (.array .byte), accessFlags := 18, slot := 0, constantValue := 0 }, { name := "coder", type := .byte, accessFlags := 18, slot := 1, constantValue := 0 }, { name := "hash", type := .int, accessFlags := 2, slot := 2, constantValue := 0 }, { name := "hashIsZero", type := .boolean, accessFlags := 2, slot := 3, constantValue := 0 }, { name := "serialVersionUID", type := .long, accessFlags := 26, slot := 0, constantValue := 0 }, { name := "COMPACT_STRINGS", type := .boolean, accessFlags := 24, slot := 1, constantValue := 0 }, { name := "serialPersistentFields", type := (.array (.object "java/io/ObjectStreamField")), accessFlags := 26, slot := 2, constantValue := 0 }, { name := "REPL", type := .char, accessFlags := 26, slot := 3, constantValue := 0 }, { name := "CASE_INSENSITIVE_ORDER", type := (.object "java/util/Comparator"), accessFlags := 25, slot := 4, constantValue := 0 }, { name := "LATIN1", type := .byte, accessFlags := 24, slot := 5, constantValue := 0 }, { name := "UTF16", type := .byte, accessFlags := 24, slot := 6, constantValue := 0 }]
  methods := #[k7m0, k7m1, k7m2, k7m3, k7m4, k7m5, k7m6, k7m7]
  instanceTypes := #[(.array .byte), .byte, .int, .boolean]
  staticTypes := #[.long, .boolean, (.array (.object "java/io/ObjectStreamField")), .char, (.object "java/util/Comparator"), .byte, .byte]
  resolved := Array.replicate 1451 none
  statics := some 0 }

def pool8 : Array CpInfo := pool [(2, .class_ 4), (1, u "java/lang/Object"), (0, u "<init>"), (0, u "()V"), (2, .nameAndType 11 12), (1, u "length"), (0, u "()I"), (1, .nameAndType 15 16), (0, u "charAt"), (0, u "(I)C"), (6, .methodref 24 14), (0, .class_ 25), (0, u "java/lang/String"), (3, .methodref 24 9), (9, .class_ 41), (1, u "com/example/libxqopt/libxqopt/XQueryCharacters"), (45, u "(Ljava/lang/String;)Z"), (34, .methodref 39 123), (0, .nameAndType 124 125), (0, u "isWhitespace"), (0, u "(I)Z"), (12, u "CDATA_START"), (0, u "Ljava/lang/String;"), (3, u "CDATA_END")] 29

def k8m0 : Method := { name := "<init>", desc := "()V", sig := { parameters := [], returnType := none }, accessFlags := 2, code := none }
def k8c1 : Code := { maxStack := 2, maxLocals := 2, code := prog_216_method_10_code, exceptionTable := #[], attributes := #[] }
def k8m1 : Method := { name := "isWhitespace", desc := "(Ljava/lang/String;)Z", sig := { parameters := [(.object "java/lang/String")], returnType := some .boolean }, accessFlags := 8, code := some k8c1 }
def k8c2 : Code := { maxStack := 2, maxLocals := 1, code := prog_216_method_11_code, exceptionTable := #[], attributes := #[] }
def k8m2 : Method := { name := "isWhitespace", desc := "(I)Z", sig := { parameters := [.int], returnType := some .boolean }, accessFlags := 8, code := some k8c2 }
/-- com/example/libxqopt/libxqopt/XQueryCharacters -/
def k8 : Class := { plain "com/example/libxqopt/libxqopt/XQueryCharacters" (some 0) with
  accessFlags := 48
  interfaces := #[]
  cf := some (fileOf pool8 39 #[] #[{ accessFlags := 2, nameIndex := 5, descriptorIndex := 6, attributes := #[] }, { accessFlags := 8, nameIndex := 124, descriptorIndex := 87, attributes := #[] }, { accessFlags := 8, nameIndex := 124, descriptorIndex := 125, attributes := #[] }] 48 2 #[] #[{ accessFlags := 24, nameIndex := 138, descriptorIndex := 139, attributes := #[] }, { accessFlags := 24, nameIndex := 143, descriptorIndex := 139, attributes := #[] }])
  fields := #[{ name := "CDATA_START", type := (.object "java/lang/String"), accessFlags := 24, slot := 0, constantValue := 0 }, { name := "CDATA_END", type := (.object "java/lang/String"), accessFlags := 24, slot := 1, constantValue := 0 }]
  methods := #[k8m0, k8m1, k8m2]
  instanceTypes := #[]
  staticTypes := #[(.object "java/lang/String"), (.object "java/lang/String")]
  resolved := Array.replicate 173 none
  statics := none }

def pool9 : Array CpInfo := pool [(3, .class_ 4), (0, u "java/lang/String"), (1, .class_ 8), (1, u "java/lang/Object"), (0, u "<init>"), (0, u "()V"), (0, .methodref 12 13), (0, .class_ 14), (0, .nameAndType 15 16), (0, u "java/lang/StringUTF16"), (0, u "newBytesLength"), (0, u "(I)I"), (3, .integer 1073741823), (23, .fieldref 12 45), (0, .nameAndType 46 47), (0, u "$assertionsDisabled"), (0, u "Z"), (0, .methodref 12 49), (0, .nameAndType 50 51), (0, u "length"), (0, u "([B)I"), (7, .fieldref 12 60), (0, .nameAndType 61 62), (0, u "HI_BYTE_SHIFT"), (0, u "I"), (0, .fieldref 12 64), (0, .nameAndType 65 62), (0, u "LO_BYTE_SHIFT"), (1, .methodref 12 68), (0, .nameAndType 69 70), (0, u "checkIndex"), (0, u "(I[B)V"), (0, .methodref 12 72), (0, .nameAndType 73 74), (0, u "getChar"), (0, u "([BI)C"), (32, .methodref 12 108), (0, .nameAndType 109 110), (0, u "newBytesFor"), (0, u "(I)[B"), (0, .methodref 12 112), (0, .nameAndType 113 114), (0, u "putChar"), (0, u "([BII)V"), (0, .methodref 12 116), (0, .nameAndType 117 118), (0, u "compress"), (0, u "([CI[BII)I"), (0, .methodref 12 120), (0, .nameAndType 121 122), (0, u "toBytes"), (0, u "([CII)[B"), (138, u "coderFromArrayLen"), (0, u "([BI)B"), (106, .class_ 371), (1, u "java/lang/StringUTF16$LinesSpliterator"), (20, u "charAt"), (21, .methodref 3 415), (0, .nameAndType 69 416), (0, u "(II)V"), (13, u "MAX_LENGTH"), (196, .class_ 628), (0, u "java/lang/StringUTF16$CodePointsSpliterator"), (0, .class_ 630), (0, u "java/lang/StringUTF16$CharsSpliterator")] 4

def k9m0 : Method := { name := "<init>", desc := "()V", sig := { parameters := [], returnType := none }, accessFlags := 0, code := none }
def k9c1 : Code := { maxStack := 1, maxLocals := 1, code := jdk_52_method_2_code, exceptionTable := #[], attributes := #[] }
def k9m1 : Method := { name := "newBytesFor", desc := "(I)[B", sig := { parameters := [.int], returnType := some (.array .byte) }, accessFlags := 9, code := some k9c1 }
def k9c2 : Code := { maxStack := 4, maxLocals := 1, code := jdk_52_method_3_code, exceptionTable := #[], attributes := #[] }
def k9m2 : Method := { name := "newBytesLength", desc := "(I)I", sig := { parameters := [.int], returnType := some .int }, accessFlags := 9, code := some k9c2 }
def k9c3 : Code := { maxStack := 4, maxLocals := 3, code := jdk_52_method_4_code, exceptionTable := #[], attributes := #[] }
def k9m3 : Method := { name := "putChar", desc := "([BII)V", sig := { parameters := [(.array .byte), .int, .int], returnType := none }, accessFlags := 8, code := some k9c3 }
def k9c4 : Code := { maxStack := 3, maxLocals := 2, code := jdk_52_method_5_code, exceptionTable := #[], attributes := #[] }
def k9m4 : Method := { name := "getChar", desc := "([BI)C", sig := { parameters := [(.array .byte), .int], returnType := some .char }, accessFlags := 8, code := some k9c4 }
def k9c5 : Code := { maxStack := 2, maxLocals := 1, code := jdk_52_method_6_code, exceptionTable := #[], attributes := #[] }
def k9m5 : Method := { name := "length", desc := "([B)I", sig := { parameters := [(.array .byte)], returnType := some .int }, accessFlags := 9, code := some k9c5 }
def k9c6 : Code := { maxStack := 4, maxLocals := 5, code := jdk_52_method_14_code, exceptionTable := #[], attributes := #[] }
def k9m6 : Method := { name := "toBytes", desc := "([CII)[B", sig := { parameters := [(.array .char), .int, .int], returnType := some (.array .byte) }, accessFlags := 9, code := some k9c6 }
def k9c7 : Code := { maxStack := 2, maxLocals := 2, code := jdk_52_method_15_code, exceptionTable := #[], attributes := #[] }
def k9m7 : Method := { name := "coderFromArrayLen", desc := "([BI)B", sig := { parameters := [(.array .byte), .int], returnType := some .byte }, accessFlags := 8, code := some k9c7 }
def k9c8 : Code := { maxStack := 5, maxLocals := 6, code := jdk_52_method_16_code, exceptionTable := #[], attributes := #[] }
def k9m8 : Method := { name := "compress", desc := "([CII)[B", sig := { parameters := [(.array .char), .int, .int], returnType := some (.array .byte) }, accessFlags := 9, code := some k9c8 }
def k9c9 : Code := { maxStack := 3, maxLocals := 7, code := jdk_52_method_21_code, exceptionTable := #[], attributes := #[] }
def k9m9 : Method := { name := "compress", desc := "([CI[BII)I", sig := { parameters := [(.array .char), .int, (.array .byte), .int, .int], returnType := some .int }, accessFlags := 9, code := some k9c9 }
def k9c10 : Code := { maxStack := 2, maxLocals := 2, code := jdk_52_method_83_code, exceptionTable := #[], attributes := #[] }
def k9m10 : Method := { name := "charAt", desc := "([BI)C", sig := { parameters := [(.array .byte), .int], returnType := some .char }, accessFlags := 9, code := some k9c10 }
def k9c11 : Code := { maxStack := 2, maxLocals := 2, code := jdk_52_method_91_code, exceptionTable := #[], attributes := #[] }
def k9m11 : Method := { name := "checkIndex", desc := "(I[B)V", sig := { parameters := [.int, (.array .byte)], returnType := none }, accessFlags := 9, code := some k9c11 }
/-- java/lang/StringUTF16 -/
def k9 : Class := { plain "java/lang/StringUTF16" (some 0) with
  accessFlags := 48
  interfaces := #[]
  cf := some (fileOf pool9 12 #[.nestMembers #[627, 629, 369]] #[{ accessFlags := 0, nameIndex := 9, descriptorIndex := 10, attributes := #[] }, { accessFlags := 9, nameIndex := 109, descriptorIndex := 110, attributes := #[] }, { accessFlags := 9, nameIndex := 15, descriptorIndex := 16, attributes := #[] }, { accessFlags := 8, nameIndex := 113, descriptorIndex := 114, attributes := #[] }, { accessFlags := 8, nameIndex := 73, descriptorIndex := 74, attributes := #[] }, { accessFlags := 9, nameIndex := 50, descriptorIndex := 51, attributes := #[] }, { accessFlags := 9, nameIndex := 121, descriptorIndex := 122, attributes := #[] }, { accessFlags := 8, nameIndex := 261, descriptorIndex := 262, attributes := #[] }, { accessFlags := 9, nameIndex := 117, descriptorIndex := 122, attributes := #[] }, { accessFlags := 9, nameIndex := 117, descriptorIndex := 118, attributes := #[] }, { accessFlags := 9, nameIndex := 392, descriptorIndex := 74, attributes := #[] }, { accessFlags := 9, nameIndex := 69, descriptorIndex := 70, attributes := #[] }] 48 6 #[] #[{ accessFlags := 26, nameIndex := 61, descriptorIndex := 62, attributes := #[] }, { accessFlags := 26, nameIndex := 65, descriptorIndex := 62, attributes := #[] }, { accessFlags := 24, nameIndex := 430, descriptorIndex := 62, attributes := #[] }, { accessFlags := 4120, nameIndex := 46, descriptorIndex := 47, attributes := #[] }])
  fields := #[{ name := "HI_BYTE_SHIFT", type := .int, accessFlags := 26, slot := 0, constantValue := 0 }, { name := "LO_BYTE_SHIFT", type := .int, accessFlags := 26, slot := 1, constantValue := 0 }, { name := "MAX_LENGTH", type := .int, accessFlags := 24, slot := 2, constantValue := 0 }, { name := "$assertionsDisabled", type := .boolean, accessFlags := 4120, slot := 3, constantValue := 0 }]
  methods := #[k9m0, k9m1, k9m2, k9m3, k9m4, k9m5, k9m6, k9m7, k9m8, k9m9, k9m10, k9m11]
  instanceTypes := #[]
  staticTypes := #[.int, .int, .int, .boolean]
  resolved := Array.replicate 635 none
  statics := some 1 }

def pool10 : Array CpInfo := pool [(1, .class_ 2), (0, u "java/lang/String"), (1, .class_ 6), (1, u "java/lang/Object"), (0, u "<init>"), (0, u "()V"), (0, .methodref 1 10), (0, .nameAndType 11 12), (0, u "checkIndex"), (0, u "(II)V"), (1, .class_ 16), (1, u "java/lang/StringLatin1"), (36, u "([BI)C"), (67, u "$assertionsDisabled"), (0, u "Z"), (98, .class_ 223), (1, u "java/lang/StringLatin1$LinesSpliterator"), (28, u "charAt"), (137, .class_ 391), (0, u "java/lang/StringLatin1$CharsSpliterator")] 3

def k10m0 : Method := { name := "<init>", desc := "()V", sig := { parameters := [], returnType := none }, accessFlags := 0, code := none }
def k10c1 : Code := { maxStack := 2, maxLocals := 2, code := jdk_43_method_2_code, exceptionTable := #[], attributes := #[] }
def k10m1 : Method := { name := "charAt", desc := "([BI)C", sig := { parameters := [(.array .byte), .int], returnType := some .char }, accessFlags := 9, code := some k10c1 }
/-- java/lang/StringLatin1 -/
def k10 : Class := { plain "java/lang/StringLatin1" (some 0) with
  accessFlags := 48
  interfaces := #[]
  cf := some (fileOf pool10 14 #[.nestMembers #[390, 221]] #[{ accessFlags := 0, nameIndex := 7, descriptorIndex := 8, attributes := #[] }, { accessFlags := 9, nameIndex := 252, descriptorIndex := 53, attributes := #[] }] 48 4 #[] #[{ accessFlags := 4120, nameIndex := 121, descriptorIndex := 122, attributes := #[] }])
  fields := #[{ name := "$assertionsDisabled", type := .boolean, accessFlags := 4120, slot := 0, constantValue := 0 }]
  methods := #[k10m0, k10m1]
  instanceTypes := #[]
  staticTypes := #[.boolean]
  resolved := Array.replicate 395 none
  statics := none }

def pool11 : Array CpInfo := pool [(2, .class_ 4), (1, u "java/lang/Object"), (0, u "<init>"), (0, u "()V"), (17, .class_ 26), (1, u "jdk/internal/util/Preconditions"), (6, u "checkIndex"), (21, .class_ 56), (0, u "jdk/internal/util/Preconditions$4"), (57, .class_ 115), (0, u "jdk/internal/util/Preconditions$1"), (7, u "SIOOBE_FORMATTER"), (0, u "Ljava/util/function/BiFunction;"), (0, .class_ 126), (0, u "jdk/internal/util/Preconditions$2"), (3, u "AIOOBE_FORMATTER"), (0, .class_ 132), (0, u "jdk/internal/util/Preconditions$3"), (3, u "IOOBE_FORMATTER"), (41, u "(IILjava/util/function/BiFunction;)I")] 15

def k11m0 : Method := { name := "<init>", desc := "()V", sig := { parameters := [], returnType := none }, accessFlags := 1, code := none }
def k11c1 : Code := { maxStack := 3, maxLocals := 3, code := jdk_41_method_11_code, exceptionTable := #[], attributes := #[] }
def k11m1 : Method := { name := "checkIndex", desc := "(IILjava/util/function/BiFunction;)I", sig := { parameters := [.int, .int, (.object "java/util/function/BiFunction")], returnType := some .int }, accessFlags := 9, code := some k11c1 }
/-- jdk/internal/util/Preconditions -/
def k11 : Class := { plain "jdk/internal/util/Preconditions" (some 0) with
  accessFlags := 33
  interfaces := #[]
  cf := some (fileOf pool11 24 #[.nestMembers #[55, 131, 125, 114]] #[{ accessFlags := 1, nameIndex := 5, descriptorIndex := 6, attributes := #[] }, { accessFlags := 9, nameIndex := 33, descriptorIndex := 178, attributes := #[] }] 33 2 #[] #[{ accessFlags := 25, nameIndex := 123, descriptorIndex := 124, attributes := #[] }, { accessFlags := 25, nameIndex := 130, descriptorIndex := 124, attributes := #[] }, { accessFlags := 25, nameIndex := 136, descriptorIndex := 124, attributes := #[] }])
  fields := #[{ name := "SIOOBE_FORMATTER", type := (.object "java/util/function/BiFunction"), accessFlags := 25, slot := 0, constantValue := 0 }, { name := "AIOOBE_FORMATTER", type := (.object "java/util/function/BiFunction"), accessFlags := 25, slot := 1, constantValue := 0 }, { name := "IOOBE_FORMATTER", type := (.object "java/util/function/BiFunction"), accessFlags := 25, slot := 2, constantValue := 0 }]
  methods := #[k11m0, k11m1]
  instanceTypes := #[]
  staticTypes := #[(.object "java/util/function/BiFunction"), (.object "java/util/function/BiFunction"), (.object "java/util/function/BiFunction")]
  resolved := Array.replicate 194 none
  statics := some 2 }

def pool12 : Array CpInfo := pool [(9, u "<init>"), (6, .class_ 18), (1, u "java/lang/Object"), (0, u "()V"), (1, .class_ 23), (1, u "jdk/internal/util/ArraysSupport"), (0, u "LOG2_ARRAY_LONG_INDEX_SCALE"), (0, u "I"), (2, u "U"), (0, u "Ljdk/internal/misc/Unsafe;"), (8, u "BIG_ENDIAN"), (0, u "Z"), (8, u "LOG2_BYTE_BIT_SIZE"), (4, u "LOG2_ARRAY_INT_INDEX_SCALE"), (54, u "JLA"), (0, u "Ljdk/internal/access/JavaLangAccess;"), (11, u "LOG2_ARRAY_BOOLEAN_INDEX_SCALE"), (9, u "LOG2_ARRAY_BYTE_INDEX_SCALE"), (5, u "LOG2_ARRAY_CHAR_INDEX_SCALE"), (5, u "LOG2_ARRAY_SHORT_INDEX_SCALE"), (18, u "LOG2_ARRAY_FLOAT_INDEX_SCALE"), (24, u "LOG2_ARRAY_DOUBLE_INDEX_SCALE"), (89, u "T_BOOLEAN"), (2, u "T_CHAR"), (1, u "T_FLOAT"), (1, u "T_DOUBLE"), (1, u "T_BYTE"), (1, u "T_SHORT"), (1, u "T_INT"), (1, u "T_LONG"), (1, u "SOFT_MAX_ARRAY_LENGTH")] 83

def k12m0 : Method := { name := "<init>", desc := "()V", sig := { parameters := [], returnType := none }, accessFlags := 2, code := none }
/-- jdk/internal/util/ArraysSupport -/
def k12 : Class := { plain "jdk/internal/util/ArraysSupport" (some 0) with
  accessFlags := 33
  interfaces := #[]
  cf := some (fileOf pool12 21 #[] #[{ accessFlags := 2, nameIndex := 9, descriptorIndex := 19, attributes := #[] }] 33 16 #[] #[{ accessFlags := 24, nameIndex := 28, descriptorIndex := 29, attributes := #[] }, { accessFlags := 26, nameIndex := 38, descriptorIndex := 39, attributes := #[] }, { accessFlags := 25, nameIndex := 121, descriptorIndex := 25, attributes := #[] }, { accessFlags := 25, nameIndex := 131, descriptorIndex := 25, attributes := #[] }, { accessFlags := 25, nameIndex := 137, descriptorIndex := 25, attributes := #[] }, { accessFlags := 25, nameIndex := 143, descriptorIndex := 25, attributes := #[] }, { accessFlags := 25, nameIndex := 53, descriptorIndex := 25, attributes := #[] }, { accessFlags := 25, nameIndex := 24, descriptorIndex := 25, attributes := #[] }, { accessFlags := 25, nameIndex := 162, descriptorIndex := 25, attributes := #[] }, { accessFlags := 25, nameIndex := 187, descriptorIndex := 25, attributes := #[] }, { accessFlags := 26, nameIndex := 48, descriptorIndex := 25, attributes := #[] }, { accessFlags := 25, nameIndex := 277, descriptorIndex := 25, attributes := #[] }, { accessFlags := 25, nameIndex := 280, descriptorIndex := 25, attributes := #[] }, { accessFlags := 25, nameIndex := 282, descriptorIndex := 25, attributes := #[] }, { accessFlags := 25, nameIndex := 284, descriptorIndex := 25, attributes := #[] }, { accessFlags := 25, nameIndex := 286, descriptorIndex := 25, attributes := #[] }, { accessFlags := 25, nameIndex := 288, descriptorIndex := 25, attributes := #[] }, { accessFlags := 25, nameIndex := 290, descriptorIndex := 25, attributes := #[] }, { accessFlags := 25, nameIndex := 292, descriptorIndex := 25, attributes := #[] }, { accessFlags := 26, nameIndex := 108, descriptorIndex := 109, attributes := #[] }, { accessFlags := 25, nameIndex := 294, descriptorIndex := 25, attributes := #[] }])
  fields := #[{ name := "U", type := (.object "jdk/internal/misc/Unsafe"), accessFlags := 24, slot := 0, constantValue := 0 }, { name := "BIG_ENDIAN", type := .boolean, accessFlags := 26, slot := 1, constantValue := 0 }, { name := "LOG2_ARRAY_BOOLEAN_INDEX_SCALE", type := .int, accessFlags := 25, slot := 2, constantValue := 0 }, { name := "LOG2_ARRAY_BYTE_INDEX_SCALE", type := .int, accessFlags := 25, slot := 3, constantValue := 0 }, { name := "LOG2_ARRAY_CHAR_INDEX_SCALE", type := .int, accessFlags := 25, slot := 4, constantValue := 0 }, { name := "LOG2_ARRAY_SHORT_INDEX_SCALE", type := .int, accessFlags := 25, slot := 5, constantValue := 0 }, { name := "LOG2_ARRAY_INT_INDEX_SCALE", type := .int, accessFlags := 25, slot := 6, constantValue := 0 }, { name := "LOG2_ARRAY_LONG_INDEX_SCALE", type := .int, accessFlags := 25, slot := 7, constantValue := 0 }, { name := "LOG2_ARRAY_FLOAT_INDEX_SCALE", type := .int, accessFlags := 25, slot := 8, constantValue := 0 }, { name := "LOG2_ARRAY_DOUBLE_INDEX_SCALE", type := .int, accessFlags := 25, slot := 9, constantValue := 0 }, { name := "LOG2_BYTE_BIT_SIZE", type := .int, accessFlags := 26, slot := 10, constantValue := 0 }, { name := "T_BOOLEAN", type := .int, accessFlags := 25, slot := 11, constantValue := 0 }, { name := "T_CHAR", type := .int, accessFlags := 25, slot := 12, constantValue := 0 }, { name := "T_FLOAT", type := .int, accessFlags := 25, slot := 13, constantValue := 0 }, { name := "T_DOUBLE", type := .int, accessFlags := 25, slot := 14, constantValue := 0 }, { name := "T_BYTE", type := .int, accessFlags := 25, slot := 15, constantValue := 0 }, { name := "T_SHORT", type := .int, accessFlags := 25, slot := 16, constantValue := 0 }, { name := "T_INT", type := .int, accessFlags := 25, slot := 17, constantValue := 0 }, { name := "T_LONG", type := .int, accessFlags := 25, slot := 18, constantValue := 0 }, { name := "JLA", type := (.object "jdk/internal/access/JavaLangAccess"), accessFlags := 26, slot := 19, constantValue := 0 }, { name := "SOFT_MAX_ARRAY_LENGTH", type := .int, accessFlags := 25, slot := 20, constantValue := 0 }]
  methods := #[k12m0]
  instanceTypes := #[]
  staticTypes := #[(.object "jdk/internal/misc/Unsafe"), .boolean, .int, .int, .int, .int, .int, .int, .int, .int, .int, .int, .int, .int, .int, .int, .int, .int, .int, (.object "jdk/internal/access/JavaLangAccess"), .int]
  resolved := Array.replicate 378 none
  statics := none }

def pool13 : Array CpInfo := pool [(1, u "java/lang/Cloneable"), (0, .class_ 1), (0, u "java/lang/Object"), (0, .class_ 3)] 3

/-- java/lang/Cloneable -/
def k13 : Class := { plain "java/lang/Cloneable" (some 0) with
  accessFlags := 1537
  interfaces := #[]
  cf := some (fileOf pool13 2 #[] #[] 1537 4 #[] #[])
  fields := #[]
  methods := #[]
  instanceTypes := #[]
  staticTypes := #[]
  resolved := Array.replicate 8 none
  statics := none }

/-- the primitive byte -/
def k14 : Class := { plain "byte" none with kind := .primitive 'B', accessFlags := 0x411 }
/-- [B -/
def k15 : Class := { plain "[B" (some 0) with kind := .array 14 .byte, interfaces := #[13, 2], accessFlags := 1041 }

/-- the primitive char -/
def k16 : Class := { plain "char" none with kind := .primitive 'C', accessFlags := 0x411 }
/-- [C -/
def k17 : Class := { plain "[C" (some 0) with kind := .array 16 .char, interfaces := #[13, 2], accessFlags := 1041 }

/-- the primitive int -/
def k18 : Class := { plain "int" none with kind := .primitive 'I', accessFlags := 0x411 }
/-- [I -/
def k19 : Class := { plain "[I" (some 0) with kind := .array 18 .int, interfaces := #[13, 2], accessFlags := 1041 }

def heap : Heap := #[{ cls := 7, slots := #[.long 0, .int 1, .null, .int 0, .null, .int 0, .int 0], vm := .statics 7 },
  { cls := 9, slots := #[.int 0, .int 8, .int 0, .int 1], vm := .statics 9 },
  { cls := 11, slots := #[.null, .null, .null], vm := .statics 11 }]
def classes : Array Class := #[k0, k1, k2, k3, k4, k5, k6, k7, k8, k9, k10, k11, k12, k13, k14, k15, k16, k17, k18, k19]
def interned : List (Array UInt16 × Addr) := []
def slotsUsed : Nat := 14
def theMethod : MethodId := ⟨1, 3⟩
def args0 : Array Value := #[.int 6, .int 5, .int 9, .int 3, .int 2]
def aboutOver (below : List Frame) : State where
  vm := { classes := classes, interned := interned.toArray }
  heap := heap
  slotsUsed := slotsUsed
  threads := #[{ frames := .invoking theMethod args0 :: below }]
def below0 : List Frame := [.native { method := ⟨0, 0⟩, args := #[] }]
def about1 : State := aboutOver below0
def p0 : Program := .bare "" "" ""
def e0 : Env := launch0.env 0 0 0
theorem w_frames : about1.frames = Frame.invoking theMethod args0 :: below0 := rfl
set_option maxRecDepth 65536 in
theorem w_args : argsFit about1.vm theMethod args0 = true := by decide +kernel
set_option maxRecDepth 65536 in
theorem w_heap : heapFits about1 = true := by decide +kernel
set_option maxRecDepth 65536 in
theorem w_runnable : about1.curStatus? = some .runnable := by decide +kernel
set_option maxRecDepth 65536 in
theorem w_alone : about1.alone = true := by decide +kernel
set_option maxRecDepth 65536 in
theorem w_named : about1.methodNamed? x = some theMethod := by decide +kernel
set_option maxRecDepth 65536 in
theorem w_hears : about1.hears theMethod below0 = true := by decide +kernel
set_option maxRecDepth 65536 in
theorem w_ripe : about1.ripe theMethod args0 below0 = true := by decide +kernel
theorem w_running : about1.status = .running := rfl
set_option maxRecDepth 65536 in
theorem w_room : about1.hasRoom e0.platform room_1 = true :=
  launch0.hasRoom_least _ room_1 (by decide +kernel) (by decide +kernel) (by decide +kernel) (by decide +kernel) (by decide +kernel) (by decide +kernel)
theorem allAtoms_all (ts : List Jvm.Cond) (a : Array Jvm.Value) (st : Jvm.State) : (allAtoms ts).before a st = ts.all (fun c => c.before a st) := by
  induction ts with
  | nil => rfl
  | cons c t ih =>
    show (Jvm.Cond.and c (allAtoms t)).before a st = _
    rw [Jvm.Cond.before_and, ih, List.all_cons]
def words1 : List Jvm.Cond := Jvm.Cond.code x code maxLocals ret :: tables_1
/-- a 'code' word, met by the world's own term for the bytes: nothing is compared byte by byte -/
theorem code_word {y : MethodName} {bytes : ByteArray} {mx : Nat} {rt : Option FieldType} {a : Array Value} {s : State} {m : MethodId} {meth : Method} {c : Code} (h1 : s.methodNamed? y = some m) (h2 : s.vm.method? m = some meth) (h3 : meth.code = some c) (h4 : c.code = bytes)
    (h5 : (c.maxLocals == mx && c.exceptionTable.isEmpty && decide (c.maxStack ≤ mostOperands) && decide (meth.sig.returnType = rt) && !meth.locks && decide (parseMethodDescriptor y.desc = some meth.sig)) = true) : (Jvm.Cond.code y bytes mx rt).before a s = true := by
  simp only [Bool.and_eq_true, beq_iff_eq, Bool.not_eq_true', decide_eq_true_eq] at h5
  obtain ⟨⟨⟨⟨⟨g1, g2⟩, g3⟩, g4⟩, g5⟩, g6⟩ := h5
  simp [Cond.before, Cond.holds, Cond.value, h1, h2, h3, h4, g1, g2, g3, g4, g5, g6]
def isCode : Jvm.Cond → Bool
  | .code _ _ _ _ => true
  | _ => false
theorem all_split {L : List Jvm.Cond} {P : Jvm.Cond → Bool} (h1 : L.all (fun c => isCode c || P c) = true) (h2 : ∀ c ∈ L.filter isCode, P c = true) : L.all P = true := by
  refine List.all_eq_true.mpr fun c hc => ?_
  have h := List.all_eq_true.mp h1 c hc
  rcases Bool.eq_false_or_eq_true (isCode c) with hi | hi
  · exact h2 c (List.mem_filter.mpr ⟨hc, hi⟩)
  · simpa [hi] using h
set_option maxRecDepth 65536 in
theorem w_c0 : (Jvm.Cond.code x code maxLocals ret).before args0 about1 = true := code_word (m := ⟨1, 3⟩) (meth := k1m3) (c := k1c3) (by decide +kernel) rfl rfl rfl (by decide +kernel)
set_option maxRecDepth 65536 in
theorem w_c1 : (Jvm.Cond.code ({ cls := "com/example/libxqopt/libxqopt/XQueryCharactersIsWhitespacePinLaw", name := "pick", desc := "(I)C" } : Jvm.MethodName) method_2_code (2 : Nat) (Option.some Jvm.ClassFile.FieldType.char)).before args0 about1 = true := code_word (m := ⟨1, 1⟩) (meth := k1m1) (c := k1c1) (by decide +kernel) rfl rfl rfl (by decide +kernel)
set_option maxRecDepth 65536 in
theorem w_c2 : (Jvm.Cond.code ({ cls := "java/lang/String", name := "<init>", desc := "([C)V" } : Jvm.MethodName) jdk_42_method_3_code (2 : Nat) (Option.none : Option Jvm.ClassFile.FieldType)).before args0 about1 = true := code_word (m := ⟨7, 1⟩) (meth := k7m1) (c := k7c1) (by decide +kernel) rfl rfl rfl (by decide +kernel)
set_option maxRecDepth 65536 in
theorem w_c3 : (Jvm.Cond.code ({ cls := "java/lang/String", name := "<init>", desc := "([CIILjava/lang/Void;)V" } : Jvm.MethodName) jdk_42_method_149_code (6 : Nat) (Option.none : Option Jvm.ClassFile.FieldType)).before args0 about1 = true := code_word (m := ⟨7, 4⟩) (meth := k7m4) (c := k7c4) (by decide +kernel) rfl rfl rfl (by decide +kernel)
set_option maxRecDepth 65536 in
theorem w_c4 : (Jvm.Cond.code ({ cls := "java/lang/Object", name := "<init>", desc := "()V" } : Jvm.MethodName) object_method_1_code (1 : Nat) (Option.none : Option Jvm.ClassFile.FieldType)).before args0 about1 = true := code_word (m := ⟨0, 0⟩) (meth := k0m0) (c := k0c0) (by decide +kernel) rfl rfl rfl (by decide +kernel)
set_option maxRecDepth 65536 in
theorem w_c5 : (Jvm.Cond.code ({ cls := "com/example/libxqopt/libxqopt/XQueryCharacters", name := "isWhitespace", desc := "(Ljava/lang/String;)Z" } : Jvm.MethodName) prog_216_method_10_code (2 : Nat) (Option.some Jvm.ClassFile.FieldType.boolean)).before args0 about1 = true := code_word (m := ⟨8, 1⟩) (meth := k8m1) (c := k8c1) (by decide +kernel) rfl rfl rfl (by decide +kernel)
set_option maxRecDepth 65536 in
theorem w_c6 : (Jvm.Cond.code ({ cls := "java/lang/String", name := "length", desc := "()I" } : Jvm.MethodName) jdk_42_method_54_code (1 : Nat) (Option.some Jvm.ClassFile.FieldType.int)).before args0 about1 = true := code_word (m := ⟨7, 2⟩) (meth := k7m2) (c := k7c2) (by decide +kernel) rfl rfl rfl (by decide +kernel)
set_option maxRecDepth 65536 in
theorem w_c7 : (Jvm.Cond.code ({ cls := "java/lang/String", name := "coder", desc := "()B" } : Jvm.MethodName) jdk_42_method_152_code (1 : Nat) (Option.some Jvm.ClassFile.FieldType.byte)).before args0 about1 = true := code_word (m := ⟨7, 5⟩) (meth := k7m5) (c := k7c5) (by decide +kernel) rfl rfl rfl (by decide +kernel)
set_option maxRecDepth 65536 in
theorem w_c8 : (Jvm.Cond.code ({ cls := "java/lang/StringUTF16", name := "compress", desc := "([CII)[B" } : Jvm.MethodName) jdk_52_method_16_code (6 : Nat) (Option.some (Jvm.ClassFile.FieldType.array Jvm.ClassFile.FieldType.byte))).before args0 about1 = true := code_word (m := ⟨9, 8⟩) (meth := k9m8) (c := k9c8) (by decide +kernel) rfl rfl rfl (by decide +kernel)
set_option maxRecDepth 65536 in
theorem w_c9 : (Jvm.Cond.code ({ cls := "java/lang/StringUTF16", name := "compress", desc := "([CI[BII)I" } : Jvm.MethodName) jdk_52_method_21_code (7 : Nat) (Option.some Jvm.ClassFile.FieldType.int)).before args0 about1 = true := code_word (m := ⟨9, 9⟩) (meth := k9m9) (c := k9c9) (by decide +kernel) rfl rfl rfl (by decide +kernel)
set_option maxRecDepth 65536 in
theorem w_c10 : (Jvm.Cond.code ({ cls := "java/lang/StringUTF16", name := "coderFromArrayLen", desc := "([BI)B" } : Jvm.MethodName) jdk_52_method_15_code (2 : Nat) (Option.some Jvm.ClassFile.FieldType.byte)).before args0 about1 = true := code_word (m := ⟨9, 7⟩) (meth := k9m7) (c := k9c7) (by decide +kernel) rfl rfl rfl (by decide +kernel)
set_option maxRecDepth 65536 in
theorem w_c11 : (Jvm.Cond.code ({ cls := "com/example/libxqopt/libxqopt/XQueryCharactersIsWhitespacePinLaw", name := "ws", desc := "(C)Z" } : Jvm.MethodName) method_3_code (1 : Nat) (Option.some Jvm.ClassFile.FieldType.boolean)).before args0 about1 = true := code_word (m := ⟨1, 2⟩) (meth := k1m2) (c := k1c2) (by decide +kernel) rfl rfl rfl (by decide +kernel)
set_option maxRecDepth 65536 in
theorem w_c12 : (Jvm.Cond.code ({ cls := "java/lang/String", name := "charAt", desc := "(I)C" } : Jvm.MethodName) jdk_42_method_56_code (2 : Nat) (Option.some Jvm.ClassFile.FieldType.char)).before args0 about1 = true := code_word (m := ⟨7, 3⟩) (meth := k7m3) (c := k7c3) (by decide +kernel) rfl rfl rfl (by decide +kernel)
set_option maxRecDepth 65536 in
theorem w_c13 : (Jvm.Cond.code ({ cls := "java/lang/String", name := "isLatin1", desc := "()Z" } : Jvm.MethodName) jdk_42_method_154_code (1 : Nat) (Option.some Jvm.ClassFile.FieldType.boolean)).before args0 about1 = true := code_word (m := ⟨7, 6⟩) (meth := k7m6) (c := k7c6) (by decide +kernel) rfl rfl rfl (by decide +kernel)
set_option maxRecDepth 65536 in
theorem w_c14 : (Jvm.Cond.code ({ cls := "java/lang/StringLatin1", name := "charAt", desc := "([BI)C" } : Jvm.MethodName) jdk_43_method_2_code (2 : Nat) (Option.some Jvm.ClassFile.FieldType.char)).before args0 about1 = true := code_word (m := ⟨10, 1⟩) (meth := k10m1) (c := k10c1) (by decide +kernel) rfl rfl rfl (by decide +kernel)
set_option maxRecDepth 65536 in
theorem w_c15 : (Jvm.Cond.code ({ cls := "java/lang/String", name := "checkIndex", desc := "(II)V" } : Jvm.MethodName) jdk_42_method_155_code (2 : Nat) (Option.none : Option Jvm.ClassFile.FieldType)).before args0 about1 = true := code_word (m := ⟨7, 7⟩) (meth := k7m7) (c := k7c7) (by decide +kernel) rfl rfl rfl (by decide +kernel)
set_option maxRecDepth 65536 in
theorem w_c16 : (Jvm.Cond.code ({ cls := "jdk/internal/util/Preconditions", name := "checkIndex", desc := "(IILjava/util/function/BiFunction;)I" } : Jvm.MethodName) jdk_41_method_11_code (3 : Nat) (Option.some Jvm.ClassFile.FieldType.int)).before args0 about1 = true := code_word (m := ⟨11, 1⟩) (meth := k11m1) (c := k11c1) (by decide +kernel) rfl rfl rfl (by decide +kernel)
set_option maxRecDepth 65536 in
theorem w_c17 : (Jvm.Cond.code ({ cls := "com/example/libxqopt/libxqopt/XQueryCharacters", name := "isWhitespace", desc := "(I)Z" } : Jvm.MethodName) prog_216_method_11_code (1 : Nat) (Option.some Jvm.ClassFile.FieldType.boolean)).before args0 about1 = true := code_word (m := ⟨8, 2⟩) (meth := k8m2) (c := k8c2) (by decide +kernel) rfl rfl rfl (by decide +kernel)
set_option maxRecDepth 65536 in
theorem w_c18 : (Jvm.Cond.code ({ cls := "java/lang/StringUTF16", name := "toBytes", desc := "([CII)[B" } : Jvm.MethodName) jdk_52_method_14_code (5 : Nat) (Option.some (Jvm.ClassFile.FieldType.array Jvm.ClassFile.FieldType.byte))).before args0 about1 = true := code_word (m := ⟨9, 6⟩) (meth := k9m6) (c := k9c6) (by decide +kernel) rfl rfl rfl (by decide +kernel)
set_option maxRecDepth 65536 in
theorem w_c19 : (Jvm.Cond.code ({ cls := "java/lang/StringUTF16", name := "newBytesFor", desc := "(I)[B" } : Jvm.MethodName) jdk_52_method_2_code (1 : Nat) (Option.some (Jvm.ClassFile.FieldType.array Jvm.ClassFile.FieldType.byte))).before args0 about1 = true := code_word (m := ⟨9, 1⟩) (meth := k9m1) (c := k9c1) (by decide +kernel) rfl rfl rfl (by decide +kernel)
set_option maxRecDepth 65536 in
theorem w_c20 : (Jvm.Cond.code ({ cls := "java/lang/StringUTF16", name := "newBytesLength", desc := "(I)I" } : Jvm.MethodName) jdk_52_method_3_code (1 : Nat) (Option.some Jvm.ClassFile.FieldType.int)).before args0 about1 = true := code_word (m := ⟨9, 2⟩) (meth := k9m2) (c := k9c2) (by decide +kernel) rfl rfl rfl (by decide +kernel)
set_option maxRecDepth 65536 in
theorem w_c21 : (Jvm.Cond.code ({ cls := "java/lang/StringUTF16", name := "putChar", desc := "([BII)V" } : Jvm.MethodName) jdk_52_method_4_code (3 : Nat) (Option.none : Option Jvm.ClassFile.FieldType)).before args0 about1 = true := code_word (m := ⟨9, 3⟩) (meth := k9m3) (c := k9c3) (by decide +kernel) rfl rfl rfl (by decide +kernel)
set_option maxRecDepth 65536 in
theorem w_c22 : (Jvm.Cond.code ({ cls := "java/lang/StringUTF16", name := "getChar", desc := "([BI)C" } : Jvm.MethodName) jdk_52_method_5_code (2 : Nat) (Option.some Jvm.ClassFile.FieldType.char)).before args0 about1 = true := code_word (m := ⟨9, 4⟩) (meth := k9m4) (c := k9c4) (by decide +kernel) rfl rfl rfl (by decide +kernel)
set_option maxRecDepth 65536 in
theorem w_c23 : (Jvm.Cond.code ({ cls := "java/lang/StringUTF16", name := "charAt", desc := "([BI)C" } : Jvm.MethodName) jdk_52_method_83_code (2 : Nat) (Option.some Jvm.ClassFile.FieldType.char)).before args0 about1 = true := code_word (m := ⟨9, 10⟩) (meth := k9m10) (c := k9c10) (by decide +kernel) rfl rfl rfl (by decide +kernel)
set_option maxRecDepth 65536 in
theorem w_c24 : (Jvm.Cond.code ({ cls := "java/lang/StringUTF16", name := "checkIndex", desc := "(I[B)V" } : Jvm.MethodName) jdk_52_method_91_code (2 : Nat) (Option.none : Option Jvm.ClassFile.FieldType)).before args0 about1 = true := code_word (m := ⟨9, 11⟩) (meth := k9m11) (c := k9c11) (by decide +kernel) rfl rfl rfl (by decide +kernel)
set_option maxRecDepth 65536 in
theorem w_c25 : (Jvm.Cond.code ({ cls := "java/lang/StringUTF16", name := "length", desc := "([B)I" } : Jvm.MethodName) jdk_52_method_6_code (1 : Nat) (Option.some Jvm.ClassFile.FieldType.int)).before args0 about1 = true := code_word (m := ⟨9, 5⟩) (meth := k9m5) (c := k9c5) (by decide +kernel) rfl rfl rfl (by decide +kernel)
def codes1 : List Jvm.Cond := [Jvm.Cond.code x code maxLocals ret, Jvm.Cond.code ({ cls := "com/example/libxqopt/libxqopt/XQueryCharactersIsWhitespacePinLaw", name := "pick", desc := "(I)C" } : Jvm.MethodName) method_2_code (2 : Nat) (Option.some Jvm.ClassFile.FieldType.char), Jvm.Cond.code ({ cls := "java/lang/String", name := "<init>", desc := "([C)V" } : Jvm.MethodName) jdk_42_method_3_code (2 : Nat) (Option.none : Option Jvm.ClassFile.FieldType), Jvm.Cond.code ({ cls := "java/lang/String", name := "<init>", desc := "([CIILjava/lang/Void;)V" } : Jvm.MethodName) jdk_42_method_149_code (6 : Nat) (Option.none : Option Jvm.ClassFile.FieldType), Jvm.Cond.code ({ cls := "java/lang/Object", name := "<init>", desc := "()V" } : Jvm.MethodName) object_method_1_code (1 : Nat) (Option.none : Option Jvm.ClassFile.FieldType), Jvm.Cond.code ({ cls := "com/example/libxqopt/libxqopt/XQueryCharacters", name := "isWhitespace", desc := "(Ljava/lang/String;)Z" } : Jvm.MethodName) prog_216_method_10_code (2 : Nat) (Option.some Jvm.ClassFile.FieldType.boolean), Jvm.Cond.code ({ cls := "java/lang/String", name := "length", desc := "()I" } : Jvm.MethodName) jdk_42_method_54_code (1 : Nat) (Option.some Jvm.ClassFile.FieldType.int), Jvm.Cond.code ({ cls := "java/lang/String", name := "coder", desc := "()B" } : Jvm.MethodName) jdk_42_method_152_code (1 : Nat) (Option.some Jvm.ClassFile.FieldType.byte), Jvm.Cond.code ({ cls := "java/lang/StringUTF16", name := "compress", desc := "([CII)[B" } : Jvm.MethodName) jdk_52_method_16_code (6 : Nat) (Option.some (Jvm.ClassFile.FieldType.array Jvm.ClassFile.FieldType.byte)), Jvm.Cond.code ({ cls := "java/lang/StringUTF16", name := "compress", desc := "([CI[BII)I" } : Jvm.MethodName) jdk_52_method_21_code (7 : Nat) (Option.some Jvm.ClassFile.FieldType.int), Jvm.Cond.code ({ cls := "java/lang/StringUTF16", name := "coderFromArrayLen", desc := "([BI)B" } : Jvm.MethodName) jdk_52_method_15_code (2 : Nat) (Option.some Jvm.ClassFile.FieldType.byte), Jvm.Cond.code ({ cls := "com/example/libxqopt/libxqopt/XQueryCharactersIsWhitespacePinLaw", name := "ws", desc := "(C)Z" } : Jvm.MethodName) method_3_code (1 : Nat) (Option.some Jvm.ClassFile.FieldType.boolean), Jvm.Cond.code ({ cls := "java/lang/String", name := "charAt", desc := "(I)C" } : Jvm.MethodName) jdk_42_method_56_code (2 : Nat) (Option.some Jvm.ClassFile.FieldType.char), Jvm.Cond.code ({ cls := "java/lang/String", name := "isLatin1", desc := "()Z" } : Jvm.MethodName) jdk_42_method_154_code (1 : Nat) (Option.some Jvm.ClassFile.FieldType.boolean), Jvm.Cond.code ({ cls := "java/lang/StringLatin1", name := "charAt", desc := "([BI)C" } : Jvm.MethodName) jdk_43_method_2_code (2 : Nat) (Option.some Jvm.ClassFile.FieldType.char), Jvm.Cond.code ({ cls := "java/lang/String", name := "checkIndex", desc := "(II)V" } : Jvm.MethodName) jdk_42_method_155_code (2 : Nat) (Option.none : Option Jvm.ClassFile.FieldType), Jvm.Cond.code ({ cls := "jdk/internal/util/Preconditions", name := "checkIndex", desc := "(IILjava/util/function/BiFunction;)I" } : Jvm.MethodName) jdk_41_method_11_code (3 : Nat) (Option.some Jvm.ClassFile.FieldType.int), Jvm.Cond.code ({ cls := "com/example/libxqopt/libxqopt/XQueryCharacters", name := "isWhitespace", desc := "(I)Z" } : Jvm.MethodName) prog_216_method_11_code (1 : Nat) (Option.some Jvm.ClassFile.FieldType.boolean), Jvm.Cond.code ({ cls := "java/lang/StringUTF16", name := "toBytes", desc := "([CII)[B" } : Jvm.MethodName) jdk_52_method_14_code (5 : Nat) (Option.some (Jvm.ClassFile.FieldType.array Jvm.ClassFile.FieldType.byte)), Jvm.Cond.code ({ cls := "java/lang/StringUTF16", name := "newBytesFor", desc := "(I)[B" } : Jvm.MethodName) jdk_52_method_2_code (1 : Nat) (Option.some (Jvm.ClassFile.FieldType.array Jvm.ClassFile.FieldType.byte)), Jvm.Cond.code ({ cls := "java/lang/StringUTF16", name := "newBytesLength", desc := "(I)I" } : Jvm.MethodName) jdk_52_method_3_code (1 : Nat) (Option.some Jvm.ClassFile.FieldType.int), Jvm.Cond.code ({ cls := "java/lang/StringUTF16", name := "putChar", desc := "([BII)V" } : Jvm.MethodName) jdk_52_method_4_code (3 : Nat) (Option.none : Option Jvm.ClassFile.FieldType), Jvm.Cond.code ({ cls := "java/lang/StringUTF16", name := "getChar", desc := "([BI)C" } : Jvm.MethodName) jdk_52_method_5_code (2 : Nat) (Option.some Jvm.ClassFile.FieldType.char), Jvm.Cond.code ({ cls := "java/lang/StringUTF16", name := "charAt", desc := "([BI)C" } : Jvm.MethodName) jdk_52_method_83_code (2 : Nat) (Option.some Jvm.ClassFile.FieldType.char), Jvm.Cond.code ({ cls := "java/lang/StringUTF16", name := "checkIndex", desc := "(I[B)V" } : Jvm.MethodName) jdk_52_method_91_code (2 : Nat) (Option.none : Option Jvm.ClassFile.FieldType), Jvm.Cond.code ({ cls := "java/lang/StringUTF16", name := "length", desc := "([B)I" } : Jvm.MethodName) jdk_52_method_6_code (1 : Nat) (Option.some Jvm.ClassFile.FieldType.int)]
set_option maxRecDepth 65536 in
theorem codes_eq : words1.filter isCode = codes1 := rfl
theorem w_codes : ∀ c ∈ words1.filter isCode, c.before args0 about1 = true := by
  rw [codes_eq]
  intro c hc
  simp only [codes1, List.mem_cons, List.not_mem_nil, or_false] at hc
  rcases hc with rfl | rfl | rfl | rfl | rfl | rfl | rfl | rfl | rfl | rfl | rfl | rfl | rfl | rfl | rfl | rfl | rfl | rfl | rfl | rfl | rfl | rfl | rfl | rfl | rfl | rfl
  · exact w_c0
  · exact w_c1
  · exact w_c2
  · exact w_c3
  · exact w_c4
  · exact w_c5
  · exact w_c6
  · exact w_c7
  · exact w_c8
  · exact w_c9
  · exact w_c10
  · exact w_c11
  · exact w_c12
  · exact w_c13
  · exact w_c14
  · exact w_c15
  · exact w_c16
  · exact w_c17
  · exact w_c18
  · exact w_c19
  · exact w_c20
  · exact w_c21
  · exact w_c22
  · exact w_c23
  · exact w_c24
  · exact w_c25
set_option maxRecDepth 65536 in
theorem w_t1 : (words1.take 24).all (fun c => isCode c || c.before args0 about1) = true := by decide +kernel
set_option maxRecDepth 65536 in
theorem w_t2 : ((words1.drop 24).take 24).all (fun c => isCode c || c.before args0 about1) = true := by decide +kernel
set_option maxRecDepth 65536 in
theorem w_t3 : (((words1.drop 24).drop 24).take 24).all (fun c => isCode c || c.before args0 about1) = true := by decide +kernel
set_option maxRecDepth 65536 in
theorem w_t4 : ((((words1.drop 24).drop 24).drop 24).take 24).all (fun c => isCode c || c.before args0 about1) = true := by decide +kernel
set_option maxRecDepth 65536 in
theorem w_t5 : ((((words1.drop 24).drop 24).drop 24).drop 24).all (fun c => isCode c || c.before args0 about1) = true := by decide +kernel
theorem w_tables : (allAtoms (Jvm.Cond.code x code maxLocals ret :: tables_1)).before args0 about1 = true := by
  rw [allAtoms_all]
  show words1.all (fun c => c.before args0 about1) = true
  refine all_split ?_ w_codes
  rw [← List.take_append_drop 24 words1, List.all_append, w_t1, ← List.take_append_drop 24 (words1.drop 24), List.all_append, w_t2, ← List.take_append_drop 24 ((words1.drop 24).drop 24), List.all_append, w_t3, ← List.take_append_drop 24 (((words1.drop 24).drop 24).drop 24), List.all_append, w_t4, w_t5]
  rfl
set_option maxRecDepth 65536 in
theorem w_rest : rest_1_c.before args0 about1 = true := by decide +kernel
set_option maxRecDepth 65536 in
theorem w_case : (Jvm.Cond.and given_1 narrow_1).before args0 about1 = true := by decide +kernel
set_option maxRecDepth 65536 in
theorem w_consts : constsHeld consts_1 about1 := Jvm.Lit.constsHeldB_iff.mp (by decide +kernel)
theorem w_applies : (headSpec (Jvm.Cond.code x code maxLocals ret :: tables_1) room_1).applies x e0.platform about1 = true :=
  (Spec.applies_iff w_frames).mpr ⟨w_running, w_runnable, w_alone, w_named, w_hears, w_ripe, w_room, w_tables⟩
theorem atStart : AtStart classFile x code maxLocals ret World_1 tables_1 room_1 Calls_1 rest_1 Pre_1 launch0 p0 e0 about1 theMethod args0 below0 :=
  ⟨lists_1, trivial, launch0.admits_env _ _ _, launch0.least_env, fairChoices_fair.cas, fairChoices_fair.clock, w_frames, w_args, w_heap, w_applies, ⟨w_consts, trivial⟩, w_rest, w_case⟩
end start1
theorem witness_1 : WitnessClaimed_1 := ⟨start1.p0, start1.e0, start1.about1, start1.theMethod, start1.args0, start1.below0, start1.atStart⟩
end Jvm.Pilot.@@N@@

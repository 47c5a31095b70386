import JvmDerived
import JvmDerived.Pilot.@@N@@Statement
import JvmDerived.Pilot.@@N@@Code
set_option linter.unusedVariables false
set_option linter.unusedSimpArgs false
namespace Jvm.Pilot.@@N@@
open Jvm Jvm.ClassFile Sem Op Lib Jvm.Free Jvm.Stand Jvm.LawKit Jvm.RoadKit Bundle Jvm.Pilot.@@N@@.Jvm.D
/-! A small calculus of my own over the library's laws: Run .. pc Ls st says: from every state at which this body stands with that heap, that pc, those locals and that stack the invocation comes back, and Q holds of what it returns and of the heap. -/
section Own
variable {l : Launch} {Z : State} {y : MethodName} {bytes : ByteArray} {ml : Nat} {ret : Option FieldType} {R : Room} {n0 : Nat} {Q : Option Value → Heap → Prop} {h : Heap} {k n : Nat} {pc : Nat} {Ls : List Slot} {st : List Value} {a0 : Array Value}

def own_Ctx (p : Program) (s : State) (m : MethodId) (meth : Method) (c : Code) (Z : State) (y : MethodName) (bytes : ByteArray) (ml : Nat) (ret : Option FieldType) : Prop :=
  p.tables.exec = Jvm.exec ∧ c.code = bytes ∧ c.maxLocals = ml ∧ Z.Warmed39 s.vm ∧ s.vm.findClass y.cls = some m.cls ∧ meth.name = y.name ∧ meth.sig.returnType = ret ∧ meth.locks = false

def Run (l : Launch) (Z : State) (y : MethodName) (bytes : ByteArray) (ml : Nat) (ret : Option FieldType) (R : Room) (n0 : Nat) (Q : Option Value → Heap → Prop) (h : Heap) (k n : Nat) (pc : Nat) (Ls : List Slot) (st : List Value) : Prop :=
  ∀ (p : Program) (e : Env) (s : State) (m : MethodId) (args : Array Value) (below : List Frame) (meth : Method) (c : Code) (T : State) (locs : List Loc),
    own_Ctx p s m meth c Z y bytes ml ret → Stand p l e R s m args below meth c T locs k n → Fr n0 locs → T.heap = h →
    ∃ s₂ o, Steps p.tables e below (T.setTop (mkF m pc Ls.toArray st)) s₂ ∧ s₂.status = .running ∧ Ended s₂ below o ∧ ∃ v L, o = .returned v ∧ (Q v s₂.heap ∧ Fr n0 L) ∧ FrameEnd s o s₂ L R.cells R.slots

/-- a step that leaves the state as it is -/
theorem Run.step {pc' : Nat} {Ls' : List Slot} {st' : List Value} (K : Run l Z y bytes ml ret R n0 Q h k n pc' Ls' st')
    (H : ∀ (p : Program) (e : Env) (s : State) (m : MethodId) (args : Array Value) (below : List Frame) (meth : Method) (c : Code) (T : State) (locs : List Loc),
      own_Ctx p s m meth c Z y bytes ml ret → Stand p l e R s m args below meth c T locs k n → T.heap = h → ∀ t, Steps p.tables e below (T.setTop (mkF m pc' Ls'.toArray st')) t → Steps p.tables e below (T.setTop (mkF m pc Ls.toArray st)) t) :
    Run l Z y bytes ml ret R n0 Q h k n pc Ls st := fun p e s m args below meth c T locs C X N E => by
  obtain ⟨s2, o, h1, h2⟩ := K p e s m args below meth c T locs C X N E
  exact ⟨s2, o, H p e s m args below meth c T locs C X E _ h1, h2⟩

/-- a step that moves the state -/
theorem Run.move {pc' : Nat} {Ls' : List Slot} {st' : List Value} {h' : Heap} {k' n' : Nat} (K : Run l Z y bytes ml ret R n0 Q h' k' n' pc' Ls' st')
    (H : ∀ (p : Program) (e : Env) (s : State) (m : MethodId) (args : Array Value) (below : List Frame) (meth : Method) (c : Code) (T : State) (locs : List Loc),
      own_Ctx p s m meth c Z y bytes ml ret → Stand p l e R s m args below meth c T locs k n → Fr n0 locs → T.heap = h →
        ∃ T' locs', Stand p l e R s m args below meth c T' locs' k' n' ∧ Fr n0 locs' ∧ T'.heap = h' ∧ ∀ t, Steps p.tables e below (T'.setTop (mkF m pc' Ls'.toArray st')) t → Steps p.tables e below (T.setTop (mkF m pc Ls.toArray st)) t) :
    Run l Z y bytes ml ret R n0 Q h k n pc Ls st := fun p e s m args below meth c T locs C X N E => by
  obtain ⟨T', locs', X', N', E', st'⟩ := H p e s m args below meth c T locs C X N E
  obtain ⟨s2, o, h1, h2⟩ := K p e s m args below meth c T' locs' C X' N' E'
  exact ⟨s2, o, st' _ h1, h2⟩

/-! loads, constants -/
theorem own_get {m : MethodId} {j : Nat} {v : Value} (h : Ls[j]? = some (.val v)) : (mkF m pc Ls.toArray st).locals[j]? = some (.val v) := by
  show Ls.toArray[j]? = _; rw [List.getElem?_toArray]; exact h
theorem r_aloadN {j : Fin 4} {a : Addr} (pc' : Nat) (hd : decode bytes pc = .ok (.aload_n j, 1)) (hp : pc + 1 = pc') (hl : Ls[j.val]? = some (.val (.ref a))) (K : Run l Z y bytes ml ret R n0 Q h k n pc' Ls (.ref a :: st)) : Run l Z y bytes ml ret R n0 Q h k n pc Ls st := by
  subst hp; exact K.step fun p e s m args below meth c T locs C X E t q => XS.aloadN X.here C.1 rfl (hb C.2.1 hd) (own_get hl) rfl q
theorem r_aload {j : Nat} {a : Addr} (pc' : Nat) (hd : decode bytes pc = .ok (.aload j, 2)) (hp : pc + 2 = pc') (hl : Ls[j]? = some (.val (.ref a))) (K : Run l Z y bytes ml ret R n0 Q h k n pc' Ls (.ref a :: st)) : Run l Z y bytes ml ret R n0 Q h k n pc Ls st := by
  subst hp; exact K.step fun p e s m args below meth c T locs C X E t q => XS.aload X.here C.1 rfl (hb C.2.1 hd) (own_get hl) rfl q
theorem r_aloadNV {j : Fin 4} {v : Value} (pc' : Nat) (hd : decode bytes pc = .ok (.aload_n j, 1)) (hp : pc + 1 = pc') (hl : Ls[j.val]? = some (.val v)) (hv : v.isRef = true) (K : Run l Z y bytes ml ret R n0 Q h k n pc' Ls (v :: st)) : Run l Z y bytes ml ret R n0 Q h k n pc Ls st := by
  subst hp; exact K.step fun p e s m args below meth c T locs C X E t q => XS.aloadN X.here C.1 rfl (hb C.2.1 hd) (own_get hl) hv q
theorem r_aloadV {j : Nat} {v : Value} (pc' : Nat) (hd : decode bytes pc = .ok (.aload j, 2)) (hp : pc + 2 = pc') (hl : Ls[j]? = some (.val v)) (hv : v.isRef = true) (K : Run l Z y bytes ml ret R n0 Q h k n pc' Ls (v :: st)) : Run l Z y bytes ml ret R n0 Q h k n pc Ls st := by
  subst hp; exact K.step fun p e s m args below meth c T locs C X E t q => XS.aload X.here C.1 rfl (hb C.2.1 hd) (own_get hl) hv q
theorem r_iloadN {j : Fin 4} {v : Int32} (pc' : Nat) (hd : decode bytes pc = .ok (.iload_n j, 1)) (hp : pc + 1 = pc') (hl : Ls[j.val]? = some (.val (.int v))) (K : Run l Z y bytes ml ret R n0 Q h k n pc' Ls (.int v :: st)) : Run l Z y bytes ml ret R n0 Q h k n pc Ls st := by
  subst hp; exact K.step fun p e s m args below meth c T locs C X E t q => XS.iloadN X.here C.1 rfl (hb C.2.1 hd) (own_get hl) q
theorem r_iload {j : Nat} {v : Int32} (pc' : Nat) (hd : decode bytes pc = .ok (.iload j, 2)) (hp : pc + 2 = pc') (hl : Ls[j]? = some (.val (.int v))) (K : Run l Z y bytes ml ret R n0 Q h k n pc' Ls (.int v :: st)) : Run l Z y bytes ml ret R n0 Q h k n pc Ls st := by
  subst hp; exact K.step fun p e s m args below meth c T locs C X E t q => XS.iload X.here C.1 rfl (hb C.2.1 hd) (own_get hl) q
theorem r_lloadN {j : Fin 4} {v : Int64} (pc' : Nat) (hd : decode bytes pc = .ok (.lload_n j, 1)) (hp : pc + 1 = pc') (hl : Ls[j.val]? = some (.val (.long v))) (K : Run l Z y bytes ml ret R n0 Q h k n pc' Ls (.long v :: st)) : Run l Z y bytes ml ret R n0 Q h k n pc Ls st := by
  subst hp; exact K.step fun p e s m args below meth c T locs C X E t q => XT.lloadN X.here C.1 rfl (hb C.2.1 hd) (own_get hl) q
theorem r_lload {j : Nat} {v : Int64} (pc' : Nat) (hd : decode bytes pc = .ok (.lload j, 2)) (hp : pc + 2 = pc') (hl : Ls[j]? = some (.val (.long v))) (K : Run l Z y bytes ml ret R n0 Q h k n pc' Ls (.long v :: st)) : Run l Z y bytes ml ret R n0 Q h k n pc Ls st := by
  subst hp; exact K.step fun p e s m args below meth c T locs C X E t q => XT.lload X.here C.1 rfl (hb C.2.1 hd) (own_get hl) q
theorem r_iconst {i : Int} (v : Int32) (pc' : Nat) (hd : decode bytes pc = .ok (.iconst i, 1)) (hp : pc + 1 = pc') (hv : Int32.ofInt i = v) (K : Run l Z y bytes ml ret R n0 Q h k n pc' Ls (.int v :: st)) : Run l Z y bytes ml ret R n0 Q h k n pc Ls st := by
  subst hp hv; exact K.step fun p e s m args below meth c T locs C X E t q => XS.iconst X.here C.1 rfl (hb C.2.1 hd) q
theorem r_bipush {i : Int} (v : Int32) (pc' : Nat) (hd : decode bytes pc = .ok (.bipush i, 2)) (hp : pc + 2 = pc') (hv : (Int8.ofInt i).toInt32 = v) (K : Run l Z y bytes ml ret R n0 Q h k n pc' Ls (.int v :: st)) : Run l Z y bytes ml ret R n0 Q h k n pc Ls st := by
  subst hp hv; exact K.step fun p e s m args below meth c T locs C X E t q => XS.bipush X.here C.1 rfl (hb C.2.1 hd) q
theorem r_sipush {i : Int} (v : Int32) (pc' : Nat) (hd : decode bytes pc = .ok (.sipush i, 3)) (hp : pc + 3 = pc') (hv : (Int16.ofInt i).toInt32 = v) (K : Run l Z y bytes ml ret R n0 Q h k n pc' Ls (.int v :: st)) : Run l Z y bytes ml ret R n0 Q h k n pc Ls st := by
  subst hp hv; exact K.step fun p e s m args below meth c T locs C X E t q => XS.sipush X.here C.1 rfl (hb C.2.1 hd) q
theorem r_lconst {i : Fin 2} (v : Int64) (pc' : Nat) (hd : decode bytes pc = .ok (.lconst i, 1)) (hp : pc + 1 = pc') (hv : Int64.ofNat i = v) (K : Run l Z y bytes ml ret R n0 Q h k n pc' Ls (.long v :: st)) : Run l Z y bytes ml ret R n0 Q h k n pc Ls st := by
  subst hp hv; exact K.step fun p e s m args below meth c T locs C X E t q => XT.lconst X.here C.1 rfl (hb C.2.1 hd) q
theorem r_null (pc' : Nat) (hd : decode bytes pc = .ok (.aconst_null, 1)) (hp : pc + 1 = pc') (K : Run l Z y bytes ml ret R n0 Q h k n pc' Ls (.null :: st)) : Run l Z y bytes ml ret R n0 Q h k n pc Ls st := by
  subst hp; exact K.step fun p e s m args below meth c T locs C X E t q => XS.aconstNull X.here C.1 rfl (hb C.2.1 hd) q
theorem r_ldc {i : Nat} {v : Int32} (pc' : Nat) (hd : decode bytes pc = .ok (.ldc i, 2)) (hp : pc + 2 = pc') (w : (Jvm.Cond.constant y.cls i v).before a0 Z = true) (K : Run l Z y bytes ml ret R n0 Q h k n pc' Ls (.int v :: st)) : Run l Z y bytes ml ret R n0 Q h k n pc Ls st := by
  subst hp; exact K.step fun p e s m args below meth c T locs C X E t q => X.ldcInt C.1 C.2.2.2.2.1 (mvT C.2.2.2.1 w) (g := mkF m pc Ls.toArray st) rfl (hb C.2.1 hd) _ q
theorem r_ldc2 {i : Nat} {v : Int64} (pc' : Nat) (hd : decode bytes pc = .ok (.ldc2_w i, 3)) (hp : pc + 3 = pc') (w : (Jvm.Cond.constantLong y.cls i v).before a0 Z = true) (K : Run l Z y bytes ml ret R n0 Q h k n pc' Ls (.long v :: st)) : Run l Z y bytes ml ret R n0 Q h k n pc Ls st := by
  subst hp; exact K.step fun p e s m args below meth c T locs C X E t q => X.ldc2Long C.1 C.2.2.2.2.1 (mvT C.2.2.2.1 w) (g := mkF m pc Ls.toArray st) rfl (hb C.2.1 hd) _ q
/-! stores -/
def own_one : Slot → Bool
  | .unset => true
  | .val (.int _) => true
  | .val (.float _) => true
  | .val .null => true
  | .val (.ref _) => true
  | .val (.retAddr _) => true
  | _ => false
theorem own_one_spec {o : Slot} (h : own_one o = true) : o = .unset ∨ ∃ w, o = .val w ∧ w.category = 1 := by
  cases o with
  | unset => exact Or.inl rfl
  | second => cases h
  | val w => cases w <;> first | exact Or.inr ⟨_, rfl, rfl⟩ | cases h
theorem own_put {m : MethodId} {j : Nat} {v : Value} (h : Ls[j]?.map own_one = some true) (hv : v.category = 1) : storeLocals (mkF m pc Ls.toArray st).locals j v = some (Ls.set j (.val v)).toArray := by
  show storeLocals Ls.toArray j v = _
  cases ho : Ls[j]? with
  | none => rw [ho] at h; cases h
  | some o =>
    rw [ho] at h
    have := XS.store1 (l := Ls.toArray) (i := j) (v := v) (o := o) (by rw [List.getElem?_toArray]; exact ho) (own_one_spec (Option.some.inj h)) hv
    rw [this, List.setIfInBounds_toArray]
theorem r_istoreN {j : Fin 4} {v : Int32} (pc' : Nat) (hd : decode bytes pc = .ok (.istore_n j, 1)) (hp : pc + 1 = pc') (hl : Ls[j.val]?.map own_one = some true) (K : Run l Z y bytes ml ret R n0 Q h k n pc' (Ls.set j.val (.val (.int v))) st) : Run l Z y bytes ml ret R n0 Q h k n pc Ls (.int v :: st) := by
  subst hp; exact K.step fun p e s m args below meth c T locs C X E t q => XS.istoreN X.here C.1 rfl (hb C.2.1 hd) rfl (own_put hl rfl) q
theorem r_istore {j : Nat} {v : Int32} (pc' : Nat) (hd : decode bytes pc = .ok (.istore j, 2)) (hp : pc + 2 = pc') (hl : Ls[j]?.map own_one = some true) (K : Run l Z y bytes ml ret R n0 Q h k n pc' (Ls.set j (.val (.int v))) st) : Run l Z y bytes ml ret R n0 Q h k n pc Ls (.int v :: st) := by
  subst hp; exact K.step fun p e s m args below meth c T locs C X E t q => XS.istore X.here C.1 rfl (hb C.2.1 hd) rfl (own_put hl rfl) q
theorem r_astoreN {j : Fin 4} {a : Addr} (pc' : Nat) (hd : decode bytes pc = .ok (.astore_n j, 1)) (hp : pc + 1 = pc') (hl : Ls[j.val]?.map own_one = some true) (K : Run l Z y bytes ml ret R n0 Q h k n pc' (Ls.set j.val (.val (.ref a))) st) : Run l Z y bytes ml ret R n0 Q h k n pc Ls (.ref a :: st) := by
  subst hp; exact K.step fun p e s m args below meth c T locs C X E t q => XS.astoreN X.here C.1 rfl (hb C.2.1 hd) rfl rfl (own_put hl rfl) q
theorem r_astore {j : Nat} {a : Addr} (pc' : Nat) (hd : decode bytes pc = .ok (.astore j, 2)) (hp : pc + 2 = pc') (hl : Ls[j]?.map own_one = some true) (K : Run l Z y bytes ml ret R n0 Q h k n pc' (Ls.set j (.val (.ref a))) st) : Run l Z y bytes ml ret R n0 Q h k n pc Ls (.ref a :: st) := by
  subst hp; exact K.step fun p e s m args below meth c T locs C X E t q => XS.astore X.here C.1 rfl (hb C.2.1 hd) rfl rfl (own_put hl rfl) q
theorem own_cat {v : Value} (hv : v.isRef = true) : v.category = 1 := by cases v <;> first | rfl | cases hv
theorem r_astoreNV {j : Fin 4} {v : Value} (pc' : Nat) (hd : decode bytes pc = .ok (.astore_n j, 1)) (hp : pc + 1 = pc') (hl : Ls[j.val]?.map own_one = some true) (hv : v.isRef = true) (K : Run l Z y bytes ml ret R n0 Q h k n pc' (Ls.set j.val (.val v)) st) : Run l Z y bytes ml ret R n0 Q h k n pc Ls (v :: st) := by
  subst hp; exact K.step fun p e s m args below meth c T locs C X E t q => XS.astoreN X.here C.1 rfl (hb C.2.1 hd) rfl hv (own_put hl (own_cat hv)) q
theorem r_astoreV {j : Nat} {v : Value} (pc' : Nat) (hd : decode bytes pc = .ok (.astore j, 2)) (hp : pc + 2 = pc') (hl : Ls[j]?.map own_one = some true) (hv : v.isRef = true) (K : Run l Z y bytes ml ret R n0 Q h k n pc' (Ls.set j (.val v)) st) : Run l Z y bytes ml ret R n0 Q h k n pc Ls (v :: st) := by
  subst hp; exact K.step fun p e s m args below meth c T locs C X E t q => XS.astore X.here C.1 rfl (hb C.2.1 hd) rfl hv (own_put hl (own_cat hv)) q
theorem r_iinc {j : Nat} {cst : Int} {x : Int32} (v : Int32) (pc' : Nat) (hd : decode bytes pc = .ok (.iinc j cst, 3)) (hp : pc + 3 = pc') (hv : Int32.ofInt cst = v) (hl : Ls[j]? = some (.val (.int x))) (K : Run l Z y bytes ml ret R n0 Q h k n pc' (Ls.set j (.val (.int (x + v)))) st) : Run l Z y bytes ml ret R n0 Q h k n pc Ls st := by
  subst hp hv; exact K.step fun p e s m args below meth c T locs C X E t q => XS.iinc X.here C.1 rfl (hb C.2.1 hd) (own_get hl) (own_put (by rw [hl]; rfl) rfl) q
theorem r_iadd {x : Int32} {z : Int32} (pc' : Nat) (hd : decode bytes pc = .ok (.iadd, 1)) (hp : pc + 1 = pc') (K : Run l Z y bytes ml ret R n0 Q h k n pc' Ls (.int (x + z) :: st)) : Run l Z y bytes ml ret R n0 Q h k n pc Ls (.int z :: .int x :: st) := by
  subst hp; exact K.step fun p e s m args below meth c T locs C X E t q => XS.iadd X.here C.1 rfl (hb C.2.1 hd) rfl q
theorem r_isub {x : Int32} {z : Int32} (pc' : Nat) (hd : decode bytes pc = .ok (.isub, 1)) (hp : pc + 1 = pc') (K : Run l Z y bytes ml ret R n0 Q h k n pc' Ls (.int (x - z) :: st)) : Run l Z y bytes ml ret R n0 Q h k n pc Ls (.int z :: .int x :: st) := by
  subst hp; exact K.step fun p e s m args below meth c T locs C X E t q => XS.isub X.here C.1 rfl (hb C.2.1 hd) rfl q
theorem r_imul {x : Int32} {z : Int32} (pc' : Nat) (hd : decode bytes pc = .ok (.imul, 1)) (hp : pc + 1 = pc') (K : Run l Z y bytes ml ret R n0 Q h k n pc' Ls (.int (x * z) :: st)) : Run l Z y bytes ml ret R n0 Q h k n pc Ls (.int z :: .int x :: st) := by
  subst hp; exact K.step fun p e s m args below meth c T locs C X E t q => XS.imul X.here C.1 rfl (hb C.2.1 hd) rfl q
theorem r_iand {x : Int32} {z : Int32} (pc' : Nat) (hd : decode bytes pc = .ok (.iand, 1)) (hp : pc + 1 = pc') (K : Run l Z y bytes ml ret R n0 Q h k n pc' Ls (.int (x &&& z) :: st)) : Run l Z y bytes ml ret R n0 Q h k n pc Ls (.int z :: .int x :: st) := by
  subst hp; exact K.step fun p e s m args below meth c T locs C X E t q => XS.iand X.here C.1 rfl (hb C.2.1 hd) rfl q
theorem r_ior {x : Int32} {z : Int32} (pc' : Nat) (hd : decode bytes pc = .ok (.ior, 1)) (hp : pc + 1 = pc') (K : Run l Z y bytes ml ret R n0 Q h k n pc' Ls (.int (x ||| z) :: st)) : Run l Z y bytes ml ret R n0 Q h k n pc Ls (.int z :: .int x :: st) := by
  subst hp; exact K.step fun p e s m args below meth c T locs C X E t q => XT.ior X.here C.1 rfl (hb C.2.1 hd) rfl q
theorem r_ixor {x : Int32} {z : Int32} (pc' : Nat) (hd : decode bytes pc = .ok (.ixor, 1)) (hp : pc + 1 = pc') (K : Run l Z y bytes ml ret R n0 Q h k n pc' Ls (.int (x ^^^ z) :: st)) : Run l Z y bytes ml ret R n0 Q h k n pc Ls (.int z :: .int x :: st) := by
  subst hp; exact K.step fun p e s m args below meth c T locs C X E t q => XT.ixor X.here C.1 rfl (hb C.2.1 hd) rfl q
theorem r_ladd {x : Int64} {z : Int64} (pc' : Nat) (hd : decode bytes pc = .ok (.ladd, 1)) (hp : pc + 1 = pc') (K : Run l Z y bytes ml ret R n0 Q h k n pc' Ls (.long (x + z) :: st)) : Run l Z y bytes ml ret R n0 Q h k n pc Ls (.long z :: .long x :: st) := by
  subst hp; exact K.step fun p e s m args below meth c T locs C X E t q => XT.ladd X.here C.1 rfl (hb C.2.1 hd) rfl q
theorem r_lsub {x : Int64} {z : Int64} (pc' : Nat) (hd : decode bytes pc = .ok (.lsub, 1)) (hp : pc + 1 = pc') (K : Run l Z y bytes ml ret R n0 Q h k n pc' Ls (.long (x - z) :: st)) : Run l Z y bytes ml ret R n0 Q h k n pc Ls (.long z :: .long x :: st) := by
  subst hp; exact K.step fun p e s m args below meth c T locs C X E t q => XT.lsub X.here C.1 rfl (hb C.2.1 hd) rfl q
theorem r_lmul {x : Int64} {z : Int64} (pc' : Nat) (hd : decode bytes pc = .ok (.lmul, 1)) (hp : pc + 1 = pc') (K : Run l Z y bytes ml ret R n0 Q h k n pc' Ls (.long (x * z) :: st)) : Run l Z y bytes ml ret R n0 Q h k n pc Ls (.long z :: .long x :: st) := by
  subst hp; exact K.step fun p e s m args below meth c T locs C X E t q => XT.lmul X.here C.1 rfl (hb C.2.1 hd) rfl q
theorem r_land {x : Int64} {z : Int64} (pc' : Nat) (hd : decode bytes pc = .ok (.land, 1)) (hp : pc + 1 = pc') (K : Run l Z y bytes ml ret R n0 Q h k n pc' Ls (.long (x &&& z) :: st)) : Run l Z y bytes ml ret R n0 Q h k n pc Ls (.long z :: .long x :: st) := by
  subst hp; exact K.step fun p e s m args below meth c T locs C X E t q => XT.land X.here C.1 rfl (hb C.2.1 hd) rfl q
theorem r_lor {x : Int64} {z : Int64} (pc' : Nat) (hd : decode bytes pc = .ok (.lor, 1)) (hp : pc + 1 = pc') (K : Run l Z y bytes ml ret R n0 Q h k n pc' Ls (.long (x ||| z) :: st)) : Run l Z y bytes ml ret R n0 Q h k n pc Ls (.long z :: .long x :: st) := by
  subst hp; exact K.step fun p e s m args below meth c T locs C X E t q => XT.lor X.here C.1 rfl (hb C.2.1 hd) rfl q
theorem r_lxor {x : Int64} {z : Int64} (pc' : Nat) (hd : decode bytes pc = .ok (.lxor, 1)) (hp : pc + 1 = pc') (K : Run l Z y bytes ml ret R n0 Q h k n pc' Ls (.long (x ^^^ z) :: st)) : Run l Z y bytes ml ret R n0 Q h k n pc Ls (.long z :: .long x :: st) := by
  subst hp; exact K.step fun p e s m args below meth c T locs C X E t q => XT.lxor X.here C.1 rfl (hb C.2.1 hd) rfl q
theorem r_ishl {x : Int32} {z : Int32} (pc' : Nat) (hd : decode bytes pc = .ok (.ishl, 1)) (hp : pc + 1 = pc') (K : Run l Z y bytes ml ret R n0 Q h k n pc' Ls (.int (x <<< (z &&& 31)) :: st)) : Run l Z y bytes ml ret R n0 Q h k n pc Ls (.int z :: .int x :: st) := by
  subst hp; exact K.step fun p e s m args below meth c T locs C X E t q => XT.ishl X.here C.1 rfl (hb C.2.1 hd) rfl q
theorem r_ishr {x : Int32} {z : Int32} (pc' : Nat) (hd : decode bytes pc = .ok (.ishr, 1)) (hp : pc + 1 = pc') (K : Run l Z y bytes ml ret R n0 Q h k n pc' Ls (.int (x >>> (z &&& 31)) :: st)) : Run l Z y bytes ml ret R n0 Q h k n pc Ls (.int z :: .int x :: st) := by
  subst hp; exact K.step fun p e s m args below meth c T locs C X E t q => XT.ishr X.here C.1 rfl (hb C.2.1 hd) rfl q
theorem r_iushr {x : Int32} {z : Int32} (pc' : Nat) (hd : decode bytes pc = .ok (.iushr, 1)) (hp : pc + 1 = pc') (K : Run l Z y bytes ml ret R n0 Q h k n pc' Ls (.int (XT.ushr x z) :: st)) : Run l Z y bytes ml ret R n0 Q h k n pc Ls (.int z :: .int x :: st) := by
  subst hp; exact K.step fun p e s m args below meth c T locs C X E t q => XT.iushr X.here C.1 rfl (hb C.2.1 hd) rfl q
theorem r_lshl {x : Int64} {z : Int32} (pc' : Nat) (hd : decode bytes pc = .ok (.lshl, 1)) (hp : pc + 1 = pc') (K : Run l Z y bytes ml ret R n0 Q h k n pc' Ls (.long (x <<< (z.toInt64 &&& 63)) :: st)) : Run l Z y bytes ml ret R n0 Q h k n pc Ls (.int z :: .long x :: st) := by
  subst hp; exact K.step fun p e s m args below meth c T locs C X E t q => XT.lshl X.here C.1 rfl (hb C.2.1 hd) rfl q
theorem r_lshr {x : Int64} {z : Int32} (pc' : Nat) (hd : decode bytes pc = .ok (.lshr, 1)) (hp : pc + 1 = pc') (K : Run l Z y bytes ml ret R n0 Q h k n pc' Ls (.long (x >>> (z.toInt64 &&& 63)) :: st)) : Run l Z y bytes ml ret R n0 Q h k n pc Ls (.int z :: .long x :: st) := by
  subst hp; exact K.step fun p e s m args below meth c T locs C X E t q => XT.lshr X.here C.1 rfl (hb C.2.1 hd) rfl q
theorem r_lushr {x : Int64} {z : Int32} (pc' : Nat) (hd : decode bytes pc = .ok (.lushr, 1)) (hp : pc + 1 = pc') (K : Run l Z y bytes ml ret R n0 Q h k n pc' Ls (.long (XT.ushrL x z) :: st)) : Run l Z y bytes ml ret R n0 Q h k n pc Ls (.int z :: .long x :: st) := by
  subst hp; exact K.step fun p e s m args below meth c T locs C X E t q => XT.lushr X.here C.1 rfl (hb C.2.1 hd) rfl q
theorem r_idiv {x : Int32} {z : Int32} (pc' : Nat) (hd : decode bytes pc = .ok (.idiv, 1)) (hp : pc + 1 = pc') (hy : z ≠ 0) (K : Run l Z y bytes ml ret R n0 Q h k n pc' Ls (.int (x / z) :: st)) : Run l Z y bytes ml ret R n0 Q h k n pc Ls (.int z :: .int x :: st) := by
  subst hp; exact K.step fun p e s m args below meth c T locs C X E t q => XS.idiv X.here C.1 rfl (hb C.2.1 hd) rfl hy q
theorem r_lcmp {x : Int64} {z : Int64} (pc' : Nat) (hd : decode bytes pc = .ok (.lcmp, 1)) (hp : pc + 1 = pc') (K : Run l Z y bytes ml ret R n0 Q h k n pc' Ls (.int (XT.cmpL x z) :: st)) : Run l Z y bytes ml ret R n0 Q h k n pc Ls (.long z :: .long x :: st) := by
  subst hp; exact K.step fun p e s m args below meth c T locs C X E t q => XT.lcmp X.here C.1 rfl (hb C.2.1 hd) rfl q
theorem r_irem {x z : Int32} (pc' : Nat) (hd : decode bytes pc = .ok (.irem, 1)) (hp : pc + 1 = pc') (hy : z ≠ 0) (K : Run l Z y bytes ml ret R n0 Q h k n pc' Ls (.int (x % z) :: st)) : Run l Z y bytes ml ret R n0 Q h k n pc Ls (.int z :: .int x :: st) := by
  subst hp; exact K.step fun p e s m args below meth c T locs C X E t q => iremM X C.1 rfl (hb C.2.1 hd) rfl hy q
theorem r_ineg {x : Int32} (pc' : Nat) (hd : decode bytes pc = .ok (.ineg, 1)) (hp : pc + 1 = pc') (K : Run l Z y bytes ml ret R n0 Q h k n pc' Ls (.int (-x) :: st)) : Run l Z y bytes ml ret R n0 Q h k n pc Ls (.int x :: st) := by
  subst hp; exact K.step fun p e s m args below meth c T locs C X E t q => XS.ineg X.here C.1 rfl (hb C.2.1 hd) rfl q
theorem r_i2l {x : Int32} (pc' : Nat) (hd : decode bytes pc = .ok (.i2l, 1)) (hp : pc + 1 = pc') (K : Run l Z y bytes ml ret R n0 Q h k n pc' Ls (.long x.toInt64 :: st)) : Run l Z y bytes ml ret R n0 Q h k n pc Ls (.int x :: st) := by
  subst hp; exact K.step fun p e s m args below meth c T locs C X E t q => XT.i2l X.here C.1 rfl (hb C.2.1 hd) rfl q
theorem r_l2i {x : Int64} (pc' : Nat) (hd : decode bytes pc = .ok (.l2i, 1)) (hp : pc + 1 = pc') (K : Run l Z y bytes ml ret R n0 Q h k n pc' Ls (.int x.toInt32 :: st)) : Run l Z y bytes ml ret R n0 Q h k n pc Ls (.long x :: st) := by
  subst hp; exact K.step fun p e s m args below meth c T locs C X E t q => XT.l2i X.here C.1 rfl (hb C.2.1 hd) rfl q
theorem r_i2b {x : Int32} (pc' : Nat) (hd : decode bytes pc = .ok (.i2b, 1)) (hp : pc + 1 = pc') (K : Run l Z y bytes ml ret R n0 Q h k n pc' Ls (.int x.toInt8.toInt32 :: st)) : Run l Z y bytes ml ret R n0 Q h k n pc Ls (.int x :: st) := by
  subst hp; exact K.step fun p e s m args below meth c T locs C X E t q => XT.i2b X.here C.1 rfl (hb C.2.1 hd) rfl q
theorem r_i2c {x : Int32} (pc' : Nat) (hd : decode bytes pc = .ok (.i2c, 1)) (hp : pc + 1 = pc') (K : Run l Z y bytes ml ret R n0 Q h k n pc' Ls (.int x.toUInt32.toUInt16.toUInt32.toInt32 :: st)) : Run l Z y bytes ml ret R n0 Q h k n pc Ls (.int x :: st) := by
  subst hp; exact K.step fun p e s m args below meth c T locs C X E t q => XT.i2c X.here C.1 rfl (hb C.2.1 hd) rfl q
theorem r_i2s {x : Int32} (pc' : Nat) (hd : decode bytes pc = .ok (.i2s, 1)) (hp : pc + 1 = pc') (K : Run l Z y bytes ml ret R n0 Q h k n pc' Ls (.int x.toInt16.toInt32 :: st)) : Run l Z y bytes ml ret R n0 Q h k n pc Ls (.int x :: st) := by
  subst hp; exact K.step fun p e s m args below meth c T locs C X E t q => XT.i2s X.here C.1 rfl (hb C.2.1 hd) rfl q
theorem r_dup {x : Value} (pc' : Nat) (hd : decode bytes pc = .ok (.dup, 1)) (hp : pc + 1 = pc') (hc : x.category = 1) (K : Run l Z y bytes ml ret R n0 Q h k n pc' Ls (x :: x :: st)) : Run l Z y bytes ml ret R n0 Q h k n pc Ls (x :: st) := by
  subst hp; exact K.step fun p e s m args below meth c T locs C X E t q => XS.dup X.here C.1 rfl (hb C.2.1 hd) rfl hc q
theorem r_dupX1 {x z : Value} (pc' : Nat) (hd : decode bytes pc = .ok (.dup_x1, 1)) (hp : pc + 1 = pc') (hc : x.category = 1) (hc' : z.category = 1) (K : Run l Z y bytes ml ret R n0 Q h k n pc' Ls (x :: z :: x :: st)) : Run l Z y bytes ml ret R n0 Q h k n pc Ls (x :: z :: st) := by
  subst hp; exact K.step fun p e s m args below meth c T locs C X E t q => XT.dupX1 X.here C.1 rfl (hb C.2.1 hd) rfl hc hc' q
theorem r_pop {x : Value} (pc' : Nat) (hd : decode bytes pc = .ok (.pop, 1)) (hp : pc + 1 = pc') (hc : x.category = 1) (K : Run l Z y bytes ml ret R n0 Q h k n pc' Ls st) : Run l Z y bytes ml ret R n0 Q h k n pc Ls (x :: st) := by
  subst hp; exact K.step fun p e s m args below meth c T locs C X E t q => XT.pop X.here C.1 rfl (hb C.2.1 hd) rfl hc q
theorem r_goto {o : Int} (pc' : Nat) (hd : decode bytes pc = .ok (.goto o, 3)) (hp : (0 : Int) ≤ (pc : Int) + o ∧ ((pc : Int) + o).toNat = pc') (K : Run l Z y bytes ml ret R n0 Q h k n pc' Ls st) : Run l Z y bytes ml ret R n0 Q h k n pc Ls st :=
  K.step fun p e s m args below meth c T locs C X E t q => XS.goto X.here C.1 rfl rfl (hb C.2.1 hd) hp.1 hp.2 q
theorem r_icmp_eq {x z : Int32} {o : Int} (pc' pc'' : Nat) (hd : decode bytes pc = .ok (.if_icmp .eq o, 3)) (hp : (0 : Int) ≤ (pc : Int) + o ∧ ((pc : Int) + o).toNat = pc') (hq : pc + 3 = pc'') (K1 : x = z → Run l Z y bytes ml ret R n0 Q h k n pc' Ls st) (K2 : ¬ x = z → Run l Z y bytes ml ret R n0 Q h k n pc'' Ls st) : Run l Z y bytes ml ret R n0 Q h k n pc Ls (.int z :: .int x :: st) := by
  subst hq
  by_cases q' : x = z
  · exact (K1 q').step fun p e s m args below meth c T locs C X E t q => XS.icmpYes X.here C.1 rfl rfl (hb C.2.1 hd) rfl (teq q').1 hp.1 hp.2 q
  · exact (K2 q').step fun p e s m args below meth c T locs C X E t q => XS.icmpNo X.here C.1 rfl (hb C.2.1 hd) rfl (feq q').1 q
theorem r_if_eq {x : Int32} {o : Int} (pc' pc'' : Nat) (hd : decode bytes pc = .ok (.ifCond .eq o, 3)) (hp : (0 : Int) ≤ (pc : Int) + o ∧ ((pc : Int) + o).toNat = pc') (hq : pc + 3 = pc'') (K1 : x = 0 → Run l Z y bytes ml ret R n0 Q h k n pc' Ls st) (K2 : ¬ x = 0 → Run l Z y bytes ml ret R n0 Q h k n pc'' Ls st) : Run l Z y bytes ml ret R n0 Q h k n pc Ls (.int x :: st) := by
  subst hq
  by_cases q' : x = 0
  · exact (K1 q').step fun p e s m args below meth c T locs C X E t q => XS.ifYes X.here C.1 rfl rfl (hb C.2.1 hd) rfl ((if0 _ _).trans (teq q').1) hp.1 hp.2 q
  · exact (K2 q').step fun p e s m args below meth c T locs C X E t q => XS.ifNo X.here C.1 rfl (hb C.2.1 hd) rfl ((if0 _ _).trans (feq q').1) q
theorem r_icmp_ne {x z : Int32} {o : Int} (pc' pc'' : Nat) (hd : decode bytes pc = .ok (.if_icmp .ne o, 3)) (hp : (0 : Int) ≤ (pc : Int) + o ∧ ((pc : Int) + o).toNat = pc') (hq : pc + 3 = pc'') (K1 : ¬ x = z → Run l Z y bytes ml ret R n0 Q h k n pc' Ls st) (K2 : x = z → Run l Z y bytes ml ret R n0 Q h k n pc'' Ls st) : Run l Z y bytes ml ret R n0 Q h k n pc Ls (.int z :: .int x :: st) := by
  subst hq
  by_cases q' : x = z
  · exact (K2 q').step fun p e s m args below meth c T locs C X E t q => XS.icmpNo X.here C.1 rfl (hb C.2.1 hd) rfl (teq q').2 q
  · exact (K1 q').step fun p e s m args below meth c T locs C X E t q => XS.icmpYes X.here C.1 rfl rfl (hb C.2.1 hd) rfl (feq q').2 hp.1 hp.2 q
theorem r_if_ne {x : Int32} {o : Int} (pc' pc'' : Nat) (hd : decode bytes pc = .ok (.ifCond .ne o, 3)) (hp : (0 : Int) ≤ (pc : Int) + o ∧ ((pc : Int) + o).toNat = pc') (hq : pc + 3 = pc'') (K1 : ¬ x = 0 → Run l Z y bytes ml ret R n0 Q h k n pc' Ls st) (K2 : x = 0 → Run l Z y bytes ml ret R n0 Q h k n pc'' Ls st) : Run l Z y bytes ml ret R n0 Q h k n pc Ls (.int x :: st) := by
  subst hq
  by_cases q' : x = 0
  · exact (K2 q').step fun p e s m args below meth c T locs C X E t q => XS.ifNo X.here C.1 rfl (hb C.2.1 hd) rfl ((if0 _ _).trans (teq q').2) q
  · exact (K1 q').step fun p e s m args below meth c T locs C X E t q => XS.ifYes X.here C.1 rfl rfl (hb C.2.1 hd) rfl ((if0 _ _).trans (feq q').2) hp.1 hp.2 q
theorem r_icmp_lt {x z : Int32} {o : Int} (pc' pc'' : Nat) (hd : decode bytes pc = .ok (.if_icmp .lt o, 3)) (hp : (0 : Int) ≤ (pc : Int) + o ∧ ((pc : Int) + o).toNat = pc') (hq : pc + 3 = pc'') (K1 : x < z → Run l Z y bytes ml ret R n0 Q h k n pc' Ls st) (K2 : ¬ x < z → Run l Z y bytes ml ret R n0 Q h k n pc'' Ls st) : Run l Z y bytes ml ret R n0 Q h k n pc Ls (.int z :: .int x :: st) := by
  subst hq
  by_cases q' : x < z
  · exact (K1 q').step fun p e s m args below meth c T locs C X E t q => XS.icmpYes X.here C.1 rfl rfl (hb C.2.1 hd) rfl (tlt q').1 hp.1 hp.2 q
  · exact (K2 q').step fun p e s m args below meth c T locs C X E t q => XS.icmpNo X.here C.1 rfl (hb C.2.1 hd) rfl (flt q').1 q
theorem r_if_lt {x : Int32} {o : Int} (pc' pc'' : Nat) (hd : decode bytes pc = .ok (.ifCond .lt o, 3)) (hp : (0 : Int) ≤ (pc : Int) + o ∧ ((pc : Int) + o).toNat = pc') (hq : pc + 3 = pc'') (K1 : x < 0 → Run l Z y bytes ml ret R n0 Q h k n pc' Ls st) (K2 : ¬ x < 0 → Run l Z y bytes ml ret R n0 Q h k n pc'' Ls st) : Run l Z y bytes ml ret R n0 Q h k n pc Ls (.int x :: st) := by
  subst hq
  by_cases q' : x < 0
  · exact (K1 q').step fun p e s m args below meth c T locs C X E t q => XS.ifYes X.here C.1 rfl rfl (hb C.2.1 hd) rfl ((if0 _ _).trans (tlt q').1) hp.1 hp.2 q
  · exact (K2 q').step fun p e s m args below meth c T locs C X E t q => XS.ifNo X.here C.1 rfl (hb C.2.1 hd) rfl ((if0 _ _).trans (flt q').1) q
theorem r_icmp_ge {x z : Int32} {o : Int} (pc' pc'' : Nat) (hd : decode bytes pc = .ok (.if_icmp .ge o, 3)) (hp : (0 : Int) ≤ (pc : Int) + o ∧ ((pc : Int) + o).toNat = pc') (hq : pc + 3 = pc'') (K1 : ¬ x < z → Run l Z y bytes ml ret R n0 Q h k n pc' Ls st) (K2 : x < z → Run l Z y bytes ml ret R n0 Q h k n pc'' Ls st) : Run l Z y bytes ml ret R n0 Q h k n pc Ls (.int z :: .int x :: st) := by
  subst hq
  by_cases q' : x < z
  · exact (K2 q').step fun p e s m args below meth c T locs C X E t q => XS.icmpNo X.here C.1 rfl (hb C.2.1 hd) rfl (tlt q').2.1 q
  · exact (K1 q').step fun p e s m args below meth c T locs C X E t q => XS.icmpYes X.here C.1 rfl rfl (hb C.2.1 hd) rfl (flt q').2.1 hp.1 hp.2 q
theorem r_if_ge {x : Int32} {o : Int} (pc' pc'' : Nat) (hd : decode bytes pc = .ok (.ifCond .ge o, 3)) (hp : (0 : Int) ≤ (pc : Int) + o ∧ ((pc : Int) + o).toNat = pc') (hq : pc + 3 = pc'') (K1 : ¬ x < 0 → Run l Z y bytes ml ret R n0 Q h k n pc' Ls st) (K2 : x < 0 → Run l Z y bytes ml ret R n0 Q h k n pc'' Ls st) : Run l Z y bytes ml ret R n0 Q h k n pc Ls (.int x :: st) := by
  subst hq
  by_cases q' : x < 0
  · exact (K2 q').step fun p e s m args below meth c T locs C X E t q => XS.ifNo X.here C.1 rfl (hb C.2.1 hd) rfl ((if0 _ _).trans (tlt q').2.1) q
  · exact (K1 q').step fun p e s m args below meth c T locs C X E t q => XS.ifYes X.here C.1 rfl rfl (hb C.2.1 hd) rfl ((if0 _ _).trans (flt q').2.1) hp.1 hp.2 q
theorem r_icmp_gt {x z : Int32} {o : Int} (pc' pc'' : Nat) (hd : decode bytes pc = .ok (.if_icmp .gt o, 3)) (hp : (0 : Int) ≤ (pc : Int) + o ∧ ((pc : Int) + o).toNat = pc') (hq : pc + 3 = pc'') (K1 : z < x → Run l Z y bytes ml ret R n0 Q h k n pc' Ls st) (K2 : ¬ z < x → Run l Z y bytes ml ret R n0 Q h k n pc'' Ls st) : Run l Z y bytes ml ret R n0 Q h k n pc Ls (.int z :: .int x :: st) := by
  subst hq
  by_cases q' : z < x
  · exact (K1 q').step fun p e s m args below meth c T locs C X E t q => XS.icmpYes X.here C.1 rfl rfl (hb C.2.1 hd) rfl (tlt q').2.2.1 hp.1 hp.2 q
  · exact (K2 q').step fun p e s m args below meth c T locs C X E t q => XS.icmpNo X.here C.1 rfl (hb C.2.1 hd) rfl (flt q').2.2.1 q
theorem r_if_gt {x : Int32} {o : Int} (pc' pc'' : Nat) (hd : decode bytes pc = .ok (.ifCond .gt o, 3)) (hp : (0 : Int) ≤ (pc : Int) + o ∧ ((pc : Int) + o).toNat = pc') (hq : pc + 3 = pc'') (K1 : 0 < x → Run l Z y bytes ml ret R n0 Q h k n pc' Ls st) (K2 : ¬ 0 < x → Run l Z y bytes ml ret R n0 Q h k n pc'' Ls st) : Run l Z y bytes ml ret R n0 Q h k n pc Ls (.int x :: st) := by
  subst hq
  by_cases q' : 0 < x
  · exact (K1 q').step fun p e s m args below meth c T locs C X E t q => XS.ifYes X.here C.1 rfl rfl (hb C.2.1 hd) rfl ((if0 _ _).trans (tlt q').2.2.1) hp.1 hp.2 q
  · exact (K2 q').step fun p e s m args below meth c T locs C X E t q => XS.ifNo X.here C.1 rfl (hb C.2.1 hd) rfl ((if0 _ _).trans (flt q').2.2.1) q
theorem r_icmp_le {x z : Int32} {o : Int} (pc' pc'' : Nat) (hd : decode bytes pc = .ok (.if_icmp .le o, 3)) (hp : (0 : Int) ≤ (pc : Int) + o ∧ ((pc : Int) + o).toNat = pc') (hq : pc + 3 = pc'') (K1 : ¬ z < x → Run l Z y bytes ml ret R n0 Q h k n pc' Ls st) (K2 : z < x → Run l Z y bytes ml ret R n0 Q h k n pc'' Ls st) : Run l Z y bytes ml ret R n0 Q h k n pc Ls (.int z :: .int x :: st) := by
  subst hq
  by_cases q' : z < x
  · exact (K2 q').step fun p e s m args below meth c T locs C X E t q => XS.icmpNo X.here C.1 rfl (hb C.2.1 hd) rfl (tlt q').2.2.2 q
  · exact (K1 q').step fun p e s m args below meth c T locs C X E t q => XS.icmpYes X.here C.1 rfl rfl (hb C.2.1 hd) rfl (flt q').2.2.2 hp.1 hp.2 q
theorem r_if_le {x : Int32} {o : Int} (pc' pc'' : Nat) (hd : decode bytes pc = .ok (.ifCond .le o, 3)) (hp : (0 : Int) ≤ (pc : Int) + o ∧ ((pc : Int) + o).toNat = pc') (hq : pc + 3 = pc'') (K1 : ¬ 0 < x → Run l Z y bytes ml ret R n0 Q h k n pc' Ls st) (K2 : 0 < x → Run l Z y bytes ml ret R n0 Q h k n pc'' Ls st) : Run l Z y bytes ml ret R n0 Q h k n pc Ls (.int x :: st) := by
  subst hq
  by_cases q' : 0 < x
  · exact (K2 q').step fun p e s m args below meth c T locs C X E t q => XS.ifNo X.here C.1 rfl (hb C.2.1 hd) rfl ((if0 _ _).trans (tlt q').2.2.2) q
  · exact (K1 q').step fun p e s m args below meth c T locs C X E t q => XS.ifYes X.here C.1 rfl rfl (hb C.2.1 hd) rfl ((if0 _ _).trans (flt q').2.2.2) hp.1 hp.2 q
theorem r_acmp_eq {x z : Value} {o : Int} (pc' pc'' : Nat) (hd : decode bytes pc = .ok (.if_acmp .eq o, 3)) (hp : (0 : Int) ≤ (pc : Int) + o ∧ ((pc : Int) + o).toNat = pc') (hq : pc + 3 = pc'') (hx : x.isRef = true) (hz : z.isRef = true) (K1 : x = z → Run l Z y bytes ml ret R n0 Q h k n pc' Ls st) (K2 : ¬ x = z → Run l Z y bytes ml ret R n0 Q h k n pc'' Ls st) : Run l Z y bytes ml ret R n0 Q h k n pc Ls (z :: x :: st) := by
  subst hq
  by_cases q' : x = z
  · exact (K1 q').step fun p e s m args below meth c T locs C X E t q => XT.acmpYes X.here C.1 rfl rfl (hb C.2.1 hd) rfl hx hz (XT.aa_eq_t q') hp.1 hp.2 q
  · exact (K2 q').step fun p e s m args below meth c T locs C X E t q => XT.acmpNo X.here C.1 rfl (hb C.2.1 hd) rfl hx hz (XT.aa_eq_f q') q
theorem r_acmp_ne {x z : Value} {o : Int} (pc' pc'' : Nat) (hd : decode bytes pc = .ok (.if_acmp .ne o, 3)) (hp : (0 : Int) ≤ (pc : Int) + o ∧ ((pc : Int) + o).toNat = pc') (hq : pc + 3 = pc'') (hx : x.isRef = true) (hz : z.isRef = true) (K1 : ¬ x = z → Run l Z y bytes ml ret R n0 Q h k n pc' Ls st) (K2 : x = z → Run l Z y bytes ml ret R n0 Q h k n pc'' Ls st) : Run l Z y bytes ml ret R n0 Q h k n pc Ls (z :: x :: st) := by
  subst hq
  by_cases q' : x = z
  · exact (K2 q').step fun p e s m args below meth c T locs C X E t q => XT.acmpNo X.here C.1 rfl (hb C.2.1 hd) rfl hx hz (XT.aa_ne_f q') q
  · exact (K1 q').step fun p e s m args below meth c T locs C X E t q => XT.acmpYes X.here C.1 rfl rfl (hb C.2.1 hd) rfl hx hz (XT.aa_ne_t q') hp.1 hp.2 q
theorem r_nonnullYes {a : Addr} {o : Int} (pc' : Nat) (hd : decode bytes pc = .ok (.ifnonnull o, 3)) (hp : (0 : Int) ≤ (pc : Int) + o ∧ ((pc : Int) + o).toNat = pc') (K : Run l Z y bytes ml ret R n0 Q h k n pc' Ls st) : Run l Z y bytes ml ret R n0 Q h k n pc Ls (.ref a :: st) :=
  K.step fun p e s m args below meth c T locs C X E t q => XT.ifnonnullYes X.here C.1 rfl rfl (hb C.2.1 hd) rfl hp.1 hp.2 q
theorem r_nonnullNo {o : Int} (pc'' : Nat) (hd : decode bytes pc = .ok (.ifnonnull o, 3)) (hq : pc + 3 = pc'') (K : Run l Z y bytes ml ret R n0 Q h k n pc'' Ls st) : Run l Z y bytes ml ret R n0 Q h k n pc Ls (.null :: st) := by
  subst hq; exact K.step fun p e s m args below meth c T locs C X E t q => XT.ifnonnullNo X.here C.1 rfl (hb C.2.1 hd) rfl q
theorem r_nullYes {o : Int} (pc' : Nat) (hd : decode bytes pc = .ok (.ifnull o, 3)) (hp : (0 : Int) ≤ (pc : Int) + o ∧ ((pc : Int) + o).toNat = pc') (K : Run l Z y bytes ml ret R n0 Q h k n pc' Ls st) : Run l Z y bytes ml ret R n0 Q h k n pc Ls (.null :: st) :=
  K.step fun p e s m args below meth c T locs C X E t q => XS.ifnullYes X.here C.1 rfl rfl (hb C.2.1 hd) rfl hp.1 hp.2 q
theorem r_nullNo {a : Addr} {o : Int} (pc'' : Nat) (hd : decode bytes pc = .ok (.ifnull o, 3)) (hq : pc + 3 = pc'') (K : Run l Z y bytes ml ret R n0 Q h k n pc'' Ls st) : Run l Z y bytes ml ret R n0 Q h k n pc Ls (.ref a :: st) := by
  subst hq; exact K.step fun p e s m args below meth c T locs C X E t q => XS.ifnullNo X.here C.1 rfl (hb C.2.1 hd) rfl q
/-! fields, statics, objects, arrays -/
theorem r_getstatic {i : Nat} {R0 O f d : String} {v : Value} (pc' : Nat) (hd : decode bytes pc = .ok (.getstatic i, 3)) (hp : pc + 3 = pc') (w : (Jvm.Cond.fieldLink y.cls i R0 f d).before a0 Z = true) (via : Via Z R0 O f d) (F : Sta Z h O f d v)
    (K : Run l Z y bytes ml ret R n0 Q h k n pc' Ls (v :: st)) : Run l Z y bytes ml ret R n0 Q h k n pc Ls st := by
  subst hp
  exact K.move fun p e s m args below meth c T locs C X N E => by
    obtain ⟨T', X', e', q⟩ := getS X C.1 C.2.2.2.1 (host := "") C.2.2.2.2.1 w via E F (g := mkF m pc Ls.toArray st) rfl (hb C.2.1 hd)
    exact ⟨T', _, X', N, e', q⟩
theorem r_getfield {i : Nat} {R0 O f d host : String} {v : Value} {a : Addr} (pc' : Nat) (hd : decode bytes pc = .ok (.getfield i, 3)) (hp : pc + 3 = pc') (w : (Jvm.Cond.fieldLink y.cls i R0 f d).before a0 Z = true ∨ (Jvm.Cond.fieldLinkNest y.cls i R0 f d host).before a0 Z = true) (via : Via Z R0 O f d) (F : Fld Z h a O f d v)
    (K : Run l Z y bytes ml ret R n0 Q h k n pc' Ls (v :: st)) : Run l Z y bytes ml ret R n0 Q h k n pc Ls (.ref a :: st) := by
  subst hp
  exact K.move fun p e s m args below meth c T locs C X N E => by
    obtain ⟨T', X', e', q⟩ := getF X C.1 C.2.2.2.1 C.2.2.2.2.1 w via E F (g := mkF m pc Ls.toArray (.ref a :: st)) rfl rfl (hb C.2.1 hd)
    exact ⟨T', _, X', N, e', q⟩
theorem r_putfield {i kk : Nat} {R0 O f d host C' : String} {ty : FieldType} {v old : Value} {a : Addr} (pc' : Nat) (hd : decode bytes pc = .ok (.putfield i, 3)) (hp : pc + 3 = pc') (w : (Jvm.Cond.fieldLink y.cls i R0 f d).before a0 Z = true ∨ (Jvm.Cond.fieldLinkNest y.cls i R0 f d host).before a0 Z = true) (via : Via Z R0 O f d) (F : Fld Z h a O f d old) (E1 : Exa Z h a C')
    (L : (Jvm.Cond.lays C' O f d).before a0 Z = true ∨ ((Jvm.Cond.laysFinal C' O f d).before a0 Z = true ∧ y.cls = O ∧ y.name = "<init>")) (wi : (Jvm.Cond.instantiable C' kk).before a0 Z = true) (hty : parseFieldDescriptor d = some ty) (hn : narrow ty v = v) (hf : fits ty v = true) (ha : n0 ≤ a)
    (K : ∀ h', Wr h h' a (Jvm.RoadKit.slotOf Z O f d) v → Run l Z y bytes ml ret R n0 Q h' k n pc' Ls st) : Run l Z y bytes ml ret R n0 Q h k n pc Ls (v :: .ref a :: st) := fun p e s m args below meth c T locs C X N E => by
  subst hp
  obtain ⟨T', h', X', e', W, q⟩ := putF X C.1 C.2.2.2.1 C.2.2.2.2.1 w via E F E1 (L.imp id fun ⟨u1, u2, u3⟩ => ⟨u1, u2, C.2.2.2.2.2.1.trans u3⟩) wi hty hn hf (g := mkF m pc Ls.toArray (v :: .ref a :: st)) rfl rfl (hb C.2.1 hd)
  obtain ⟨s2, o, h1, h2⟩ := K h' W p e s m args below meth c T' _ C X' (Fr.snoc X' N ha) e'
  exact ⟨s2, o, q _ h1, h2⟩
theorem r_new {i nn : Nat} {C' : String} (pc' : Nat) (hd : decode bytes pc = .ok (.new i, 3)) (hp : pc + 3 = pc') (w : (Jvm.Cond.classLink y.cls i C').before a0 Z = true) (wi : (Jvm.Cond.instantiable C' nn).before a0 Z = true) (wz : (Jvm.Cond.initialized C').before a0 Z = true) (hc : k + 1 ≤ R.cells) (hl : n + nn ≤ R.slots)
    (K : ∀ h' a, a = h.size → Ext h h' → Exa Z h' a C' → (∀ {O nm d : String} {ty : FieldType}, Laid Z a0 C' O nm d → parseFieldDescriptor d = some ty → Fld Z h' a O nm d (defaultValue ty)) → Run l Z y bytes ml ret R n0 Q h' (k + 1) (n + nn) pc' Ls (.ref a :: st)) : Run l Z y bytes ml ret R n0 Q h k n pc Ls st := fun p e s m args below meth c T locs C X N E => by
  subst hp
  obtain ⟨T', h', X', e', E2, A2, D2, -, q⟩ := newO X C.1 C.2.2.2.1 C.2.2.2.2.1 w wi wz E (g := mkF m pc Ls.toArray st) rfl (hb C.2.1 hd) hc hl
  obtain ⟨s2, o, h1, h2⟩ := K h' h.size rfl E2 A2 D2 p e s m args below meth c T' _ C X' N e'
  exact ⟨s2, o, q _ h1, h2⟩
theorem own_rep {ty : FieldType} {z : Int32} {a : Addr} {cA : ClassId} (N : Nat) (A : Arv Z h a cA ty z [] (defaultValue ty)) : Arv Z h a cA ty z (List.replicate N (defaultValue ty)) (defaultValue ty) :=
  A.pad fun i => by have := pad_rep [] (defaultValue ty) N i; simpa using this
theorem r_newarray {aty : ArrayType} {z : Int32} (cap : Nat) (ad : String) (pc' : Nat) (hd : decode bytes pc = .ok (.newarray aty, 2)) (hp : pc + 2 = pc') (w : (Jvm.Cond.arrayClass (newarray.typeOf aty)).before a0 Z = true) (hz : ¬ z < 0) (hcap : z.toNatClampNeg ≤ cap) (hb8 : cap * 8 ≤ 536870912) (had : "[" ++ (newarray.typeOf aty).toString = ad) (hc : k + 1 ≤ R.cells) (hl : n + cap ≤ R.slots)
    (K : ∀ h' a cA, a = h.size → Ext h h' → Arv Z h' a cA (newarray.typeOf aty) z (List.replicate z.toNatClampNeg (defaultValue (newarray.typeOf aty))) (defaultValue (newarray.typeOf aty)) → Exa Z h' a ad → Run l Z y bytes ml ret R n0 Q h' (k + 1) (n + cap) pc' Ls (.ref a :: st)) : Run l Z y bytes ml ret R n0 Q h k n pc Ls (.int z :: st) := fun p e s m args below meth c T locs C X N E => by
  subst hp
  obtain ⟨T', h', cA, X', e', E2, A2, E3, q⟩ := newPE X C.1 C.2.2.2.1 w E (g := mkF m pc Ls.toArray (.int z :: st)) rfl (hb C.2.1 hd) rfl hz hcap hb8 hc hl had
  obtain ⟨s2, o, h1, h2⟩ := K h' h.size cA rfl E2 (own_rep _ (Arv.new A2 hz)) E3 p e s m args below meth c T' _ C X' N e'
  exact ⟨s2, o, q _ h1, h2⟩
theorem r_anewarray {i : Nat} {C' : String} {z : Int32} (cap : Nat) (ad : String) (pc' : Nat) (hd : decode bytes pc = .ok (.anewarray i, 3)) (hp : pc + 3 = pc') (w1 : (Jvm.Cond.classLink y.cls i C').before a0 Z = true) (w2 : (Jvm.Cond.arrayOver (.object C')).before a0 Z = true) (hz : ¬ z < 0) (hcap : z.toNatClampNeg ≤ cap) (hb8 : cap * 8 ≤ 536870912) (had : "[" ++ (FieldType.object C').toString = ad) (hc : k + 1 ≤ R.cells) (hl : n + cap ≤ R.slots)
    (K : ∀ h' a cA, a = h.size → Ext h h' → Arv Z h' a cA (.object C') z (List.replicate z.toNatClampNeg .null) .null → Exa Z h' a ad → Ovr Z cA C' → Run l Z y bytes ml ret R n0 Q h' (k + 1) (n + cap) pc' Ls (.ref a :: st)) : Run l Z y bytes ml ret R n0 Q h k n pc Ls (.int z :: st) := fun p e s m args below meth c T locs C X N E => by
  subst hp
  obtain ⟨T', h', cA, X', e', E2, A2, E3, O3, q⟩ := newRE X C.1 C.2.2.2.1 C.2.2.2.2.1 w1 w2 E (g := mkF m pc Ls.toArray (.int z :: st)) rfl (hb C.2.1 hd) rfl hz hcap hb8 hc hl had
  obtain ⟨s2, o, h1, h2⟩ := K h' h.size cA rfl E2 (own_rep _ (Arv.new A2 hz)) E3 O3 p e s m args below meth c T' _ C X' N e'
  exact ⟨s2, o, q _ h1, h2⟩
theorem own_in {z j : Int32} {i : Nat} {cl : Cell} (S : cl.slots.size = z.toNatClampNeg) (hj : ¬ j < 0) (hi : j.toNatClampNeg = i) (hz : i < z.toNatClampNeg) : ¬ (j < 0 ∨ cl.slots.size ≤ j.toNatClampNeg) := fun q => by
  rcases q with q | q
  · exact hj q
  · rw [S, hi] at q; exact absurd hz (Nat.not_lt.mpr q)
theorem r_arraylength {a : Addr} {cA : ClassId} {ty : FieldType} {z : Int32} {vs : List Value} {dv : Value} (pc' : Nat) (hd : decode bytes pc = .ok (.arraylength, 1)) (hp : pc + 1 = pc') (A : Arv Z h a cA ty z vs dv) (K : Run l Z y bytes ml ret R n0 Q h k n pc' Ls (.int z :: st)) : Run l Z y bytes ml ret R n0 Q h k n pc Ls (.ref a :: st) := by
  subst hp
  obtain ⟨cl, A1, -, S, hz, -⟩ := A
  rw [← len_of S hz] at K
  exact K.step fun p e s m args below meth c T locs C X E t q => X.arraylength C.1 (by rw [E]; exact A1.1) (State.isArrayOf_alike C.2.2.2.1.alike A1.2.1) (g := mkF m pc Ls.toArray (.ref a :: st)) rfl rfl (hb C.2.1 hd) _ q
theorem r_iaload {a : Addr} {cA : ClassId} {z j : Int32} {vs : List Value} {dv : Value} (i : Nat) (v : Value) (pc' : Nat) (hd : decode bytes pc = .ok (.iaload, 1)) (hp : pc + 1 = pc') (A : Arv Z h a cA .int z vs dv) (hj : ¬ j < 0) (hi : j.toNatClampNeg = i) (hz : i < z.toNatClampNeg) (hv : vs.getD i dv = v) (K : Run l Z y bytes ml ret R n0 Q h k n pc' Ls (v :: st)) : Run l Z y bytes ml ret R n0 Q h k n pc Ls (.int j :: .ref a :: st) := by
  subst hp
  obtain ⟨cl, A1, -, S, -, H, -⟩ := A
  have hin := own_in S hj hi hz
  exact K.step fun p e s m args below meth c T locs C X E t q => X.iaload C.1 (by rw [E]; exact A1.1) (State.isArrayOf_alike C.2.2.2.1.alike A1.2.1) A1.2.2 hin (Has.at H hin (by rw [hi]; exact hv)) (g := mkF m pc Ls.toArray (.int j :: .ref a :: st)) rfl rfl (hb C.2.1 hd) _ q
theorem r_caload {a : Addr} {cA : ClassId} {z j : Int32} {vs : List Value} {dv : Value} (i : Nat) (v : Value) (pc' : Nat) (hd : decode bytes pc = .ok (.caload, 1)) (hp : pc + 1 = pc') (A : Arv Z h a cA .char z vs dv) (hj : ¬ j < 0) (hi : j.toNatClampNeg = i) (hz : i < z.toNatClampNeg) (hv : vs.getD i dv = v) (K : Run l Z y bytes ml ret R n0 Q h k n pc' Ls (v :: st)) : Run l Z y bytes ml ret R n0 Q h k n pc Ls (.int j :: .ref a :: st) := by
  subst hp
  obtain ⟨cl, A1, -, S, -, H, -⟩ := A
  have hin := own_in S hj hi hz
  exact K.step fun p e s m args below meth c T locs C X E t q => X.caload C.1 (by rw [E]; exact A1.1) (State.isArrayOf_alike C.2.2.2.1.alike A1.2.1) A1.2.2 hin (Has.at H hin (by rw [hi]; exact hv)) (g := mkF m pc Ls.toArray (.int j :: .ref a :: st)) rfl rfl (hb C.2.1 hd) _ q
theorem r_baload {a : Addr} {cA : ClassId} {z j : Int32} {vs : List Value} {dv : Value} (i : Nat) (v : Value) (pc' : Nat) (hd : decode bytes pc = .ok (.baload, 1)) (hp : pc + 1 = pc') (A : Arv Z h a cA .byte z vs dv) (hj : ¬ j < 0) (hi : j.toNatClampNeg = i) (hz : i < z.toNatClampNeg) (hv : vs.getD i dv = v) (K : Run l Z y bytes ml ret R n0 Q h k n pc' Ls (v :: st)) : Run l Z y bytes ml ret R n0 Q h k n pc Ls (.int j :: .ref a :: st) := by
  subst hp
  obtain ⟨cl, A1, -, S, -, H, -⟩ := A
  have hin := own_in S hj hi hz
  exact K.step fun p e s m args below meth c T locs C X E t q => X.baloadBytes C.1 (by rw [E]; exact A1.1) (State.isArrayOf_alike C.2.2.2.1.alike A1.2.1) A1.2.2 hin (Has.at H hin (by rw [hi]; exact hv)) (g := mkF m pc Ls.toArray (.int j :: .ref a :: st)) rfl rfl (hb C.2.1 hd) _ q
theorem r_aaload {a : Addr} {cA : ClassId} {ty : FieldType} {z j : Int32} {vs : List Value} {dv : Value} (i : Nat) (v : Value) (pc' : Nat) (hd : decode bytes pc = .ok (.aaload, 1)) (hp : pc + 1 = pc') (A : Arv Z h a cA ty z vs dv) (hty : ty.isReference = true) (hj : ¬ j < 0) (hi : j.toNatClampNeg = i) (hz : i < z.toNatClampNeg) (hv : vs.getD i dv = v) (K : Run l Z y bytes ml ret R n0 Q h k n pc' Ls (v :: st)) : Run l Z y bytes ml ret R n0 Q h k n pc Ls (.int j :: .ref a :: st) := by
  subst hp
  obtain ⟨cl, A1, -, S, -, H, -⟩ := A
  have hin := own_in S hj hi hz
  exact K.step fun p e s m args below meth c T locs C X E t q => X.aaload C.1 (by rw [E]; exact A1.1) (State.isArrayOf_alike C.2.2.2.1.alike A1.2.1) hty A1.2.2 hin (Has.at H hin (by rw [hi]; exact hv)) (g := mkF m pc Ls.toArray (.int j :: .ref a :: st)) rfl rfl (hb C.2.1 hd) _ q
theorem r_iastore {a : Addr} {cA : ClassId} {z j x : Int32} {vs : List Value} {dv : Value} (i : Nat) (pc' : Nat) (hd : decode bytes pc = .ok (.iastore, 1)) (hp : pc + 1 = pc') (A : Arv Z h a cA .int z vs dv) (hj : ¬ j < 0) (hi : j.toNatClampNeg = i) (hz : i < z.toNatClampNeg) (hl : i < vs.length) (ha : n0 ≤ a)
    (K : ∀ h', Wr h h' a i (.int x) → Arv Z h' a cA .int z (vs.set i (.int x)) dv → Run l Z y bytes ml ret R n0 Q h' k n pc' Ls st) : Run l Z y bytes ml ret R n0 Q h k n pc Ls (.int x :: .int j :: .ref a :: st) := fun p e s m args below meth c T locs C X N E => by
  subst hp
  obtain ⟨cl, A1, q1, S, q3, H, G⟩ := A
  have hin := own_in S hj hi hz
  obtain ⟨T', h', X', e', W, q⟩ := stI X C.1 C.2.2.2.1 E A1 hin (g := mkF m pc Ls.toArray (.int x :: .int j :: .ref a :: st)) rfl rfl (hb C.2.1 hd)
  obtain ⟨s2, o, h1, h2⟩ := K h' (hi ▸ W) (Arv.set A1 q1 S q3 H G rfl W i hi hl) p e s m args below meth c T' _ C X' (Fr.snoc X' N ha) e'
  exact ⟨s2, o, q _ h1, h2⟩
theorem r_castore {a : Addr} {cA : ClassId} {z j x : Int32} {vs : List Value} {dv : Value} (i : Nat) (pc' : Nat) (hd : decode bytes pc = .ok (.castore, 1)) (hp : pc + 1 = pc') (A : Arv Z h a cA .char z vs dv) (hj : ¬ j < 0) (hi : j.toNatClampNeg = i) (hz : i < z.toNatClampNeg) (hl : i < vs.length) (ha : n0 ≤ a)
    (K : ∀ h', Wr h h' a i (.int (nar .char x)) → Arv Z h' a cA .char z (vs.set i (.int (nar .char x))) dv → Run l Z y bytes ml ret R n0 Q h' k n pc' Ls st) : Run l Z y bytes ml ret R n0 Q h k n pc Ls (.int x :: .int j :: .ref a :: st) := fun p e s m args below meth c T locs C X N E => by
  subst hp
  obtain ⟨cl, A1, q1, S, q3, H, G⟩ := A
  have hin := own_in S hj hi hz
  obtain ⟨T', h', X', e', W, q⟩ := stC X C.1 C.2.2.2.1 E A1 hin (g := mkF m pc Ls.toArray (.int x :: .int j :: .ref a :: st)) rfl rfl (hb C.2.1 hd)
  obtain ⟨s2, o, h1, h2⟩ := K h' (hi ▸ W) (Arv.set A1 q1 S q3 H G (fits_nar_char x) W i hi hl) p e s m args below meth c T' _ C X' (Fr.snoc X' N ha) e'
  exact ⟨s2, o, q _ h1, h2⟩
theorem r_bastore {a : Addr} {cA : ClassId} {z j x : Int32} {vs : List Value} {dv : Value} (i : Nat) (pc' : Nat) (hd : decode bytes pc = .ok (.bastore, 1)) (hp : pc + 1 = pc') (A : Arv Z h a cA .byte z vs dv) (hj : ¬ j < 0) (hi : j.toNatClampNeg = i) (hz : i < z.toNatClampNeg) (hl : i < vs.length) (ha : n0 ≤ a)
    (K : ∀ h', Wr h h' a i (.int (nar .byte x)) → Arv Z h' a cA .byte z (vs.set i (.int (nar .byte x))) dv → Run l Z y bytes ml ret R n0 Q h' k n pc' Ls st) : Run l Z y bytes ml ret R n0 Q h k n pc Ls (.int x :: .int j :: .ref a :: st) := fun p e s m args below meth c T locs C X N E => by
  subst hp
  obtain ⟨cl, A1, q1, S, q3, H, G⟩ := A
  have hin := own_in S hj hi hz
  obtain ⟨T', h', X', e', W, q⟩ := stB X C.1 C.2.2.2.1 E A1 hin (g := mkF m pc Ls.toArray (.int x :: .int j :: .ref a :: st)) rfl rfl (hb C.2.1 hd)
  obtain ⟨s2, o, h1, h2⟩ := K h' (hi ▸ W) (Arv.set A1 q1 S q3 H G (fits_nar_byte x) W i hi hl) p e s m args below meth c T' _ C X' (Fr.snoc X' N ha) e'
  exact ⟨s2, o, q _ h1, h2⟩
theorem r_aastore {a : Addr} {cA : ClassId} {ty : FieldType} {z j : Int32} {v : Value} {vs : List Value} {dv : Value} (i : Nat) (pc' : Nat) (hd : decode bytes pc = .ok (.aastore, 1)) (hp : pc + 1 = pc') (A : Arv Z h a cA ty z vs dv) (hty : ty.isReference = true) (F : Sto Z h a v) (hf : fits ty v = true) (hj : ¬ j < 0) (hi : j.toNatClampNeg = i) (hz : i < z.toNatClampNeg) (hl : i < vs.length) (ha : n0 ≤ a)
    (K : ∀ h', Wr h h' a i v → Arv Z h' a cA ty z (vs.set i v) dv → Run l Z y bytes ml ret R n0 Q h' k n pc' Ls st) : Run l Z y bytes ml ret R n0 Q h k n pc Ls (v :: .int j :: .ref a :: st) := fun p e s m args below meth c T locs C X N E => by
  subst hp
  obtain ⟨cl, A1, q1, S, q3, H, G⟩ := A
  have hin := own_in S hj hi hz
  obtain ⟨T', h', X', e', W, q⟩ := stR X C.1 C.2.2.2.1 E A1 hin hty F (g := mkF m pc Ls.toArray (v :: .int j :: .ref a :: st)) rfl rfl (hb C.2.1 hd)
  obtain ⟨s2, o, h1, h2⟩ := K h' (hi ▸ W) (Arv.set A1 q1 S q3 H G hf W i hi hl) p e s m args below meth c T' _ C X' (Fr.snoc X' N ha) e'
  exact ⟨s2, o, q _ h1, h2⟩
theorem r_checkcast {i : Nat} {K' : String} {a : Addr} (pc' : Nat) (hd : decode bytes pc = .ok (.checkcast i, 3)) (hp : pc + 3 = pc') (w : (Jvm.Cond.classLink y.cls i K').before a0 Z = true) (F : Ins Z h a K' true)
    (K : Run l Z y bytes ml ret R n0 Q h k n pc' Ls (.ref a :: st)) : Run l Z y bytes ml ret R n0 Q h k n pc Ls (.ref a :: st) := by
  subst hp
  exact K.move fun p e s m args below meth c T locs C X N E => by
    obtain ⟨T', X', e', q⟩ := castY X C.1 C.2.2.2.1 C.2.2.2.2.1 w E F (g := mkF m pc Ls.toArray (.ref a :: st)) rfl rfl (hb C.2.1 hd)
    exact ⟨T', _, X', N, e', q⟩
theorem r_initO {i : Nat} {a : Addr} (pc' : Nat) (hd : decode bytes pc = .ok (.invokespecial i, 3)) (hp : pc + 3 = pc') (w1 : (Jvm.Cond.methodLink y.cls i Lib.objectInit).before a0 Z = true) (w2 : (Jvm.Cond.instanceMethod Lib.objectInit).before a0 Z = true) (w3 : (Jvm.Cond.code Lib.objectInit ⟨#[0xb1]⟩ 1 none).before a0 Z = true)
    (hml : Ls.length = ml) (hf : 1 ≤ R.frames) (hl : (st.map fun v => v.category).sum + 12 ≤ R.locals) (K : Run l Z y bytes ml ret R n0 Q h k n pc' Ls st) : Run l Z y bytes ml ret R n0 Q h k n pc Ls (.ref a :: st) := by
  subst hp
  exact K.move fun p e s m args below meth c T locs C X N E => by
    obtain ⟨T', X', e', q⟩ := initO X C.1 C.2.2.2.1 C.2.2.2.2.1 w1 w2 w3 E (g := mkF m pc Ls.toArray (.ref a :: st)) rfl (by show Ls.toArray.size = _; rw [List.size_toArray, hml, C.2.2.1]) rfl (hb C.2.1 hd) hf (W := (st.map fun v => v.category).sum) (by show 2 * 0 + _ ≤ _; omega) hl
    exact ⟨T', _, X', N, e', q⟩
/-! returns -/
theorem own_end {v : Option Value} (hQ : Q v h) (hk : k ≤ R.cells) (hn : n ≤ R.slots)
    (H : ∀ (p : Program) (e : Env) (s : State) (m : MethodId) (args : Array Value) (below : List Frame) (meth : Method) (c : Code) (T : State) (locs : List Loc),
      own_Ctx p s m meth c Z y bytes ml ret → Stand p l e R s m args below meth c T locs k n → (meth.sig.returnType = none → v = none) ∧ ∀ fs, (∀ (f : JFrame) (acts : List Action), f.method = m → f.locked = none → f.entered = [] → (doReturn e (T.setTop f) acts v).1 = T.setFrames fs) → Steps p.tables e below (T.setTop (mkF m pc Ls.toArray st)) (T.setFrames fs)) :
    Run l Z y bytes ml ret R n0 Q h k n pc Ls st := fun p e s m args below meth c T locs C X N E => by
  obtain ⟨H1, H2⟩ := H p e s m args below meth c T locs C X
  obtain ⟨fs, hr, hrun, hended, hW, hsame⟩ := X.leave (v := v) H1 C.2.2.2.2.2.2.2
  exact ⟨_, _, H2 fs hr, hrun, hended, v, locs, rfl, ⟨by show Q v T.heap; rw [E]; exact hQ, N⟩, ⟨v, rfl⟩, hW, hsame.mono hk hn⟩
theorem r_retN {t : FieldType} {z : Int32} (v : Int32) (hd : decode bytes pc = .ok (.ireturn, 1)) (hret : ret = some t) (ht : t = .boolean ∨ t = .byte ∨ t = .char ∨ t = .short) (hv : nar t z = v) (hk : k ≤ R.cells) (hn : n ≤ R.slots) (hQ : Q (some (.int v)) h) : Run l Z y bytes ml ret R n0 Q h k n pc Ls (.int z :: st) := by
  subst hv
  exact own_end hQ hk hn fun p e s m args below meth c T locs C X => ⟨fun q => (by rw [C.2.2.2.2.2.2.1, hret] at q; cases q), fun fs hr => retN X C.1 (C.2.2.2.2.2.2.1.trans hret) ht (hb C.2.1 hd) hr⟩
theorem r_retI {z : Int32} (hd : decode bytes pc = .ok (.ireturn, 1)) (hret : ret = some .int) (hk : k ≤ R.cells) (hn : n ≤ R.slots) (hQ : Q (some (.int z)) h) : Run l Z y bytes ml ret R n0 Q h k n pc Ls (.int z :: st) :=
  own_end hQ hk hn fun p e s m args below meth c T locs C X => ⟨fun q => (by rw [C.2.2.2.2.2.2.1, hret] at q; cases q), fun fs hr => retOut X C.1 (C.2.2.2.2.2.2.1.trans hret) rfl (Or.inl ⟨rfl, Or.inl rfl, _, rfl⟩) (hb C.2.1 hd) hr⟩
theorem r_retA {t : FieldType} {v : Value} (hd : decode bytes pc = .ok (.areturn, 1)) (hret : ret = some t) (ht : t.isReference = true) (hw : v.isRef = true) (hnw : narrow t v = v) (hk : k ≤ R.cells) (hn : n ≤ R.slots) (hQ : Q (some v) h) : Run l Z y bytes ml ret R n0 Q h k n pc Ls (v :: st) :=
  own_end hQ hk hn fun p e s m args below meth c T locs C X => ⟨fun q => (by rw [C.2.2.2.2.2.2.1, hret] at q; cases q), fun fs hr => retOut X C.1 (C.2.2.2.2.2.2.1.trans hret) hnw (Or.inr (Or.inr (Or.inr (Or.inr ⟨rfl, ht, hw⟩)))) (hb C.2.1 hd) hr⟩
theorem r_retV (hd : decode bytes pc = .ok (.return_, 1)) (hret : ret = none) (hk : k ≤ R.cells) (hn : n ≤ R.slots) (hQ : Q none h) : Run l Z y bytes ml ret R n0 Q h k n pc Ls [] :=
  own_end hQ hk hn fun p e s m args below meth c T locs C X => ⟨fun _ => rfl, fun fs hr => X.returnOut C.1 (C.2.2.2.2.2.2.1.trans hret) (hb C.2.1 hd) hr⟩
/-! contracts and calls -/
def Con (l : Launch) (Z : State) (y : MethodName) (bytes : ByteArray) (ml : Nat) (ret : Option FieldType) (R : Room) (n0 : Nat) (as' : Array Value) (h : Heap) (Q : Option Value → Heap → Prop) (ws : List Jvm.Cond) : Prop :=
  MetFree l y (head1 (Jvm.Cond.code y bytes ml ret :: ws) R) (fun a U => a = as' ∧ Z.Warmed39 U.vm ∧ U.heap = h) (fun _ _ _ _ _ => True) (fun _ U o U' => ∃ v L, o = .returned v ∧ (Q v U'.heap ∧ Fr n0 L) ∧ FrameEnd U o U' L R.cells R.slots)
theorem Run.con {as' : Array Value} {ws : List Jvm.Cond} (hpn : plainName y.cls = true) (hL : Jvm.Sym.laidSlots as'.toList ++ List.replicate (ml - (Jvm.Sym.laidSlots as'.toList).length) .unset = Ls) (H : Run l Z y bytes ml ret R n0 Q h 0 0 0 Ls []) : Con l Z y bytes ml ret R n0 as' h Q ws := by
  refine MetFree.of_bodySF (plainFor_of_name hpn) hisR ?_
  intro p e s m args below meth c s₁ Bd hml0 hP hK
  obtain ⟨rfl, hZ, hh⟩ := hP
  have X0 : Stand p l e R s m args below meth c s₁ [] 0 0 := Stand.of_body Bd
  obtain ⟨s2, o, h1, h2, h3, v, L, h4, h5, h6⟩ := H p e s m args below meth c s₁ [] ⟨Bd.exec, Bd.bytes, hml0, hZ, findClass_of_methodNamed Bd.named, (name_of_methodNamed Bd.named Bd.method).1, Bd.returns, Bd.notSynchronized⟩ X0 (Fr.nil n0) (by rw [← hh, Bd.state]; rfl)
  exact ⟨s2, o, (XT.entry (Ls := Ls.toArray) hL).trans h1, h2, h3, v, L, h4, h5, h6⟩
section Calls
variable {i : Nat} {y' : MethodName} {bytes' : ByteArray} {ml' : Nat} {ret' : Option FieldType} {R' : Room} {as' : Array Value} {Q' : Option Value → Heap → Prop} {rest : List Value} {ps : List FieldType} {r' : Option FieldType}
theorem r_static (pc' : Nat) (hd : decode bytes pc = .ok (.invokestatic i, 3)) (hp : pc + 3 = pc') (hM : Con l Z y' bytes' ml' ret' R' n0 as' h Q' []) (w1 : (Jvm.Cond.methodLink y.cls i y').before a0 Z = true) (w2 : (Jvm.Cond.static y').before a0 Z = true) (w3 : (Jvm.Cond.initialized y'.cls).before a0 Z = true) (w4 : (Jvm.Cond.code y' bytes' ml' ret').before a0 Z = true)
    (hne : y'.cls ≠ "java/lang/invoke/MethodHandle" ∧ y'.cls ≠ "java/lang/invoke/VarHandle") (hpd : parseMethodDescriptor y'.desc = some ⟨ps, r'⟩) (hlen : as'.toList.length = ps.length) (hs : st = as'.toList.reverse ++ rest) (hml : Ls.length = ml) (hf : R'.frames + 1 ≤ R.frames) (hl : (rest.map fun v => v.category).sum + (ml' + 11) + R'.locals ≤ R.locals) (hc : k + R'.cells ≤ R.cells) (hn : n + R'.slots ≤ R.slots)
    (K : ∀ v h', Q' v h' → Run l Z y bytes ml ret R n0 Q h' (k + R'.cells) (n + R'.slots) pc' Ls (v.toList ++ rest)) : Run l Z y bytes ml ret R n0 Q h k n pc Ls st := fun p e s m args below meth c T locs C X N E => by
  subst hp
  obtain ⟨v, vm1, ⟨U, locs', k', n'⟩, hW, X', ⟨L, ⟨hQ, hL⟩, e1, e2, e3⟩, q⟩ := Jvm.LawKit.callS X C.1 (y := y') C.2.2.2.2.1 (mvT C.2.2.2.1 w1) (mvT C.2.2.2.1 w2) (mvT C.2.2.2.1 w3) (mvT C.2.2.2.1 w4) hne (backOf (Q := fun v h' L => Q' v h' ∧ Fr n0 L) (W := (rest.map fun v => v.category).sum) hM C.2.2.2.1 w4 w3 hf hl) (g := mkF m pc Ls.toArray st) rfl (by show Ls.toArray.size = _; rw [List.size_toArray, hml, C.2.2.1]) (argsL := as'.toList) (rest := rest) (lenOf hpd hlen) hs (by show 2 * 0 + _ ≤ _; omega) (hb C.2.1 hd) (fun _ _ => ⟨rfl, E, hc, hn⟩)
  dsimp only [Pt.U, Pt.locs, Pt.cells, Pt.slots] at X' hQ e1 e2 e3 q
  subst e1 e2 e3
  obtain ⟨s2, o, h1, h2⟩ := K v U.heap hQ p e s m args below meth c U _ C X' (Fr.app N hL) rfl
  exact ⟨s2, o, q _ h1, h2⟩
theorem r_special {a : Addr} {as1 : List Value} (pc' : Nat) (hd : decode bytes pc = .ok (.invokespecial i, 3)) (hp : pc + 3 = pc') (hM : Con l Z y' bytes' ml' none R' n0 as' h Q' []) (ha : as' = (.ref a :: as1).toArray) (hy1 : y'.name = "<init>") (w1 : (Jvm.Cond.methodLink y.cls i y').before a0 Z = true) (w2 : (Jvm.Cond.instanceMethod y').before a0 Z = true) (w3 : (Jvm.Cond.initialized y'.cls).before a0 Z = true) (w4 : (Jvm.Cond.code y' bytes' ml' none).before a0 Z = true)
    (hne : y'.cls ≠ "java/lang/invoke/MethodHandle" ∧ y'.cls ≠ "java/lang/invoke/VarHandle") (hpd : parseMethodDescriptor y'.desc = some ⟨ps, r'⟩) (hlen : as1.length = ps.length) (hs : st = as1.reverse ++ .ref a :: rest) (hml : Ls.length = ml) (hf : R'.frames + 1 ≤ R.frames) (hl : (rest.map fun v => v.category).sum + (ml' + 11) + R'.locals ≤ R.locals) (hc : k + R'.cells ≤ R.cells) (hn : n + R'.slots ≤ R.slots)
    (K : ∀ v h', Q' v h' → Run l Z y bytes ml ret R n0 Q h' (k + R'.cells) (n + R'.slots) pc' Ls (v.toList ++ rest)) : Run l Z y bytes ml ret R n0 Q h k n pc Ls st := fun p e s m args below meth c T locs C X N E => by
  subst hp ha
  obtain ⟨v, vm1, ⟨U, locs', k', n'⟩, hW, X', ⟨L, ⟨hQ, hL⟩, e1, e2, e3⟩, q⟩ := X.specialBack C.1 (y := y') hy1 C.2.2.2.2.1 (mvT C.2.2.2.1 w1) (mvT C.2.2.2.1 w2) (mvT C.2.2.2.1 w4) hne (backOf (Q := fun v h' L => Q' v h' ∧ Fr n0 L) (W := (rest.map fun v => v.category).sum) hM C.2.2.2.1 w4 w3 hf hl) (g := mkF m pc Ls.toArray st) rfl (by show Ls.toArray.size = _; rw [List.size_toArray, hml, C.2.2.1]) (Steps.refl _) (a := a) (argsL := as1) (rest := rest) (lenOf hpd hlen) hs (by show 2 * 0 + _ ≤ _; omega) (hb C.2.1 hd) (fun _ _ => ⟨rfl, E, hc, hn⟩)
  dsimp only [Pt.U, Pt.locs, Pt.cells, Pt.slots] at X' hQ e1 e2 e3 q
  subst e1 e2 e3
  obtain ⟨s2, o, h1, h2⟩ := K v U.heap hQ p e s m args below meth c U _ C X' (Fr.app N hL) rfl
  exact ⟨s2, o, q.trans h1, h2⟩
theorem r_virtual {a : Addr} {C' : String} {z' : MethodName} {as1 : List Value} (pc' : Nat) (hd : decode bytes pc = .ok (.invokevirtual i, 3)) (hp : pc + 3 = pc') (hM : Con l Z z' bytes' ml' ret' R' n0 as' h Q' []) (ha : as' = (.ref a :: as1).toArray) (w1 : (Jvm.Cond.methodLink y.cls i y').before a0 Z = true) (w2 : (Jvm.Cond.declares y').before a0 Z = true) (w5 : (Jvm.Cond.selects C' y' z').before a0 Z = true) (w6 : (Jvm.Cond.instanceMethod z').before a0 Z = true) (w3 : (Jvm.Cond.initialized z'.cls).before a0 Z = true) (w4 : (Jvm.Cond.code z' bytes' ml' ret').before a0 Z = true)
    (hne : y'.cls ≠ "java/lang/invoke/MethodHandle" ∧ y'.cls ≠ "java/lang/invoke/VarHandle") (hpd : parseMethodDescriptor y'.desc = some ⟨ps, r'⟩) (E1 : Exa Z h a C') (hlen : as1.length = ps.length) (hs : st = as1.reverse ++ .ref a :: rest) (hml : Ls.length = ml) (hf : R'.frames + 1 ≤ R.frames) (hl : (rest.map fun v => v.category).sum + (ml' + 11) + R'.locals ≤ R.locals) (hc : k + R'.cells ≤ R.cells) (hn : n + R'.slots ≤ R.slots)
    (hnf : ∀ (s : State) (args : Array Value), Z.Warmed39 s.vm → NotFace s y')
    (K : ∀ v h', Q' v h' → Run l Z y bytes ml ret R n0 Q h' (k + R'.cells) (n + R'.slots) pc' Ls (v.toList ++ rest)) : Run l Z y bytes ml ret R n0 Q h k n pc Ls st := fun p e s m args below meth c T locs C X N E => by
  subst hp ha
  obtain ⟨cq, kq, qa, qb, qc⟩ := isOf (s := s) C.2.2.2.1 E E1
  obtain ⟨v, vm1, ⟨U, locs', k', n'⟩, hW, X', ⟨L, ⟨hQ, hL⟩, e1, e2, e3⟩, q⟩ := X.virtualBack C.1 (y := y') (z := z') C.2.2.2.2.1 (mvT C.2.2.2.1 w1) (mvT C.2.2.2.1 w2) (hnf s args C.2.2.2.1) (mvT C.2.2.2.1 w5) (mvT C.2.2.2.1 w6) hne (backOf (Q := fun v h' L => Q' v h' ∧ Fr n0 L) (W := (rest.map fun v => v.category).sum) hM C.2.2.2.1 w4 w3 hf hl) qa qc (g := mkF m pc Ls.toArray st) rfl (by show Ls.toArray.size = _; rw [List.size_toArray, hml, C.2.2.1]) (Steps.refl _) (argsL := as1) (rest := rest) (lenOf hpd hlen) hs (by show 2 * 0 + _ ≤ _; omega) (hb C.2.1 hd) (fun _ _ => ⟨rfl, E, hc, hn⟩)
  dsimp only [Pt.U, Pt.locs, Pt.cells, Pt.slots] at X' hQ e1 e2 e3 q
  subst e1 e2 e3
  obtain ⟨s2, o, h1, h2⟩ := K v U.heap hQ p e s m args below meth c U _ C X' (Fr.app N hL) rfl
  exact ⟨s2, o, q.trans h1, h2⟩
end Calls
end Own


theorem own_ne {a b : Addr} {n : Nat} (h : a < n) (e : b = n) : a ≠ b := fun q => by
  subst q; subst e; exact Nat.lt_irrefl _ h
theorem own_ne' {t b : Addr} {n : Nat} (h : t < n) (e : n ≤ b) : b ≠ t := fun q => by
  subst q; exact absurd h (Nat.not_lt.mpr e)
theorem own_b0 : nar .boolean 0 = 0 := rfl
theorem own_b1 : nar .boolean 1 = 1 := rfl
theorem own_sta {C f d K : String} {args : Array Value} {s : State} (h : (Jvm.Cond.exactly (.static C f d) K).value args s none s [] = some true) (hi : (Jvm.Cond.initializedFor C f d).before args s = true ∨ ((Jvm.Cond.initialized C).before args s = true ∧ (Jvm.Cond.laysStatic C f d).before args s = true)) : ∃ a, (Term.static C f d).eval args s none [] s = some (.ref a) ∧ Sta s s.heap C f d (.ref a) ∧ Exa s s.heap a K := by
  obtain ⟨a, e⟩ := exa_v h
  exact ⟨a, e, Sta.start e hi, Exa.start e h⟩
theorem own_fldI {t : Term} {C f d : String} {z : Int32} {a : Addr} {args : Array Value} {s : State} (e : t.eval args s none [] s = some (.ref a)) (h : (Jvm.Cond.eq (.field t C f d) (.int z)).value args s none s [] = some true) : Fld s s.heap a C f d (.int z) := by
  obtain ⟨u, w, h1, h2, k1, k2⟩ := cmp_v (Or.inl h)
  rw [Term.int_eval] at h2
  cases h2
  obtain ⟨u', rfl⟩ := k2
  obtain rfl := gotT (Cond.eq_ints h1 (Term.int_eval z)) h
  rw [fld_at e] at h1
  exact Fld.start h1


theorem own_mod (x m : Int32) (hm : 0 < m.toInt) : 0 ≤ ((x &&& 2147483647) % m).toInt ∧ ((x &&& 2147483647) % m).toInt < m.toInt := by
  have h1 := c_mask x 2147483647 31 (by decide) (by decide)
  rw [Int32.toInt_mod, h1]
  have h2 : 0 ≤ x.toInt % ((2 ^ 31 : Nat) : Int) := Int.emod_nonneg _ (by decide)
  rw [Int.tmod_eq_emod_of_nonneg h2]
  exact ⟨Int.emod_nonneg _ (by omega), Int.emod_lt_of_pos _ hm⟩
theorem own_nat {K : Int32} {N : Nat} (h0 : 0 ≤ K.toInt) (h1 : K.toInt < N) : ∃ i : Nat, i < N ∧ K = Int32.ofNat i := by
  refine ⟨K.toInt.toNat, by omega, ?_⟩
  apply Int32.toInt_inj.mp
  have := K.toInt_lt
  rw [Int32.toInt_ofNat_small (by omega)]
  omega

theorem d_prog_36_method_4_code_0 : decode prog_36_method_4_code 0 = .ok (.aload_n 0, 1) := by decide +kernel
theorem d_prog_36_method_4_code_1 : decode prog_36_method_4_code 1 = .ok (.getstatic 10, 3) := by decide +kernel
theorem d_prog_36_method_4_code_4 : decode prog_36_method_4_code 4 = .ok (.if_acmp .eq 14, 3) := by decide +kernel
theorem d_prog_36_method_4_code_7 : decode prog_36_method_4_code 7 = .ok (.aload_n 0, 1) := by decide +kernel
theorem d_prog_36_method_4_code_8 : decode prog_36_method_4_code 8 = .ok (.getstatic 13, 3) := by decide +kernel
theorem d_prog_36_method_4_code_11 : decode prog_36_method_4_code 11 = .ok (.if_acmp .eq 7, 3) := by decide +kernel
theorem d_prog_36_method_4_code_14 : decode prog_36_method_4_code 14 = .ok (.iconst 1, 1) := by decide +kernel
theorem d_prog_36_method_4_code_15 : decode prog_36_method_4_code 15 = .ok (.goto 4, 3) := by decide +kernel
theorem d_prog_36_method_4_code_18 : decode prog_36_method_4_code 18 = .ok (.iconst 0, 1) := by decide +kernel
theorem d_prog_36_method_4_code_19 : decode prog_36_method_4_code 19 = .ok (.ireturn, 1) := by decide +kernel
theorem pn_law : plainName "com/example/libxqopt/libxqopt/LevelGroupsPinLaw" = true := by first | (simp [plainName, overriddenIn]; done) | decide +kernel
theorem pn_op : plainName "com/example/libxqopt/libxqopt/Expr$Binary$Level" = true := by first | (simp [plainName, overriddenIn]; done) | decide +kernel
def own_S (Z : State) (h : Heap) (A : Nat → Addr) : Prop := Sta Z h "com/example/libxqopt/libxqopt/Expr$Binary$Level" "OR" "Lcom/example/libxqopt/libxqopt/Expr$Binary$Level;" (.ref (A 0)) ∧ Sta Z h "com/example/libxqopt/libxqopt/Expr$Binary$Level" "AND" "Lcom/example/libxqopt/libxqopt/Expr$Binary$Level;" (.ref (A 1)) ∧ Sta Z h "com/example/libxqopt/libxqopt/Expr$Binary$Level" "COMPARISON" "Lcom/example/libxqopt/libxqopt/Expr$Binary$Level;" (.ref (A 2)) ∧ Sta Z h "com/example/libxqopt/libxqopt/Expr$Binary$Level" "RANGE" "Lcom/example/libxqopt/libxqopt/Expr$Binary$Level;" (.ref (A 3)) ∧ Sta Z h "com/example/libxqopt/libxqopt/Expr$Binary$Level" "ADDITIVE" "Lcom/example/libxqopt/libxqopt/Expr$Binary$Level;" (.ref (A 4)) ∧ Sta Z h "com/example/libxqopt/libxqopt/Expr$Binary$Level" "MULTIPLICATIVE" "Lcom/example/libxqopt/libxqopt/Expr$Binary$Level;" (.ref (A 5)) ∧ Sta Z h "com/example/libxqopt/libxqopt/Expr$Binary$Level" "UNION" "Lcom/example/libxqopt/libxqopt/Expr$Binary$Level;" (.ref (A 6)) ∧ Sta Z h "com/example/libxqopt/libxqopt/Expr$Binary$Level" "INTERSECT" "Lcom/example/libxqopt/libxqopt/Expr$Binary$Level;" (.ref (A 7))
def own_gr (A : Nat → Addr) (a : Addr) : Int32 := if a = A 2 then 0 else if a = A 3 then 0 else 1
set_option maxRecDepth 65536 in
set_option maxHeartbeats 40000000 in
theorem rm_gr (l : Launch) (Z : State) (a0 : Array Value) (hw : ∀ d ∈ tables_1, d.before a0 Z = true) (h : Heap) (n0 : Nat) (A : Nat → Addr) (S : own_S Z h A) (a : Addr) : Con l Z (⟨"com/example/libxqopt/libxqopt/Expr$Binary$Level", "groups", "()Z"⟩ : MethodName) prog_36_method_4_code 1 (Option.some Jvm.ClassFile.FieldType.boolean) ({ frames := 0, cells := 0, slots := 0, locals := 0 } : Room) n0 #[.ref a] h (fun v h' => v = some (.int (own_gr A a)) ∧ h' = h) [] := by
  refine Run.con pn_op (Ls := [.val (.ref a)]) rfl ?_
  refine r_aloadN 1 d_prog_36_method_4_code_0 rfl rfl ?_
  refine r_getstatic 4 d_prog_36_method_4_code_1 rfl (hw _ (List.mem_of_getElem? (i := 8) rfl)) Via.refl S.2.2.1 ?_
  refine r_acmp_eq 18 7 d_prog_36_method_4_code_4 (by decide) rfl rfl rfl (fun q4 => ?_) (fun q4 => ?_)
  · refine r_iconst 0 19 d_prog_36_method_4_code_18 rfl rfl ?_
    exact r_retN _ d_prog_36_method_4_code_19 rfl (by simp) rfl (Nat.le_of_ble_eq_true rfl) (Nat.le_of_ble_eq_true rfl) (⟨by simp only [Value.ref.injEq] at *; simp [own_gr, own_b0, own_b1, *], rfl⟩)
  · refine r_aloadN 8 d_prog_36_method_4_code_7 rfl rfl ?_
    refine r_getstatic 11 d_prog_36_method_4_code_8 rfl (hw _ (List.mem_of_getElem? (i := 10) rfl)) Via.refl S.2.2.2.1 ?_
    refine r_acmp_eq 18 14 d_prog_36_method_4_code_11 (by decide) rfl rfl rfl (fun q11 => ?_) (fun q11 => ?_)
    · refine r_iconst 0 19 d_prog_36_method_4_code_18 rfl rfl ?_
      exact r_retN _ d_prog_36_method_4_code_19 rfl (by simp) rfl (Nat.le_of_ble_eq_true rfl) (Nat.le_of_ble_eq_true rfl) (⟨by simp only [Value.ref.injEq] at *; simp [own_gr, own_b0, own_b1, *], rfl⟩)
    · refine r_iconst 1 15 d_prog_36_method_4_code_14 rfl rfl ?_
      refine r_goto 19 d_prog_36_method_4_code_15 (by decide) ?_
      exact r_retN _ d_prog_36_method_4_code_19 rfl (by simp) rfl (Nat.le_of_ble_eq_true rfl) (Nat.le_of_ble_eq_true rfl) (⟨by simp only [Value.ref.injEq] at *; simp [own_gr, own_b0, own_b1, *], rfl⟩)
theorem own_law (A : Nat → Addr) (hA : ∀ i j, i < 8 → j < 8 → A i = A j → i = j) (i : Nat) (hi : i < 8) : own_gr A (A i) = if i = 2 ∨ i = 3 then 0 else 1 := by
  have q : ∀ j, j < 8 → (A i = A j ↔ i = j) := fun j hj => ⟨hA i j hi hj, fun e => e ▸ rfl⟩
  have q2 := q 2 (by omega)
  have q3 := q 3 (by omega)
  simp only [own_gr, q2, q3]
  match i, hi with
  | 0, _ => rfl
  | 1, _ => rfl
  | 2, _ => rfl
  | 3, _ => rfl
  | 4, _ => rfl
  | 5, _ => rfl
  | 6, _ => rfl
  | 7, _ => rfl
set_option maxRecDepth 65536 in
set_option maxHeartbeats 40000000 in
theorem rm_law (l : Launch) (Z : State) (a0 : Array Value) (hw : ∀ d ∈ tables_1, d.before a0 Z = true) (h : Heap) (n0 : Nat) (A : Nat → Addr) (S : own_S Z h A) (hE : ∀ i, i < 8 → Exa Z h (A i) "com/example/libxqopt/libxqopt/Expr$Binary$Level") (hA : ∀ i j, i < 8 → j < 8 → A i = A j → i = j) (i0 : Int32) : Con l Z x code maxLocals ret room_1 n0 #[.int i0] h (fun v h' => v = some (.int 1) ∧ True) tables_1 := by
  refine Run.con pn_law (Ls := [.val (.int i0), .unset, .unset, .unset]) rfl ?_
  refine r_iloadN 1 at_0 rfl rfl ?_
  refine r_bipush 7 3 at_1 rfl rfl ?_
  refine r_iand 4 at_3 rfl ?_
  refine r_istoreN 5 at_4 rfl rfl ?_
  refine r_iloadN 6 at_5 rfl rfl ?_
  refine r_if_ne 18 9 at_6 (by decide) rfl (fun q6 => ?_) (fun q6 => ?_)
  · refine r_iloadN 19 at_18 rfl rfl ?_
    refine r_iconst 1 20 at_19 rfl rfl ?_
    refine r_icmp_ne 32 23 at_20 (by decide) rfl (fun q20 => ?_) (fun q20 => ?_)
    · refine r_iloadN 33 at_32 rfl rfl ?_
      refine r_iconst 2 34 at_33 rfl rfl ?_
      refine r_icmp_ne 46 37 at_34 (by decide) rfl (fun q34 => ?_) (fun q34 => ?_)
      · refine r_iloadN 47 at_46 rfl rfl ?_
        refine r_iconst 3 48 at_47 rfl rfl ?_
        refine r_icmp_ne 60 51 at_48 (by decide) rfl (fun q48 => ?_) (fun q48 => ?_)
        · refine r_iloadN 61 at_60 rfl rfl ?_
          refine r_iconst 4 62 at_61 rfl rfl ?_
          refine r_icmp_ne 74 65 at_62 (by decide) rfl (fun q62 => ?_) (fun q62 => ?_)
          · refine r_iloadN 75 at_74 rfl rfl ?_
            refine r_iconst 5 76 at_75 rfl rfl ?_
            refine r_icmp_ne 88 79 at_76 (by decide) rfl (fun q76 => ?_) (fun q76 => ?_)
            · refine r_iloadN 89 at_88 rfl rfl ?_
              refine r_bipush 6 91 at_89 rfl rfl ?_
              refine r_icmp_ne 103 94 at_91 (by decide) rfl (fun q91 => ?_) (fun q91 => ?_)
              · refine r_getstatic 106 at_103 rfl (hw _ (List.mem_of_getElem? (i := 15) rfl)) Via.refl S.2.2.2.2.2.2.2 ?_
                refine r_astoreN 107 at_106 rfl rfl ?_
                refine r_iconst 1 108 at_107 rfl rfl ?_
                refine r_istoreN 109 at_108 rfl rfl ?_
                refine r_aloadN 110 at_109 rfl rfl ?_
                refine r_virtual 113 at_110 rfl (rm_gr l Z a0 hw _ n0 A S (A 7)) (as1 := []) rfl (hw _ (List.mem_of_getElem? (i := 3) rfl)) (hw _ (List.mem_of_getElem? (i := 4) rfl)) (hw _ (List.mem_of_getElem? (i := 6) rfl)) (hw _ (List.mem_of_getElem? (i := 5) rfl)) (hw _ (List.mem_of_getElem? (i := 1) rfl)) (hw _ (List.mem_of_getElem? (i := 7) rfl)) (by decide) (ps := []) (r' := some .boolean) (by decide +kernel) (hE 7 (by decide)) rfl rfl rfl (Nat.le_of_ble_eq_true rfl) (Nat.le_of_ble_eq_true rfl) (Nat.le_of_ble_eq_true rfl) (Nat.le_of_ble_eq_true rfl) (fun s args hZ => notFace_of_selects (args := args) (mvT hZ (hw _ (List.mem_of_getElem? (i := 6) rfl)))) ?_
                rintro v h' ⟨rfl, rfl⟩
                rw [own_law A hA 7 (by decide)]
                show Run _ _ _ _ _ _ _ _ _ _ _ _ _ _ [.int 1]
                refine r_iloadN 114 at_113 rfl rfl ?_
                refine r_icmp_ne 121 117 at_114 (by decide) rfl (fun q114 => absurd rfl q114) (fun q114 => ?_)
                refine r_iconst 1 118 at_117 rfl rfl ?_
                refine r_goto 122 at_118 (by decide) ?_
                exact r_retN _ at_122 rfl (by simp) rfl (Nat.le_of_ble_eq_true rfl) (Nat.le_of_ble_eq_true rfl) (⟨rfl, trivial⟩)
              · refine r_getstatic 97 at_94 rfl (hw _ (List.mem_of_getElem? (i := 13) rfl)) Via.refl S.2.2.2.2.2.2.1 ?_
                refine r_astoreN 98 at_97 rfl rfl ?_
                refine r_iconst 1 99 at_98 rfl rfl ?_
                refine r_istoreN 100 at_99 rfl rfl ?_
                refine r_goto 109 at_100 (by decide) ?_
                refine r_aloadN 110 at_109 rfl rfl ?_
                refine r_virtual 113 at_110 rfl (rm_gr l Z a0 hw _ n0 A S (A 6)) (as1 := []) rfl (hw _ (List.mem_of_getElem? (i := 3) rfl)) (hw _ (List.mem_of_getElem? (i := 4) rfl)) (hw _ (List.mem_of_getElem? (i := 6) rfl)) (hw _ (List.mem_of_getElem? (i := 5) rfl)) (hw _ (List.mem_of_getElem? (i := 1) rfl)) (hw _ (List.mem_of_getElem? (i := 7) rfl)) (by decide) (ps := []) (r' := some .boolean) (by decide +kernel) (hE 6 (by decide)) rfl rfl rfl (Nat.le_of_ble_eq_true rfl) (Nat.le_of_ble_eq_true rfl) (Nat.le_of_ble_eq_true rfl) (Nat.le_of_ble_eq_true rfl) (fun s args hZ => notFace_of_selects (args := args) (mvT hZ (hw _ (List.mem_of_getElem? (i := 6) rfl)))) ?_
                rintro v h' ⟨rfl, rfl⟩
                rw [own_law A hA 6 (by decide)]
                show Run _ _ _ _ _ _ _ _ _ _ _ _ _ _ [.int 1]
                refine r_iloadN 114 at_113 rfl rfl ?_
                refine r_icmp_ne 121 117 at_114 (by decide) rfl (fun q114 => absurd rfl q114) (fun q114 => ?_)
                refine r_iconst 1 118 at_117 rfl rfl ?_
                refine r_goto 122 at_118 (by decide) ?_
                exact r_retN _ at_122 rfl (by simp) rfl (Nat.le_of_ble_eq_true rfl) (Nat.le_of_ble_eq_true rfl) (⟨rfl, trivial⟩)
            · refine r_getstatic 82 at_79 rfl (hw _ (List.mem_of_getElem? (i := 22) rfl)) Via.refl S.2.2.2.2.2.1 ?_
              refine r_astoreN 83 at_82 rfl rfl ?_
              refine r_iconst 1 84 at_83 rfl rfl ?_
              refine r_istoreN 85 at_84 rfl rfl ?_
              refine r_goto 109 at_85 (by decide) ?_
              refine r_aloadN 110 at_109 rfl rfl ?_
              refine r_virtual 113 at_110 rfl (rm_gr l Z a0 hw _ n0 A S (A 5)) (as1 := []) rfl (hw _ (List.mem_of_getElem? (i := 3) rfl)) (hw _ (List.mem_of_getElem? (i := 4) rfl)) (hw _ (List.mem_of_getElem? (i := 6) rfl)) (hw _ (List.mem_of_getElem? (i := 5) rfl)) (hw _ (List.mem_of_getElem? (i := 1) rfl)) (hw _ (List.mem_of_getElem? (i := 7) rfl)) (by decide) (ps := []) (r' := some .boolean) (by decide +kernel) (hE 5 (by decide)) rfl rfl rfl (Nat.le_of_ble_eq_true rfl) (Nat.le_of_ble_eq_true rfl) (Nat.le_of_ble_eq_true rfl) (Nat.le_of_ble_eq_true rfl) (fun s args hZ => notFace_of_selects (args := args) (mvT hZ (hw _ (List.mem_of_getElem? (i := 6) rfl)))) ?_
              rintro v h' ⟨rfl, rfl⟩
              rw [own_law A hA 5 (by decide)]
              show Run _ _ _ _ _ _ _ _ _ _ _ _ _ _ [.int 1]
              refine r_iloadN 114 at_113 rfl rfl ?_
              refine r_icmp_ne 121 117 at_114 (by decide) rfl (fun q114 => absurd rfl q114) (fun q114 => ?_)
              refine r_iconst 1 118 at_117 rfl rfl ?_
              refine r_goto 122 at_118 (by decide) ?_
              exact r_retN _ at_122 rfl (by simp) rfl (Nat.le_of_ble_eq_true rfl) (Nat.le_of_ble_eq_true rfl) (⟨rfl, trivial⟩)
          · refine r_getstatic 68 at_65 rfl (hw _ (List.mem_of_getElem? (i := 20) rfl)) Via.refl S.2.2.2.2.1 ?_
            refine r_astoreN 69 at_68 rfl rfl ?_
            refine r_iconst 1 70 at_69 rfl rfl ?_
            refine r_istoreN 71 at_70 rfl rfl ?_
            refine r_goto 109 at_71 (by decide) ?_
            refine r_aloadN 110 at_109 rfl rfl ?_
            refine r_virtual 113 at_110 rfl (rm_gr l Z a0 hw _ n0 A S (A 4)) (as1 := []) rfl (hw _ (List.mem_of_getElem? (i := 3) rfl)) (hw _ (List.mem_of_getElem? (i := 4) rfl)) (hw _ (List.mem_of_getElem? (i := 6) rfl)) (hw _ (List.mem_of_getElem? (i := 5) rfl)) (hw _ (List.mem_of_getElem? (i := 1) rfl)) (hw _ (List.mem_of_getElem? (i := 7) rfl)) (by decide) (ps := []) (r' := some .boolean) (by decide +kernel) (hE 4 (by decide)) rfl rfl rfl (Nat.le_of_ble_eq_true rfl) (Nat.le_of_ble_eq_true rfl) (Nat.le_of_ble_eq_true rfl) (Nat.le_of_ble_eq_true rfl) (fun s args hZ => notFace_of_selects (args := args) (mvT hZ (hw _ (List.mem_of_getElem? (i := 6) rfl)))) ?_
            rintro v h' ⟨rfl, rfl⟩
            rw [own_law A hA 4 (by decide)]
            show Run _ _ _ _ _ _ _ _ _ _ _ _ _ _ [.int 1]
            refine r_iloadN 114 at_113 rfl rfl ?_
            refine r_icmp_ne 121 117 at_114 (by decide) rfl (fun q114 => absurd rfl q114) (fun q114 => ?_)
            refine r_iconst 1 118 at_117 rfl rfl ?_
            refine r_goto 122 at_118 (by decide) ?_
            exact r_retN _ at_122 rfl (by simp) rfl (Nat.le_of_ble_eq_true rfl) (Nat.le_of_ble_eq_true rfl) (⟨rfl, trivial⟩)
        · refine r_getstatic 54 at_51 rfl (hw _ (List.mem_of_getElem? (i := 12) rfl)) Via.refl S.2.2.2.1 ?_
          refine r_astoreN 55 at_54 rfl rfl ?_
          refine r_iconst 0 56 at_55 rfl rfl ?_
          refine r_istoreN 57 at_56 rfl rfl ?_
          refine r_goto 109 at_57 (by decide) ?_
          refine r_aloadN 110 at_109 rfl rfl ?_
          refine r_virtual 113 at_110 rfl (rm_gr l Z a0 hw _ n0 A S (A 3)) (as1 := []) rfl (hw _ (List.mem_of_getElem? (i := 3) rfl)) (hw _ (List.mem_of_getElem? (i := 4) rfl)) (hw _ (List.mem_of_getElem? (i := 6) rfl)) (hw _ (List.mem_of_getElem? (i := 5) rfl)) (hw _ (List.mem_of_getElem? (i := 1) rfl)) (hw _ (List.mem_of_getElem? (i := 7) rfl)) (by decide) (ps := []) (r' := some .boolean) (by decide +kernel) (hE 3 (by decide)) rfl rfl rfl (Nat.le_of_ble_eq_true rfl) (Nat.le_of_ble_eq_true rfl) (Nat.le_of_ble_eq_true rfl) (Nat.le_of_ble_eq_true rfl) (fun s args hZ => notFace_of_selects (args := args) (mvT hZ (hw _ (List.mem_of_getElem? (i := 6) rfl)))) ?_
          rintro v h' ⟨rfl, rfl⟩
          rw [own_law A hA 3 (by decide)]
          show Run _ _ _ _ _ _ _ _ _ _ _ _ _ _ [.int 0]
          refine r_iloadN 114 at_113 rfl rfl ?_
          refine r_icmp_ne 121 117 at_114 (by decide) rfl (fun q114 => absurd rfl q114) (fun q114 => ?_)
          refine r_iconst 1 118 at_117 rfl rfl ?_
          refine r_goto 122 at_118 (by decide) ?_
          exact r_retN _ at_122 rfl (by simp) rfl (Nat.le_of_ble_eq_true rfl) (Nat.le_of_ble_eq_true rfl) (⟨rfl, trivial⟩)
      · refine r_getstatic 40 at_37 rfl (hw _ (List.mem_of_getElem? (i := 17) rfl)) Via.refl S.2.2.1 ?_
        refine r_astoreN 41 at_40 rfl rfl ?_
        refine r_iconst 0 42 at_41 rfl rfl ?_
        refine r_istoreN 43 at_42 rfl rfl ?_
        refine r_goto 109 at_43 (by decide) ?_
        refine r_aloadN 110 at_109 rfl rfl ?_
        refine r_virtual 113 at_110 rfl (rm_gr l Z a0 hw _ n0 A S (A 2)) (as1 := []) rfl (hw _ (List.mem_of_getElem? (i := 3) rfl)) (hw _ (List.mem_of_getElem? (i := 4) rfl)) (hw _ (List.mem_of_getElem? (i := 6) rfl)) (hw _ (List.mem_of_getElem? (i := 5) rfl)) (hw _ (List.mem_of_getElem? (i := 1) rfl)) (hw _ (List.mem_of_getElem? (i := 7) rfl)) (by decide) (ps := []) (r' := some .boolean) (by decide +kernel) (hE 2 (by decide)) rfl rfl rfl (Nat.le_of_ble_eq_true rfl) (Nat.le_of_ble_eq_true rfl) (Nat.le_of_ble_eq_true rfl) (Nat.le_of_ble_eq_true rfl) (fun s args hZ => notFace_of_selects (args := args) (mvT hZ (hw _ (List.mem_of_getElem? (i := 6) rfl)))) ?_
        rintro v h' ⟨rfl, rfl⟩
        rw [own_law A hA 2 (by decide)]
        show Run _ _ _ _ _ _ _ _ _ _ _ _ _ _ [.int 0]
        refine r_iloadN 114 at_113 rfl rfl ?_
        refine r_icmp_ne 121 117 at_114 (by decide) rfl (fun q114 => absurd rfl q114) (fun q114 => ?_)
        refine r_iconst 1 118 at_117 rfl rfl ?_
        refine r_goto 122 at_118 (by decide) ?_
        exact r_retN _ at_122 rfl (by simp) rfl (Nat.le_of_ble_eq_true rfl) (Nat.le_of_ble_eq_true rfl) (⟨rfl, trivial⟩)
    · refine r_getstatic 26 at_23 rfl (hw _ (List.mem_of_getElem? (i := 18) rfl)) Via.refl S.2.1 ?_
      refine r_astoreN 27 at_26 rfl rfl ?_
      refine r_iconst 1 28 at_27 rfl rfl ?_
      refine r_istoreN 29 at_28 rfl rfl ?_
      refine r_goto 109 at_29 (by decide) ?_
      refine r_aloadN 110 at_109 rfl rfl ?_
      refine r_virtual 113 at_110 rfl (rm_gr l Z a0 hw _ n0 A S (A 1)) (as1 := []) rfl (hw _ (List.mem_of_getElem? (i := 3) rfl)) (hw _ (List.mem_of_getElem? (i := 4) rfl)) (hw _ (List.mem_of_getElem? (i := 6) rfl)) (hw _ (List.mem_of_getElem? (i := 5) rfl)) (hw _ (List.mem_of_getElem? (i := 1) rfl)) (hw _ (List.mem_of_getElem? (i := 7) rfl)) (by decide) (ps := []) (r' := some .boolean) (by decide +kernel) (hE 1 (by decide)) rfl rfl rfl (Nat.le_of_ble_eq_true rfl) (Nat.le_of_ble_eq_true rfl) (Nat.le_of_ble_eq_true rfl) (Nat.le_of_ble_eq_true rfl) (fun s args hZ => notFace_of_selects (args := args) (mvT hZ (hw _ (List.mem_of_getElem? (i := 6) rfl)))) ?_
      rintro v h' ⟨rfl, rfl⟩
      rw [own_law A hA 1 (by decide)]
      show Run _ _ _ _ _ _ _ _ _ _ _ _ _ _ [.int 1]
      refine r_iloadN 114 at_113 rfl rfl ?_
      refine r_icmp_ne 121 117 at_114 (by decide) rfl (fun q114 => absurd rfl q114) (fun q114 => ?_)
      refine r_iconst 1 118 at_117 rfl rfl ?_
      refine r_goto 122 at_118 (by decide) ?_
      exact r_retN _ at_122 rfl (by simp) rfl (Nat.le_of_ble_eq_true rfl) (Nat.le_of_ble_eq_true rfl) (⟨rfl, trivial⟩)
  · refine r_getstatic 12 at_9 rfl (hw _ (List.mem_of_getElem? (i := 0) rfl)) Via.refl S.1 ?_
    refine r_astoreN 13 at_12 rfl rfl ?_
    refine r_iconst 1 14 at_13 rfl rfl ?_
    refine r_istoreN 15 at_14 rfl rfl ?_
    refine r_goto 109 at_15 (by decide) ?_
    refine r_aloadN 110 at_109 rfl rfl ?_
    refine r_virtual 113 at_110 rfl (rm_gr l Z a0 hw _ n0 A S (A 0)) (as1 := []) rfl (hw _ (List.mem_of_getElem? (i := 3) rfl)) (hw _ (List.mem_of_getElem? (i := 4) rfl)) (hw _ (List.mem_of_getElem? (i := 6) rfl)) (hw _ (List.mem_of_getElem? (i := 5) rfl)) (hw _ (List.mem_of_getElem? (i := 1) rfl)) (hw _ (List.mem_of_getElem? (i := 7) rfl)) (by decide) (ps := []) (r' := some .boolean) (by decide +kernel) (hE 0 (by decide)) rfl rfl rfl (Nat.le_of_ble_eq_true rfl) (Nat.le_of_ble_eq_true rfl) (Nat.le_of_ble_eq_true rfl) (Nat.le_of_ble_eq_true rfl) (fun s args hZ => notFace_of_selects (args := args) (mvT hZ (hw _ (List.mem_of_getElem? (i := 6) rfl)))) ?_
    rintro v h' ⟨rfl, rfl⟩
    rw [own_law A hA 0 (by decide)]
    show Run _ _ _ _ _ _ _ _ _ _ _ _ _ _ [.int 1]
    refine r_iloadN 114 at_113 rfl rfl ?_
    refine r_icmp_ne 121 117 at_114 (by decide) rfl (fun q114 => absurd rfl q114) (fun q114 => ?_)
    refine r_iconst 1 118 at_117 rfl rfl ?_
    refine r_goto 122 at_118 (by decide) ?_
    exact r_retN _ at_122 rfl (by simp) rfl (Nat.le_of_ble_eq_true rfl) (Nat.le_of_ble_eq_true rfl) (⟨rfl, trivial⟩)
set_option maxRecDepth 65536 in
set_option maxHeartbeats 40000000 in
theorem comes_1 {Post : Tables → Env → Array Value → State → Outcome → State → Prop} (hpost : ∀ tb e args s v u, (limb_1_1.after args s (.returned v) u = true ∧ limb_1_2.after args s (.returned v) u = true ∧ True) → FrameEnd s (.returned v) u (Jvm.fieldLocs frame_1_writes args s ++ Jvm.arrayLocs frame_1_arrays args s ++ Jvm.staticLocs frame_1_statics s) 0 0 → Post tb e args s (.returned v) u) :
    ArmFor flags0 classFile x code maxLocals ret World_1 tables_1 room_1 Calls_1 rest_1 Pre_1 Post := by
  intro l hfl _ _ p e ha hc hk s m args below hf hA hF happ hP
  obtain ⟨hcalls, hrest, hpre⟩ := hP
  obtain ⟨-, -, -, hnamed, -, -, -, hat⟩ := (Spec.applies_iff hf).mp happ
  obtain ⟨hg, hn⟩ := and_e (Cond.before_iff.mp (show (Jvm.Cond.and given_1 narrow_1).before args s = true from hpre))
  obtain ⟨hcount, hg⟩ := and_e hg
  have g0 := hg
  obtain ⟨w0, rfl⟩ : ∃ w0 : Value, args = #[w0] := by
    have hs : args.size = 1 := by simpa [Cond.value, given_1] using hcount
    obtain ⟨L⟩ := args
    match L, hs with
    | [w0], _ => exact ⟨w0, rfl⟩
  have hw := fun d (hd : d ∈ tables_1) => atoms_spec (ws := Jvm.Cond.code x code maxLocals ret :: tables_1) hat d (List.mem_cons_of_mem _ hd)
  have hfit : Fit s := fun {y c} hc i hi => by
    obtain ⟨ha, rfl⟩ := Array.getElem?_eq_some_iff.mp hc
    have q := List.all_eq_true.mp ((Array.all_eq_true_iff_forall_mem.mp hF) _ (Array.getElem_mem ha)) i (List.mem_range.mpr hi)
    simpa [Array.getElem?_eq_getElem hi] using q
  obtain ⟨i0, ea0⟩ := is_v g0
  obtain rfl : w0 = (.int i0) := Option.some.inj ea0
  obtain ⟨c0, hn⟩ := and_e hn
  obtain ⟨c1, hn⟩ := and_e hn
  obtain ⟨c2, hn⟩ := and_e hn
  obtain ⟨c3, hn⟩ := and_e hn
  obtain ⟨c4, hn⟩ := and_e hn
  obtain ⟨c5, hn⟩ := and_e hn
  obtain ⟨c6, hn⟩ := and_e hn
  obtain ⟨c7, hn⟩ := and_e hn
  obtain ⟨c8, hn⟩ := and_e hn
  obtain ⟨c9, hn⟩ := and_e hn
  obtain ⟨c10, hn⟩ := and_e hn
  obtain ⟨c11, hn⟩ := and_e hn
  obtain ⟨c12, hn⟩ := and_e hn
  obtain ⟨c13, hn⟩ := and_e hn
  obtain ⟨c14, hn⟩ := and_e hn
  have c15 := hn
  obtain ⟨a0, ev0, st0, ex0⟩ := own_sta c0 (Or.inr ⟨(hw _ (List.mem_of_getElem? (i := 1) rfl)), (hw _ (List.mem_of_getElem? (i := 2) rfl))⟩)
  have f0 := own_fldI ev0 c2
  obtain ⟨a1, ev1, st1, ex1⟩ := own_sta c10 (Or.inr ⟨(hw _ (List.mem_of_getElem? (i := 1) rfl)), (hw _ (List.mem_of_getElem? (i := 19) rfl))⟩)
  have f1 := own_fldI ev1 c11
  obtain ⟨a2, ev2, st2, ex2⟩ := own_sta c1 (Or.inr ⟨(hw _ (List.mem_of_getElem? (i := 1) rfl)), (hw _ (List.mem_of_getElem? (i := 9) rfl))⟩)
  have f2 := own_fldI ev2 c3
  obtain ⟨a3, ev3, st3, ex3⟩ := own_sta c4 (Or.inr ⟨(hw _ (List.mem_of_getElem? (i := 1) rfl)), (hw _ (List.mem_of_getElem? (i := 11) rfl))⟩)
  have f3 := own_fldI ev3 c5
  obtain ⟨a4, ev4, st4, ex4⟩ := own_sta c12 (Or.inr ⟨(hw _ (List.mem_of_getElem? (i := 1) rfl)), (hw _ (List.mem_of_getElem? (i := 21) rfl))⟩)
  have f4 := own_fldI ev4 c13
  obtain ⟨a5, ev5, st5, ex5⟩ := own_sta c14 (Or.inr ⟨(hw _ (List.mem_of_getElem? (i := 1) rfl)), (hw _ (List.mem_of_getElem? (i := 23) rfl))⟩)
  have f5 := own_fldI ev5 c15
  obtain ⟨a6, ev6, st6, ex6⟩ := own_sta c6 (Or.inr ⟨(hw _ (List.mem_of_getElem? (i := 1) rfl)), (hw _ (List.mem_of_getElem? (i := 14) rfl))⟩)
  have f6 := own_fldI ev6 c7
  obtain ⟨a7, ev7, st7, ex7⟩ := own_sta c8 (Or.inr ⟨(hw _ (List.mem_of_getElem? (i := 1) rfl)), (hw _ (List.mem_of_getElem? (i := 16) rfl))⟩)
  have f7 := own_fldI ev7 c9
  let A : Nat → Addr := fun i => match i with | 0 => a0 | 1 => a1 | 2 => a2 | 3 => a3 | 4 => a4 | 5 => a5 | 6 => a6 | _ => a7
  have S : own_S s s.heap A := ⟨st0, st1, st2, st3, st4, st5, st6, st7⟩
  have hE : ∀ i, i < 8 → Exa s s.heap (A i) "com/example/libxqopt/libxqopt/Expr$Binary$Level" := fun i hi => by
    match i, hi with
    | 0, _ => exact ex0
    | 1, _ => exact ex1
    | 2, _ => exact ex2
    | 3, _ => exact ex3
    | 4, _ => exact ex4
    | 5, _ => exact ex5
    | 6, _ => exact ex6
    | 7, _ => exact ex7
  have hF' : ∀ i, i < 8 → Fld s s.heap (A i) "java/lang/Enum" "ordinal" "I" (.int (Int32.ofNat i)) := fun i hi => by
    match i, hi with
    | 0, _ => exact f0
    | 1, _ => exact f1
    | 2, _ => exact f2
    | 3, _ => exact f3
    | 4, _ => exact f4
    | 5, _ => exact f5
    | 6, _ => exact f6
    | 7, _ => exact f7
  have hA' : ∀ i j, i < 8 → j < 8 → A i = A j → i = j := fun i j hi hj e => by
    by_cases q : i = j
    · exact q
    · refine absurd e (Fld.ne (hF' i hi) (hF' j hj) fun r => q ?_)
      have r' : Int32.ofNat i = Int32.ofNat j := by injection r
      have r2 := congrArg Int32.toInt r'
      rw [Int32.toInt_ofNat_small (by omega), Int32.toInt_ofNat_small (by omega)] at r2
      omega
  obtain ⟨nn, o, h1, h2, h3, _, L, rfl, ⟨⟨rfl, -⟩, N⟩, hq⟩ := rm_law l s _ hw s.heap s.heap.size A S hE hA' i0 p e ha hc hk s m _ below hf ((Spec.applies_iff_loose hf).mp happ).1 ⟨rfl, State.Warmed39.refl s, rfl⟩ trivial
  refine ⟨nn, _, h1, h2, h3, hpost _ _ _ _ _ _ ⟨Cond.after_iff.mpr rfl, Cond.after_iff.mpr (eq_i res_at (Term.int_eval (1)) rfl), trivial⟩ ⟨hq.1, hq.2.1, (hq.2.2.sift fun y hy => Or.inr (N y hy)).mono (by decide) (by decide)⟩⟩
theorem main_1_1 : Claimed_1_1 := comes_1 fun _ _ _ _ _ _ h hF => ⟨h.1, hF⟩
theorem main_1_2 : Claimed_1_2 := comes_1 fun _ _ _ _ _ _ h hF => ⟨h.2.1, hF⟩
end Jvm.Pilot.@@N@@
namespace Jvm.Pilot.@@N@@
open Jvm Jvm.ClassFile Sem Op Lib Jvm.Free Jvm.Stand Jvm.Pilot.@@N@@.Jvm.D
/-! MADE BY PROGRAM (witnessworld.py) out of the Statement's table words and the real class files: 12 classes; the members and pool entries that the words name. The judged class is class 1, her method 1. -/
namespace start1
open Jvm.ClassFile
def u (s : String) : CpInfo := .utf8 (stringToUtf16 s)
/-- a pool by its gaps: so many unusable entries, then the entry; so many at the end -/
def gap : Nat → List CpInfo → List CpInfo
  | 0, r => r
  | n + 1, r => .unusable :: gap n r
def poolList (es : List (Nat × CpInfo)) (last : Nat) : List CpInfo := es.foldr (fun e r => gap e.1 (e.2 :: r)) (gap last [])
def pool (es : List (Nat × CpInfo)) (last : Nat) : Array CpInfo := ⟨poolList es last⟩
def fileOf (pool : Array CpInfo) (this : Nat) (attrs : Array Attribute := #[]) (ms : Array MethodInfo := #[]) (fl : Nat := 33) (sup : Nat := 0) (ifs : Array Nat := #[]) (fds : Array FieldInfo := #[]) : ClassFile where
  minorVersion := 0
  majorVersion := 65
  constantPool := pool
  accessFlags := fl
  thisClass := this
  superClass := sup
  interfaces := ifs
  fields := fds
  methods := ms
  attributes := attrs
def plain (name : String) (sup : Option ClassId) : Class where
  name := name
  kind := .ordinary
  loader := none
  accessFlags := 33
  super := sup
  interfaces := #[]
  cf := none
  fields := #[]
  methods := #[]
  instanceTypes := #[]
  staticTypes := #[]
  resolved := #[]
  callSites := []
  init := .initialized
  statics := none
  mirror := none

def pool0 : Array CpInfo := pool [(5, u "<init>"), (0, u "()V"), (1, .class_ 10), (1, u "java/lang/Object")] 113

def k0m0 : Method := { name := "<init>", desc := "()V", sig := { parameters := [], returnType := none }, accessFlags := 1, code := none }
/-- java/lang/Object -/
def k0 : Class := { plain "java/lang/Object" none with
  accessFlags := 33
  interfaces := #[]
  cf := some (fileOf pool0 8 #[] #[{ accessFlags := 1, nameIndex := 5, descriptorIndex := 6, attributes := #[] }] 33 0 #[] #[])
  fields := #[]
  methods := #[k0m0]
  instanceTypes := #[]
  staticTypes := #[]
  resolved := Array.replicate 124 none
  statics := none }

def pool1 : Array CpInfo := pool [(2, .class_ 4), (1, u "java/lang/Object"), (0, u "<init>"), (0, u "()V"), (0, .fieldref 8 9), (0, .class_ 10), (0, .nameAndType 11 12), (0, u "com/example/libxqopt/libxqopt/Expr$Binary$Level"), (0, u "OR"), (0, u "Lcom/example/libxqopt/libxqopt/Expr$Binary$Level;"), (0, .fieldref 8 14), (0, .nameAndType 15 12), (0, u "AND"), (0, .fieldref 8 17), (0, .nameAndType 18 12), (0, u "COMPARISON"), (0, .fieldref 8 20), (0, .nameAndType 21 12), (0, u "RANGE"), (0, .fieldref 8 23), (0, .nameAndType 24 12), (0, u "ADDITIVE"), (0, .fieldref 8 26), (0, .nameAndType 27 12), (0, u "MULTIPLICATIVE"), (0, .fieldref 8 29), (0, .nameAndType 30 12), (0, u "UNION"), (0, .fieldref 8 32), (0, .nameAndType 33 12), (0, u "INTERSECT"), (0, .methodref 8 35), (0, .nameAndType 36 37), (0, u "groups"), (0, u "()Z"), (0, .class_ 39), (0, u "com/example/libxqopt/libxqopt/LevelGroupsPinLaw"), (2, u "law"), (0, u "(I)Z")] 10

def k1m0 : Method := { name := "<init>", desc := "()V", sig := { parameters := [], returnType := none }, accessFlags := 1, code := none }
def k1c1 : Code := { maxStack := 2, maxLocals := 4, code := code, exceptionTable := #[], attributes := #[] }
def k1m1 : Method := { name := "law", desc := "(I)Z", sig := { parameters := [.int], returnType := some .boolean }, accessFlags := 9, code := some k1c1 }
/-- com/example/libxqopt/libxqopt/LevelGroupsPinLaw -/
def k1 : Class := { plain "com/example/libxqopt/libxqopt/LevelGroupsPinLaw" (some 0) with
  accessFlags := 49
  interfaces := #[]
  cf := some (fileOf pool1 38 #[] #[{ accessFlags := 1, nameIndex := 5, descriptorIndex := 6, attributes := #[] }, { accessFlags := 9, nameIndex := 42, descriptorIndex := 43, attributes := #[] }] 49 2 #[] #[])
  fields := #[]
  methods := #[k1m0, k1m1]
  instanceTypes := #[]
  staticTypes := #[]
  resolved := Array.replicate 54 none
  statics := none }

def pool2 : Array CpInfo := pool [(1, .class_ 2), (0, u "java/lang/constant/Constable"), (0, .class_ 4), (0, u "java/lang/Object")] 6

/-- java/lang/constant/Constable -/
def k2 : Class := { plain "java/lang/constant/Constable" (some 0) with
  accessFlags := 1537
  interfaces := #[]
  cf := some (fileOf pool2 1 #[] #[] 1537 3 #[] #[])
  fields := #[]
  methods := #[]
  instanceTypes := #[]
  staticTypes := #[]
  resolved := Array.replicate 11 none
  statics := none }

def pool3 : Array CpInfo := pool [(1, .class_ 2), (0, u "java/lang/Comparable"), (0, .class_ 4), (0, u "java/lang/Object")] 7

/-- java/lang/Comparable -/
def k3 : Class := { plain "java/lang/Comparable" (some 0) with
  accessFlags := 1537
  interfaces := #[]
  cf := some (fileOf pool3 1 #[] #[] 1537 3 #[] #[])
  fields := #[]
  methods := #[]
  instanceTypes := #[]
  staticTypes := #[]
  resolved := Array.replicate 12 none
  statics := none }

def pool4 : Array CpInfo := pool [(1, .class_ 2), (0, u "java/io/Serializable"), (0, .class_ 4), (0, u "java/lang/Object")] 2

/-- java/io/Serializable -/
def k4 : Class := { plain "java/io/Serializable" (some 0) with
  accessFlags := 1537
  interfaces := #[]
  cf := some (fileOf pool4 1 #[] #[] 1537 3 #[] #[])
  fields := #[]
  methods := #[]
  instanceTypes := #[]
  staticTypes := #[]
  resolved := Array.replicate 7 none
  statics := none }

def pool5 : Array CpInfo := pool [(2, .class_ 4), (1, u "java/lang/Enum"), (0, u "name"), (0, u "Ljava/lang/String;"), (2, u "ordinal"), (0, u "I"), (1, .class_ 14), (1, u "java/lang/Object"), (4, u "hash"), (86, .class_ 108), (1, u "java/lang/Enum$EnumDesc"), (2, .class_ 112), (0, u "java/lang/constant/Constable"), (0, .class_ 114), (0, u "java/lang/Comparable"), (0, .class_ 116), (0, u "java/io/Serializable")] 87

/-- java/lang/Enum -/
def k5 : Class := { plain "java/lang/Enum" (some 0) with
  accessFlags := 1057
  interfaces := #[2, 3, 4]
  cf := some (fileOf pool5 2 #[.nestMembers #[106]] #[] 1057 12 #[111, 113, 115] #[{ accessFlags := 18, nameIndex := 5, descriptorIndex := 6, attributes := #[] }, { accessFlags := 18, nameIndex := 9, descriptorIndex := 10, attributes := #[] }, { accessFlags := 2, nameIndex := 19, descriptorIndex := 10, attributes := #[] }])
  fields := #[{ name := "name", type := (.object "java/lang/String"), accessFlags := 18, slot := 0, constantValue := 0 }, { name := "ordinal", type := .int, accessFlags := 18, slot := 1, constantValue := 0 }, { name := "hash", type := .int, accessFlags := 2, slot := 2, constantValue := 0 }]
  methods := #[]
  instanceTypes := #[(.object "java/lang/String"), .int, .int]
  staticTypes := #[]
  resolved := Array.replicate 204 none
  statics := none }

def pool6 : Array CpInfo := pool [(1, .class_ 2), (0, u "com/example/libxqopt/libxqopt/Expr$Binary$Level"), (2, u "OR"), (0, u "Lcom/example/libxqopt/libxqopt/Expr$Binary$Level;"), (2, u "AND"), (0, .fieldref 1 11), (0, .nameAndType 12 6), (0, u "COMPARISON"), (0, .fieldref 1 14), (0, .nameAndType 15 6), (0, u "RANGE"), (2, u "ADDITIVE"), (2, u "MULTIPLICATIVE"), (2, u "UNION"), (2, u "INTERSECT"), (2, u "$VALUES"), (0, u "[Lcom/example/libxqopt/libxqopt/Expr$Binary$Level;"), (6, .class_ 40), (1, u "java/lang/Enum"), (26, u "groups"), (0, u "()Z"), (6, .class_ 76), (0, u "com/example/libxqopt/libxqopt/Expr")] 5

def k6c0 : Code := { maxStack := 2, maxLocals := 1, code := prog_36_method_4_code, exceptionTable := #[], attributes := #[] }
def k6m0 : Method := { name := "groups", desc := "()Z", sig := { parameters := [], returnType := some .boolean }, accessFlags := 0, code := some k6c0 }
/-- com/example/libxqopt/libxqopt/Expr$Binary$Level -/
def k6 : Class := { plain "com/example/libxqopt/libxqopt/Expr$Binary$Level" (some 5) with
  accessFlags := 16432
  interfaces := #[]
  cf := some (fileOf pool6 1 #[.nestHost 75] #[{ accessFlags := 0, nameIndex := 67, descriptorIndex := 68, attributes := #[] }] 16432 38 #[] #[{ accessFlags := 16409, nameIndex := 5, descriptorIndex := 6, attributes := #[] }, { accessFlags := 16409, nameIndex := 9, descriptorIndex := 6, attributes := #[] }, { accessFlags := 16409, nameIndex := 12, descriptorIndex := 6, attributes := #[] }, { accessFlags := 16409, nameIndex := 15, descriptorIndex := 6, attributes := #[] }, { accessFlags := 16409, nameIndex := 18, descriptorIndex := 6, attributes := #[] }, { accessFlags := 16409, nameIndex := 21, descriptorIndex := 6, attributes := #[] }, { accessFlags := 16409, nameIndex := 24, descriptorIndex := 6, attributes := #[] }, { accessFlags := 16409, nameIndex := 27, descriptorIndex := 6, attributes := #[] }, { accessFlags := 4122, nameIndex := 30, descriptorIndex := 31, attributes := #[] }])
  fields := #[{ name := "OR", type := (.object "com/example/libxqopt/libxqopt/Expr$Binary$Level"), accessFlags := 16409, slot := 0, constantValue := 0 }, { name := "AND", type := (.object "com/example/libxqopt/libxqopt/Expr$Binary$Level"), accessFlags := 16409, slot := 1, constantValue := 0 }, { name := "COMPARISON", type := (.object "com/example/libxqopt/libxqopt/Expr$Binary$Level"), accessFlags := 16409, slot := 2, constantValue := 0 }, { name := "RANGE", type := (.object "com/example/libxqopt/libxqopt/Expr$Binary$Level"), accessFlags := 16409, slot := 3, constantValue := 0 }, { name := "ADDITIVE", type := (.object "com/example/libxqopt/libxqopt/Expr$Binary$Level"), accessFlags := 16409, slot := 4, constantValue := 0 }, { name := "MULTIPLICATIVE", type := (.object "com/example/libxqopt/libxqopt/Expr$Binary$Level"), accessFlags := 16409, slot := 5, constantValue := 0 }, { name := "UNION", type := (.object "com/example/libxqopt/libxqopt/Expr$Binary$Level"), accessFlags := 16409, slot := 6, constantValue := 0 }, { name := "INTERSECT", type := (.object "com/example/libxqopt/libxqopt/Expr$Binary$Level"), accessFlags := 16409, slot := 7, constantValue := 0 }, { name := "$VALUES", type := (.array (.object "com/example/libxqopt/libxqopt/Expr$Binary$Level")), accessFlags := 4122, slot := 8, constantValue := 0 }]
  methods := #[k6m0]
  instanceTypes := #[(.object "java/lang/String"), .int, .int]
  staticTypes := #[(.object "com/example/libxqopt/libxqopt/Expr$Binary$Level"), (.object "com/example/libxqopt/libxqopt/Expr$Binary$Level"), (.object "com/example/libxqopt/libxqopt/Expr$Binary$Level"), (.object "com/example/libxqopt/libxqopt/Expr$Binary$Level"), (.object "com/example/libxqopt/libxqopt/Expr$Binary$Level"), (.object "com/example/libxqopt/libxqopt/Expr$Binary$Level"), (.object "com/example/libxqopt/libxqopt/Expr$Binary$Level"), (.object "com/example/libxqopt/libxqopt/Expr$Binary$Level"), (.array (.object "com/example/libxqopt/libxqopt/Expr$Binary$Level"))]
  resolved := Array.replicate 82 none
  statics := some 0 }

def pool7 : Array CpInfo := pool [(1, u "java/lang/Cloneable"), (0, .class_ 1), (0, u "java/lang/Object"), (0, .class_ 3)] 3

/-- java/lang/Cloneable -/
def k7 : Class := { plain "java/lang/Cloneable" (some 0) with
  accessFlags := 1537
  interfaces := #[]
  cf := some (fileOf pool7 2 #[] #[] 1537 4 #[] #[])
  fields := #[]
  methods := #[]
  instanceTypes := #[]
  staticTypes := #[]
  resolved := Array.replicate 8 none
  statics := none }

/-- the primitive byte -/
def k8 : Class := { plain "byte" none with kind := .primitive 'B', accessFlags := 0x411 }
/-- [B -/
def k9 : Class := { plain "[B" (some 0) with kind := .array 8 .byte, interfaces := #[7, 4], accessFlags := 1041 }

/-- the primitive int -/
def k10 : Class := { plain "int" none with kind := .primitive 'I', accessFlags := 0x411 }
/-- [I -/
def k11 : Class := { plain "[I" (some 0) with kind := .array 10 .int, interfaces := #[7, 4], accessFlags := 1041 }

def heap : Heap := #[{ cls := 6, slots := #[.ref 1, .ref 2, .ref 3, .ref 4, .ref 5, .ref 6, .ref 7, .ref 8, .null], vm := .statics 6 },
  { cls := 6, slots := #[.null, .int 0, .int 0], vm := .none },
  { cls := 6, slots := #[.null, .int 1, .int 0], vm := .none },
  { cls := 6, slots := #[.null, .int 2, .int 0], vm := .none },
  { cls := 6, slots := #[.null, .int 3, .int 0], vm := .none },
  { cls := 6, slots := #[.null, .int 4, .int 0], vm := .none },
  { cls := 6, slots := #[.null, .int 5, .int 0], vm := .none },
  { cls := 6, slots := #[.null, .int 6, .int 0], vm := .none },
  { cls := 6, slots := #[.null, .int 7, .int 0], vm := .none }]
def classes : Array Class := #[k0, k1, k2, k3, k4, k5, k6, k7, k8, k9, k10, k11]
def interned : List (Array UInt16 × Addr) := []
def slotsUsed : Nat := 33
def theMethod : MethodId := ⟨1, 1⟩
def args0 : Array Value := #[.int 5]
def aboutOver (below : List Frame) : State where
  vm := { classes := classes, interned := interned.toArray }
  heap := heap
  slotsUsed := slotsUsed
  threads := #[{ frames := .invoking theMethod args0 :: below }]
def below0 : List Frame := [.native { method := ⟨0, 0⟩, args := #[] }]
def about1 : State := aboutOver below0
def p0 : Program := .bare "" "" ""
def e0 : Env := launch0.env 0 0 0
theorem w_frames : about1.frames = Frame.invoking theMethod args0 :: below0 := rfl
set_option maxRecDepth 65536 in
theorem w_args : argsFit about1.vm theMethod args0 = true := by decide +kernel
set_option maxRecDepth 65536 in
theorem w_heap : heapFits about1 = true := by decide +kernel
set_option maxRecDepth 65536 in
theorem w_runnable : about1.curStatus? = some .runnable := by decide +kernel
set_option maxRecDepth 65536 in
theorem w_alone : about1.alone = true := by decide +kernel
set_option maxRecDepth 65536 in
theorem w_named : about1.methodNamed? x = some theMethod := by decide +kernel
set_option maxRecDepth 65536 in
theorem w_hears : about1.hears theMethod below0 = true := by decide +kernel
set_option maxRecDepth 65536 in
theorem w_ripe : about1.ripe theMethod args0 below0 = true := by decide +kernel
theorem w_running : about1.status = .running := rfl
set_option maxRecDepth 65536 in
theorem w_room : about1.hasRoom e0.platform room_1 = true :=
  launch0.hasRoom_least _ room_1 (by decide +kernel) (by decide +kernel) (by decide +kernel) (by decide +kernel) (by decide +kernel) (by decide +kernel)
theorem allAtoms_all (ts : List Jvm.Cond) (a : Array Jvm.Value) (st : Jvm.State) : (allAtoms ts).before a st = ts.all (fun c => c.before a st) := by
  induction ts with
  | nil => rfl
  | cons c t ih =>
    show (Jvm.Cond.and c (allAtoms t)).before a st = _
    rw [Jvm.Cond.before_and, ih, List.all_cons]
def words1 : List Jvm.Cond := Jvm.Cond.code x code maxLocals ret :: tables_1
/-- a 'code' word, met by the world's own term for the bytes: nothing is compared byte by byte -/
theorem code_word {y : MethodName} {bytes : ByteArray} {mx : Nat} {rt : Option FieldType} {a : Array Value} {s : State} {m : MethodId} {meth : Method} {c : Code} (h1 : s.methodNamed? y = some m) (h2 : s.vm.method? m = some meth) (h3 : meth.code = some c) (h4 : c.code = bytes)
    (h5 : (c.maxLocals == mx && c.exceptionTable.isEmpty && decide (c.maxStack ≤ mostOperands) && decide (meth.sig.returnType = rt) && !meth.locks && decide (parseMethodDescriptor y.desc = some meth.sig)) = true) : (Jvm.Cond.code y bytes mx rt).before a s = true := by
  simp only [Bool.and_eq_true, beq_iff_eq, Bool.not_eq_true', decide_eq_true_eq] at h5
  obtain ⟨⟨⟨⟨⟨g1, g2⟩, g3⟩, g4⟩, g5⟩, g6⟩ := h5
  simp [Cond.before, Cond.holds, Cond.value, h1, h2, h3, h4, g1, g2, g3, g4, g5, g6]
def isCode : Jvm.Cond → Bool
  | .code _ _ _ _ => true
  | _ => false
theorem all_split {L : List Jvm.Cond} {P : Jvm.Cond → Bool} (h1 : L.all (fun c => isCode c || P c) = true) (h2 : ∀ c ∈ L.filter isCode, P c = true) : L.all P = true := by
  refine List.all_eq_true.mpr fun c hc => ?_
  have h := List.all_eq_true.mp h1 c hc
  rcases Bool.eq_false_or_eq_true (isCode c) with hi | hi
  · exact h2 c (List.mem_filter.mpr ⟨hc, hi⟩)
  · simpa [hi] using h
set_option maxRecDepth 65536 in
theorem w_c0 : (Jvm.Cond.code x code maxLocals ret).before args0 about1 = true := code_word (m := ⟨1, 1⟩) (meth := k1m1) (c := k1c1) (by decide +kernel) rfl rfl rfl (by decide +kernel)
set_option maxRecDepth 65536 in
theorem w_c1 : (Jvm.Cond.code ({ cls := "com/example/libxqopt/libxqopt/Expr$Binary$Level", name := "groups", desc := "()Z" } : Jvm.MethodName) prog_36_method_4_code (1 : Nat) (Option.some Jvm.ClassFile.FieldType.boolean)).before args0 about1 = true := code_word (m := ⟨6, 0⟩) (meth := k6m0) (c := k6c0) (by decide +kernel) rfl rfl rfl (by decide +kernel)
def codes1 : List Jvm.Cond := [Jvm.Cond.code x code maxLocals ret, Jvm.Cond.code ({ cls := "com/example/libxqopt/libxqopt/Expr$Binary$Level", name := "groups", desc := "()Z" } : Jvm.MethodName) prog_36_method_4_code (1 : Nat) (Option.some Jvm.ClassFile.FieldType.boolean)]
set_option maxRecDepth 65536 in
theorem codes_eq : words1.filter isCode = codes1 := rfl
theorem w_codes : ∀ c ∈ words1.filter isCode, c.before args0 about1 = true := by
  rw [codes_eq]
  intro c hc
  simp only [codes1, List.mem_cons, List.not_mem_nil, or_false] at hc
  rcases hc with rfl | rfl
  · exact w_c0
  · exact w_c1
set_option maxRecDepth 65536 in
theorem w_t1 : (words1.take 24).all (fun c => isCode c || c.before args0 about1) = true := by decide +kernel
set_option maxRecDepth 65536 in
theorem w_t2 : (words1.drop 24).all (fun c => isCode c || c.before args0 about1) = true := by decide +kernel
theorem w_tables : (allAtoms (Jvm.Cond.code x code maxLocals ret :: tables_1)).before args0 about1 = true := by
  rw [allAtoms_all]
  show words1.all (fun c => c.before args0 about1) = true
  refine all_split ?_ w_codes
  rw [← List.take_append_drop 24 words1, List.all_append, w_t1, w_t2]
  rfl
set_option maxRecDepth 65536 in
theorem w_case : (Jvm.Cond.and given_1 narrow_1).before args0 about1 = true := by decide +kernel
theorem w_applies : (headSpec (Jvm.Cond.code x code maxLocals ret :: tables_1) room_1).applies x e0.platform about1 = true :=
  (Spec.applies_iff w_frames).mpr ⟨w_running, w_runnable, w_alone, w_named, w_hears, w_ripe, w_room, w_tables⟩
theorem atStart : AtStart classFile x code maxLocals ret World_1 tables_1 room_1 Calls_1 rest_1 Pre_1 launch0 p0 e0 about1 theMethod args0 below0 :=
  ⟨lists_1, trivial, launch0.admits_env _ _ _, launch0.least_env, fairChoices_fair.cas, fairChoices_fair.clock, w_frames, w_args, w_heap, w_applies, trivial, trivial, w_case⟩
end start1
theorem witness_1 : WitnessClaimed_1 := ⟨start1.p0, start1.e0, start1.about1, start1.theMethod, start1.args0, start1.below0, start1.atStart⟩
end Jvm.Pilot.@@N@@

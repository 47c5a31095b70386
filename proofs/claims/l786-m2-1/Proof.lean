import JvmDerived
import JvmDerived.Pilot.@@N@@Statement
import JvmDerived.Pilot.@@N@@Code
set_option linter.unusedVariables false
set_option linter.unusedSimpArgs false
namespace Jvm.Pilot.@@N@@
open Jvm Jvm.ClassFile Sem Op Lib Jvm.Free Jvm.Stand Jvm.LawKit Jvm.RoadKit Bundle Jvm.Pilot.@@N@@.Jvm.D
/-! A small calculus of my own over the library's laws: Run .. pc Ls st says: from every state at which this body stands with that heap, that pc, those locals and that stack the invocation comes back, and Q holds of what it returns and of the heap. -/
section Own
variable {l : Launch} {Z : State} {y : MethodName} {bytes : ByteArray} {ml : Nat} {ret : Option FieldType} {R : Room} {n0 : Nat} {Q : Option Value → Heap → Prop} {h : Heap} {k n : Nat} {pc : Nat} {Ls : List Slot} {st : List Value} {a0 : Array Value}

def own_Ctx (p : Program) (s : State) (m : MethodId) (meth : Method) (c : Code) (Z : State) (y : MethodName) (bytes : ByteArray) (ml : Nat) (ret : Option FieldType) : Prop :=
  p.tables.exec = Jvm.exec ∧ c.code = bytes ∧ c.maxLocals = ml ∧ Z.Warmed39 s.vm ∧ s.vm.findClass y.cls = some m.cls ∧ meth.name = y.name ∧ meth.sig.returnType = ret ∧ meth.locks = false

def Run (l : Launch) (Z : State) (y : MethodName) (bytes : ByteArray) (ml : Nat) (ret : Option FieldType) (R : Room) (n0 : Nat) (Q : Option Value → Heap → Prop) (h : Heap) (k n : Nat) (pc : Nat) (Ls : List Slot) (st : List Value) : Prop :=
  ∀ (p : Program) (e : Env) (s : State) (m : MethodId) (args : Array Value) (below : List Frame) (meth : Method) (c : Code) (T : State) (locs : List Loc),
    own_Ctx p s m meth c Z y bytes ml ret → Stand p l e R s m args below meth c T locs k n → Fr n0 locs → T.heap = h →
    ∃ s₂ o, Steps p.tables e below (T.setTop (mkF m pc Ls.toArray st)) s₂ ∧ s₂.status = .running ∧ Ended s₂ below o ∧ ∃ v L, o = .returned v ∧ (Q v s₂.heap ∧ Fr n0 L) ∧ FrameEnd s o s₂ L R.cells R.slots

/-- a step that leaves the state as it is -/
theorem Run.step {pc' : Nat} {Ls' : List Slot} {st' : List Value} (K : Run l Z y bytes ml ret R n0 Q h k n pc' Ls' st')
    (H : ∀ (p : Program) (e : Env) (s : State) (m : MethodId) (args : Array Value) (below : List Frame) (meth : Method) (c : Code) (T : State) (locs : List Loc),
      own_Ctx p s m meth c Z y bytes ml ret → Stand p l e R s m args below meth c T locs k n → T.heap = h → ∀ t, Steps p.tables e below (T.setTop (mkF m pc' Ls'.toArray st')) t → Steps p.tables e below (T.setTop (mkF m pc Ls.toArray st)) t) :
    Run l Z y bytes ml ret R n0 Q h k n pc Ls st := fun p e s m args below meth c T locs C X N E => by
  obtain ⟨s2, o, h1, h2⟩ := K p e s m args below meth c T locs C X N E
  exact ⟨s2, o, H p e s m args below meth c T locs C X E _ h1, h2⟩

/-- a step that moves the state -/
theorem Run.move {pc' : Nat} {Ls' : List Slot} {st' : List Value} {h' : Heap} {k' n' : Nat} (K : Run l Z y bytes ml ret R n0 Q h' k' n' pc' Ls' st')
    (H : ∀ (p : Program) (e : Env) (s : State) (m : MethodId) (args : Array Value) (below : List Frame) (meth : Method) (c : Code) (T : State) (locs : List Loc),
      own_Ctx p s m meth c Z y bytes ml ret → Stand p l e R s m args below meth c T locs k n → Fr n0 locs → T.heap = h →
        ∃ T' locs', Stand p l e R s m args below meth c T' locs' k' n' ∧ Fr n0 locs' ∧ T'.heap = h' ∧ ∀ t, Steps p.tables e below (T'.setTop (mkF m pc' Ls'.toArray st')) t → Steps p.tables e below (T.setTop (mkF m pc Ls.toArray st)) t) :
    Run l Z y bytes ml ret R n0 Q h k n pc Ls st := fun p e s m args below meth c T locs C X N E => by
  obtain ⟨T', locs', X', N', E', st'⟩ := H p e s m args below meth c T locs C X N E
  obtain ⟨s2, o, h1, h2⟩ := K p e s m args below meth c T' locs' C X' N' E'
  exact ⟨s2, o, st' _ h1, h2⟩

/-! loads, constants -/
theorem own_get {m : MethodId} {j : Nat} {v : Value} (h : Ls[j]? = some (.val v)) : (mkF m pc Ls.toArray st).locals[j]? = some (.val v) := by
  show Ls.toArray[j]? = _; rw [List.getElem?_toArray]; exact h
theorem r_aloadN {j : Fin 4} {a : Addr} (pc' : Nat) (hd : decode bytes pc = .ok (.aload_n j, 1)) (hp : pc + 1 = pc') (hl : Ls[j.val]? = some (.val (.ref a))) (K : Run l Z y bytes ml ret R n0 Q h k n pc' Ls (.ref a :: st)) : Run l Z y bytes ml ret R n0 Q h k n pc Ls st := by
  subst hp; exact K.step fun p e s m args below meth c T locs C X E t q => XS.aloadN X.here C.1 rfl (hb C.2.1 hd) (own_get hl) rfl q
theorem r_aload {j : Nat} {a : Addr} (pc' : Nat) (hd : decode bytes pc = .ok (.aload j, 2)) (hp : pc + 2 = pc') (hl : Ls[j]? = some (.val (.ref a))) (K : Run l Z y bytes ml ret R n0 Q h k n pc' Ls (.ref a :: st)) : Run l Z y bytes ml ret R n0 Q h k n pc Ls st := by
  subst hp; exact K.step fun p e s m args below meth c T locs C X E t q => XS.aload X.here C.1 rfl (hb C.2.1 hd) (own_get hl) rfl q
theorem r_aloadNV {j : Fin 4} {v : Value} (pc' : Nat) (hd : decode bytes pc = .ok (.aload_n j, 1)) (hp : pc + 1 = pc') (hl : Ls[j.val]? = some (.val v)) (hv : v.isRef = true) (K : Run l Z y bytes ml ret R n0 Q h k n pc' Ls (v :: st)) : Run l Z y bytes ml ret R n0 Q h k n pc Ls st := by
  subst hp; exact K.step fun p e s m args below meth c T locs C X E t q => XS.aloadN X.here C.1 rfl (hb C.2.1 hd) (own_get hl) hv q
theorem r_aloadV {j : Nat} {v : Value} (pc' : Nat) (hd : decode bytes pc = .ok (.aload j, 2)) (hp : pc + 2 = pc') (hl : Ls[j]? = some (.val v)) (hv : v.isRef = true) (K : Run l Z y bytes ml ret R n0 Q h k n pc' Ls (v :: st)) : Run l Z y bytes ml ret R n0 Q h k n pc Ls st := by
  subst hp; exact K.step fun p e s m args below meth c T locs C X E t q => XS.aload X.here C.1 rfl (hb C.2.1 hd) (own_get hl) hv q
theorem r_iloadN {j : Fin 4} {v : Int32} (pc' : Nat) (hd : decode bytes pc = .ok (.iload_n j, 1)) (hp : pc + 1 = pc') (hl : Ls[j.val]? = some (.val (.int v))) (K : Run l Z y bytes ml ret R n0 Q h k n pc' Ls (.int v :: st)) : Run l Z y bytes ml ret R n0 Q h k n pc Ls st := by
  subst hp; exact K.step fun p e s m args below meth c T locs C X E t q => XS.iloadN X.here C.1 rfl (hb C.2.1 hd) (own_get hl) q
theorem r_iload {j : Nat} {v : Int32} (pc' : Nat) (hd : decode bytes pc = .ok (.iload j, 2)) (hp : pc + 2 = pc') (hl : Ls[j]? = some (.val (.int v))) (K : Run l Z y bytes ml ret R n0 Q h k n pc' Ls (.int v :: st)) : Run l Z y bytes ml ret R n0 Q h k n pc Ls st := by
  subst hp; exact K.step fun p e s m args below meth c T locs C X E t q => XS.iload X.here C.1 rfl (hb C.2.1 hd) (own_get hl) q
theorem r_lloadN {j : Fin 4} {v : Int64} (pc' : Nat) (hd : decode bytes pc = .ok (.lload_n j, 1)) (hp : pc + 1 = pc') (hl : Ls[j.val]? = some (.val (.long v))) (K : Run l Z y bytes ml ret R n0 Q h k n pc' Ls (.long v :: st)) : Run l Z y bytes ml ret R n0 Q h k n pc Ls st := by
  subst hp; exact K.step fun p e s m args below meth c T locs C X E t q => XT.lloadN X.here C.1 rfl (hb C.2.1 hd) (own_get hl) q
theorem r_lload {j : Nat} {v : Int64} (pc' : Nat) (hd : decode bytes pc = .ok (.lload j, 2)) (hp : pc + 2 = pc') (hl : Ls[j]? = some (.val (.long v))) (K : Run l Z y bytes ml ret R n0 Q h k n pc' Ls (.long v :: st)) : Run l Z y bytes ml ret R n0 Q h k n pc Ls st := by
  subst hp; exact K.step fun p e s m args below meth c T locs C X E t q => XT.lload X.here C.1 rfl (hb C.2.1 hd) (own_get hl) q
theorem r_iconst {i : Int} (v : Int32) (pc' : Nat) (hd : decode bytes pc = .ok (.iconst i, 1)) (hp : pc + 1 = pc') (hv : Int32.ofInt i = v) (K : Run l Z y bytes ml ret R n0 Q h k n pc' Ls (.int v :: st)) : Run l Z y bytes ml ret R n0 Q h k n pc Ls st := by
  subst hp hv; exact K.step fun p e s m args below meth c T locs C X E t q => XS.iconst X.here C.1 rfl (hb C.2.1 hd) q
theorem r_bipush {i : Int} (v : Int32) (pc' : Nat) (hd : decode bytes pc = .ok (.bipush i, 2)) (hp : pc + 2 = pc') (hv : (Int8.ofInt i).toInt32 = v) (K : Run l Z y bytes ml ret R n0 Q h k n pc' Ls (.int v :: st)) : Run l Z y bytes ml ret R n0 Q h k n pc Ls st := by
  subst hp hv; exact K.step fun p e s m args below meth c T locs C X E t q => XS.bipush X.here C.1 rfl (hb C.2.1 hd) q
theorem r_sipush {i : Int} (v : Int32) (pc' : Nat) (hd : decode bytes pc = .ok (.sipush i, 3)) (hp : pc + 3 = pc') (hv : (Int16.ofInt i).toInt32 = v) (K : Run l Z y bytes ml ret R n0 Q h k n pc' Ls (.int v :: st)) : Run l Z y bytes ml ret R n0 Q h k n pc Ls st := by
  subst hp hv; exact K.step fun p e s m args below meth c T locs C X E t q => XS.sipush X.here C.1 rfl (hb C.2.1 hd) q
theorem r_lconst {i : Fin 2} (v : Int64) (pc' : Nat) (hd : decode bytes pc = .ok (.lconst i, 1)) (hp : pc + 1 = pc') (hv : Int64.ofNat i = v) (K : Run l Z y bytes ml ret R n0 Q h k n pc' Ls (.long v :: st)) : Run l Z y bytes ml ret R n0 Q h k n pc Ls st := by
  subst hp hv; exact K.step fun p e s m args below meth c T locs C X E t q => XT.lconst X.here C.1 rfl (hb C.2.1 hd) q
theorem r_null (pc' : Nat) (hd : decode bytes pc = .ok (.aconst_null, 1)) (hp : pc + 1 = pc') (K : Run l Z y bytes ml ret R n0 Q h k n pc' Ls (.null :: st)) : Run l Z y bytes ml ret R n0 Q h k n pc Ls st := by
  subst hp; exact K.step fun p e s m args below meth c T locs C X E t q => XS.aconstNull X.here C.1 rfl (hb C.2.1 hd) q
theorem r_ldc {i : Nat} {v : Int32} (pc' : Nat) (hd : decode bytes pc = .ok (.ldc i, 2)) (hp : pc + 2 = pc') (w : (Jvm.Cond.constant y.cls i v).before a0 Z = true) (K : Run l Z y bytes ml ret R n0 Q h k n pc' Ls (.int v :: st)) : Run l Z y bytes ml ret R n0 Q h k n pc Ls st := by
  subst hp; exact K.step fun p e s m args below meth c T locs C X E t q => X.ldcInt C.1 C.2.2.2.2.1 (mvT C.2.2.2.1 w) (g := mkF m pc Ls.toArray st) rfl (hb C.2.1 hd) _ q
theorem r_ldc2 {i : Nat} {v : Int64} (pc' : Nat) (hd : decode bytes pc = .ok (.ldc2_w i, 3)) (hp : pc + 3 = pc') (w : (Jvm.Cond.constantLong y.cls i v).before a0 Z = true) (K : Run l Z y bytes ml ret R n0 Q h k n pc' Ls (.long v :: st)) : Run l Z y bytes ml ret R n0 Q h k n pc Ls st := by
  subst hp; exact K.step fun p e s m args below meth c T locs C X E t q => X.ldc2Long C.1 C.2.2.2.2.1 (mvT C.2.2.2.1 w) (g := mkF m pc Ls.toArray st) rfl (hb C.2.1 hd) _ q
/-! stores -/
def own_one : Slot → Bool
  | .unset => true
  | .val (.int _) => true
  | .val (.float _) => true
  | .val .null => true
  | .val (.ref _) => true
  | .val (.retAddr _) => true
  | _ => false
theorem own_one_spec {o : Slot} (h : own_one o = true) : o = .unset ∨ ∃ w, o = .val w ∧ w.category = 1 := by
  cases o with
  | unset => exact Or.inl rfl
  | second => cases h
  | val w => cases w <;> first | exact Or.inr ⟨_, rfl, rfl⟩ | cases h
theorem own_put {m : MethodId} {j : Nat} {v : Value} (h : Ls[j]?.map own_one = some true) (hv : v.category = 1) : storeLocals (mkF m pc Ls.toArray st).locals j v = some (Ls.set j (.val v)).toArray := by
  show storeLocals Ls.toArray j v = _
  cases ho : Ls[j]? with
  | none => rw [ho] at h; cases h
  | some o =>
    rw [ho] at h
    have := XS.store1 (l := Ls.toArray) (i := j) (v := v) (o := o) (by rw [List.getElem?_toArray]; exact ho) (own_one_spec (Option.some.inj h)) hv
    rw [this, List.setIfInBounds_toArray]
theorem r_istoreN {j : Fin 4} {v : Int32} (pc' : Nat) (hd : decode bytes pc = .ok (.istore_n j, 1)) (hp : pc + 1 = pc') (hl : Ls[j.val]?.map own_one = some true) (K : Run l Z y bytes ml ret R n0 Q h k n pc' (Ls.set j.val (.val (.int v))) st) : Run l Z y bytes ml ret R n0 Q h k n pc Ls (.int v :: st) := by
  subst hp; exact K.step fun p e s m args below meth c T locs C X E t q => XS.istoreN X.here C.1 rfl (hb C.2.1 hd) rfl (own_put hl rfl) q
theorem r_istore {j : Nat} {v : Int32} (pc' : Nat) (hd : decode bytes pc = .ok (.istore j, 2)) (hp : pc + 2 = pc') (hl : Ls[j]?.map own_one = some true) (K : Run l Z y bytes ml ret R n0 Q h k n pc' (Ls.set j (.val (.int v))) st) : Run l Z y bytes ml ret R n0 Q h k n pc Ls (.int v :: st) := by
  subst hp; exact K.step fun p e s m args below meth c T locs C X E t q => XS.istore X.here C.1 rfl (hb C.2.1 hd) rfl (own_put hl rfl) q
theorem r_astoreN {j : Fin 4} {a : Addr} (pc' : Nat) (hd : decode bytes pc = .ok (.astore_n j, 1)) (hp : pc + 1 = pc') (hl : Ls[j.val]?.map own_one = some true) (K : Run l Z y bytes ml ret R n0 Q h k n pc' (Ls.set j.val (.val (.ref a))) st) : Run l Z y bytes ml ret R n0 Q h k n pc Ls (.ref a :: st) := by
  subst hp; exact K.step fun p e s m args below meth c T locs C X E t q => XS.astoreN X.here C.1 rfl (hb C.2.1 hd) rfl rfl (own_put hl rfl) q
theorem r_astore {j : Nat} {a : Addr} (pc' : Nat) (hd : decode bytes pc = .ok (.astore j, 2)) (hp : pc + 2 = pc') (hl : Ls[j]?.map own_one = some true) (K : Run l Z y bytes ml ret R n0 Q h k n pc' (Ls.set j (.val (.ref a))) st) : Run l Z y bytes ml ret R n0 Q h k n pc Ls (.ref a :: st) := by
  subst hp; exact K.step fun p e s m args below meth c T locs C X E t q => XS.astore X.here C.1 rfl (hb C.2.1 hd) rfl rfl (own_put hl rfl) q
theorem own_cat {v : Value} (hv : v.isRef = true) : v.category = 1 := by cases v <;> first | rfl | cases hv
theorem r_astoreNV {j : Fin 4} {v : Value} (pc' : Nat) (hd : decode bytes pc = .ok (.astore_n j, 1)) (hp : pc + 1 = pc') (hl : Ls[j.val]?.map own_one = some true) (hv : v.isRef = true) (K : Run l Z y bytes ml ret R n0 Q h k n pc' (Ls.set j.val (.val v)) st) : Run l Z y bytes ml ret R n0 Q h k n pc Ls (v :: st) := by
  subst hp; exact K.step fun p e s m args below meth c T locs C X E t q => XS.astoreN X.here C.1 rfl (hb C.2.1 hd) rfl hv (own_put hl (own_cat hv)) q
theorem r_astoreV {j : Nat} {v : Value} (pc' : Nat) (hd : decode bytes pc = .ok (.astore j, 2)) (hp : pc + 2 = pc') (hl : Ls[j]?.map own_one = some true) (hv : v.isRef = true) (K : Run l Z y bytes ml ret R n0 Q h k n pc' (Ls.set j (.val v)) st) : Run l Z y bytes ml ret R n0 Q h k n pc Ls (v :: st) := by
  subst hp; exact K.step fun p e s m args below meth c T locs C X E t q => XS.astore X.here C.1 rfl (hb C.2.1 hd) rfl hv (own_put hl (own_cat hv)) q
theorem r_iinc {j : Nat} {cst : Int} {x : Int32} (v : Int32) (pc' : Nat) (hd : decode bytes pc = .ok (.iinc j cst, 3)) (hp : pc + 3 = pc') (hv : Int32.ofInt cst = v) (hl : Ls[j]? = some (.val (.int x))) (K : Run l Z y bytes ml ret R n0 Q h k n pc' (Ls.set j (.val (.int (x + v)))) st) : Run l Z y bytes ml ret R n0 Q h k n pc Ls st := by
  subst hp hv; exact K.step fun p e s m args below meth c T locs C X E t q => XS.iinc X.here C.1 rfl (hb C.2.1 hd) (own_get hl) (own_put (by rw [hl]; rfl) rfl) q
theorem r_iadd {x : Int32} {z : Int32} (pc' : Nat) (hd : decode bytes pc = .ok (.iadd, 1)) (hp : pc + 1 = pc') (K : Run l Z y bytes ml ret R n0 Q h k n pc' Ls (.int (x + z) :: st)) : Run l Z y bytes ml ret R n0 Q h k n pc Ls (.int z :: .int x :: st) := by
  subst hp; exact K.step fun p e s m args below meth c T locs C X E t q => XS.iadd X.here C.1 rfl (hb C.2.1 hd) rfl q
theorem r_isub {x : Int32} {z : Int32} (pc' : Nat) (hd : decode bytes pc = .ok (.isub, 1)) (hp : pc + 1 = pc') (K : Run l Z y bytes ml ret R n0 Q h k n pc' Ls (.int (x - z) :: st)) : Run l Z y bytes ml ret R n0 Q h k n pc Ls (.int z :: .int x :: st) := by
  subst hp; exact K.step fun p e s m args below meth c T locs C X E t q => XS.isub X.here C.1 rfl (hb C.2.1 hd) rfl q
theorem r_imul {x : Int32} {z : Int32} (pc' : Nat) (hd : decode bytes pc = .ok (.imul, 1)) (hp : pc + 1 = pc') (K : Run l Z y bytes ml ret R n0 Q h k n pc' Ls (.int (x * z) :: st)) : Run l Z y bytes ml ret R n0 Q h k n pc Ls (.int z :: .int x :: st) := by
  subst hp; exact K.step fun p e s m args below meth c T locs C X E t q => XS.imul X.here C.1 rfl (hb C.2.1 hd) rfl q
theorem r_iand {x : Int32} {z : Int32} (pc' : Nat) (hd : decode bytes pc = .ok (.iand, 1)) (hp : pc + 1 = pc') (K : Run l Z y bytes ml ret R n0 Q h k n pc' Ls (.int (x &&& z) :: st)) : Run l Z y bytes ml ret R n0 Q h k n pc Ls (.int z :: .int x :: st) := by
  subst hp; exact K.step fun p e s m args below meth c T locs C X E t q => XS.iand X.here C.1 rfl (hb C.2.1 hd) rfl q
theorem r_ior {x : Int32} {z : Int32} (pc' : Nat) (hd : decode bytes pc = .ok (.ior, 1)) (hp : pc + 1 = pc') (K : Run l Z y bytes ml ret R n0 Q h k n pc' Ls (.int (x ||| z) :: st)) : Run l Z y bytes ml ret R n0 Q h k n pc Ls (.int z :: .int x :: st) := by
  subst hp; exact K.step fun p e s m args below meth c T locs C X E t q => XT.ior X.here C.1 rfl (hb C.2.1 hd) rfl q
theorem r_ixor {x : Int32} {z : Int32} (pc' : Nat) (hd : decode bytes pc = .ok (.ixor, 1)) (hp : pc + 1 = pc') (K : Run l Z y bytes ml ret R n0 Q h k n pc' Ls (.int (x ^^^ z) :: st)) : Run l Z y bytes ml ret R n0 Q h k n pc Ls (.int z :: .int x :: st) := by
  subst hp; exact K.step fun p e s m args below meth c T locs C X E t q => XT.ixor X.here C.1 rfl (hb C.2.1 hd) rfl q
theorem r_ladd {x : Int64} {z : Int64} (pc' : Nat) (hd : decode bytes pc = .ok (.ladd, 1)) (hp : pc + 1 = pc') (K : Run l Z y bytes ml ret R n0 Q h k n pc' Ls (.long (x + z) :: st)) : Run l Z y bytes ml ret R n0 Q h k n pc Ls (.long z :: .long x :: st) := by
  subst hp; exact K.step fun p e s m args below meth c T locs C X E t q => XT.ladd X.here C.1 rfl (hb C.2.1 hd) rfl q
theorem r_lsub {x : Int64} {z : Int64} (pc' : Nat) (hd : decode bytes pc = .ok (.lsub, 1)) (hp : pc + 1 = pc') (K : Run l Z y bytes ml ret R n0 Q h k n pc' Ls (.long (x - z) :: st)) : Run l Z y bytes ml ret R n0 Q h k n pc Ls (.long z :: .long x :: st) := by
  subst hp; exact K.step fun p e s m args below meth c T locs C X E t q => XT.lsub X.here C.1 rfl (hb C.2.1 hd) rfl q
theorem r_lmul {x : Int64} {z : Int64} (pc' : Nat) (hd : decode bytes pc = .ok (.lmul, 1)) (hp : pc + 1 = pc') (K : Run l Z y bytes ml ret R n0 Q h k n pc' Ls (.long (x * z) :: st)) : Run l Z y bytes ml ret R n0 Q h k n pc Ls (.long z :: .long x :: st) := by
  subst hp; exact K.step fun p e s m args below meth c T locs C X E t q => XT.lmul X.here C.1 rfl (hb C.2.1 hd) rfl q
theorem r_land {x : Int64} {z : Int64} (pc' : Nat) (hd : decode bytes pc = .ok (.land, 1)) (hp : pc + 1 = pc') (K : Run l Z y bytes ml ret R n0 Q h k n pc' Ls (.long (x &&& z) :: st)) : Run l Z y bytes ml ret R n0 Q h k n pc Ls (.long z :: .long x :: st) := by
  subst hp; exact K.step fun p e s m args below meth c T locs C X E t q => XT.land X.here C.1 rfl (hb C.2.1 hd) rfl q
theorem r_lor {x : Int64} {z : Int64} (pc' : Nat) (hd : decode bytes pc = .ok (.lor, 1)) (hp : pc + 1 = pc') (K : Run l Z y bytes ml ret R n0 Q h k n pc' Ls (.long (x ||| z) :: st)) : Run l Z y bytes ml ret R n0 Q h k n pc Ls (.long z :: .long x :: st) := by
  subst hp; exact K.step fun p e s m args below meth c T locs C X E t q => XT.lor X.here C.1 rfl (hb C.2.1 hd) rfl q
theorem r_lxor {x : Int64} {z : Int64} (pc' : Nat) (hd : decode bytes pc = .ok (.lxor, 1)) (hp : pc + 1 = pc') (K : Run l Z y bytes ml ret R n0 Q h k n pc' Ls (.long (x ^^^ z) :: st)) : Run l Z y bytes ml ret R n0 Q h k n pc Ls (.long z :: .long x :: st) := by
  subst hp; exact K.step fun p e s m args below meth c T locs C X E t q => XT.lxor X.here C.1 rfl (hb C.2.1 hd) rfl q
theorem r_ishl {x : Int32} {z : Int32} (pc' : Nat) (hd : decode bytes pc = .ok (.ishl, 1)) (hp : pc + 1 = pc') (K : Run l Z y bytes ml ret R n0 Q h k n pc' Ls (.int (x <<< (z &&& 31)) :: st)) : Run l Z y bytes ml ret R n0 Q h k n pc Ls (.int z :: .int x :: st) := by
  subst hp; exact K.step fun p e s m args below meth c T locs C X E t q => XT.ishl X.here C.1 rfl (hb C.2.1 hd) rfl q
theorem r_ishr {x : Int32} {z : Int32} (pc' : Nat) (hd : decode bytes pc = .ok (.ishr, 1)) (hp : pc + 1 = pc') (K : Run l Z y bytes ml ret R n0 Q h k n pc' Ls (.int (x >>> (z &&& 31)) :: st)) : Run l Z y bytes ml ret R n0 Q h k n pc Ls (.int z :: .int x :: st) := by
  subst hp; exact K.step fun p e s m args below meth c T locs C X E t q => XT.ishr X.here C.1 rfl (hb C.2.1 hd) rfl q
theorem r_iushr {x : Int32} {z : Int32} (pc' : Nat) (hd : decode bytes pc = .ok (.iushr, 1)) (hp : pc + 1 = pc') (K : Run l Z y bytes ml ret R n0 Q h k n pc' Ls (.int (XT.ushr x z) :: st)) : Run l Z y bytes ml ret R n0 Q h k n pc Ls (.int z :: .int x :: st) := by
  subst hp; exact K.step fun p e s m args below meth c T locs C X E t q => XT.iushr X.here C.1 rfl (hb C.2.1 hd) rfl q
theorem r_lshl {x : Int64} {z : Int32} (pc' : Nat) (hd : decode bytes pc = .ok (.lshl, 1)) (hp : pc + 1 = pc') (K : Run l Z y bytes ml ret R n0 Q h k n pc' Ls (.long (x <<< (z.toInt64 &&& 63)) :: st)) : Run l Z y bytes ml ret R n0 Q h k n pc Ls (.int z :: .long x :: st) := by
  subst hp; exact K.step fun p e s m args below meth c T locs C X E t q => XT.lshl X.here C.1 rfl (hb C.2.1 hd) rfl q
theorem r_lshr {x : Int64} {z : Int32} (pc' : Nat) (hd : decode bytes pc = .ok (.lshr, 1)) (hp : pc + 1 = pc') (K : Run l Z y bytes ml ret R n0 Q h k n pc' Ls (.long (x >>> (z.toInt64 &&& 63)) :: st)) : Run l Z y bytes ml ret R n0 Q h k n pc Ls (.int z :: .long x :: st) := by
  subst hp; exact K.step fun p e s m args below meth c T locs C X E t q => XT.lshr X.here C.1 rfl (hb C.2.1 hd) rfl q
theorem r_lushr {x : Int64} {z : Int32} (pc' : Nat) (hd : decode bytes pc = .ok (.lushr, 1)) (hp : pc + 1 = pc') (K : Run l Z y bytes ml ret R n0 Q h k n pc' Ls (.long (XT.ushrL x z) :: st)) : Run l Z y bytes ml ret R n0 Q h k n pc Ls (.int z :: .long x :: st) := by
  subst hp; exact K.step fun p e s m args below meth c T locs C X E t q => XT.lushr X.here C.1 rfl (hb C.2.1 hd) rfl q
theorem r_idiv {x : Int32} {z : Int32} (pc' : Nat) (hd : decode bytes pc = .ok (.idiv, 1)) (hp : pc + 1 = pc') (hy : z ≠ 0) (K : Run l Z y bytes ml ret R n0 Q h k n pc' Ls (.int (x / z) :: st)) : Run l Z y bytes ml ret R n0 Q h k n pc Ls (.int z :: .int x :: st) := by
  subst hp; exact K.step fun p e s m args below meth c T locs C X E t q => XS.idiv X.here C.1 rfl (hb C.2.1 hd) rfl hy q
theorem r_lcmp {x : Int64} {z : Int64} (pc' : Nat) (hd : decode bytes pc = .ok (.lcmp, 1)) (hp : pc + 1 = pc') (K : Run l Z y bytes ml ret R n0 Q h k n pc' Ls (.int (XT.cmpL x z) :: st)) : Run l Z y bytes ml ret R n0 Q h k n pc Ls (.long z :: .long x :: st) := by
  subst hp; exact K.step fun p e s m args below meth c T locs C X E t q => XT.lcmp X.here C.1 rfl (hb C.2.1 hd) rfl q
theorem r_irem {x z : Int32} (pc' : Nat) (hd : decode bytes pc = .ok (.irem, 1)) (hp : pc + 1 = pc') (hy : z ≠ 0) (K : Run l Z y bytes ml ret R n0 Q h k n pc' Ls (.int (x % z) :: st)) : Run l Z y bytes ml ret R n0 Q h k n pc Ls (.int z :: .int x :: st) := by
  subst hp; exact K.step fun p e s m args below meth c T locs C X E t q => iremM X C.1 rfl (hb C.2.1 hd) rfl hy q
theorem r_ineg {x : Int32} (pc' : Nat) (hd : decode bytes pc = .ok (.ineg, 1)) (hp : pc + 1 = pc') (K : Run l Z y bytes ml ret R n0 Q h k n pc' Ls (.int (-x) :: st)) : Run l Z y bytes ml ret R n0 Q h k n pc Ls (.int x :: st) := by
  subst hp; exact K.step fun p e s m args below meth c T locs C X E t q => XS.ineg X.here C.1 rfl (hb C.2.1 hd) rfl q
theorem r_i2l {x : Int32} (pc' : Nat) (hd : decode bytes pc = .ok (.i2l, 1)) (hp : pc + 1 = pc') (K : Run l Z y bytes ml ret R n0 Q h k n pc' Ls (.long x.toInt64 :: st)) : Run l Z y bytes ml ret R n0 Q h k n pc Ls (.int x :: st) := by
  subst hp; exact K.step fun p e s m args below meth c T locs C X E t q => XT.i2l X.here C.1 rfl (hb C.2.1 hd) rfl q
theorem r_l2i {x : Int64} (pc' : Nat) (hd : decode bytes pc = .ok (.l2i, 1)) (hp : pc + 1 = pc') (K : Run l Z y bytes ml ret R n0 Q h k n pc' Ls (.int x.toInt32 :: st)) : Run l Z y bytes ml ret R n0 Q h k n pc Ls (.long x :: st) := by
  subst hp; exact K.step fun p e s m args below meth c T locs C X E t q => XT.l2i X.here C.1 rfl (hb C.2.1 hd) rfl q
theorem r_i2b {x : Int32} (pc' : Nat) (hd : decode bytes pc = .ok (.i2b, 1)) (hp : pc + 1 = pc') (K : Run l Z y bytes ml ret R n0 Q h k n pc' Ls (.int x.toInt8.toInt32 :: st)) : Run l Z y bytes ml ret R n0 Q h k n pc Ls (.int x :: st) := by
  subst hp; exact K.step fun p e s m args below meth c T locs C X E t q => XT.i2b X.here C.1 rfl (hb C.2.1 hd) rfl q
theorem r_i2c {x : Int32} (pc' : Nat) (hd : decode bytes pc = .ok (.i2c, 1)) (hp : pc + 1 = pc') (K : Run l Z y bytes ml ret R n0 Q h k n pc' Ls (.int x.toUInt32.toUInt16.toUInt32.toInt32 :: st)) : Run l Z y bytes ml ret R n0 Q h k n pc Ls (.int x :: st) := by
  subst hp; exact K.step fun p e s m args below meth c T locs C X E t q => XT.i2c X.here C.1 rfl (hb C.2.1 hd) rfl q
theorem r_i2s {x : Int32} (pc' : Nat) (hd : decode bytes pc = .ok (.i2s, 1)) (hp : pc + 1 = pc') (K : Run l Z y bytes ml ret R n0 Q h k n pc' Ls (.int x.toInt16.toInt32 :: st)) : Run l Z y bytes ml ret R n0 Q h k n pc Ls (.int x :: st) := by
  subst hp; exact K.step fun p e s m args below meth c T locs C X E t q => XT.i2s X.here C.1 rfl (hb C.2.1 hd) rfl q
theorem r_dup {x : Value} (pc' : Nat) (hd : decode bytes pc = .ok (.dup, 1)) (hp : pc + 1 = pc') (hc : x.category = 1) (K : Run l Z y bytes ml ret R n0 Q h k n pc' Ls (x :: x :: st)) : Run l Z y bytes ml ret R n0 Q h k n pc Ls (x :: st) := by
  subst hp; exact K.step fun p e s m args below meth c T locs C X E t q => XS.dup X.here C.1 rfl (hb C.2.1 hd) rfl hc q
theorem r_dupX1 {x z : Value} (pc' : Nat) (hd : decode bytes pc = .ok (.dup_x1, 1)) (hp : pc + 1 = pc') (hc : x.category = 1) (hc' : z.category = 1) (K : Run l Z y bytes ml ret R n0 Q h k n pc' Ls (x :: z :: x :: st)) : Run l Z y bytes ml ret R n0 Q h k n pc Ls (x :: z :: st) := by
  subst hp; exact K.step fun p e s m args below meth c T locs C X E t q => XT.dupX1 X.here C.1 rfl (hb C.2.1 hd) rfl hc hc' q
theorem r_pop {x : Value} (pc' : Nat) (hd : decode bytes pc = .ok (.pop, 1)) (hp : pc + 1 = pc') (hc : x.category = 1) (K : Run l Z y bytes ml ret R n0 Q h k n pc' Ls st) : Run l Z y bytes ml ret R n0 Q h k n pc Ls (x :: st) := by
  subst hp; exact K.step fun p e s m args below meth c T locs C X E t q => XT.pop X.here C.1 rfl (hb C.2.1 hd) rfl hc q
theorem r_goto {o : Int} (pc' : Nat) (hd : decode bytes pc = .ok (.goto o, 3)) (hp : (0 : Int) ≤ (pc : Int) + o ∧ ((pc : Int) + o).toNat = pc') (K : Run l Z y bytes ml ret R n0 Q h k n pc' Ls st) : Run l Z y bytes ml ret R n0 Q h k n pc Ls st :=
  K.step fun p e s m args below meth c T locs C X E t q => XS.goto X.here C.1 rfl rfl (hb C.2.1 hd) hp.1 hp.2 q
theorem r_icmp_eq {x z : Int32} {o : Int} (pc' pc'' : Nat) (hd : decode bytes pc = .ok (.if_icmp .eq o, 3)) (hp : (0 : Int) ≤ (pc : Int) + o ∧ ((pc : Int) + o).toNat = pc') (hq : pc + 3 = pc'') (K1 : x = z → Run l Z y bytes ml ret R n0 Q h k n pc' Ls st) (K2 : ¬ x = z → Run l Z y bytes ml ret R n0 Q h k n pc'' Ls st) : Run l Z y bytes ml ret R n0 Q h k n pc Ls (.int z :: .int x :: st) := by
  subst hq
  by_cases q' : x = z
  · exact (K1 q').step fun p e s m args below meth c T locs C X E t q => XS.icmpYes X.here C.1 rfl rfl (hb C.2.1 hd) rfl (teq q').1 hp.1 hp.2 q
  · exact (K2 q').step fun p e s m args below meth c T locs C X E t q => XS.icmpNo X.here C.1 rfl (hb C.2.1 hd) rfl (feq q').1 q
theorem r_if_eq {x : Int32} {o : Int} (pc' pc'' : Nat) (hd : decode bytes pc = .ok (.ifCond .eq o, 3)) (hp : (0 : Int) ≤ (pc : Int) + o ∧ ((pc : Int) + o).toNat = pc') (hq : pc + 3 = pc'') (K1 : x = 0 → Run l Z y bytes ml ret R n0 Q h k n pc' Ls st) (K2 : ¬ x = 0 → Run l Z y bytes ml ret R n0 Q h k n pc'' Ls st) : Run l Z y bytes ml ret R n0 Q h k n pc Ls (.int x :: st) := by
  subst hq
  by_cases q' : x = 0
  · exact (K1 q').step fun p e s m args below meth c T locs C X E t q => XS.ifYes X.here C.1 rfl rfl (hb C.2.1 hd) rfl ((if0 _ _).trans (teq q').1) hp.1 hp.2 q
  · exact (K2 q').step fun p e s m args below meth c T locs C X E t q => XS.ifNo X.here C.1 rfl (hb C.2.1 hd) rfl ((if0 _ _).trans (feq q').1) q
theorem r_icmp_ne {x z : Int32} {o : Int} (pc' pc'' : Nat) (hd : decode bytes pc = .ok (.if_icmp .ne o, 3)) (hp : (0 : Int) ≤ (pc : Int) + o ∧ ((pc : Int) + o).toNat = pc') (hq : pc + 3 = pc'') (K1 : ¬ x = z → Run l Z y bytes ml ret R n0 Q h k n pc' Ls st) (K2 : x = z → Run l Z y bytes ml ret R n0 Q h k n pc'' Ls st) : Run l Z y bytes ml ret R n0 Q h k n pc Ls (.int z :: .int x :: st) := by
  subst hq
  by_cases q' : x = z
  · exact (K2 q').step fun p e s m args below meth c T locs C X E t q => XS.icmpNo X.here C.1 rfl (hb C.2.1 hd) rfl (teq q').2 q
  · exact (K1 q').step fun p e s m args below meth c T locs C X E t q => XS.icmpYes X.here C.1 rfl rfl (hb C.2.1 hd) rfl (feq q').2 hp.1 hp.2 q
theorem r_if_ne {x : Int32} {o : Int} (pc' pc'' : Nat) (hd : decode bytes pc = .ok (.ifCond .ne o, 3)) (hp : (0 : Int) ≤ (pc : Int) + o ∧ ((pc : Int) + o).toNat = pc') (hq : pc + 3 = pc'') (K1 : ¬ x = 0 → Run l Z y bytes ml ret R n0 Q h k n pc' Ls st) (K2 : x = 0 → Run l Z y bytes ml ret R n0 Q h k n pc'' Ls st) : Run l Z y bytes ml ret R n0 Q h k n pc Ls (.int x :: st) := by
  subst hq
  by_cases q' : x = 0
  · exact (K2 q').step fun p e s m args below meth c T locs C X E t q => XS.ifNo X.here C.1 rfl (hb C.2.1 hd) rfl ((if0 _ _).trans (teq q').2) q
  · exact (K1 q').step fun p e s m args below meth c T locs C X E t q => XS.ifYes X.here C.1 rfl rfl (hb C.2.1 hd) rfl ((if0 _ _).trans (feq q').2) hp.1 hp.2 q
theorem r_icmp_lt {x z : Int32} {o : Int} (pc' pc'' : Nat) (hd : decode bytes pc = .ok (.if_icmp .lt o, 3)) (hp : (0 : Int) ≤ (pc : Int) + o ∧ ((pc : Int) + o).toNat = pc') (hq : pc + 3 = pc'') (K1 : x < z → Run l Z y bytes ml ret R n0 Q h k n pc' Ls st) (K2 : ¬ x < z → Run l Z y bytes ml ret R n0 Q h k n pc'' Ls st) : Run l Z y bytes ml ret R n0 Q h k n pc Ls (.int z :: .int x :: st) := by
  subst hq
  by_cases q' : x < z
  · exact (K1 q').step fun p e s m args below meth c T locs C X E t q => XS.icmpYes X.here C.1 rfl rfl (hb C.2.1 hd) rfl (tlt q').1 hp.1 hp.2 q
  · exact (K2 q').step fun p e s m args below meth c T locs C X E t q => XS.icmpNo X.here C.1 rfl (hb C.2.1 hd) rfl (flt q').1 q
theorem r_if_lt {x : Int32} {o : Int} (pc' pc'' : Nat) (hd : decode bytes pc = .ok (.ifCond .lt o, 3)) (hp : (0 : Int) ≤ (pc : Int) + o ∧ ((pc : Int) + o).toNat = pc') (hq : pc + 3 = pc'') (K1 : x < 0 → Run l Z y bytes ml ret R n0 Q h k n pc' Ls st) (K2 : ¬ x < 0 → Run l Z y bytes ml ret R n0 Q h k n pc'' Ls st) : Run l Z y bytes ml ret R n0 Q h k n pc Ls (.int x :: st) := by
  subst hq
  by_cases q' : x < 0
  · exact (K1 q').step fun p e s m args below meth c T locs C X E t q => XS.ifYes X.here C.1 rfl rfl (hb C.2.1 hd) rfl ((if0 _ _).trans (tlt q').1) hp.1 hp.2 q
  · exact (K2 q').step fun p e s m args below meth c T locs C X E t q => XS.ifNo X.here C.1 rfl (hb C.2.1 hd) rfl ((if0 _ _).trans (flt q').1) q
theorem r_icmp_ge {x z : Int32} {o : Int} (pc' pc'' : Nat) (hd : decode bytes pc = .ok (.if_icmp .ge o, 3)) (hp : (0 : Int) ≤ (pc : Int) + o ∧ ((pc : Int) + o).toNat = pc') (hq : pc + 3 = pc'') (K1 : ¬ x < z → Run l Z y bytes ml ret R n0 Q h k n pc' Ls st) (K2 : x < z → Run l Z y bytes ml ret R n0 Q h k n pc'' Ls st) : Run l Z y bytes ml ret R n0 Q h k n pc Ls (.int z :: .int x :: st) := by
  subst hq
  by_cases q' : x < z
  · exact (K2 q').step fun p e s m args below meth c T locs C X E t q => XS.icmpNo X.here C.1 rfl (hb C.2.1 hd) rfl (tlt q').2.1 q
  · exact (K1 q').step fun p e s m args below meth c T locs C X E t q => XS.icmpYes X.here C.1 rfl rfl (hb C.2.1 hd) rfl (flt q').2.1 hp.1 hp.2 q
theorem r_if_ge {x : Int32} {o : Int} (pc' pc'' : Nat) (hd : decode bytes pc = .ok (.ifCond .ge o, 3)) (hp : (0 : Int) ≤ (pc : Int) + o ∧ ((pc : Int) + o).toNat = pc') (hq : pc + 3 = pc'') (K1 : ¬ x < 0 → Run l Z y bytes ml ret R n0 Q h k n pc' Ls st) (K2 : x < 0 → Run l Z y bytes ml ret R n0 Q h k n pc'' Ls st) : Run l Z y bytes ml ret R n0 Q h k n pc Ls (.int x :: st) := by
  subst hq
  by_cases q' : x < 0
  · exact (K2 q').step fun p e s m args below meth c T locs C X E t q => XS.ifNo X.here C.1 rfl (hb C.2.1 hd) rfl ((if0 _ _).trans (tlt q').2.1) q
  · exact (K1 q').step fun p e s m args below meth c T locs C X E t q => XS.ifYes X.here C.1 rfl rfl (hb C.2.1 hd) rfl ((if0 _ _).trans (flt q').2.1) hp.1 hp.2 q
theorem r_icmp_gt {x z : Int32} {o : Int} (pc' pc'' : Nat) (hd : decode bytes pc = .ok (.if_icmp .gt o, 3)) (hp : (0 : Int) ≤ (pc : Int) + o ∧ ((pc : Int) + o).toNat = pc') (hq : pc + 3 = pc'') (K1 : z < x → Run l Z y bytes ml ret R n0 Q h k n pc' Ls st) (K2 : ¬ z < x → Run l Z y bytes ml ret R n0 Q h k n pc'' Ls st) : Run l Z y bytes ml ret R n0 Q h k n pc Ls (.int z :: .int x :: st) := by
  subst hq
  by_cases q' : z < x
  · exact (K1 q').step fun p e s m args below meth c T locs C X E t q => XS.icmpYes X.here C.1 rfl rfl (hb C.2.1 hd) rfl (tlt q').2.2.1 hp.1 hp.2 q
  · exact (K2 q').step fun p e s m args below meth c T locs C X E t q => XS.icmpNo X.here C.1 rfl (hb C.2.1 hd) rfl (flt q').2.2.1 q
theorem r_if_gt {x : Int32} {o : Int} (pc' pc'' : Nat) (hd : decode bytes pc = .ok (.ifCond .gt o, 3)) (hp : (0 : Int) ≤ (pc : Int) + o ∧ ((pc : Int) + o).toNat = pc') (hq : pc + 3 = pc'') (K1 : 0 < x → Run l Z y bytes ml ret R n0 Q h k n pc' Ls st) (K2 : ¬ 0 < x → Run l Z y bytes ml ret R n0 Q h k n pc'' Ls st) : Run l Z y bytes ml ret R n0 Q h k n pc Ls (.int x :: st) := by
  subst hq
  by_cases q' : 0 < x
  · exact (K1 q').step fun p e s m args below meth c T locs C X E t q => XS.ifYes X.here C.1 rfl rfl (hb C.2.1 hd) rfl ((if0 _ _).trans (tlt q').2.2.1) hp.1 hp.2 q
  · exact (K2 q').step fun p e s m args below meth c T locs C X E t q => XS.ifNo X.here C.1 rfl (hb C.2.1 hd) rfl ((if0 _ _).trans (flt q').2.2.1) q
theorem r_icmp_le {x z : Int32} {o : Int} (pc' pc'' : Nat) (hd : decode bytes pc = .ok (.if_icmp .le o, 3)) (hp : (0 : Int) ≤ (pc : Int) + o ∧ ((pc : Int) + o).toNat = pc') (hq : pc + 3 = pc'') (K1 : ¬ z < x → Run l Z y bytes ml ret R n0 Q h k n pc' Ls st) (K2 : z < x → Run l Z y bytes ml ret R n0 Q h k n pc'' Ls st) : Run l Z y bytes ml ret R n0 Q h k n pc Ls (.int z :: .int x :: st) := by
  subst hq
  by_cases q' : z < x
  · exact (K2 q').step fun p e s m args below meth c T locs C X E t q => XS.icmpNo X.here C.1 rfl (hb C.2.1 hd) rfl (tlt q').2.2.2 q
  · exact (K1 q').step fun p e s m args below meth c T locs C X E t q => XS.icmpYes X.here C.1 rfl rfl (hb C.2.1 hd) rfl (flt q').2.2.2 hp.1 hp.2 q
theorem r_if_le {x : Int32} {o : Int} (pc' pc'' : Nat) (hd : decode bytes pc = .ok (.ifCond .le o, 3)) (hp : (0 : Int) ≤ (pc : Int) + o ∧ ((pc : Int) + o).toNat = pc') (hq : pc + 3 = pc'') (K1 : ¬ 0 < x → Run l Z y bytes ml ret R n0 Q h k n pc' Ls st) (K2 : 0 < x → Run l Z y bytes ml ret R n0 Q h k n pc'' Ls st) : Run l Z y bytes ml ret R n0 Q h k n pc Ls (.int x :: st) := by
  subst hq
  by_cases q' : 0 < x
  · exact (K2 q').step fun p e s m args below meth c T locs C X E t q => XS.ifNo X.here C.1 rfl (hb C.2.1 hd) rfl ((if0 _ _).trans (tlt q').2.2.2) q
  · exact (K1 q').step fun p e s m args below meth c T locs C X E t q => XS.ifYes X.here C.1 rfl rfl (hb C.2.1 hd) rfl ((if0 _ _).trans (flt q').2.2.2) hp.1 hp.2 q
theorem r_acmp_eq {x z : Value} {o : Int} (pc' pc'' : Nat) (hd : decode bytes pc = .ok (.if_acmp .eq o, 3)) (hp : (0 : Int) ≤ (pc : Int) + o ∧ ((pc : Int) + o).toNat = pc') (hq : pc + 3 = pc'') (hx : x.isRef = true) (hz : z.isRef = true) (K1 : x = z → Run l Z y bytes ml ret R n0 Q h k n pc' Ls st) (K2 : ¬ x = z → Run l Z y bytes ml ret R n0 Q h k n pc'' Ls st) : Run l Z y bytes ml ret R n0 Q h k n pc Ls (z :: x :: st) := by
  subst hq
  by_cases q' : x = z
  · exact (K1 q').step fun p e s m args below meth c T locs C X E t q => XT.acmpYes X.here C.1 rfl rfl (hb C.2.1 hd) rfl hx hz (XT.aa_eq_t q') hp.1 hp.2 q
  · exact (K2 q').step fun p e s m args below meth c T locs C X E t q => XT.acmpNo X.here C.1 rfl (hb C.2.1 hd) rfl hx hz (XT.aa_eq_f q') q
theorem r_acmp_ne {x z : Value} {o : Int} (pc' pc'' : Nat) (hd : decode bytes pc = .ok (.if_acmp .ne o, 3)) (hp : (0 : Int) ≤ (pc : Int) + o ∧ ((pc : Int) + o).toNat = pc') (hq : pc + 3 = pc'') (hx : x.isRef = true) (hz : z.isRef = true) (K1 : ¬ x = z → Run l Z y bytes ml ret R n0 Q h k n pc' Ls st) (K2 : x = z → Run l Z y bytes ml ret R n0 Q h k n pc'' Ls st) : Run l Z y bytes ml ret R n0 Q h k n pc Ls (z :: x :: st) := by
  subst hq
  by_cases q' : x = z
  · exact (K2 q').step fun p e s m args below meth c T locs C X E t q => XT.acmpNo X.here C.1 rfl (hb C.2.1 hd) rfl hx hz (XT.aa_ne_f q') q
  · exact (K1 q').step fun p e s m args below meth c T locs C X E t q => XT.acmpYes X.here C.1 rfl rfl (hb C.2.1 hd) rfl hx hz (XT.aa_ne_t q') hp.1 hp.2 q
theorem r_nonnullYes {a : Addr} {o : Int} (pc' : Nat) (hd : decode bytes pc = .ok (.ifnonnull o, 3)) (hp : (0 : Int) ≤ (pc : Int) + o ∧ ((pc : Int) + o).toNat = pc') (K : Run l Z y bytes ml ret R n0 Q h k n pc' Ls st) : Run l Z y bytes ml ret R n0 Q h k n pc Ls (.ref a :: st) :=
  K.step fun p e s m args below meth c T locs C X E t q => XT.ifnonnullYes X.here C.1 rfl rfl (hb C.2.1 hd) rfl hp.1 hp.2 q
theorem r_nonnullNo {o : Int} (pc'' : Nat) (hd : decode bytes pc = .ok (.ifnonnull o, 3)) (hq : pc + 3 = pc'') (K : Run l Z y bytes ml ret R n0 Q h k n pc'' Ls st) : Run l Z y bytes ml ret R n0 Q h k n pc Ls (.null :: st) := by
  subst hq; exact K.step fun p e s m args below meth c T locs C X E t q => XT.ifnonnullNo X.here C.1 rfl (hb C.2.1 hd) rfl q
theorem r_nullYes {o : Int} (pc' : Nat) (hd : decode bytes pc = .ok (.ifnull o, 3)) (hp : (0 : Int) ≤ (pc : Int) + o ∧ ((pc : Int) + o).toNat = pc') (K : Run l Z y bytes ml ret R n0 Q h k n pc' Ls st) : Run l Z y bytes ml ret R n0 Q h k n pc Ls (.null :: st) :=
  K.step fun p e s m args below meth c T locs C X E t q => XS.ifnullYes X.here C.1 rfl rfl (hb C.2.1 hd) rfl hp.1 hp.2 q
theorem r_nullNo {a : Addr} {o : Int} (pc'' : Nat) (hd : decode bytes pc = .ok (.ifnull o, 3)) (hq : pc + 3 = pc'') (K : Run l Z y bytes ml ret R n0 Q h k n pc'' Ls st) : Run l Z y bytes ml ret R n0 Q h k n pc Ls (.ref a :: st) := by
  subst hq; exact K.step fun p e s m args below meth c T locs C X E t q => XS.ifnullNo X.here C.1 rfl (hb C.2.1 hd) rfl q
/-! fields, statics, objects, arrays -/
theorem r_getstatic {i : Nat} {R0 O f d : String} {v : Value} (pc' : Nat) (hd : decode bytes pc = .ok (.getstatic i, 3)) (hp : pc + 3 = pc') (w : (Jvm.Cond.fieldLink y.cls i R0 f d).before a0 Z = true) (via : Via Z R0 O f d) (F : Sta Z h O f d v)
    (K : Run l Z y bytes ml ret R n0 Q h k n pc' Ls (v :: st)) : Run l Z y bytes ml ret R n0 Q h k n pc Ls st := by
  subst hp
  exact K.move fun p e s m args below meth c T locs C X N E => by
    obtain ⟨T', X', e', q⟩ := getS X C.1 C.2.2.2.1 (host := "") C.2.2.2.2.1 w via E F (g := mkF m pc Ls.toArray st) rfl (hb C.2.1 hd)
    exact ⟨T', _, X', N, e', q⟩
theorem r_getfield {i : Nat} {R0 O f d host : String} {v : Value} {a : Addr} (pc' : Nat) (hd : decode bytes pc = .ok (.getfield i, 3)) (hp : pc + 3 = pc') (w : (Jvm.Cond.fieldLink y.cls i R0 f d).before a0 Z = true ∨ (Jvm.Cond.fieldLinkNest y.cls i R0 f d host).before a0 Z = true) (via : Via Z R0 O f d) (F : Fld Z h a O f d v)
    (K : Run l Z y bytes ml ret R n0 Q h k n pc' Ls (v :: st)) : Run l Z y bytes ml ret R n0 Q h k n pc Ls (.ref a :: st) := by
  subst hp
  exact K.move fun p e s m args below meth c T locs C X N E => by
    obtain ⟨T', X', e', q⟩ := getF X C.1 C.2.2.2.1 C.2.2.2.2.1 w via E F (g := mkF m pc Ls.toArray (.ref a :: st)) rfl rfl (hb C.2.1 hd)
    exact ⟨T', _, X', N, e', q⟩
theorem r_putfield {i kk : Nat} {R0 O f d host C' : String} {ty : FieldType} {v old : Value} {a : Addr} (pc' : Nat) (hd : decode bytes pc = .ok (.putfield i, 3)) (hp : pc + 3 = pc') (w : (Jvm.Cond.fieldLink y.cls i R0 f d).before a0 Z = true ∨ (Jvm.Cond.fieldLinkNest y.cls i R0 f d host).before a0 Z = true) (via : Via Z R0 O f d) (F : Fld Z h a O f d old) (E1 : Exa Z h a C')
    (L : (Jvm.Cond.lays C' O f d).before a0 Z = true ∨ ((Jvm.Cond.laysFinal C' O f d).before a0 Z = true ∧ y.cls = O ∧ y.name = "<init>")) (wi : (Jvm.Cond.instantiable C' kk).before a0 Z = true) (hty : parseFieldDescriptor d = some ty) (hn : narrow ty v = v) (hf : fits ty v = true) (ha : n0 ≤ a)
    (K : ∀ h', Wr h h' a (Jvm.RoadKit.slotOf Z O f d) v → Run l Z y bytes ml ret R n0 Q h' k n pc' Ls st) : Run l Z y bytes ml ret R n0 Q h k n pc Ls (v :: .ref a :: st) := fun p e s m args below meth c T locs C X N E => by
  subst hp
  obtain ⟨T', h', X', e', W, q⟩ := putF X C.1 C.2.2.2.1 C.2.2.2.2.1 w via E F E1 (L.imp id fun ⟨u1, u2, u3⟩ => ⟨u1, u2, C.2.2.2.2.2.1.trans u3⟩) wi hty hn hf (g := mkF m pc Ls.toArray (v :: .ref a :: st)) rfl rfl (hb C.2.1 hd)
  obtain ⟨s2, o, h1, h2⟩ := K h' W p e s m args below meth c T' _ C X' (Fr.snoc X' N ha) e'
  exact ⟨s2, o, q _ h1, h2⟩
theorem r_new {i nn : Nat} {C' : String} (pc' : Nat) (hd : decode bytes pc = .ok (.new i, 3)) (hp : pc + 3 = pc') (w : (Jvm.Cond.classLink y.cls i C').before a0 Z = true) (wi : (Jvm.Cond.instantiable C' nn).before a0 Z = true) (wz : (Jvm.Cond.initialized C').before a0 Z = true) (hc : k + 1 ≤ R.cells) (hl : n + nn ≤ R.slots)
    (K : ∀ h' a, a = h.size → Ext h h' → Exa Z h' a C' → (∀ {O nm d : String} {ty : FieldType}, Laid Z a0 C' O nm d → parseFieldDescriptor d = some ty → Fld Z h' a O nm d (defaultValue ty)) → Run l Z y bytes ml ret R n0 Q h' (k + 1) (n + nn) pc' Ls (.ref a :: st)) : Run l Z y bytes ml ret R n0 Q h k n pc Ls st := fun p e s m args below meth c T locs C X N E => by
  subst hp
  obtain ⟨T', h', X', e', E2, A2, D2, -, q⟩ := newO X C.1 C.2.2.2.1 C.2.2.2.2.1 w wi wz E (g := mkF m pc Ls.toArray st) rfl (hb C.2.1 hd) hc hl
  obtain ⟨s2, o, h1, h2⟩ := K h' h.size rfl E2 A2 D2 p e s m args below meth c T' _ C X' N e'
  exact ⟨s2, o, q _ h1, h2⟩
theorem own_rep {ty : FieldType} {z : Int32} {a : Addr} {cA : ClassId} (N : Nat) (A : Arv Z h a cA ty z [] (defaultValue ty)) : Arv Z h a cA ty z (List.replicate N (defaultValue ty)) (defaultValue ty) :=
  A.pad fun i => by have := pad_rep [] (defaultValue ty) N i; simpa using this
theorem r_newarray {aty : ArrayType} {z : Int32} (cap : Nat) (ad : String) (pc' : Nat) (hd : decode bytes pc = .ok (.newarray aty, 2)) (hp : pc + 2 = pc') (w : (Jvm.Cond.arrayClass (newarray.typeOf aty)).before a0 Z = true) (hz : ¬ z < 0) (hcap : z.toNatClampNeg ≤ cap) (hb8 : cap * 8 ≤ 536870912) (had : "[" ++ (newarray.typeOf aty).toString = ad) (hc : k + 1 ≤ R.cells) (hl : n + cap ≤ R.slots)
    (K : ∀ h' a cA, a = h.size → Ext h h' → Arv Z h' a cA (newarray.typeOf aty) z (List.replicate z.toNatClampNeg (defaultValue (newarray.typeOf aty))) (defaultValue (newarray.typeOf aty)) → Exa Z h' a ad → Run l Z y bytes ml ret R n0 Q h' (k + 1) (n + cap) pc' Ls (.ref a :: st)) : Run l Z y bytes ml ret R n0 Q h k n pc Ls (.int z :: st) := fun p e s m args below meth c T locs C X N E => by
  subst hp
  obtain ⟨T', h', cA, X', e', E2, A2, E3, q⟩ := newPE X C.1 C.2.2.2.1 w E (g := mkF m pc Ls.toArray (.int z :: st)) rfl (hb C.2.1 hd) rfl hz hcap hb8 hc hl had
  obtain ⟨s2, o, h1, h2⟩ := K h' h.size cA rfl E2 (own_rep _ (Arv.new A2 hz)) E3 p e s m args below meth c T' _ C X' N e'
  exact ⟨s2, o, q _ h1, h2⟩
theorem r_anewarray {i : Nat} {C' : String} {z : Int32} (cap : Nat) (ad : String) (pc' : Nat) (hd : decode bytes pc = .ok (.anewarray i, 3)) (hp : pc + 3 = pc') (w1 : (Jvm.Cond.classLink y.cls i C').before a0 Z = true) (w2 : (Jvm.Cond.arrayOver (.object C')).before a0 Z = true) (hz : ¬ z < 0) (hcap : z.toNatClampNeg ≤ cap) (hb8 : cap * 8 ≤ 536870912) (had : "[" ++ (FieldType.object C').toString = ad) (hc : k + 1 ≤ R.cells) (hl : n + cap ≤ R.slots)
    (K : ∀ h' a cA, a = h.size → Ext h h' → Arv Z h' a cA (.object C') z (List.replicate z.toNatClampNeg .null) .null → Exa Z h' a ad → Ovr Z cA C' → Run l Z y bytes ml ret R n0 Q h' (k + 1) (n + cap) pc' Ls (.ref a :: st)) : Run l Z y bytes ml ret R n0 Q h k n pc Ls (.int z :: st) := fun p e s m args below meth c T locs C X N E => by
  subst hp
  obtain ⟨T', h', cA, X', e', E2, A2, E3, O3, q⟩ := newRE X C.1 C.2.2.2.1 C.2.2.2.2.1 w1 w2 E (g := mkF m pc Ls.toArray (.int z :: st)) rfl (hb C.2.1 hd) rfl hz hcap hb8 hc hl had
  obtain ⟨s2, o, h1, h2⟩ := K h' h.size cA rfl E2 (own_rep _ (Arv.new A2 hz)) E3 O3 p e s m args below meth c T' _ C X' N e'
  exact ⟨s2, o, q _ h1, h2⟩
theorem own_in {z j : Int32} {i : Nat} {cl : Cell} (S : cl.slots.size = z.toNatClampNeg) (hj : ¬ j < 0) (hi : j.toNatClampNeg = i) (hz : i < z.toNatClampNeg) : ¬ (j < 0 ∨ cl.slots.size ≤ j.toNatClampNeg) := fun q => by
  rcases q with q | q
  · exact hj q
  · rw [S, hi] at q; exact absurd hz (Nat.not_lt.mpr q)
theorem r_arraylength {a : Addr} {cA : ClassId} {ty : FieldType} {z : Int32} {vs : List Value} {dv : Value} (pc' : Nat) (hd : decode bytes pc = .ok (.arraylength, 1)) (hp : pc + 1 = pc') (A : Arv Z h a cA ty z vs dv) (K : Run l Z y bytes ml ret R n0 Q h k n pc' Ls (.int z :: st)) : Run l Z y bytes ml ret R n0 Q h k n pc Ls (.ref a :: st) := by
  subst hp
  obtain ⟨cl, A1, -, S, hz, -⟩ := A
  rw [← len_of S hz] at K
  exact K.step fun p e s m args below meth c T locs C X E t q => X.arraylength C.1 (by rw [E]; exact A1.1) (State.isArrayOf_alike C.2.2.2.1.alike A1.2.1) (g := mkF m pc Ls.toArray (.ref a :: st)) rfl rfl (hb C.2.1 hd) _ q
theorem r_iaload {a : Addr} {cA : ClassId} {z j : Int32} {vs : List Value} {dv : Value} (i : Nat) (v : Value) (pc' : Nat) (hd : decode bytes pc = .ok (.iaload, 1)) (hp : pc + 1 = pc') (A : Arv Z h a cA .int z vs dv) (hj : ¬ j < 0) (hi : j.toNatClampNeg = i) (hz : i < z.toNatClampNeg) (hv : vs.getD i dv = v) (K : Run l Z y bytes ml ret R n0 Q h k n pc' Ls (v :: st)) : Run l Z y bytes ml ret R n0 Q h k n pc Ls (.int j :: .ref a :: st) := by
  subst hp
  obtain ⟨cl, A1, -, S, -, H, -⟩ := A
  have hin := own_in S hj hi hz
  exact K.step fun p e s m args below meth c T locs C X E t q => X.iaload C.1 (by rw [E]; exact A1.1) (State.isArrayOf_alike C.2.2.2.1.alike A1.2.1) A1.2.2 hin (Has.at H hin (by rw [hi]; exact hv)) (g := mkF m pc Ls.toArray (.int j :: .ref a :: st)) rfl rfl (hb C.2.1 hd) _ q
theorem r_caload {a : Addr} {cA : ClassId} {z j : Int32} {vs : List Value} {dv : Value} (i : Nat) (v : Value) (pc' : Nat) (hd : decode bytes pc = .ok (.caload, 1)) (hp : pc + 1 = pc') (A : Arv Z h a cA .char z vs dv) (hj : ¬ j < 0) (hi : j.toNatClampNeg = i) (hz : i < z.toNatClampNeg) (hv : vs.getD i dv = v) (K : Run l Z y bytes ml ret R n0 Q h k n pc' Ls (v :: st)) : Run l Z y bytes ml ret R n0 Q h k n pc Ls (.int j :: .ref a :: st) := by
  subst hp
  obtain ⟨cl, A1, -, S, -, H, -⟩ := A
  have hin := own_in S hj hi hz
  exact K.step fun p e s m args below meth c T locs C X E t q => X.caload C.1 (by rw [E]; exact A1.1) (State.isArrayOf_alike C.2.2.2.1.alike A1.2.1) A1.2.2 hin (Has.at H hin (by rw [hi]; exact hv)) (g := mkF m pc Ls.toArray (.int j :: .ref a :: st)) rfl rfl (hb C.2.1 hd) _ q
theorem r_baload {a : Addr} {cA : ClassId} {z j : Int32} {vs : List Value} {dv : Value} (i : Nat) (v : Value) (pc' : Nat) (hd : decode bytes pc = .ok (.baload, 1)) (hp : pc + 1 = pc') (A : Arv Z h a cA .byte z vs dv) (hj : ¬ j < 0) (hi : j.toNatClampNeg = i) (hz : i < z.toNatClampNeg) (hv : vs.getD i dv = v) (K : Run l Z y bytes ml ret R n0 Q h k n pc' Ls (v :: st)) : Run l Z y bytes ml ret R n0 Q h k n pc Ls (.int j :: .ref a :: st) := by
  subst hp
  obtain ⟨cl, A1, -, S, -, H, -⟩ := A
  have hin := own_in S hj hi hz
  exact K.step fun p e s m args below meth c T locs C X E t q => X.baloadBytes C.1 (by rw [E]; exact A1.1) (State.isArrayOf_alike C.2.2.2.1.alike A1.2.1) A1.2.2 hin (Has.at H hin (by rw [hi]; exact hv)) (g := mkF m pc Ls.toArray (.int j :: .ref a :: st)) rfl rfl (hb C.2.1 hd) _ q
theorem r_aaload {a : Addr} {cA : ClassId} {ty : FieldType} {z j : Int32} {vs : List Value} {dv : Value} (i : Nat) (v : Value) (pc' : Nat) (hd : decode bytes pc = .ok (.aaload, 1)) (hp : pc + 1 = pc') (A : Arv Z h a cA ty z vs dv) (hty : ty.isReference = true) (hj : ¬ j < 0) (hi : j.toNatClampNeg = i) (hz : i < z.toNatClampNeg) (hv : vs.getD i dv = v) (K : Run l Z y bytes ml ret R n0 Q h k n pc' Ls (v :: st)) : Run l Z y bytes ml ret R n0 Q h k n pc Ls (.int j :: .ref a :: st) := by
  subst hp
  obtain ⟨cl, A1, -, S, -, H, -⟩ := A
  have hin := own_in S hj hi hz
  exact K.step fun p e s m args below meth c T locs C X E t q => X.aaload C.1 (by rw [E]; exact A1.1) (State.isArrayOf_alike C.2.2.2.1.alike A1.2.1) hty A1.2.2 hin (Has.at H hin (by rw [hi]; exact hv)) (g := mkF m pc Ls.toArray (.int j :: .ref a :: st)) rfl rfl (hb C.2.1 hd) _ q
theorem r_iastore {a : Addr} {cA : ClassId} {z j x : Int32} {vs : List Value} {dv : Value} (i : Nat) (pc' : Nat) (hd : decode bytes pc = .ok (.iastore, 1)) (hp : pc + 1 = pc') (A : Arv Z h a cA .int z vs dv) (hj : ¬ j < 0) (hi : j.toNatClampNeg = i) (hz : i < z.toNatClampNeg) (hl : i < vs.length) (ha : n0 ≤ a)
    (K : ∀ h', Wr h h' a i (.int x) → Arv Z h' a cA .int z (vs.set i (.int x)) dv → Run l Z y bytes ml ret R n0 Q h' k n pc' Ls st) : Run l Z y bytes ml ret R n0 Q h k n pc Ls (.int x :: .int j :: .ref a :: st) := fun p e s m args below meth c T locs C X N E => by
  subst hp
  obtain ⟨cl, A1, q1, S, q3, H, G⟩ := A
  have hin := own_in S hj hi hz
  obtain ⟨T', h', X', e', W, q⟩ := stI X C.1 C.2.2.2.1 E A1 hin (g := mkF m pc Ls.toArray (.int x :: .int j :: .ref a :: st)) rfl rfl (hb C.2.1 hd)
  obtain ⟨s2, o, h1, h2⟩ := K h' (hi ▸ W) (Arv.set A1 q1 S q3 H G rfl W i hi hl) p e s m args below meth c T' _ C X' (Fr.snoc X' N ha) e'
  exact ⟨s2, o, q _ h1, h2⟩
theorem r_castore {a : Addr} {cA : ClassId} {z j x : Int32} {vs : List Value} {dv : Value} (i : Nat) (pc' : Nat) (hd : decode bytes pc = .ok (.castore, 1)) (hp : pc + 1 = pc') (A : Arv Z h a cA .char z vs dv) (hj : ¬ j < 0) (hi : j.toNatClampNeg = i) (hz : i < z.toNatClampNeg) (hl : i < vs.length) (ha : n0 ≤ a)
    (K : ∀ h', Wr h h' a i (.int (nar .char x)) → Arv Z h' a cA .char z (vs.set i (.int (nar .char x))) dv → Run l Z y bytes ml ret R n0 Q h' k n pc' Ls st) : Run l Z y bytes ml ret R n0 Q h k n pc Ls (.int x :: .int j :: .ref a :: st) := fun p e s m args below meth c T locs C X N E => by
  subst hp
  obtain ⟨cl, A1, q1, S, q3, H, G⟩ := A
  have hin := own_in S hj hi hz
  obtain ⟨T', h', X', e', W, q⟩ := stC X C.1 C.2.2.2.1 E A1 hin (g := mkF m pc Ls.toArray (.int x :: .int j :: .ref a :: st)) rfl rfl (hb C.2.1 hd)
  obtain ⟨s2, o, h1, h2⟩ := K h' (hi ▸ W) (Arv.set A1 q1 S q3 H G (fits_nar_char x) W i hi hl) p e s m args below meth c T' _ C X' (Fr.snoc X' N ha) e'
  exact ⟨s2, o, q _ h1, h2⟩
theorem r_bastore {a : Addr} {cA : ClassId} {z j x : Int32} {vs : List Value} {dv : Value} (i : Nat) (pc' : Nat) (hd : decode bytes pc = .ok (.bastore, 1)) (hp : pc + 1 = pc') (A : Arv Z h a cA .byte z vs dv) (hj : ¬ j < 0) (hi : j.toNatClampNeg = i) (hz : i < z.toNatClampNeg) (hl : i < vs.length) (ha : n0 ≤ a)
    (K : ∀ h', Wr h h' a i (.int (nar .byte x)) → Arv Z h' a cA .byte z (vs.set i (.int (nar .byte x))) dv → Run l Z y bytes ml ret R n0 Q h' k n pc' Ls st) : Run l Z y bytes ml ret R n0 Q h k n pc Ls (.int x :: .int j :: .ref a :: st) := fun p e s m args below meth c T locs C X N E => by
  subst hp
  obtain ⟨cl, A1, q1, S, q3, H, G⟩ := A
  have hin := own_in S hj hi hz
  obtain ⟨T', h', X', e', W, q⟩ := stB X C.1 C.2.2.2.1 E A1 hin (g := mkF m pc Ls.toArray (.int x :: .int j :: .ref a :: st)) rfl rfl (hb C.2.1 hd)
  obtain ⟨s2, o, h1, h2⟩ := K h' (hi ▸ W) (Arv.set A1 q1 S q3 H G (fits_nar_byte x) W i hi hl) p e s m args below meth c T' _ C X' (Fr.snoc X' N ha) e'
  exact ⟨s2, o, q _ h1, h2⟩
theorem r_aastore {a : Addr} {cA : ClassId} {ty : FieldType} {z j : Int32} {v : Value} {vs : List Value} {dv : Value} (i : Nat) (pc' : Nat) (hd : decode bytes pc = .ok (.aastore, 1)) (hp : pc + 1 = pc') (A : Arv Z h a cA ty z vs dv) (hty : ty.isReference = true) (F : Sto Z h a v) (hf : fits ty v = true) (hj : ¬ j < 0) (hi : j.toNatClampNeg = i) (hz : i < z.toNatClampNeg) (hl : i < vs.length) (ha : n0 ≤ a)
    (K : ∀ h', Wr h h' a i v → Arv Z h' a cA ty z (vs.set i v) dv → Run l Z y bytes ml ret R n0 Q h' k n pc' Ls st) : Run l Z y bytes ml ret R n0 Q h k n pc Ls (v :: .int j :: .ref a :: st) := fun p e s m args below meth c T locs C X N E => by
  subst hp
  obtain ⟨cl, A1, q1, S, q3, H, G⟩ := A
  have hin := own_in S hj hi hz
  obtain ⟨T', h', X', e', W, q⟩ := stR X C.1 C.2.2.2.1 E A1 hin hty F (g := mkF m pc Ls.toArray (v :: .int j :: .ref a :: st)) rfl rfl (hb C.2.1 hd)
  obtain ⟨s2, o, h1, h2⟩ := K h' (hi ▸ W) (Arv.set A1 q1 S q3 H G hf W i hi hl) p e s m args below meth c T' _ C X' (Fr.snoc X' N ha) e'
  exact ⟨s2, o, q _ h1, h2⟩
theorem r_checkcast {i : Nat} {K' : String} {a : Addr} (pc' : Nat) (hd : decode bytes pc = .ok (.checkcast i, 3)) (hp : pc + 3 = pc') (w : (Jvm.Cond.classLink y.cls i K').before a0 Z = true) (F : Ins Z h a K' true)
    (K : Run l Z y bytes ml ret R n0 Q h k n pc' Ls (.ref a :: st)) : Run l Z y bytes ml ret R n0 Q h k n pc Ls (.ref a :: st) := by
  subst hp
  exact K.move fun p e s m args below meth c T locs C X N E => by
    obtain ⟨T', X', e', q⟩ := castY X C.1 C.2.2.2.1 C.2.2.2.2.1 w E F (g := mkF m pc Ls.toArray (.ref a :: st)) rfl rfl (hb C.2.1 hd)
    exact ⟨T', _, X', N, e', q⟩
theorem r_initO {i : Nat} {a : Addr} (pc' : Nat) (hd : decode bytes pc = .ok (.invokespecial i, 3)) (hp : pc + 3 = pc') (w1 : (Jvm.Cond.methodLink y.cls i Lib.objectInit).before a0 Z = true) (w2 : (Jvm.Cond.instanceMethod Lib.objectInit).before a0 Z = true) (w3 : (Jvm.Cond.code Lib.objectInit ⟨#[0xb1]⟩ 1 none).before a0 Z = true)
    (hml : Ls.length = ml) (hf : 1 ≤ R.frames) (hl : (st.map fun v => v.category).sum + 12 ≤ R.locals) (K : Run l Z y bytes ml ret R n0 Q h k n pc' Ls st) : Run l Z y bytes ml ret R n0 Q h k n pc Ls (.ref a :: st) := by
  subst hp
  exact K.move fun p e s m args below meth c T locs C X N E => by
    obtain ⟨T', X', e', q⟩ := initO X C.1 C.2.2.2.1 C.2.2.2.2.1 w1 w2 w3 E (g := mkF m pc Ls.toArray (.ref a :: st)) rfl (by show Ls.toArray.size = _; rw [List.size_toArray, hml, C.2.2.1]) rfl (hb C.2.1 hd) hf (W := (st.map fun v => v.category).sum) (by show 2 * 0 + _ ≤ _; omega) hl
    exact ⟨T', _, X', N, e', q⟩
/-! returns -/
theorem own_end {v : Option Value} (hQ : Q v h) (hk : k ≤ R.cells) (hn : n ≤ R.slots)
    (H : ∀ (p : Program) (e : Env) (s : State) (m : MethodId) (args : Array Value) (below : List Frame) (meth : Method) (c : Code) (T : State) (locs : List Loc),
      own_Ctx p s m meth c Z y bytes ml ret → Stand p l e R s m args below meth c T locs k n → (meth.sig.returnType = none → v = none) ∧ ∀ fs, (∀ (f : JFrame) (acts : List Action), f.method = m → f.locked = none → f.entered = [] → (doReturn e (T.setTop f) acts v).1 = T.setFrames fs) → Steps p.tables e below (T.setTop (mkF m pc Ls.toArray st)) (T.setFrames fs)) :
    Run l Z y bytes ml ret R n0 Q h k n pc Ls st := fun p e s m args below meth c T locs C X N E => by
  obtain ⟨H1, H2⟩ := H p e s m args below meth c T locs C X
  obtain ⟨fs, hr, hrun, hended, hW, hsame⟩ := X.leave (v := v) H1 C.2.2.2.2.2.2.2
  exact ⟨_, _, H2 fs hr, hrun, hended, v, locs, rfl, ⟨by show Q v T.heap; rw [E]; exact hQ, N⟩, ⟨v, rfl⟩, hW, hsame.mono hk hn⟩
theorem r_retN {t : FieldType} {z : Int32} (v : Int32) (hd : decode bytes pc = .ok (.ireturn, 1)) (hret : ret = some t) (ht : t = .boolean ∨ t = .byte ∨ t = .char ∨ t = .short) (hv : nar t z = v) (hk : k ≤ R.cells) (hn : n ≤ R.slots) (hQ : Q (some (.int v)) h) : Run l Z y bytes ml ret R n0 Q h k n pc Ls (.int z :: st) := by
  subst hv
  exact own_end hQ hk hn fun p e s m args below meth c T locs C X => ⟨fun q => (by rw [C.2.2.2.2.2.2.1, hret] at q; cases q), fun fs hr => retN X C.1 (C.2.2.2.2.2.2.1.trans hret) ht (hb C.2.1 hd) hr⟩
theorem r_retI {z : Int32} (hd : decode bytes pc = .ok (.ireturn, 1)) (hret : ret = some .int) (hk : k ≤ R.cells) (hn : n ≤ R.slots) (hQ : Q (some (.int z)) h) : Run l Z y bytes ml ret R n0 Q h k n pc Ls (.int z :: st) :=
  own_end hQ hk hn fun p e s m args below meth c T locs C X => ⟨fun q => (by rw [C.2.2.2.2.2.2.1, hret] at q; cases q), fun fs hr => retOut X C.1 (C.2.2.2.2.2.2.1.trans hret) rfl (Or.inl ⟨rfl, Or.inl rfl, _, rfl⟩) (hb C.2.1 hd) hr⟩
theorem r_retA {t : FieldType} {v : Value} (hd : decode bytes pc = .ok (.areturn, 1)) (hret : ret = some t) (ht : t.isReference = true) (hw : v.isRef = true) (hnw : narrow t v = v) (hk : k ≤ R.cells) (hn : n ≤ R.slots) (hQ : Q (some v) h) : Run l Z y bytes ml ret R n0 Q h k n pc Ls (v :: st) :=
  own_end hQ hk hn fun p e s m args below meth c T locs C X => ⟨fun q => (by rw [C.2.2.2.2.2.2.1, hret] at q; cases q), fun fs hr => retOut X C.1 (C.2.2.2.2.2.2.1.trans hret) hnw (Or.inr (Or.inr (Or.inr (Or.inr ⟨rfl, ht, hw⟩)))) (hb C.2.1 hd) hr⟩
theorem r_retV (hd : decode bytes pc = .ok (.return_, 1)) (hret : ret = none) (hk : k ≤ R.cells) (hn : n ≤ R.slots) (hQ : Q none h) : Run l Z y bytes ml ret R n0 Q h k n pc Ls [] :=
  own_end hQ hk hn fun p e s m args below meth c T locs C X => ⟨fun _ => rfl, fun fs hr => X.returnOut C.1 (C.2.2.2.2.2.2.1.trans hret) (hb C.2.1 hd) hr⟩
/-! contracts and calls -/
def Con (l : Launch) (Z : State) (y : MethodName) (bytes : ByteArray) (ml : Nat) (ret : Option FieldType) (R : Room) (n0 : Nat) (as' : Array Value) (h : Heap) (Q : Option Value → Heap → Prop) (ws : List Jvm.Cond) : Prop :=
  MetFree l y (head1 (Jvm.Cond.code y bytes ml ret :: ws) R) (fun a U => a = as' ∧ Z.Warmed39 U.vm ∧ U.heap = h) (fun _ _ _ _ _ => True) (fun _ U o U' => ∃ v L, o = .returned v ∧ (Q v U'.heap ∧ Fr n0 L) ∧ FrameEnd U o U' L R.cells R.slots)
theorem Run.con {as' : Array Value} {ws : List Jvm.Cond} (hpn : plainName y.cls = true) (hL : Jvm.Sym.laidSlots as'.toList ++ List.replicate (ml - (Jvm.Sym.laidSlots as'.toList).length) .unset = Ls) (H : Run l Z y bytes ml ret R n0 Q h 0 0 0 Ls []) : Con l Z y bytes ml ret R n0 as' h Q ws := by
  refine MetFree.of_bodySF (plainFor_of_name hpn) hisR ?_
  intro p e s m args below meth c s₁ Bd hml0 hP hK
  obtain ⟨rfl, hZ, hh⟩ := hP
  have X0 : Stand p l e R s m args below meth c s₁ [] 0 0 := Stand.of_body Bd
  obtain ⟨s2, o, h1, h2, h3, v, L, h4, h5, h6⟩ := H p e s m args below meth c s₁ [] ⟨Bd.exec, Bd.bytes, hml0, hZ, findClass_of_methodNamed Bd.named, (name_of_methodNamed Bd.named Bd.method).1, Bd.returns, Bd.notSynchronized⟩ X0 (Fr.nil n0) (by rw [← hh, Bd.state]; rfl)
  exact ⟨s2, o, (XT.entry (Ls := Ls.toArray) hL).trans h1, h2, h3, v, L, h4, h5, h6⟩
section Calls
variable {i : Nat} {y' : MethodName} {bytes' : ByteArray} {ml' : Nat} {ret' : Option FieldType} {R' : Room} {as' : Array Value} {Q' : Option Value → Heap → Prop} {rest : List Value} {ps : List FieldType} {r' : Option FieldType}
theorem r_static (pc' : Nat) (hd : decode bytes pc = .ok (.invokestatic i, 3)) (hp : pc + 3 = pc') (hM : Con l Z y' bytes' ml' ret' R' n0 as' h Q' []) (w1 : (Jvm.Cond.methodLink y.cls i y').before a0 Z = true) (w2 : (Jvm.Cond.static y').before a0 Z = true) (w3 : (Jvm.Cond.initialized y'.cls).before a0 Z = true) (w4 : (Jvm.Cond.code y' bytes' ml' ret').before a0 Z = true)
    (hne : y'.cls ≠ "java/lang/invoke/MethodHandle" ∧ y'.cls ≠ "java/lang/invoke/VarHandle") (hpd : parseMethodDescriptor y'.desc = some ⟨ps, r'⟩) (hlen : as'.toList.length = ps.length) (hs : st = as'.toList.reverse ++ rest) (hml : Ls.length = ml) (hf : R'.frames + 1 ≤ R.frames) (hl : (rest.map fun v => v.category).sum + (ml' + 11) + R'.locals ≤ R.locals) (hc : k + R'.cells ≤ R.cells) (hn : n + R'.slots ≤ R.slots)
    (K : ∀ v h', Q' v h' → Run l Z y bytes ml ret R n0 Q h' (k + R'.cells) (n + R'.slots) pc' Ls (v.toList ++ rest)) : Run l Z y bytes ml ret R n0 Q h k n pc Ls st := fun p e s m args below meth c T locs C X N E => by
  subst hp
  obtain ⟨v, vm1, ⟨U, locs', k', n'⟩, hW, X', ⟨L, ⟨hQ, hL⟩, e1, e2, e3⟩, q⟩ := Jvm.LawKit.callS X C.1 (y := y') C.2.2.2.2.1 (mvT C.2.2.2.1 w1) (mvT C.2.2.2.1 w2) (mvT C.2.2.2.1 w3) (mvT C.2.2.2.1 w4) hne (backOf (Q := fun v h' L => Q' v h' ∧ Fr n0 L) (W := (rest.map fun v => v.category).sum) hM C.2.2.2.1 w4 w3 hf hl) (g := mkF m pc Ls.toArray st) rfl (by show Ls.toArray.size = _; rw [List.size_toArray, hml, C.2.2.1]) (argsL := as'.toList) (rest := rest) (lenOf hpd hlen) hs (by show 2 * 0 + _ ≤ _; omega) (hb C.2.1 hd) (fun _ _ => ⟨rfl, E, hc, hn⟩)
  dsimp only [Pt.U, Pt.locs, Pt.cells, Pt.slots] at X' hQ e1 e2 e3 q
  subst e1 e2 e3
  obtain ⟨s2, o, h1, h2⟩ := K v U.heap hQ p e s m args below meth c U _ C X' (Fr.app N hL) rfl
  exact ⟨s2, o, q _ h1, h2⟩
theorem r_special {a : Addr} {as1 : List Value} (pc' : Nat) (hd : decode bytes pc = .ok (.invokespecial i, 3)) (hp : pc + 3 = pc') (hM : Con l Z y' bytes' ml' none R' n0 as' h Q' []) (ha : as' = (.ref a :: as1).toArray) (hy1 : y'.name = "<init>") (w1 : (Jvm.Cond.methodLink y.cls i y').before a0 Z = true) (w2 : (Jvm.Cond.instanceMethod y').before a0 Z = true) (w3 : (Jvm.Cond.initialized y'.cls).before a0 Z = true) (w4 : (Jvm.Cond.code y' bytes' ml' none).before a0 Z = true)
    (hne : y'.cls ≠ "java/lang/invoke/MethodHandle" ∧ y'.cls ≠ "java/lang/invoke/VarHandle") (hpd : parseMethodDescriptor y'.desc = some ⟨ps, r'⟩) (hlen : as1.length = ps.length) (hs : st = as1.reverse ++ .ref a :: rest) (hml : Ls.length = ml) (hf : R'.frames + 1 ≤ R.frames) (hl : (rest.map fun v => v.category).sum + (ml' + 11) + R'.locals ≤ R.locals) (hc : k + R'.cells ≤ R.cells) (hn : n + R'.slots ≤ R.slots)
    (K : ∀ v h', Q' v h' → Run l Z y bytes ml ret R n0 Q h' (k + R'.cells) (n + R'.slots) pc' Ls (v.toList ++ rest)) : Run l Z y bytes ml ret R n0 Q h k n pc Ls st := fun p e s m args below meth c T locs C X N E => by
  subst hp ha
  obtain ⟨v, vm1, ⟨U, locs', k', n'⟩, hW, X', ⟨L, ⟨hQ, hL⟩, e1, e2, e3⟩, q⟩ := X.specialBack C.1 (y := y') hy1 C.2.2.2.2.1 (mvT C.2.2.2.1 w1) (mvT C.2.2.2.1 w2) (mvT C.2.2.2.1 w4) hne (backOf (Q := fun v h' L => Q' v h' ∧ Fr n0 L) (W := (rest.map fun v => v.category).sum) hM C.2.2.2.1 w4 w3 hf hl) (g := mkF m pc Ls.toArray st) rfl (by show Ls.toArray.size = _; rw [List.size_toArray, hml, C.2.2.1]) (Steps.refl _) (a := a) (argsL := as1) (rest := rest) (lenOf hpd hlen) hs (by show 2 * 0 + _ ≤ _; omega) (hb C.2.1 hd) (fun _ _ => ⟨rfl, E, hc, hn⟩)
  dsimp only [Pt.U, Pt.locs, Pt.cells, Pt.slots] at X' hQ e1 e2 e3 q
  subst e1 e2 e3
  obtain ⟨s2, o, h1, h2⟩ := K v U.heap hQ p e s m args below meth c U _ C X' (Fr.app N hL) rfl
  exact ⟨s2, o, q.trans h1, h2⟩
theorem r_virtual {a : Addr} {C' : String} {z' : MethodName} {as1 : List Value} (pc' : Nat) (hd : decode bytes pc = .ok (.invokevirtual i, 3)) (hp : pc + 3 = pc') (hM : Con l Z z' bytes' ml' ret' R' n0 as' h Q' []) (ha : as' = (.ref a :: as1).toArray) (w1 : (Jvm.Cond.methodLink y.cls i y').before a0 Z = true) (w2 : (Jvm.Cond.declares y').before a0 Z = true) (w5 : (Jvm.Cond.selects C' y' z').before a0 Z = true) (w6 : (Jvm.Cond.instanceMethod z').before a0 Z = true) (w3 : (Jvm.Cond.initialized z'.cls).before a0 Z = true) (w4 : (Jvm.Cond.code z' bytes' ml' ret').before a0 Z = true)
    (hne : y'.cls ≠ "java/lang/invoke/MethodHandle" ∧ y'.cls ≠ "java/lang/invoke/VarHandle") (hpd : parseMethodDescriptor y'.desc = some ⟨ps, r'⟩) (E1 : Exa Z h a C') (hlen : as1.length = ps.length) (hs : st = as1.reverse ++ .ref a :: rest) (hml : Ls.length = ml) (hf : R'.frames + 1 ≤ R.frames) (hl : (rest.map fun v => v.category).sum + (ml' + 11) + R'.locals ≤ R.locals) (hc : k + R'.cells ≤ R.cells) (hn : n + R'.slots ≤ R.slots)
    (hnf : ∀ (s : State) (args : Array Value), Z.Warmed39 s.vm → NotFace s y')
    (K : ∀ v h', Q' v h' → Run l Z y bytes ml ret R n0 Q h' (k + R'.cells) (n + R'.slots) pc' Ls (v.toList ++ rest)) : Run l Z y bytes ml ret R n0 Q h k n pc Ls st := fun p e s m args below meth c T locs C X N E => by
  subst hp ha
  obtain ⟨cq, kq, qa, qb, qc⟩ := isOf (s := s) C.2.2.2.1 E E1
  obtain ⟨v, vm1, ⟨U, locs', k', n'⟩, hW, X', ⟨L, ⟨hQ, hL⟩, e1, e2, e3⟩, q⟩ := X.virtualBack C.1 (y := y') (z := z') C.2.2.2.2.1 (mvT C.2.2.2.1 w1) (mvT C.2.2.2.1 w2) (hnf s args C.2.2.2.1) (mvT C.2.2.2.1 w5) (mvT C.2.2.2.1 w6) hne (backOf (Q := fun v h' L => Q' v h' ∧ Fr n0 L) (W := (rest.map fun v => v.category).sum) hM C.2.2.2.1 w4 w3 hf hl) qa qc (g := mkF m pc Ls.toArray st) rfl (by show Ls.toArray.size = _; rw [List.size_toArray, hml, C.2.2.1]) (Steps.refl _) (argsL := as1) (rest := rest) (lenOf hpd hlen) hs (by show 2 * 0 + _ ≤ _; omega) (hb C.2.1 hd) (fun _ _ => ⟨rfl, E, hc, hn⟩)
  dsimp only [Pt.U, Pt.locs, Pt.cells, Pt.slots] at X' hQ e1 e2 e3 q
  subst e1 e2 e3
  obtain ⟨s2, o, h1, h2⟩ := K v U.heap hQ p e s m args below meth c U _ C X' (Fr.app N hL) rfl
  exact ⟨s2, o, q.trans h1, h2⟩
end Calls
end Own


theorem own_ne {a b : Addr} {n : Nat} (h : a < n) (e : b = n) : a ≠ b := fun q => by
  subst q; subst e; exact Nat.lt_irrefl _ h
theorem own_ne' {t b : Addr} {n : Nat} (h : t < n) (e : n ≤ b) : b ≠ t := fun q => by
  subst q; exact absurd h (Nat.not_lt.mpr e)
theorem own_b0 : nar .boolean 0 = 0 := rfl
theorem own_b1 : nar .boolean 1 = 1 := rfl
theorem own_sta {C f d K : String} {args : Array Value} {s : State} (h : (Jvm.Cond.exactly (.static C f d) K).value args s none s [] = some true) (hi : (Jvm.Cond.initializedFor C f d).before args s = true ∨ ((Jvm.Cond.initialized C).before args s = true ∧ (Jvm.Cond.laysStatic C f d).before args s = true)) : ∃ a, (Term.static C f d).eval args s none [] s = some (.ref a) ∧ Sta s s.heap C f d (.ref a) ∧ Exa s s.heap a K := by
  obtain ⟨a, e⟩ := exa_v h
  exact ⟨a, e, Sta.start e hi, Exa.start e h⟩
theorem own_fldI {t : Term} {C f d : String} {z : Int32} {a : Addr} {args : Array Value} {s : State} (e : t.eval args s none [] s = some (.ref a)) (h : (Jvm.Cond.eq (.field t C f d) (.int z)).value args s none s [] = some true) : Fld s s.heap a C f d (.int z) := by
  obtain ⟨u, w, h1, h2, k1, k2⟩ := cmp_v (Or.inl h)
  rw [Term.int_eval] at h2
  cases h2
  obtain ⟨u', rfl⟩ := k2
  obtain rfl := gotT (Cond.eq_ints h1 (Term.int_eval z)) h
  rw [fld_at e] at h1
  exact Fld.start h1


theorem own_mod (x m : Int32) (hm : 0 < m.toInt) : 0 ≤ ((x &&& 2147483647) % m).toInt ∧ ((x &&& 2147483647) % m).toInt < m.toInt := by
  have h1 := c_mask x 2147483647 31 (by decide) (by decide)
  rw [Int32.toInt_mod, h1]
  have h2 : 0 ≤ x.toInt % ((2 ^ 31 : Nat) : Int) := Int.emod_nonneg _ (by decide)
  rw [Int.tmod_eq_emod_of_nonneg h2]
  exact ⟨Int.emod_nonneg _ (by omega), Int.emod_lt_of_pos _ hm⟩
theorem own_nat {K : Int32} {N : Nat} (h0 : 0 ≤ K.toInt) (h1 : K.toInt < N) : ∃ i : Nat, i < N ∧ K = Int32.ofNat i := by
  refine ⟨K.toInt.toNat, by omega, ?_⟩
  apply Int32.toInt_inj.mp
  have := K.toInt_lt
  rw [Int32.toInt_ofNat_small (by omega)]
  omega


theorem own_cl {i : Nat} (h : i < 2 ^ 31) : (Int32.ofNat i).toNatClampNeg = i := by
  show (Int32.ofNat i).toInt.toNat = i
  rw [Int32.toInt_ofNat_small h]; rfl
theorem own_nn {i : Nat} (h : i < 2 ^ 31) : ¬ Int32.ofNat i < 0 := by
  rw [Int32.lt_iff_toInt_lt, Int32.toInt_ofNat_small h]
  show ¬ (i : Int) < 0
  omega
theorem own_lt {i j : Nat} (hi : i < 2 ^ 31) (hj : j < 2 ^ 31) : Int32.ofNat i < Int32.ofNat j ↔ i < j := by
  rw [Int32.lt_iff_toInt_lt, Int32.toInt_ofNat_small hi, Int32.toInt_ofNat_small hj]; omega
theorem own_eq {i j : Nat} (hi : i < 2 ^ 31) (hj : j < 2 ^ 31) : Int32.ofNat i = Int32.ofNat j ↔ i = j := by
  rw [← Int32.toInt_inj, Int32.toInt_ofNat_small hi, Int32.toInt_ofNat_small hj]; omega
theorem own_pred {i : Nat} (h : i < 2 ^ 31) (h0 : 0 < i) : Int32.ofNat i - 1 = Int32.ofNat (i - 1) := by
  apply Int32.toInt_inj.mp
  have q := c_isub (Int32.ofNat i) 1
  rw [Int32.toInt_ofNat_small h] at q
  have r := rng32 (Int32.ofNat i - 1)
  have e1 : (1 : Int32).toInt = 1 := rfl
  rw [e1] at q
  rw [Int32.toInt_ofNat_small (by omega)]
  omega

theorem d_prog_8_method_5_code_0 : decode prog_8_method_5_code 0 = .ok (.aload_n 0, 1) := by decide +kernel
theorem d_prog_8_method_5_code_1 : decode prog_8_method_5_code 1 = .ok (.getfield 69, 3) := by decide +kernel
theorem d_prog_8_method_5_code_4 : decode prog_8_method_5_code 4 = .ok (.invokestatic 79, 3) := by decide +kernel
theorem d_prog_8_method_5_code_7 : decode prog_8_method_5_code 7 = .ok (.aload_n 1, 1) := by decide +kernel
theorem d_prog_8_method_5_code_8 : decode prog_8_method_5_code 8 = .ok (.invokevirtual 85, 3) := by decide +kernel
theorem d_prog_8_method_5_code_11 : decode prog_8_method_5_code 11 = .ok (.checkcast 89, 3) := by decide +kernel
theorem d_prog_8_method_5_code_14 : decode prog_8_method_5_code 14 = .ok (.areturn, 1) := by decide +kernel
theorem d_jdk_32_method_4_code_0 : decode jdk_32_method_4_code 0 = .ok (.aload_n 0, 1) := by decide +kernel
theorem d_jdk_32_method_4_code_1 : decode jdk_32_method_4_code 1 = .ok (.ifnonnull 9, 3) := by decide +kernel
theorem d_jdk_32_method_4_code_4 : decode jdk_32_method_4_code 4 = .ok (.getstatic 1, 3) := by decide +kernel
theorem d_jdk_32_method_4_code_7 : decode jdk_32_method_4_code 7 = .ok (.goto 11, 3) := by decide +kernel
theorem d_jdk_32_method_4_code_10 : decode jdk_32_method_4_code 10 = .ok (.new 2, 3) := by decide +kernel
theorem d_jdk_32_method_4_code_13 : decode jdk_32_method_4_code 13 = .ok (.dup, 1) := by decide +kernel
theorem d_jdk_32_method_4_code_14 : decode jdk_32_method_4_code 14 = .ok (.aload_n 0, 1) := by decide +kernel
theorem d_jdk_32_method_4_code_15 : decode jdk_32_method_4_code 15 = .ok (.invokespecial 23, 3) := by decide +kernel
theorem d_jdk_32_method_4_code_18 : decode jdk_32_method_4_code 18 = .ok (.areturn, 1) := by decide +kernel
theorem d_jdk_32_method_2_code_0 : decode jdk_32_method_2_code 0 = .ok (.aload_n 0, 1) := by decide +kernel
theorem d_jdk_32_method_2_code_1 : decode jdk_32_method_2_code 1 = .ok (.invokespecial 7, 3) := by decide +kernel
theorem d_jdk_32_method_2_code_4 : decode jdk_32_method_2_code 4 = .ok (.aload_n 0, 1) := by decide +kernel
theorem d_jdk_32_method_2_code_5 : decode jdk_32_method_2_code 5 = .ok (.aload_n 1, 1) := by decide +kernel
theorem d_jdk_32_method_2_code_6 : decode jdk_32_method_2_code 6 = .ok (.putfield 13, 3) := by decide +kernel
theorem d_jdk_32_method_2_code_9 : decode jdk_32_method_2_code 9 = .ok (.return_, 1) := by decide +kernel
theorem d_jdk_32_method_15_code_0 : decode jdk_32_method_15_code 0 = .ok (.aload_n 0, 1) := by decide +kernel
theorem d_jdk_32_method_15_code_1 : decode jdk_32_method_15_code 1 = .ok (.getfield 13, 3) := by decide +kernel
theorem d_jdk_32_method_15_code_4 : decode jdk_32_method_15_code 4 = .ok (.ifnull 10, 3) := by decide +kernel
theorem d_jdk_32_method_15_code_7 : decode jdk_32_method_15_code 7 = .ok (.aload_n 0, 1) := by decide +kernel
theorem d_jdk_32_method_15_code_8 : decode jdk_32_method_15_code 8 = .ok (.getfield 13, 3) := by decide +kernel
theorem d_jdk_32_method_15_code_11 : decode jdk_32_method_15_code 11 = .ok (.goto 4, 3) := by decide +kernel
theorem d_jdk_32_method_15_code_14 : decode jdk_32_method_15_code 14 = .ok (.aload_n 1, 1) := by decide +kernel
theorem d_jdk_32_method_15_code_15 : decode jdk_32_method_15_code 15 = .ok (.areturn, 1) := by decide +kernel
theorem pn_law : plainName "com/example/lintel/lintel/ledger/CaseActionToPinLaw" = true := by first | (simp [plainName, overriddenIn]; done) | decide +kernel
theorem pn_ca : plainName "com/example/lintel/lintel/ledger/CaseAction" = true := by first | (simp [plainName, overriddenIn]; done) | decide +kernel
theorem pn_opt : plainName "java/util/Optional" = true := by first | (simp [plainName, overriddenIn]; done) | decide +kernel
theorem own_ext {h h' : Heap} (K : Keep h h' []) : Ext h h' := ⟨K.1, fun a c q => K.2.1 a c q nin0⟩
theorem own_keep {h h1 h2 : Heap} {a : Addr} (E : Ext h h1) (ha : a = h.size) (K : Keep h1 h2 [a]) : Ext h h2 :=
  own_ext (((Keep.refl h []).ext E).trans K fun x hx => Or.inr (by cases List.mem_singleton.mp hx; exact Nat.le_of_eq ha.symm))
theorem own_sto {Z : State} {h : Heap} {a y : Addr} {cA : ClassId} {ty : FieldType} {z : Int32} {vs : List Value} {dv : Value} {C : String} (A : Arv Z h a cA ty z vs dv) (O : Ovr Z cA C) (I : Exa Z h y C) : Sto Z h a (.ref y) := by
  obtain ⟨c, A1, q, -⟩ := A
  exact Sto.ofV A1 q O (Ins.self I)
set_option maxRecDepth 65536 in
set_option maxHeartbeats 40000000 in
theorem rm_ini (l : Launch) (Z : State) (a0 : Array Value) (hw : ∀ d ∈ tables_1, d.before a0 Z = true) (h : Heap) (n0 : Nat) (a r : Addr) (F : Fld Z h a "java/util/Optional" "value" "Ljava/lang/Object;" .null) (E1 : Exa Z h a "java/util/Optional") (ha : n0 ≤ a) : Con l Z (⟨"java/util/Optional", "<init>", "(Ljava/lang/Object;)V"⟩ : MethodName) jdk_32_method_2_code 2 (Option.none : Option Jvm.ClassFile.FieldType) ({ frames := 1, cells := 0, slots := 0, locals := 12 } : Room) n0 #[.ref a, .ref r] h (fun v h' => v = none ∧ Keep h h' [a] ∧ Fld Z h' a "java/util/Optional" "value" "Ljava/lang/Object;" (.ref r)) [] := by
  refine Run.con pn_opt (Ls := [.val (.ref a), .val (.ref r)]) rfl ?_
  refine r_aloadN 1 d_jdk_32_method_2_code_0 rfl rfl ?_
  refine r_initO 4 d_jdk_32_method_2_code_1 rfl (hw _ (List.mem_of_getElem? (i := 79) rfl)) (hw _ (List.mem_of_getElem? (i := 80) rfl)) (hw _ (List.mem_of_getElem? (i := 81) rfl)) rfl (Nat.le_of_ble_eq_true rfl) (Nat.le_of_ble_eq_true rfl) ?_
  refine r_aloadN 5 d_jdk_32_method_2_code_4 rfl rfl ?_
  refine r_aloadN 6 d_jdk_32_method_2_code_5 rfl rfl ?_
  refine r_putfield (host := "") 9 d_jdk_32_method_2_code_6 rfl (Or.inl (hw _ (List.mem_of_getElem? (i := 82) rfl))) Via.refl F E1 (Or.inr ⟨(hw _ (List.mem_of_getElem? (i := 83) rfl)), rfl, rfl⟩) (hw _ (List.mem_of_getElem? (i := 74) rfl)) (ty := .object "java/lang/Object") (by decide) rfl rfl ha ?_
  intro h1 W1
  exact r_retV d_jdk_32_method_2_code_9 rfl (Nat.le_of_ble_eq_true rfl) (Nat.le_of_ble_eq_true rfl) (⟨rfl, Keep.of_wr W1, F.same W1⟩)
set_option maxRecDepth 65536 in
set_option maxHeartbeats 40000000 in
theorem rm_of0 (l : Launch) (Z : State) (a0 : Array Value) (hw : ∀ d ∈ tables_1, d.before a0 Z = true) (h : Heap) (n0 : Nat) (e : Addr) (S : Sta Z h "java/util/Optional" "EMPTY" "Ljava/util/Optional;" (.ref e)) : Con l Z (⟨"java/util/Optional", "ofNullable", "(Ljava/lang/Object;)Ljava/util/Optional;"⟩ : MethodName) jdk_32_method_4_code 1 (Option.some (Jvm.ClassFile.FieldType.object "java/util/Optional")) ({ frames := 2, cells := 1, slots := 1, locals := 26 } : Room) n0 #[.null] h (fun v h' => v = some (.ref e) ∧ h' = h) [] := by
  refine Run.con pn_opt (Ls := [.val .null]) rfl ?_
  refine r_aloadNV 1 d_jdk_32_method_4_code_0 rfl rfl rfl ?_
  refine r_nonnullNo 4 d_jdk_32_method_4_code_1 rfl ?_
  refine r_getstatic 7 d_jdk_32_method_4_code_4 rfl (hw _ (List.mem_of_getElem? (i := 90) rfl)) Via.refl S ?_
  refine r_goto 18 d_jdk_32_method_4_code_7 (by decide) ?_
  exact r_retA d_jdk_32_method_4_code_18 rfl rfl rfl rfl (Nat.le_of_ble_eq_true rfl) (Nat.le_of_ble_eq_true rfl) (⟨rfl, rfl⟩)
set_option maxRecDepth 65536 in
set_option maxHeartbeats 40000000 in
theorem rm_of1 (l : Launch) (Z : State) (a0 : Array Value) (hw : ∀ d ∈ tables_1, d.before a0 Z = true) (h : Heap) (n0 : Nat) (Z0 : n0 ≤ h.size) (r : Addr) : Con l Z (⟨"java/util/Optional", "ofNullable", "(Ljava/lang/Object;)Ljava/util/Optional;"⟩ : MethodName) jdk_32_method_4_code 1 (Option.some (Jvm.ClassFile.FieldType.object "java/util/Optional")) ({ frames := 2, cells := 1, slots := 1, locals := 26 } : Room) n0 #[.ref r] h (fun v h' => ∃ a, v = some (.ref a) ∧ Ext h h' ∧ Exa Z h' a "java/util/Optional" ∧ Fld Z h' a "java/util/Optional" "value" "Ljava/lang/Object;" (.ref r)) [] := by
  refine Run.con pn_opt (Ls := [.val (.ref r)]) rfl ?_
  refine r_aloadN 1 d_jdk_32_method_4_code_0 rfl rfl ?_
  refine r_nonnullYes 10 d_jdk_32_method_4_code_1 (by decide) ?_
  refine r_new 13 d_jdk_32_method_4_code_10 rfl (hw _ (List.mem_of_getElem? (i := 73) rfl)) (hw _ (List.mem_of_getElem? (i := 74) rfl)) (hw _ (List.mem_of_getElem? (i := 71) rfl)) (Nat.le_of_ble_eq_true rfl) (Nat.le_of_ble_eq_true rfl) ?_
  intro h1 a ha E1 X1 D1
  refine r_dup 14 d_jdk_32_method_4_code_13 rfl rfl ?_
  refine r_aloadN 15 d_jdk_32_method_4_code_14 rfl rfl ?_
  refine r_special 18 d_jdk_32_method_4_code_15 rfl (rm_ini l Z a0 hw h1 n0 a r (D1 (Or.inr (hw _ (List.mem_of_getElem? (i := 83) rfl))) (ty := .object "java/lang/Object") (by decide)) X1 (by rw [ha]; exact Z0)) (as1 := [.ref r]) rfl rfl (hw _ (List.mem_of_getElem? (i := 75) rfl)) (hw _ (List.mem_of_getElem? (i := 76) rfl)) (hw _ (List.mem_of_getElem? (i := 71) rfl)) (hw _ (List.mem_of_getElem? (i := 78) rfl)) (by decide) (ps := [.object "java/lang/Object"]) (r' := none) (by decide +kernel) rfl rfl rfl (Nat.le_of_ble_eq_true rfl) (Nat.le_of_ble_eq_true rfl) (Nat.le_of_ble_eq_true rfl) (Nat.le_of_ble_eq_true rfl) ?_
  rintro v h2 ⟨rfl, K2, F2⟩
  show Run _ _ _ _ _ _ _ _ _ _ _ _ _ _ [.ref a]
  exact r_retA d_jdk_32_method_4_code_18 rfl rfl rfl rfl (Nat.le_of_ble_eq_true rfl) (Nat.le_of_ble_eq_true rfl) (⟨a, rfl, own_keep E1 ha K2, X1.keep K2, F2⟩)
set_option maxRecDepth 65536 in
set_option maxHeartbeats 40000000 in
theorem rm_or0 (l : Launch) (Z : State) (a0 : Array Value) (hw : ∀ d ∈ tables_1, d.before a0 Z = true) (h : Heap) (n0 : Nat) (a r : Addr) (F : Fld Z h a "java/util/Optional" "value" "Ljava/lang/Object;" .null) : Con l Z (⟨"java/util/Optional", "orElse", "(Ljava/lang/Object;)Ljava/lang/Object;"⟩ : MethodName) jdk_32_method_15_code 2 (Option.some (Jvm.ClassFile.FieldType.object "java/lang/Object")) ({ frames := 0, cells := 0, slots := 0, locals := 0 } : Room) n0 #[.ref a, .ref r] h (fun v h' => v = some (.ref r) ∧ h' = h) [] := by
  refine Run.con pn_opt (Ls := [.val (.ref a), .val (.ref r)]) rfl ?_
  refine r_aloadN 1 d_jdk_32_method_15_code_0 rfl rfl ?_
  refine r_getfield (host := "") 4 d_jdk_32_method_15_code_1 rfl (Or.inl (hw _ (List.mem_of_getElem? (i := 82) rfl))) Via.refl F ?_
  refine r_nullYes 14 d_jdk_32_method_15_code_4 (by decide) ?_
  refine r_aloadN 15 d_jdk_32_method_15_code_14 rfl rfl ?_
  exact r_retA d_jdk_32_method_15_code_15 rfl rfl rfl rfl (Nat.le_of_ble_eq_true rfl) (Nat.le_of_ble_eq_true rfl) (⟨rfl, rfl⟩)
set_option maxRecDepth 65536 in
set_option maxHeartbeats 40000000 in
theorem rm_or1 (l : Launch) (Z : State) (a0 : Array Value) (hw : ∀ d ∈ tables_1, d.before a0 Z = true) (h : Heap) (n0 : Nat) (a r q : Addr) (F : Fld Z h a "java/util/Optional" "value" "Ljava/lang/Object;" (.ref q)) : Con l Z (⟨"java/util/Optional", "orElse", "(Ljava/lang/Object;)Ljava/lang/Object;"⟩ : MethodName) jdk_32_method_15_code 2 (Option.some (Jvm.ClassFile.FieldType.object "java/lang/Object")) ({ frames := 0, cells := 0, slots := 0, locals := 0 } : Room) n0 #[.ref a, .ref r] h (fun v h' => v = some (.ref q) ∧ h' = h) [] := by
  refine Run.con pn_opt (Ls := [.val (.ref a), .val (.ref r)]) rfl ?_
  refine r_aloadN 1 d_jdk_32_method_15_code_0 rfl rfl ?_
  refine r_getfield (host := "") 4 d_jdk_32_method_15_code_1 rfl (Or.inl (hw _ (List.mem_of_getElem? (i := 82) rfl))) Via.refl F ?_
  refine r_nullNo 7 d_jdk_32_method_15_code_4 rfl ?_
  refine r_aloadN 8 d_jdk_32_method_15_code_7 rfl rfl ?_
  refine r_getfield (host := "") 11 d_jdk_32_method_15_code_8 rfl (Or.inl (hw _ (List.mem_of_getElem? (i := 82) rfl))) Via.refl F ?_
  refine r_goto 15 d_jdk_32_method_15_code_11 (by decide) ?_
  exact r_retA d_jdk_32_method_15_code_15 rfl rfl rfl rfl (Nat.le_of_ble_eq_true rfl) (Nat.le_of_ble_eq_true rfl) (⟨rfl, rfl⟩)
set_option maxRecDepth 65536 in
set_option maxHeartbeats 40000000 in
theorem rm_to0 (l : Launch) (Z : State) (a0 : Array Value) (hw : ∀ d ∈ tables_1, d.before a0 Z = true) (h : Heap) (n0 : Nat) (a r e : Addr) (F : Fld Z h a "com/example/lintel/lintel/ledger/CaseAction" "to" "Lcom/example/lintel/lintel/ledger/CaseStatus;" .null) (S : Sta Z h "java/util/Optional" "EMPTY" "Ljava/util/Optional;" (.ref e)) (X : Exa Z h e "java/util/Optional") (G : Fld Z h e "java/util/Optional" "value" "Ljava/lang/Object;" .null) (XR : Exa Z h r "com/example/lintel/lintel/ledger/CaseStatus") : Con l Z (⟨"com/example/lintel/lintel/ledger/CaseAction", "to", "(Lcom/example/lintel/lintel/ledger/CaseStatus;)Lcom/example/lintel/lintel/ledger/CaseStatus;"⟩ : MethodName) prog_8_method_5_code 2 (Option.some (Jvm.ClassFile.FieldType.object "com/example/lintel/lintel/ledger/CaseStatus")) ({ frames := 3, cells := 1, slots := 1, locals := 38 } : Room) n0 #[.ref a, .ref r] h (fun v h' => v = some (.ref r)) [] := by
  refine Run.con pn_ca (Ls := [.val (.ref a), .val (.ref r)]) rfl ?_
  refine r_aloadN 1 d_prog_8_method_5_code_0 rfl rfl ?_
  refine r_getfield (host := "") 4 d_prog_8_method_5_code_1 rfl (Or.inl (hw _ (List.mem_of_getElem? (i := 67) rfl))) Via.refl F ?_
  refine r_static 7 d_prog_8_method_5_code_4 rfl (rm_of0 l Z a0 hw h n0 e S) (hw _ (List.mem_of_getElem? (i := 69) rfl)) (hw _ (List.mem_of_getElem? (i := 70) rfl)) (hw _ (List.mem_of_getElem? (i := 71) rfl)) (hw _ (List.mem_of_getElem? (i := 72) rfl)) (by decide) (ps := [.object "java/lang/Object"]) (r' := some (.object "java/util/Optional")) (by decide +kernel) rfl rfl rfl (Nat.le_of_ble_eq_true rfl) (Nat.le_of_ble_eq_true rfl) (Nat.le_of_ble_eq_true rfl) (Nat.le_of_ble_eq_true rfl) ?_
  rintro v h1 ⟨rfl, rfl⟩
  show Run _ _ _ _ _ _ _ _ _ _ _ _ _ _ [.ref e]
  refine r_aloadN 8 d_prog_8_method_5_code_7 rfl rfl ?_
  refine r_virtual 11 d_prog_8_method_5_code_8 rfl (rm_or0 l Z a0 hw _ n0 e r G) (as1 := [.ref r]) rfl (hw _ (List.mem_of_getElem? (i := 84) rfl)) (hw _ (List.mem_of_getElem? (i := 85) rfl)) (hw _ (List.mem_of_getElem? (i := 87) rfl)) (hw _ (List.mem_of_getElem? (i := 86) rfl)) (hw _ (List.mem_of_getElem? (i := 71) rfl)) (hw _ (List.mem_of_getElem? (i := 88) rfl)) (by decide) (ps := [.object "java/lang/Object"]) (r' := some (.object "java/lang/Object")) (by decide +kernel) X rfl rfl rfl (Nat.le_of_ble_eq_true rfl) (Nat.le_of_ble_eq_true rfl) (Nat.le_of_ble_eq_true rfl) (Nat.le_of_ble_eq_true rfl) (fun s args hZ => notFace_of_selects (args := args) (mvT hZ (hw _ (List.mem_of_getElem? (i := 87) rfl)))) ?_
  rintro v h2 ⟨rfl, rfl⟩
  show Run _ _ _ _ _ _ _ _ _ _ _ _ _ _ [.ref r]
  refine r_checkcast 14 d_prog_8_method_5_code_11 rfl (hw _ (List.mem_of_getElem? (i := 89) rfl)) (Ins.self XR) ?_
  exact r_retA d_prog_8_method_5_code_14 rfl rfl rfl rfl (Nat.le_of_ble_eq_true rfl) (Nat.le_of_ble_eq_true rfl) (rfl)
set_option maxRecDepth 65536 in
set_option maxHeartbeats 40000000 in
theorem rm_to1 (l : Launch) (Z : State) (a0 : Array Value) (hw : ∀ d ∈ tables_1, d.before a0 Z = true) (h : Heap) (n0 : Nat) (Z0 : n0 ≤ h.size) (a r q : Addr) (F : Fld Z h a "com/example/lintel/lintel/ledger/CaseAction" "to" "Lcom/example/lintel/lintel/ledger/CaseStatus;" (.ref q)) (XR : Exa Z h q "com/example/lintel/lintel/ledger/CaseStatus") : Con l Z (⟨"com/example/lintel/lintel/ledger/CaseAction", "to", "(Lcom/example/lintel/lintel/ledger/CaseStatus;)Lcom/example/lintel/lintel/ledger/CaseStatus;"⟩ : MethodName) prog_8_method_5_code 2 (Option.some (Jvm.ClassFile.FieldType.object "com/example/lintel/lintel/ledger/CaseStatus")) ({ frames := 3, cells := 1, slots := 1, locals := 38 } : Room) n0 #[.ref a, .ref r] h (fun v h' => v = some (.ref q)) [] := by
  refine Run.con pn_ca (Ls := [.val (.ref a), .val (.ref r)]) rfl ?_
  refine r_aloadN 1 d_prog_8_method_5_code_0 rfl rfl ?_
  refine r_getfield (host := "") 4 d_prog_8_method_5_code_1 rfl (Or.inl (hw _ (List.mem_of_getElem? (i := 67) rfl))) Via.refl F ?_
  refine r_static 7 d_prog_8_method_5_code_4 rfl (rm_of1 l Z a0 hw h n0 Z0 q) (hw _ (List.mem_of_getElem? (i := 69) rfl)) (hw _ (List.mem_of_getElem? (i := 70) rfl)) (hw _ (List.mem_of_getElem? (i := 71) rfl)) (hw _ (List.mem_of_getElem? (i := 72) rfl)) (by decide) (ps := [.object "java/lang/Object"]) (r' := some (.object "java/util/Optional")) (by decide +kernel) rfl rfl rfl (Nat.le_of_ble_eq_true rfl) (Nat.le_of_ble_eq_true rfl) (Nat.le_of_ble_eq_true rfl) (Nat.le_of_ble_eq_true rfl) ?_
  rintro v h1 ⟨e, rfl, E2, X, G⟩
  replace XR := XR.ext E2
  show Run _ _ _ _ _ _ _ _ _ _ _ _ _ _ [.ref e]
  refine r_aloadN 8 d_prog_8_method_5_code_7 rfl rfl ?_
  refine r_virtual 11 d_prog_8_method_5_code_8 rfl (rm_or1 l Z a0 hw _ n0 e r q G) (as1 := [.ref r]) rfl (hw _ (List.mem_of_getElem? (i := 84) rfl)) (hw _ (List.mem_of_getElem? (i := 85) rfl)) (hw _ (List.mem_of_getElem? (i := 87) rfl)) (hw _ (List.mem_of_getElem? (i := 86) rfl)) (hw _ (List.mem_of_getElem? (i := 71) rfl)) (hw _ (List.mem_of_getElem? (i := 88) rfl)) (by decide) (ps := [.object "java/lang/Object"]) (r' := some (.object "java/lang/Object")) (by decide +kernel) X rfl rfl rfl (Nat.le_of_ble_eq_true rfl) (Nat.le_of_ble_eq_true rfl) (Nat.le_of_ble_eq_true rfl) (Nat.le_of_ble_eq_true rfl) (fun s args hZ => notFace_of_selects (args := args) (mvT hZ (hw _ (List.mem_of_getElem? (i := 87) rfl)))) ?_
  rintro v h2 ⟨rfl, rfl⟩
  show Run _ _ _ _ _ _ _ _ _ _ _ _ _ _ [.ref q]
  refine r_checkcast 14 d_prog_8_method_5_code_11 rfl (hw _ (List.mem_of_getElem? (i := 89) rfl)) (Ins.self XR) ?_
  exact r_retA d_prog_8_method_5_code_14 rfl rfl rfl rfl (Nat.le_of_ble_eq_true rfl) (Nat.le_of_ble_eq_true rfl) (rfl)
def own_tg : List Value := [.int 0, .int (-1), .int 1, .int 2, .int 3, .int 4, .int 5, .int 6, .int 7, .int (-1), .int 8, .int 9, .int 10, .int 11]
def own_tgI (i : Nat) : Int32 := match i with | 0 => 0 | 1 => (-1) | 2 => 1 | 3 => 2 | 4 => 3 | 5 => 4 | 6 => 5 | 7 => 6 | 8 => 7 | 9 => (-1) | 10 => 8 | 11 => 9 | 12 => 10 | _ => 11
theorem own_tgv (i : Nat) (hi : i < 14) : own_tg.getD i (.int 0) = .int (own_tgI i) := by
  match i, hi with
  | 0, _ => rfl
  | 1, _ => rfl
  | 2, _ => rfl
  | 3, _ => rfl
  | 4, _ => rfl
  | 5, _ => rfl
  | 6, _ => rfl
  | 7, _ => rfl
  | 8, _ => rfl
  | 9, _ => rfl
  | 10, _ => rfl
  | 11, _ => rfl
  | 12, _ => rfl
  | 13, _ => rfl
def own_st (A : Nat → Addr) : List Value := [.ref (A 0), .ref (A 1), .ref (A 2), .ref (A 3), .ref (A 4), .ref (A 5), .ref (A 6), .ref (A 7), .ref (A 8), .ref (A 9), .ref (A 10), .ref (A 11)]
theorem own_st_v (A : Nat → Addr) (i : Nat) (hi : i < 12) : (own_st A).getD i .null = .ref (A i) := by
  match i, hi with
  | 0, _ => rfl
  | 1, _ => rfl
  | 2, _ => rfl
  | 3, _ => rfl
  | 4, _ => rfl
  | 5, _ => rfl
  | 6, _ => rfl
  | 7, _ => rfl
  | 8, _ => rfl
  | 9, _ => rfl
  | 10, _ => rfl
  | 11, _ => rfl
def own_ac (A : Nat → Addr) : List Value := [.ref (A 0), .ref (A 1), .ref (A 2), .ref (A 3), .ref (A 4), .ref (A 5), .ref (A 6), .ref (A 7), .ref (A 8), .ref (A 9), .ref (A 10), .ref (A 11), .ref (A 12), .ref (A 13)]
theorem own_ac_v (A : Nat → Addr) (i : Nat) (hi : i < 14) : (own_ac A).getD i .null = .ref (A i) := by
  match i, hi with
  | 0, _ => rfl
  | 1, _ => rfl
  | 2, _ => rfl
  | 3, _ => rfl
  | 4, _ => rfl
  | 5, _ => rfl
  | 6, _ => rfl
  | 7, _ => rfl
  | 8, _ => rfl
  | 9, _ => rfl
  | 10, _ => rfl
  | 11, _ => rfl
  | 12, _ => rfl
  | 13, _ => rfl
set_option maxRecDepth 65536 in
set_option maxHeartbeats 40000000 in
theorem run_258 (l : Launch) (Z : State) (a0 : Array Value) (hw : ∀ d ∈ tables_1, d.before a0 Z = true) (h : Heap) (n0 : Nat) (O : Old Z n0 h) (A B : Nat → Addr) (EA : ∀ i, i < 12 → Exa Z Z.heap (A i) "com/example/lintel/lintel/ledger/CaseStatus")  {e : Addr} (SZ : Sta Z Z.heap "java/util/Optional" "EMPTY" "Ljava/util/Optional;" (.ref e)) (EZ : Exa Z Z.heap e "java/util/Optional") (FZ : Fld Z Z.heap e "java/util/Optional" "value" "Ljava/lang/Object;" .null) (T : ∀ i, i < 14 → Exa Z Z.heap (B i) "com/example/lintel/lintel/ledger/CaseAction" ∧ ((own_tgI i < 0 ∧ Fld Z Z.heap (B i) "com/example/lintel/lintel/ledger/CaseAction" "to" "Lcom/example/lintel/lintel/ledger/CaseStatus;" .null) ∨ ∃ r, r < 12 ∧ own_tgI i = Int32.ofNat r ∧ Fld Z Z.heap (B i) "com/example/lintel/lintel/ledger/CaseAction" "to" "Lcom/example/lintel/lintel/ledger/CaseStatus;" (.ref (A r)))) (i0 i1 : Int32) (b1 b2 b3 : Addr) (cA1 cA2 cA3 : ClassId) (B1 : Arv Z h b1 cA1 (.object "com/example/lintel/lintel/ledger/CaseStatus") 12 (own_st A) .null) (B2 : Arv Z h b2 cA2 (.object "com/example/lintel/lintel/ledger/CaseAction") 14 (own_ac B) .null) (B3 : Arv Z h b3 cA3 .int 14 own_tg (.int 0)) : Run l Z x code maxLocals ret room_1 n0 (fun v h' => v = some (.int 1) ∧ True) h 3 40 258 [.val (.int i0), .val (.int i1), .val (.ref b1), .val (.ref b2), .val (.ref b3), .unset, .unset, .unset, .unset, .unset, .unset] [] := by
  refine r_iloadN 259 at_258 rfl rfl ?_
  refine r_ldc 261 at_259 rfl (hw _ (List.mem_of_getElem? (i := 61) rfl)) ?_
  refine r_iand 262 at_261 rfl ?_
  refine r_bipush 14 264 at_262 rfl rfl ?_
  refine r_irem 265 at_264 rfl (by decide) ?_
  generalize hKi : (i0 &&& 2147483647) % 14 = Ki
  obtain ⟨i, hi, rfl⟩ := own_nat (K := Ki) (N := 14) (hKi ▸ (own_mod i0 14 (by decide)).1) (hKi ▸ (own_mod i0 14 (by decide)).2)
  refine r_istore 267 at_265 rfl rfl ?_
  refine r_iloadN 268 at_267 rfl rfl ?_
  refine r_ldc 270 at_268 rfl (hw _ (List.mem_of_getElem? (i := 61) rfl)) ?_
  refine r_iand 271 at_270 rfl ?_
  refine r_bipush 12 273 at_271 rfl rfl ?_
  refine r_irem 274 at_273 rfl (by decide) ?_
  generalize hKj : (i1 &&& 2147483647) % 12 = Kj
  obtain ⟨j, hj, rfl⟩ := own_nat (K := Kj) (N := 12) (hKj ▸ (own_mod i1 12 (by decide)).1) (hKj ▸ (own_mod i1 12 (by decide)).2)
  refine r_istore 276 at_274 rfl rfl ?_
  refine r_aloadN 277 at_276 rfl rfl ?_
  refine r_iload 279 at_277 rfl rfl ?_
  refine r_aaload j (.ref (A j)) 280 at_279 rfl B1 rfl (own_nn (by omega)) (own_cl (by omega)) (by show j < 12; omega) (own_st_v A j hj) ?_
  refine r_astore 282 at_280 rfl rfl ?_
  refine r_aload 284 at_282 rfl rfl ?_
  refine r_iload 286 at_284 rfl rfl ?_
  refine r_iaload i (.int (own_tgI i)) 287 at_286 rfl B3 (own_nn (by omega)) (own_cl (by omega)) (by show i < 14; omega) (own_tgv i hi) ?_
  refine r_istore 289 at_287 rfl rfl ?_
  refine r_iload 291 at_289 rfl rfl ?_
  refine r_if_ge 299 294 at_291 (by decide) rfl (fun q291 => ?_) (fun q291 => ?_)
  · obtain ⟨e1, -⟩ | ⟨r, hr, e1, F⟩ := (T i hi).2
    · exact absurd e1 q291
    rw [e1]
    refine r_aloadN 300 at_299 rfl rfl ?_
    refine r_iload 302 at_300 rfl rfl ?_
    refine r_aaload r (.ref (A r)) 303 at_302 rfl B1 rfl (own_nn (by omega)) (own_cl (by omega)) (by show r < 12; omega) (own_st_v A r hr) ?_
    refine r_astore 305 at_303 rfl rfl ?_
    refine r_aloadN 306 at_305 rfl rfl ?_
    refine r_iload 308 at_306 rfl rfl ?_
    refine r_aaload i (.ref (B i)) 309 at_308 rfl B2 rfl (own_nn (by omega)) (own_cl (by omega)) (by show i < 14; omega) (own_ac_v B i hi) ?_
    refine r_aload 311 at_309 rfl rfl ?_
    refine r_virtual 314 at_311 rfl (rm_to1 l Z a0 hw _ n0 (O.1 ▸ O.2.1) (B i) (A j) (A r) (F.ext O.2) ((EA r hr).ext O.2)) (as1 := [.ref (A j)]) rfl (hw _ (List.mem_of_getElem? (i := 62) rfl)) (hw _ (List.mem_of_getElem? (i := 63) rfl)) (hw _ (List.mem_of_getElem? (i := 65) rfl)) (hw _ (List.mem_of_getElem? (i := 64) rfl)) (hw _ (List.mem_of_getElem? (i := 31) rfl)) (hw _ (List.mem_of_getElem? (i := 66) rfl)) (by decide) (ps := [.object "com/example/lintel/lintel/ledger/CaseStatus"]) (r' := some (.object "com/example/lintel/lintel/ledger/CaseStatus")) (by decide +kernel) ((T i hi).1.ext O.2) rfl rfl rfl (Nat.le_of_ble_eq_true rfl) (Nat.le_of_ble_eq_true rfl) (Nat.le_of_ble_eq_true rfl) (Nat.le_of_ble_eq_true rfl) (fun s args hZ => notFace_of_selects (args := args) (mvT hZ (hw _ (List.mem_of_getElem? (i := 65) rfl)))) ?_
    rintro v h1 rfl
    show Run _ _ _ _ _ _ _ _ _ _ _ _ _ _ [.ref (A r)]
    refine r_astore 316 at_314 rfl rfl ?_
    refine r_aload 318 at_316 rfl rfl ?_
    refine r_aload 320 at_318 rfl rfl ?_
    refine r_acmp_ne 327 323 at_320 (by decide) rfl rfl rfl (fun q320 => absurd rfl q320) (fun q320 => ?_)
    refine r_iconst 1 324 at_323 rfl rfl ?_
    refine r_goto 328 at_324 (by decide) ?_
    exact r_retN _ at_328 rfl (by simp) rfl (Nat.le_of_ble_eq_true rfl) (Nat.le_of_ble_eq_true rfl) (⟨rfl, trivial⟩)
  · obtain ⟨-, F⟩ | ⟨r, hr, e1, -⟩ := (T i hi).2
    rotate_left
    · rw [e1] at q291; exact absurd q291 (own_nn (by omega))
    refine r_aload 296 at_294 rfl rfl ?_
    refine r_goto 303 at_296 (by decide) ?_
    refine r_astore 305 at_303 rfl rfl ?_
    refine r_aloadN 306 at_305 rfl rfl ?_
    refine r_iload 308 at_306 rfl rfl ?_
    refine r_aaload i (.ref (B i)) 309 at_308 rfl B2 rfl (own_nn (by omega)) (own_cl (by omega)) (by show i < 14; omega) (own_ac_v B i hi) ?_
    refine r_aload 311 at_309 rfl rfl ?_
    refine r_virtual 314 at_311 rfl (rm_to0 l Z a0 hw _ n0 (B i) (A j) e (F.ext O.2) (SZ.ext O.2) (EZ.ext O.2) (FZ.ext O.2) ((EA j hj).ext O.2)) (as1 := [.ref (A j)]) rfl (hw _ (List.mem_of_getElem? (i := 62) rfl)) (hw _ (List.mem_of_getElem? (i := 63) rfl)) (hw _ (List.mem_of_getElem? (i := 65) rfl)) (hw _ (List.mem_of_getElem? (i := 64) rfl)) (hw _ (List.mem_of_getElem? (i := 31) rfl)) (hw _ (List.mem_of_getElem? (i := 66) rfl)) (by decide) (ps := [.object "com/example/lintel/lintel/ledger/CaseStatus"]) (r' := some (.object "com/example/lintel/lintel/ledger/CaseStatus")) (by decide +kernel) ((T i hi).1.ext O.2) rfl rfl rfl (Nat.le_of_ble_eq_true rfl) (Nat.le_of_ble_eq_true rfl) (Nat.le_of_ble_eq_true rfl) (Nat.le_of_ble_eq_true rfl) (fun s args hZ => notFace_of_selects (args := args) (mvT hZ (hw _ (List.mem_of_getElem? (i := 65) rfl)))) ?_
    rintro v h1 rfl
    show Run _ _ _ _ _ _ _ _ _ _ _ _ _ _ [.ref (A j)]
    refine r_astore 316 at_314 rfl rfl ?_
    refine r_aload 318 at_316 rfl rfl ?_
    refine r_aload 320 at_318 rfl rfl ?_
    refine r_acmp_ne 327 323 at_320 (by decide) rfl rfl rfl (fun q320 => absurd rfl q320) (fun q320 => ?_)
    refine r_iconst 1 324 at_323 rfl rfl ?_
    refine r_goto 328 at_324 (by decide) ?_
    exact r_retN _ at_328 rfl (by simp) rfl (Nat.le_of_ble_eq_true rfl) (Nat.le_of_ble_eq_true rfl) (⟨rfl, trivial⟩)
set_option maxRecDepth 65536 in
set_option maxHeartbeats 40000000 in
theorem rm_law (l : Launch) (Z : State) (a0 : Array Value) (hw : ∀ d ∈ tables_1, d.before a0 Z = true) (h : Heap) (n0 : Nat) (O : Old Z n0 h) (A B : Nat → Addr) (EA : ∀ i, i < 12 → Exa Z Z.heap (A i) "com/example/lintel/lintel/ledger/CaseStatus") (EB : ∀ i, i < 14 → Exa Z Z.heap (B i) "com/example/lintel/lintel/ledger/CaseAction") (SA : Sta Z Z.heap "com/example/lintel/lintel/ledger/CaseStatus" "IN_PROCESS" "Lcom/example/lintel/lintel/ledger/CaseStatus;" (.ref (A 0)) ∧ Sta Z Z.heap "com/example/lintel/lintel/ledger/CaseStatus" "RESERVED" "Lcom/example/lintel/lintel/ledger/CaseStatus;" (.ref (A 1)) ∧ Sta Z Z.heap "com/example/lintel/lintel/ledger/CaseStatus" "FILE_RECEIVED" "Lcom/example/lintel/lintel/ledger/CaseStatus;" (.ref (A 2)) ∧ Sta Z Z.heap "com/example/lintel/lintel/ledger/CaseStatus" "PENDING" "Lcom/example/lintel/lintel/ledger/CaseStatus;" (.ref (A 3)) ∧ Sta Z Z.heap "com/example/lintel/lintel/ledger/CaseStatus" "APPROVED" "Lcom/example/lintel/lintel/ledger/CaseStatus;" (.ref (A 4)) ∧ Sta Z Z.heap "com/example/lintel/lintel/ledger/CaseStatus" "DENIED" "Lcom/example/lintel/lintel/ledger/CaseStatus;" (.ref (A 5)) ∧ Sta Z Z.heap "com/example/lintel/lintel/ledger/CaseStatus" "SERVICER_APPROVED" "Lcom/example/lintel/lintel/ledger/CaseStatus;" (.ref (A 6)) ∧ Sta Z Z.heap "com/example/lintel/lintel/ledger/CaseStatus" "SERVICING" "Lcom/example/lintel/lintel/ledger/CaseStatus;" (.ref (A 7)) ∧ Sta Z Z.heap "com/example/lintel/lintel/ledger/CaseStatus" "COMPLETE" "Lcom/example/lintel/lintel/ledger/CaseStatus;" (.ref (A 8)) ∧ Sta Z Z.heap "com/example/lintel/lintel/ledger/CaseStatus" "CLOSED_ON_SALE" "Lcom/example/lintel/lintel/ledger/CaseStatus;" (.ref (A 9)) ∧ Sta Z Z.heap "com/example/lintel/lintel/ledger/CaseStatus" "WITHDRAWN" "Lcom/example/lintel/lintel/ledger/CaseStatus;" (.ref (A 10)) ∧ Sta Z Z.heap "com/example/lintel/lintel/ledger/CaseStatus" "NOT_ELIGIBLE" "Lcom/example/lintel/lintel/ledger/CaseStatus;" (.ref (A 11))) (SB : Sta Z Z.heap "com/example/lintel/lintel/ledger/CaseAction" "OPEN" "Lcom/example/lintel/lintel/ledger/CaseAction;" (.ref (B 0)) ∧ Sta Z Z.heap "com/example/lintel/lintel/ledger/CaseAction" "REPLACE_HOUSEHOLD" "Lcom/example/lintel/lintel/ledger/CaseAction;" (.ref (B 1)) ∧ Sta Z Z.heap "com/example/lintel/lintel/ledger/CaseAction" "RESERVE" "Lcom/example/lintel/lintel/ledger/CaseAction;" (.ref (B 2)) ∧ Sta Z Z.heap "com/example/lintel/lintel/ledger/CaseAction" "SUBMIT_FILE" "Lcom/example/lintel/lintel/ledger/CaseAction;" (.ref (B 3)) ∧ Sta Z Z.heap "com/example/lintel/lintel/ledger/CaseAction" "PEND" "Lcom/example/lintel/lintel/ledger/CaseAction;" (.ref (B 4)) ∧ Sta Z Z.heap "com/example/lintel/lintel/ledger/CaseAction" "APPROVE" "Lcom/example/lintel/lintel/ledger/CaseAction;" (.ref (B 5)) ∧ Sta Z Z.heap "com/example/lintel/lintel/ledger/CaseAction" "DENY" "Lcom/example/lintel/lintel/ledger/CaseAction;" (.ref (B 6)) ∧ Sta Z Z.heap "com/example/lintel/lintel/ledger/CaseAction" "SERVICER_APPROVE" "Lcom/example/lintel/lintel/ledger/CaseAction;" (.ref (B 7)) ∧ Sta Z Z.heap "com/example/lintel/lintel/ledger/CaseAction" "CLOSE" "Lcom/example/lintel/lintel/ledger/CaseAction;" (.ref (B 8)) ∧ Sta Z Z.heap "com/example/lintel/lintel/ledger/CaseAction" "PAY" "Lcom/example/lintel/lintel/ledger/CaseAction;" (.ref (B 9)) ∧ Sta Z Z.heap "com/example/lintel/lintel/ledger/CaseAction" "COMPLETE" "Lcom/example/lintel/lintel/ledger/CaseAction;" (.ref (B 10)) ∧ Sta Z Z.heap "com/example/lintel/lintel/ledger/CaseAction" "SALE" "Lcom/example/lintel/lintel/ledger/CaseAction;" (.ref (B 11)) ∧ Sta Z Z.heap "com/example/lintel/lintel/ledger/CaseAction" "WITHDRAW" "Lcom/example/lintel/lintel/ledger/CaseAction;" (.ref (B 12)) ∧ Sta Z Z.heap "com/example/lintel/lintel/ledger/CaseAction" "NOT_ELIGIBLE" "Lcom/example/lintel/lintel/ledger/CaseAction;" (.ref (B 13))) (e : Addr) (SZ : Sta Z Z.heap "java/util/Optional" "EMPTY" "Ljava/util/Optional;" (.ref e)) (EZ : Exa Z Z.heap e "java/util/Optional") (FZ : Fld Z Z.heap e "java/util/Optional" "value" "Ljava/lang/Object;" .null) (T : ∀ i, i < 14 → Exa Z Z.heap (B i) "com/example/lintel/lintel/ledger/CaseAction" ∧ ((own_tgI i < 0 ∧ Fld Z Z.heap (B i) "com/example/lintel/lintel/ledger/CaseAction" "to" "Lcom/example/lintel/lintel/ledger/CaseStatus;" .null) ∨ ∃ r, r < 12 ∧ own_tgI i = Int32.ofNat r ∧ Fld Z Z.heap (B i) "com/example/lintel/lintel/ledger/CaseAction" "to" "Lcom/example/lintel/lintel/ledger/CaseStatus;" (.ref (A r)))) (i0 i1 : Int32) : Con l Z x code maxLocals ret room_1 n0 #[.int i0, .int i1] h (fun v h' => v = some (.int 1) ∧ True) tables_1 := by
  refine Run.con pn_law (Ls := [.val (.int i0), .val (.int i1), .unset, .unset, .unset, .unset, .unset, .unset, .unset, .unset, .unset]) rfl ?_
  refine r_bipush 12 2 at_0 rfl rfl ?_
  refine r_anewarray 12 "[Lcom/example/lintel/lintel/ledger/CaseStatus;" 5 at_2 rfl (hw _ (List.mem_of_getElem? (i := 0) rfl)) (hw _ (List.mem_of_getElem? (i := 1) rfl)) (by decide) (by decide) (by decide) rfl (Nat.le_of_ble_eq_true rfl) (Nat.le_of_ble_eq_true rfl) ?_
  intro h1 b1 cA1 hb1 E1 B1 X1 V1
  have g1 : n0 ≤ b1 := by rw [hb1]; exact O.1 ▸ O.2.1
  replace O := O.ext E1
  replace B1 : Arv Z _ b1 cA1 (.object "com/example/lintel/lintel/ledger/CaseStatus") 12 (List.replicate 12 .null) .null := B1
  clear E1 X1
  refine r_dup 6 at_5 rfl rfl ?_
  refine r_iconst 0 7 at_6 rfl rfl ?_
  refine r_getstatic 10 at_7 rfl (hw _ (List.mem_of_getElem? (i := 2) rfl)) Via.refl (SA.1.ext O.2) ?_
  refine r_aastore 0 11 at_10 rfl B1 rfl (own_sto B1 V1 ((EA 0 (by decide)).ext O.2)) rfl (by decide) (by decide) (by decide) (by simp) g1 ?_
  intro h' W1 B1
  replace O := O.wr W1 g1
  clear W1
  refine r_dup 12 at_11 rfl rfl ?_
  refine r_iconst 1 13 at_12 rfl rfl ?_
  refine r_getstatic 16 at_13 rfl (hw _ (List.mem_of_getElem? (i := 6) rfl)) Via.refl (SA.2.1.ext O.2) ?_
  refine r_aastore 1 17 at_16 rfl B1 rfl (own_sto B1 V1 ((EA 1 (by decide)).ext O.2)) rfl (by decide) (by decide) (by decide) (by simp) g1 ?_
  intro h' W1 B1
  replace O := O.wr W1 g1
  clear W1
  refine r_dup 18 at_17 rfl rfl ?_
  refine r_iconst 2 19 at_18 rfl rfl ?_
  refine r_getstatic 22 at_19 rfl (hw _ (List.mem_of_getElem? (i := 8) rfl)) Via.refl (SA.2.2.1.ext O.2) ?_
  refine r_aastore 2 23 at_22 rfl B1 rfl (own_sto B1 V1 ((EA 2 (by decide)).ext O.2)) rfl (by decide) (by decide) (by decide) (by simp) g1 ?_
  intro h' W1 B1
  replace O := O.wr W1 g1
  clear W1
  refine r_dup 24 at_23 rfl rfl ?_
  refine r_iconst 3 25 at_24 rfl rfl ?_
  refine r_getstatic 28 at_25 rfl (hw _ (List.mem_of_getElem? (i := 10) rfl)) Via.refl (SA.2.2.2.1.ext O.2) ?_
  refine r_aastore 3 29 at_28 rfl B1 rfl (own_sto B1 V1 ((EA 3 (by decide)).ext O.2)) rfl (by decide) (by decide) (by decide) (by simp) g1 ?_
  intro h' W1 B1
  replace O := O.wr W1 g1
  clear W1
  refine r_dup 30 at_29 rfl rfl ?_
  refine r_iconst 4 31 at_30 rfl rfl ?_
  refine r_getstatic 34 at_31 rfl (hw _ (List.mem_of_getElem? (i := 12) rfl)) Via.refl (SA.2.2.2.2.1.ext O.2) ?_
  refine r_aastore 4 35 at_34 rfl B1 rfl (own_sto B1 V1 ((EA 4 (by decide)).ext O.2)) rfl (by decide) (by decide) (by decide) (by simp) g1 ?_
  intro h' W1 B1
  replace O := O.wr W1 g1
  clear W1
  refine r_dup 36 at_35 rfl rfl ?_
  refine r_iconst 5 37 at_36 rfl rfl ?_
  refine r_getstatic 40 at_37 rfl (hw _ (List.mem_of_getElem? (i := 14) rfl)) Via.refl (SA.2.2.2.2.2.1.ext O.2) ?_
  refine r_aastore 5 41 at_40 rfl B1 rfl (own_sto B1 V1 ((EA 5 (by decide)).ext O.2)) rfl (by decide) (by decide) (by decide) (by simp) g1 ?_
  intro h' W1 B1
  replace O := O.wr W1 g1
  clear W1
  refine r_dup 42 at_41 rfl rfl ?_
  refine r_bipush 6 44 at_42 rfl rfl ?_
  refine r_getstatic 47 at_44 rfl (hw _ (List.mem_of_getElem? (i := 16) rfl)) Via.refl (SA.2.2.2.2.2.2.1.ext O.2) ?_
  refine r_aastore 6 48 at_47 rfl B1 rfl (own_sto B1 V1 ((EA 6 (by decide)).ext O.2)) rfl (by decide) (by decide) (by decide) (by simp) g1 ?_
  intro h' W1 B1
  replace O := O.wr W1 g1
  clear W1
  refine r_dup 49 at_48 rfl rfl ?_
  refine r_bipush 7 51 at_49 rfl rfl ?_
  refine r_getstatic 54 at_51 rfl (hw _ (List.mem_of_getElem? (i := 18) rfl)) Via.refl (SA.2.2.2.2.2.2.2.1.ext O.2) ?_
  refine r_aastore 7 55 at_54 rfl B1 rfl (own_sto B1 V1 ((EA 7 (by decide)).ext O.2)) rfl (by decide) (by decide) (by decide) (by simp) g1 ?_
  intro h' W1 B1
  replace O := O.wr W1 g1
  clear W1
  refine r_dup 56 at_55 rfl rfl ?_
  refine r_bipush 8 58 at_56 rfl rfl ?_
  refine r_getstatic 61 at_58 rfl (hw _ (List.mem_of_getElem? (i := 20) rfl)) Via.refl (SA.2.2.2.2.2.2.2.2.1.ext O.2) ?_
  refine r_aastore 8 62 at_61 rfl B1 rfl (own_sto B1 V1 ((EA 8 (by decide)).ext O.2)) rfl (by decide) (by decide) (by decide) (by simp) g1 ?_
  intro h' W1 B1
  replace O := O.wr W1 g1
  clear W1
  refine r_dup 63 at_62 rfl rfl ?_
  refine r_bipush 9 65 at_63 rfl rfl ?_
  refine r_getstatic 68 at_65 rfl (hw _ (List.mem_of_getElem? (i := 22) rfl)) Via.refl (SA.2.2.2.2.2.2.2.2.2.1.ext O.2) ?_
  refine r_aastore 9 69 at_68 rfl B1 rfl (own_sto B1 V1 ((EA 9 (by decide)).ext O.2)) rfl (by decide) (by decide) (by decide) (by simp) g1 ?_
  intro h' W1 B1
  replace O := O.wr W1 g1
  clear W1
  refine r_dup 70 at_69 rfl rfl ?_
  refine r_bipush 10 72 at_70 rfl rfl ?_
  refine r_getstatic 75 at_72 rfl (hw _ (List.mem_of_getElem? (i := 24) rfl)) Via.refl (SA.2.2.2.2.2.2.2.2.2.2.1.ext O.2) ?_
  refine r_aastore 10 76 at_75 rfl B1 rfl (own_sto B1 V1 ((EA 10 (by decide)).ext O.2)) rfl (by decide) (by decide) (by decide) (by simp) g1 ?_
  intro h' W1 B1
  replace O := O.wr W1 g1
  clear W1
  refine r_dup 77 at_76 rfl rfl ?_
  refine r_bipush 11 79 at_77 rfl rfl ?_
  refine r_getstatic 82 at_79 rfl (hw _ (List.mem_of_getElem? (i := 26) rfl)) Via.refl (SA.2.2.2.2.2.2.2.2.2.2.2.ext O.2) ?_
  refine r_aastore 11 83 at_82 rfl B1 rfl (own_sto B1 V1 ((EA 11 (by decide)).ext O.2)) rfl (by decide) (by decide) (by decide) (by simp) g1 ?_
  intro h' W1 B1
  replace O := O.wr W1 g1
  clear W1
  replace B1 : Arv Z _ b1 cA1 (.object "com/example/lintel/lintel/ledger/CaseStatus") 12 (own_st A) .null := B1
  refine r_astoreN 84 at_83 rfl rfl ?_
  refine r_bipush 14 86 at_84 rfl rfl ?_
  refine r_anewarray 14 "[Lcom/example/lintel/lintel/ledger/CaseAction;" 89 at_86 rfl (hw _ (List.mem_of_getElem? (i := 28) rfl)) (hw _ (List.mem_of_getElem? (i := 29) rfl)) (by decide) (by decide) (by decide) rfl (Nat.le_of_ble_eq_true rfl) (Nat.le_of_ble_eq_true rfl) ?_
  intro h2 b2 cA2 hb2 E1 B2 X1 V2
  have g2 : n0 ≤ b2 := by rw [hb2]; exact O.1 ▸ O.2.1
  have ne12 : b1 ≠ b2 := own_ne B1.lt hb2
  replace B1 := B1.ext E1
  replace O := O.ext E1
  replace B2 : Arv Z _ b2 cA2 (.object "com/example/lintel/lintel/ledger/CaseAction") 14 (List.replicate 14 .null) .null := B2
  clear E1 X1
  refine r_dup 90 at_89 rfl rfl ?_
  refine r_iconst 0 91 at_90 rfl rfl ?_
  refine r_getstatic 94 at_91 rfl (hw _ (List.mem_of_getElem? (i := 30) rfl)) Via.refl (SB.1.ext O.2) ?_
  refine r_aastore 0 95 at_94 rfl B2 rfl (own_sto B2 V2 ((EB 0 (by decide)).ext O.2)) rfl (by decide) (by decide) (by decide) (by simp) g2 ?_
  intro h' W1 B2
  replace O := O.wr W1 g2
  replace B1 := B1.other W1 ne12
  clear W1
  refine r_dup 96 at_95 rfl rfl ?_
  refine r_iconst 1 97 at_96 rfl rfl ?_
  refine r_getstatic 100 at_97 rfl (hw _ (List.mem_of_getElem? (i := 34) rfl)) Via.refl (SB.2.1.ext O.2) ?_
  refine r_aastore 1 101 at_100 rfl B2 rfl (own_sto B2 V2 ((EB 1 (by decide)).ext O.2)) rfl (by decide) (by decide) (by decide) (by simp) g2 ?_
  intro h' W1 B2
  replace O := O.wr W1 g2
  replace B1 := B1.other W1 ne12
  clear W1
  refine r_dup 102 at_101 rfl rfl ?_
  refine r_iconst 2 103 at_102 rfl rfl ?_
  refine r_getstatic 106 at_103 rfl (hw _ (List.mem_of_getElem? (i := 36) rfl)) Via.refl (SB.2.2.1.ext O.2) ?_
  refine r_aastore 2 107 at_106 rfl B2 rfl (own_sto B2 V2 ((EB 2 (by decide)).ext O.2)) rfl (by decide) (by decide) (by decide) (by simp) g2 ?_
  intro h' W1 B2
  replace O := O.wr W1 g2
  replace B1 := B1.other W1 ne12
  clear W1
  refine r_dup 108 at_107 rfl rfl ?_
  refine r_iconst 3 109 at_108 rfl rfl ?_
  refine r_getstatic 112 at_109 rfl (hw _ (List.mem_of_getElem? (i := 38) rfl)) Via.refl (SB.2.2.2.1.ext O.2) ?_
  refine r_aastore 3 113 at_112 rfl B2 rfl (own_sto B2 V2 ((EB 3 (by decide)).ext O.2)) rfl (by decide) (by decide) (by decide) (by simp) g2 ?_
  intro h' W1 B2
  replace O := O.wr W1 g2
  replace B1 := B1.other W1 ne12
  clear W1
  refine r_dup 114 at_113 rfl rfl ?_
  refine r_iconst 4 115 at_114 rfl rfl ?_
  refine r_getstatic 118 at_115 rfl (hw _ (List.mem_of_getElem? (i := 40) rfl)) Via.refl (SB.2.2.2.2.1.ext O.2) ?_
  refine r_aastore 4 119 at_118 rfl B2 rfl (own_sto B2 V2 ((EB 4 (by decide)).ext O.2)) rfl (by decide) (by decide) (by decide) (by simp) g2 ?_
  intro h' W1 B2
  replace O := O.wr W1 g2
  replace B1 := B1.other W1 ne12
  clear W1
  refine r_dup 120 at_119 rfl rfl ?_
  refine r_iconst 5 121 at_120 rfl rfl ?_
  refine r_getstatic 124 at_121 rfl (hw _ (List.mem_of_getElem? (i := 42) rfl)) Via.refl (SB.2.2.2.2.2.1.ext O.2) ?_
  refine r_aastore 5 125 at_124 rfl B2 rfl (own_sto B2 V2 ((EB 5 (by decide)).ext O.2)) rfl (by decide) (by decide) (by decide) (by simp) g2 ?_
  intro h' W1 B2
  replace O := O.wr W1 g2
  replace B1 := B1.other W1 ne12
  clear W1
  refine r_dup 126 at_125 rfl rfl ?_
  refine r_bipush 6 128 at_126 rfl rfl ?_
  refine r_getstatic 131 at_128 rfl (hw _ (List.mem_of_getElem? (i := 44) rfl)) Via.refl (SB.2.2.2.2.2.2.1.ext O.2) ?_
  refine r_aastore 6 132 at_131 rfl B2 rfl (own_sto B2 V2 ((EB 6 (by decide)).ext O.2)) rfl (by decide) (by decide) (by decide) (by simp) g2 ?_
  intro h' W1 B2
  replace O := O.wr W1 g2
  replace B1 := B1.other W1 ne12
  clear W1
  refine r_dup 133 at_132 rfl rfl ?_
  refine r_bipush 7 135 at_133 rfl rfl ?_
  refine r_getstatic 138 at_135 rfl (hw _ (List.mem_of_getElem? (i := 46) rfl)) Via.refl (SB.2.2.2.2.2.2.2.1.ext O.2) ?_
  refine r_aastore 7 139 at_138 rfl B2 rfl (own_sto B2 V2 ((EB 7 (by decide)).ext O.2)) rfl (by decide) (by decide) (by decide) (by simp) g2 ?_
  intro h' W1 B2
  replace O := O.wr W1 g2
  replace B1 := B1.other W1 ne12
  clear W1
  refine r_dup 140 at_139 rfl rfl ?_
  refine r_bipush 8 142 at_140 rfl rfl ?_
  refine r_getstatic 145 at_142 rfl (hw _ (List.mem_of_getElem? (i := 48) rfl)) Via.refl (SB.2.2.2.2.2.2.2.2.1.ext O.2) ?_
  refine r_aastore 8 146 at_145 rfl B2 rfl (own_sto B2 V2 ((EB 8 (by decide)).ext O.2)) rfl (by decide) (by decide) (by decide) (by simp) g2 ?_
  intro h' W1 B2
  replace O := O.wr W1 g2
  replace B1 := B1.other W1 ne12
  clear W1
  refine r_dup 147 at_146 rfl rfl ?_
  refine r_bipush 9 149 at_147 rfl rfl ?_
  refine r_getstatic 152 at_149 rfl (hw _ (List.mem_of_getElem? (i := 50) rfl)) Via.refl (SB.2.2.2.2.2.2.2.2.2.1.ext O.2) ?_
  refine r_aastore 9 153 at_152 rfl B2 rfl (own_sto B2 V2 ((EB 9 (by decide)).ext O.2)) rfl (by decide) (by decide) (by decide) (by simp) g2 ?_
  intro h' W1 B2
  replace O := O.wr W1 g2
  replace B1 := B1.other W1 ne12
  clear W1
  refine r_dup 154 at_153 rfl rfl ?_
  refine r_bipush 10 156 at_154 rfl rfl ?_
  refine r_getstatic 159 at_156 rfl (hw _ (List.mem_of_getElem? (i := 52) rfl)) Via.refl (SB.2.2.2.2.2.2.2.2.2.2.1.ext O.2) ?_
  refine r_aastore 10 160 at_159 rfl B2 rfl (own_sto B2 V2 ((EB 10 (by decide)).ext O.2)) rfl (by decide) (by decide) (by decide) (by simp) g2 ?_
  intro h' W1 B2
  replace O := O.wr W1 g2
  replace B1 := B1.other W1 ne12
  clear W1
  refine r_dup 161 at_160 rfl rfl ?_
  refine r_bipush 11 163 at_161 rfl rfl ?_
  refine r_getstatic 166 at_163 rfl (hw _ (List.mem_of_getElem? (i := 54) rfl)) Via.refl (SB.2.2.2.2.2.2.2.2.2.2.2.1.ext O.2) ?_
  refine r_aastore 11 167 at_166 rfl B2 rfl (own_sto B2 V2 ((EB 11 (by decide)).ext O.2)) rfl (by decide) (by decide) (by decide) (by simp) g2 ?_
  intro h' W1 B2
  replace O := O.wr W1 g2
  replace B1 := B1.other W1 ne12
  clear W1
  refine r_dup 168 at_167 rfl rfl ?_
  refine r_bipush 12 170 at_168 rfl rfl ?_
  refine r_getstatic 173 at_170 rfl (hw _ (List.mem_of_getElem? (i := 56) rfl)) Via.refl (SB.2.2.2.2.2.2.2.2.2.2.2.2.1.ext O.2) ?_
  refine r_aastore 12 174 at_173 rfl B2 rfl (own_sto B2 V2 ((EB 12 (by decide)).ext O.2)) rfl (by decide) (by decide) (by decide) (by simp) g2 ?_
  intro h' W1 B2
  replace O := O.wr W1 g2
  replace B1 := B1.other W1 ne12
  clear W1
  refine r_dup 175 at_174 rfl rfl ?_
  refine r_bipush 13 177 at_175 rfl rfl ?_
  refine r_getstatic 180 at_177 rfl (hw _ (List.mem_of_getElem? (i := 58) rfl)) Via.refl (SB.2.2.2.2.2.2.2.2.2.2.2.2.2.ext O.2) ?_
  refine r_aastore 13 181 at_180 rfl B2 rfl (own_sto B2 V2 ((EB 13 (by decide)).ext O.2)) rfl (by decide) (by decide) (by decide) (by simp) g2 ?_
  intro h' W1 B2
  replace O := O.wr W1 g2
  replace B1 := B1.other W1 ne12
  clear W1
  replace B2 : Arv Z _ b2 cA2 (.object "com/example/lintel/lintel/ledger/CaseAction") 14 (own_ac B) .null := B2
  refine r_astoreN 182 at_181 rfl rfl ?_
  refine r_bipush 14 184 at_182 rfl rfl ?_
  refine r_newarray 14 "[I" 186 at_184 rfl (hw _ (List.mem_of_getElem? (i := 60) rfl)) (by decide) (by decide) (by decide) rfl (Nat.le_of_ble_eq_true rfl) (Nat.le_of_ble_eq_true rfl) ?_
  intro h3 b3 cA3 hb3 E1 B3 X1
  have g3 : n0 ≤ b3 := by rw [hb3]; exact O.1 ▸ O.2.1
  have ne13 : b1 ≠ b3 := own_ne B1.lt hb3
  have ne23 : b2 ≠ b3 := own_ne B2.lt hb3
  replace B1 := B1.ext E1
  replace B2 := B2.ext E1
  replace O := O.ext E1
  replace B3 : Arv Z _ b3 cA3 .int 14 (List.replicate 14 (.int 0)) (.int 0) := B3
  clear E1 X1
  refine r_dup 187 at_186 rfl rfl ?_
  refine r_iconst 0 188 at_187 rfl rfl ?_
  refine r_iconst 0 189 at_188 rfl rfl ?_
  refine r_iastore 0 190 at_189 rfl B3 (by decide) (by decide) (by decide) (by simp) g3 ?_
  intro h' W1 B3
  replace O := O.wr W1 g3
  replace B1 := B1.other W1 ne13
  replace B2 := B2.other W1 ne23
  clear W1
  refine r_dup 191 at_190 rfl rfl ?_
  refine r_iconst 1 192 at_191 rfl rfl ?_
  refine r_iconst (-1) 193 at_192 rfl rfl ?_
  refine r_iastore 1 194 at_193 rfl B3 (by decide) (by decide) (by decide) (by simp) g3 ?_
  intro h' W1 B3
  replace O := O.wr W1 g3
  replace B1 := B1.other W1 ne13
  replace B2 := B2.other W1 ne23
  clear W1
  refine r_dup 195 at_194 rfl rfl ?_
  refine r_iconst 2 196 at_195 rfl rfl ?_
  refine r_iconst 1 197 at_196 rfl rfl ?_
  refine r_iastore 2 198 at_197 rfl B3 (by decide) (by decide) (by decide) (by simp) g3 ?_
  intro h' W1 B3
  replace O := O.wr W1 g3
  replace B1 := B1.other W1 ne13
  replace B2 := B2.other W1 ne23
  clear W1
  refine r_dup 199 at_198 rfl rfl ?_
  refine r_iconst 3 200 at_199 rfl rfl ?_
  refine r_iconst 2 201 at_200 rfl rfl ?_
  refine r_iastore 3 202 at_201 rfl B3 (by decide) (by decide) (by decide) (by simp) g3 ?_
  intro h' W1 B3
  replace O := O.wr W1 g3
  replace B1 := B1.other W1 ne13
  replace B2 := B2.other W1 ne23
  clear W1
  refine r_dup 203 at_202 rfl rfl ?_
  refine r_iconst 4 204 at_203 rfl rfl ?_
  refine r_iconst 3 205 at_204 rfl rfl ?_
  refine r_iastore 4 206 at_205 rfl B3 (by decide) (by decide) (by decide) (by simp) g3 ?_
  intro h' W1 B3
  replace O := O.wr W1 g3
  replace B1 := B1.other W1 ne13
  replace B2 := B2.other W1 ne23
  clear W1
  refine r_dup 207 at_206 rfl rfl ?_
  refine r_iconst 5 208 at_207 rfl rfl ?_
  refine r_iconst 4 209 at_208 rfl rfl ?_
  refine r_iastore 5 210 at_209 rfl B3 (by decide) (by decide) (by decide) (by simp) g3 ?_
  intro h' W1 B3
  replace O := O.wr W1 g3
  replace B1 := B1.other W1 ne13
  replace B2 := B2.other W1 ne23
  clear W1
  refine r_dup 211 at_210 rfl rfl ?_
  refine r_bipush 6 213 at_211 rfl rfl ?_
  refine r_iconst 5 214 at_213 rfl rfl ?_
  refine r_iastore 6 215 at_214 rfl B3 (by decide) (by decide) (by decide) (by simp) g3 ?_
  intro h' W1 B3
  replace O := O.wr W1 g3
  replace B1 := B1.other W1 ne13
  replace B2 := B2.other W1 ne23
  clear W1
  refine r_dup 216 at_215 rfl rfl ?_
  refine r_bipush 7 218 at_216 rfl rfl ?_
  refine r_bipush 6 220 at_218 rfl rfl ?_
  refine r_iastore 7 221 at_220 rfl B3 (by decide) (by decide) (by decide) (by simp) g3 ?_
  intro h' W1 B3
  replace O := O.wr W1 g3
  replace B1 := B1.other W1 ne13
  replace B2 := B2.other W1 ne23
  clear W1
  refine r_dup 222 at_221 rfl rfl ?_
  refine r_bipush 8 224 at_222 rfl rfl ?_
  refine r_bipush 7 226 at_224 rfl rfl ?_
  refine r_iastore 8 227 at_226 rfl B3 (by decide) (by decide) (by decide) (by simp) g3 ?_
  intro h' W1 B3
  replace O := O.wr W1 g3
  replace B1 := B1.other W1 ne13
  replace B2 := B2.other W1 ne23
  clear W1
  refine r_dup 228 at_227 rfl rfl ?_
  refine r_bipush 9 230 at_228 rfl rfl ?_
  refine r_iconst (-1) 231 at_230 rfl rfl ?_
  refine r_iastore 9 232 at_231 rfl B3 (by decide) (by decide) (by decide) (by simp) g3 ?_
  intro h' W1 B3
  replace O := O.wr W1 g3
  replace B1 := B1.other W1 ne13
  replace B2 := B2.other W1 ne23
  clear W1
  refine r_dup 233 at_232 rfl rfl ?_
  refine r_bipush 10 235 at_233 rfl rfl ?_
  refine r_bipush 8 237 at_235 rfl rfl ?_
  refine r_iastore 10 238 at_237 rfl B3 (by decide) (by decide) (by decide) (by simp) g3 ?_
  intro h' W1 B3
  replace O := O.wr W1 g3
  replace B1 := B1.other W1 ne13
  replace B2 := B2.other W1 ne23
  clear W1
  refine r_dup 239 at_238 rfl rfl ?_
  refine r_bipush 11 241 at_239 rfl rfl ?_
  refine r_bipush 9 243 at_241 rfl rfl ?_
  refine r_iastore 11 244 at_243 rfl B3 (by decide) (by decide) (by decide) (by simp) g3 ?_
  intro h' W1 B3
  replace O := O.wr W1 g3
  replace B1 := B1.other W1 ne13
  replace B2 := B2.other W1 ne23
  clear W1
  refine r_dup 245 at_244 rfl rfl ?_
  refine r_bipush 12 247 at_245 rfl rfl ?_
  refine r_bipush 10 249 at_247 rfl rfl ?_
  refine r_iastore 12 250 at_249 rfl B3 (by decide) (by decide) (by decide) (by simp) g3 ?_
  intro h' W1 B3
  replace O := O.wr W1 g3
  replace B1 := B1.other W1 ne13
  replace B2 := B2.other W1 ne23
  clear W1
  refine r_dup 251 at_250 rfl rfl ?_
  refine r_bipush 13 253 at_251 rfl rfl ?_
  refine r_bipush 11 255 at_253 rfl rfl ?_
  refine r_iastore 13 256 at_255 rfl B3 (by decide) (by decide) (by decide) (by simp) g3 ?_
  intro h' W1 B3
  replace O := O.wr W1 g3
  replace B1 := B1.other W1 ne13
  replace B2 := B2.other W1 ne23
  clear W1
  replace B3 : Arv Z _ b3 cA3 .int 14 own_tg (.int 0) := B3
  refine r_astore 258 at_256 rfl rfl ?_
  exact run_258 l Z a0 hw _ n0 O A B EA SZ EZ FZ T i0 i1 b1 b2 b3 cA1 cA2 cA3 B1 B2 B3
theorem own_fld0 {t : Term} {C f d : String} {a : Addr} {args : Array Value} {s : State} (e : t.eval args s none [] s = some (.ref a)) (h : (Jvm.Cond.eq (.field t C f d) .null).value args s none s [] = some true) : Fld s s.heap a C f d .null := by
  have h1 := null_v h
  rw [fld_at e] at h1
  exact Fld.start h1
theorem own_fldR {t u : Term} {C f d : String} {a b : Addr} {args : Array Value} {s : State} (e : t.eval args s none [] s = some (.ref a)) (e2 : u.eval args s none [] s = some (.ref b)) (h : (Jvm.Cond.eq (.field t C f d) u).value args s none s [] = some true) : Fld s s.heap a C f d (.ref b) := by
  obtain ⟨v, w, h1, h2, k1, k2⟩ := cmp_v (Or.inl h)
  cases e2.symm.trans h2
  obtain ⟨-, k3⟩ := k2
  obtain rfl := gotT (eq_R h1 h2 k3 rfl) h
  rw [fld_at e] at h1
  exact Fld.start h1
set_option maxRecDepth 65536 in
set_option maxHeartbeats 40000000 in
theorem comes_1 {Post : Tables → Env → Array Value → State → Outcome → State → Prop} (hpost : ∀ tb e args s v u, (limb_1_1.after args s (.returned v) u = true ∧ limb_1_2.after args s (.returned v) u = true ∧ True) → FrameEnd s (.returned v) u (Jvm.fieldLocs frame_1_writes args s ++ Jvm.arrayLocs frame_1_arrays args s ++ Jvm.staticLocs frame_1_statics s) 16 192 → Post tb e args s (.returned v) u) :
    ArmFor flags0 classFile x code maxLocals ret World_1 tables_1 room_1 Calls_1 rest_1 Pre_1 Post := by
  intro l hfl _ _ p e ha hc hk s m args below hf hA hF happ hP
  obtain ⟨hcalls, hrest, hpre⟩ := hP
  obtain ⟨-, -, -, hnamed, -, -, -, hat⟩ := (Spec.applies_iff hf).mp happ
  obtain ⟨hg, hn⟩ := and_e (Cond.before_iff.mp (show (Jvm.Cond.and given_1 narrow_1).before args s = true from hpre))
  obtain ⟨hcount, hg⟩ := and_e hg
  obtain ⟨g0, hg⟩ := and_e hg
  have g1 := hg
  obtain ⟨w0, w1, rfl⟩ : ∃ w0 w1 : Value, args = #[w0, w1] := by
    have hs : args.size = 2 := by simpa [Cond.value, given_1] using hcount
    obtain ⟨L⟩ := args
    match L, hs with
    | [w0, w1], _ => exact ⟨w0, w1, rfl⟩
  have hw := fun d (hd : d ∈ tables_1) => atoms_spec (ws := Jvm.Cond.code x code maxLocals ret :: tables_1) hat d (List.mem_cons_of_mem _ hd)
  obtain ⟨hsets, hown0⟩ := atoms_of _ (rest_1_c_eq ▸ (show rest_1_c.before _ s = true from hrest))
  have hfit : Fit s := fun {y c} hc i hi => by
    obtain ⟨ha, rfl⟩ := Array.getElem?_eq_some_iff.mp hc
    have q := List.all_eq_true.mp ((Array.all_eq_true_iff_forall_mem.mp hF) _ (Array.getElem_mem ha)) i (List.mem_range.mpr hi)
    simpa [Array.getElem?_eq_getElem hi] using q
  obtain ⟨i0, ea0⟩ := is_v g0
  obtain rfl : w0 = (.int i0) := Option.some.inj ea0
  obtain ⟨i1, ea1⟩ := is_v g1
  obtain rfl : w1 = (.int i1) := Option.some.inj ea1
  obtain ⟨c0, hn⟩ := and_e hn
  obtain ⟨c1, hn⟩ := and_e hn
  obtain ⟨c2, hn⟩ := and_e hn
  obtain ⟨c3, hn⟩ := and_e hn
  obtain ⟨c4, hn⟩ := and_e hn
  obtain ⟨c5, hn⟩ := and_e hn
  obtain ⟨c6, hn⟩ := and_e hn
  obtain ⟨c7, hn⟩ := and_e hn
  obtain ⟨c8, hn⟩ := and_e hn
  obtain ⟨c9, hn⟩ := and_e hn
  obtain ⟨c10, hn⟩ := and_e hn
  obtain ⟨c11, hn⟩ := and_e hn
  obtain ⟨c12, hn⟩ := and_e hn
  obtain ⟨c13, hn⟩ := and_e hn
  obtain ⟨c14, hn⟩ := and_e hn
  obtain ⟨c15, hn⟩ := and_e hn
  obtain ⟨c16, hn⟩ := and_e hn
  obtain ⟨c17, hn⟩ := and_e hn
  obtain ⟨c18, hn⟩ := and_e hn
  obtain ⟨c19, hn⟩ := and_e hn
  obtain ⟨c20, hn⟩ := and_e hn
  obtain ⟨c21, hn⟩ := and_e hn
  obtain ⟨c22, hn⟩ := and_e hn
  obtain ⟨c23, hn⟩ := and_e hn
  obtain ⟨c24, hn⟩ := and_e hn
  obtain ⟨c25, hn⟩ := and_e hn
  obtain ⟨c26, hn⟩ := and_e hn
  obtain ⟨c27, hn⟩ := and_e hn
  obtain ⟨c28, hn⟩ := and_e hn
  obtain ⟨c29, hn⟩ := and_e hn
  obtain ⟨c30, hn⟩ := and_e hn
  obtain ⟨c31, hn⟩ := and_e hn
  obtain ⟨c32, hn⟩ := and_e hn
  obtain ⟨c33, hn⟩ := and_e hn
  obtain ⟨c34, hn⟩ := and_e hn
  obtain ⟨c35, hn⟩ := and_e hn
  obtain ⟨c36, hn⟩ := and_e hn
  obtain ⟨c37, hn⟩ := and_e hn
  obtain ⟨c38, hn⟩ := and_e hn
  have c39 := hn
  obtain ⟨s0, es0, ss0, xs0⟩ := own_sta c0 (Or.inr ⟨(hw _ (List.mem_of_getElem? (i := 3) rfl)), (hw _ (List.mem_of_getElem? (i := 4) rfl))⟩)
  obtain ⟨s1, es1, ss1, xs1⟩ := own_sta c1 (Or.inr ⟨(hw _ (List.mem_of_getElem? (i := 3) rfl)), (hw _ (List.mem_of_getElem? (i := 7) rfl))⟩)
  obtain ⟨s2, es2, ss2, xs2⟩ := own_sta c2 (Or.inr ⟨(hw _ (List.mem_of_getElem? (i := 3) rfl)), (hw _ (List.mem_of_getElem? (i := 9) rfl))⟩)
  obtain ⟨s3, es3, ss3, xs3⟩ := own_sta c3 (Or.inr ⟨(hw _ (List.mem_of_getElem? (i := 3) rfl)), (hw _ (List.mem_of_getElem? (i := 11) rfl))⟩)
  obtain ⟨s4, es4, ss4, xs4⟩ := own_sta c4 (Or.inr ⟨(hw _ (List.mem_of_getElem? (i := 3) rfl)), (hw _ (List.mem_of_getElem? (i := 13) rfl))⟩)
  obtain ⟨s5, es5, ss5, xs5⟩ := own_sta c5 (Or.inr ⟨(hw _ (List.mem_of_getElem? (i := 3) rfl)), (hw _ (List.mem_of_getElem? (i := 15) rfl))⟩)
  obtain ⟨s6, es6, ss6, xs6⟩ := own_sta c6 (Or.inr ⟨(hw _ (List.mem_of_getElem? (i := 3) rfl)), (hw _ (List.mem_of_getElem? (i := 17) rfl))⟩)
  obtain ⟨s7, es7, ss7, xs7⟩ := own_sta c7 (Or.inr ⟨(hw _ (List.mem_of_getElem? (i := 3) rfl)), (hw _ (List.mem_of_getElem? (i := 19) rfl))⟩)
  obtain ⟨s8, es8, ss8, xs8⟩ := own_sta c8 (Or.inr ⟨(hw _ (List.mem_of_getElem? (i := 3) rfl)), (hw _ (List.mem_of_getElem? (i := 21) rfl))⟩)
  obtain ⟨s9, es9, ss9, xs9⟩ := own_sta c9 (Or.inr ⟨(hw _ (List.mem_of_getElem? (i := 3) rfl)), (hw _ (List.mem_of_getElem? (i := 23) rfl))⟩)
  obtain ⟨s10, es10, ss10, xs10⟩ := own_sta c10 (Or.inr ⟨(hw _ (List.mem_of_getElem? (i := 3) rfl)), (hw _ (List.mem_of_getElem? (i := 25) rfl))⟩)
  obtain ⟨s11, es11, ss11, xs11⟩ := own_sta c11 (Or.inr ⟨(hw _ (List.mem_of_getElem? (i := 3) rfl)), (hw _ (List.mem_of_getElem? (i := 27) rfl))⟩)
  obtain ⟨t0, et0, tt0, xt0⟩ := own_sta c12 (Or.inr ⟨(hw _ (List.mem_of_getElem? (i := 31) rfl)), (hw _ (List.mem_of_getElem? (i := 32) rfl))⟩)
  have f0 := own_fldR et0 es0 c26
  obtain ⟨t1, et1, tt1, xt1⟩ := own_sta c13 (Or.inr ⟨(hw _ (List.mem_of_getElem? (i := 31) rfl)), (hw _ (List.mem_of_getElem? (i := 35) rfl))⟩)
  have f1 := own_fld0 et1 c36
  obtain ⟨t2, et2, tt2, xt2⟩ := own_sta c14 (Or.inr ⟨(hw _ (List.mem_of_getElem? (i := 31) rfl)), (hw _ (List.mem_of_getElem? (i := 37) rfl))⟩)
  have f2 := own_fldR et2 es1 c37
  obtain ⟨t3, et3, tt3, xt3⟩ := own_sta c15 (Or.inr ⟨(hw _ (List.mem_of_getElem? (i := 31) rfl)), (hw _ (List.mem_of_getElem? (i := 39) rfl))⟩)
  have f3 := own_fldR et3 es2 c34
  obtain ⟨t4, et4, tt4, xt4⟩ := own_sta c16 (Or.inr ⟨(hw _ (List.mem_of_getElem? (i := 31) rfl)), (hw _ (List.mem_of_getElem? (i := 41) rfl))⟩)
  have f4 := own_fldR et4 es3 c29
  obtain ⟨t5, et5, tt5, xt5⟩ := own_sta c17 (Or.inr ⟨(hw _ (List.mem_of_getElem? (i := 31) rfl)), (hw _ (List.mem_of_getElem? (i := 43) rfl))⟩)
  have f5 := own_fldR et5 es4 c35
  obtain ⟨t6, et6, tt6, xt6⟩ := own_sta c18 (Or.inr ⟨(hw _ (List.mem_of_getElem? (i := 31) rfl)), (hw _ (List.mem_of_getElem? (i := 45) rfl))⟩)
  have f6 := own_fldR et6 es5 c31
  obtain ⟨t7, et7, tt7, xt7⟩ := own_sta c19 (Or.inr ⟨(hw _ (List.mem_of_getElem? (i := 31) rfl)), (hw _ (List.mem_of_getElem? (i := 47) rfl))⟩)
  have f7 := own_fldR et7 es6 c33
  obtain ⟨t8, et8, tt8, xt8⟩ := own_sta c20 (Or.inr ⟨(hw _ (List.mem_of_getElem? (i := 31) rfl)), (hw _ (List.mem_of_getElem? (i := 49) rfl))⟩)
  have f8 := own_fldR et8 es7 c28
  obtain ⟨t9, et9, tt9, xt9⟩ := own_sta c21 (Or.inr ⟨(hw _ (List.mem_of_getElem? (i := 31) rfl)), (hw _ (List.mem_of_getElem? (i := 51) rfl))⟩)
  have f9 := own_fld0 et9 c39
  obtain ⟨t10, et10, tt10, xt10⟩ := own_sta c22 (Or.inr ⟨(hw _ (List.mem_of_getElem? (i := 31) rfl)), (hw _ (List.mem_of_getElem? (i := 53) rfl))⟩)
  have f10 := own_fldR et10 es8 c27
  obtain ⟨t11, et11, tt11, xt11⟩ := own_sta c23 (Or.inr ⟨(hw _ (List.mem_of_getElem? (i := 31) rfl)), (hw _ (List.mem_of_getElem? (i := 55) rfl))⟩)
  have f11 := own_fldR et11 es9 c30
  obtain ⟨t12, et12, tt12, xt12⟩ := own_sta c24 (Or.inr ⟨(hw _ (List.mem_of_getElem? (i := 31) rfl)), (hw _ (List.mem_of_getElem? (i := 57) rfl))⟩)
  have f12 := own_fldR et12 es10 c32
  obtain ⟨t13, et13, tt13, xt13⟩ := own_sta c25 (Or.inr ⟨(hw _ (List.mem_of_getElem? (i := 31) rfl)), (hw _ (List.mem_of_getElem? (i := 59) rfl))⟩)
  have f13 := own_fldR et13 es11 c38
  obtain ⟨em, eE, SZ, EZ⟩ := own_sta (Cond.before_iff.mp (hsets _ (List.mem_of_getElem? (i := 2) rfl))) (Or.inl (hsets _ (List.mem_of_getElem? (i := 1) rfl)))
  have FZ := own_fld0 eE (Cond.before_iff.mp (hsets _ (List.mem_of_getElem? (i := 3) rfl)))
  let A : Nat → Addr := fun i => match i with | 0 => s0 | 1 => s1 | 2 => s2 | 3 => s3 | 4 => s4 | 5 => s5 | 6 => s6 | 7 => s7 | 8 => s8 | 9 => s9 | 10 => s10 | _ => s11
  let B : Nat → Addr := fun i => match i with | 0 => t0 | 1 => t1 | 2 => t2 | 3 => t3 | 4 => t4 | 5 => t5 | 6 => t6 | 7 => t7 | 8 => t8 | 9 => t9 | 10 => t10 | 11 => t11 | 12 => t12 | _ => t13
  have EA : ∀ i, i < 12 → Exa s s.heap (A i) "com/example/lintel/lintel/ledger/CaseStatus" := fun i hi => by
    match i, hi with
    | 0, _ => exact xs0
    | 1, _ => exact xs1
    | 2, _ => exact xs2
    | 3, _ => exact xs3
    | 4, _ => exact xs4
    | 5, _ => exact xs5
    | 6, _ => exact xs6
    | 7, _ => exact xs7
    | 8, _ => exact xs8
    | 9, _ => exact xs9
    | 10, _ => exact xs10
    | 11, _ => exact xs11
  have EB : ∀ i, i < 14 → Exa s s.heap (B i) "com/example/lintel/lintel/ledger/CaseAction" := fun i hi => by
    match i, hi with
    | 0, _ => exact xt0
    | 1, _ => exact xt1
    | 2, _ => exact xt2
    | 3, _ => exact xt3
    | 4, _ => exact xt4
    | 5, _ => exact xt5
    | 6, _ => exact xt6
    | 7, _ => exact xt7
    | 8, _ => exact xt8
    | 9, _ => exact xt9
    | 10, _ => exact xt10
    | 11, _ => exact xt11
    | 12, _ => exact xt12
    | 13, _ => exact xt13
  have T : ∀ i, i < 14 → Exa s s.heap (B i) "com/example/lintel/lintel/ledger/CaseAction" ∧ ((own_tgI i < 0 ∧ Fld s s.heap (B i) "com/example/lintel/lintel/ledger/CaseAction" "to" "Lcom/example/lintel/lintel/ledger/CaseStatus;" .null) ∨ ∃ r, r < 12 ∧ own_tgI i = Int32.ofNat r ∧ Fld s s.heap (B i) "com/example/lintel/lintel/ledger/CaseAction" "to" "Lcom/example/lintel/lintel/ledger/CaseStatus;" (.ref (A r))) := fun i hi => by
    match i, hi with
    | 0, _ => exact ⟨xt0, Or.inr ⟨0, by decide, rfl, f0⟩⟩
    | 1, _ => exact ⟨xt1, Or.inl ⟨by decide, f1⟩⟩
    | 2, _ => exact ⟨xt2, Or.inr ⟨1, by decide, rfl, f2⟩⟩
    | 3, _ => exact ⟨xt3, Or.inr ⟨2, by decide, rfl, f3⟩⟩
    | 4, _ => exact ⟨xt4, Or.inr ⟨3, by decide, rfl, f4⟩⟩
    | 5, _ => exact ⟨xt5, Or.inr ⟨4, by decide, rfl, f5⟩⟩
    | 6, _ => exact ⟨xt6, Or.inr ⟨5, by decide, rfl, f6⟩⟩
    | 7, _ => exact ⟨xt7, Or.inr ⟨6, by decide, rfl, f7⟩⟩
    | 8, _ => exact ⟨xt8, Or.inr ⟨7, by decide, rfl, f8⟩⟩
    | 9, _ => exact ⟨xt9, Or.inl ⟨by decide, f9⟩⟩
    | 10, _ => exact ⟨xt10, Or.inr ⟨8, by decide, rfl, f10⟩⟩
    | 11, _ => exact ⟨xt11, Or.inr ⟨9, by decide, rfl, f11⟩⟩
    | 12, _ => exact ⟨xt12, Or.inr ⟨10, by decide, rfl, f12⟩⟩
    | 13, _ => exact ⟨xt13, Or.inr ⟨11, by decide, rfl, f13⟩⟩
  obtain ⟨nn, o, h1, h2, h3, _, L, rfl, ⟨⟨rfl, -⟩, N⟩, hq⟩ := rm_law l s _ hw s.heap s.heap.size (Old.start s) A B EA EB ⟨ss0, ss1, ss2, ss3, ss4, ss5, ss6, ss7, ss8, ss9, ss10, ss11⟩ ⟨tt0, tt1, tt2, tt3, tt4, tt5, tt6, tt7, tt8, tt9, tt10, tt11, tt12, tt13⟩ em SZ EZ FZ T i0 i1 p e ha hc hk s m _ below hf ((Spec.applies_iff_loose hf).mp happ).1 ⟨rfl, State.Warmed39.refl s, rfl⟩ trivial
  refine ⟨nn, _, h1, h2, h3, hpost _ _ _ _ _ _ ⟨Cond.after_iff.mpr rfl, Cond.after_iff.mpr (eq_i res_at (Term.int_eval (1)) rfl), trivial⟩ ⟨hq.1, hq.2.1, (hq.2.2.sift fun y hy => Or.inr (N y hy)).mono (by decide) (by decide)⟩⟩
theorem main_1_1 : Claimed_1_1 := comes_1 fun _ _ _ _ _ _ h hF => ⟨h.1, hF⟩
theorem main_1_2 : Claimed_1_2 := comes_1 fun _ _ _ _ _ _ h hF => ⟨h.2.1, hF⟩
end Jvm.Pilot.@@N@@
namespace Jvm.Pilot.@@N@@
open Jvm Jvm.ClassFile Sem Op Lib Jvm.Free Jvm.Stand Jvm.Pilot.@@N@@.Jvm.D
/-! MADE BY PROGRAM (witnessworld.py) out of the Statement's table words and the real class files: 16 classes; the members and pool entries that the words name. The judged class is class 1, her method 1. -/
namespace start1
open Jvm.ClassFile
def u (s : String) : CpInfo := .utf8 (stringToUtf16 s)
/-- a pool by its gaps: so many unusable entries, then the entry; so many at the end -/
def gap : Nat → List CpInfo → List CpInfo
  | 0, r => r
  | n + 1, r => .unusable :: gap n r
def poolList (es : List (Nat × CpInfo)) (last : Nat) : List CpInfo := es.foldr (fun e r => gap e.1 (e.2 :: r)) (gap last [])
def pool (es : List (Nat × CpInfo)) (last : Nat) : Array CpInfo := ⟨poolList es last⟩
def fileOf (pool : Array CpInfo) (this : Nat) (attrs : Array Attribute := #[]) (ms : Array MethodInfo := #[]) (fl : Nat := 33) (sup : Nat := 0) (ifs : Array Nat := #[]) (fds : Array FieldInfo := #[]) : ClassFile where
  minorVersion := 0
  majorVersion := 65
  constantPool := pool
  accessFlags := fl
  thisClass := this
  superClass := sup
  interfaces := ifs
  fields := fds
  methods := ms
  attributes := attrs
def plain (name : String) (sup : Option ClassId) : Class where
  name := name
  kind := .ordinary
  loader := none
  accessFlags := 33
  super := sup
  interfaces := #[]
  cf := none
  fields := #[]
  methods := #[]
  instanceTypes := #[]
  staticTypes := #[]
  resolved := #[]
  callSites := []
  init := .initialized
  statics := none
  mirror := none

def pool0 : Array CpInfo := pool [(5, u "<init>"), (0, u "()V"), (1, .class_ 10), (1, u "java/lang/Object")] 113

def k0c0 : Code := { maxStack := 0, maxLocals := 1, code := object_method_1_code, exceptionTable := #[], attributes := #[] }
def k0m0 : Method := { name := "<init>", desc := "()V", sig := { parameters := [], returnType := none }, accessFlags := 1, code := some k0c0 }
/-- java/lang/Object -/
def k0 : Class := { plain "java/lang/Object" none with
  accessFlags := 33
  interfaces := #[]
  cf := some (fileOf pool0 8 #[] #[{ accessFlags := 1, nameIndex := 5, descriptorIndex := 6, attributes := #[] }] 33 0 #[] #[])
  fields := #[]
  methods := #[k0m0]
  instanceTypes := #[]
  staticTypes := #[]
  resolved := Array.replicate 124 none
  statics := none }

def pool1 : Array CpInfo := pool [(2, .class_ 4), (1, u "java/lang/Object"), (0, u "<init>"), (0, u "()V"), (0, .class_ 8), (0, u "com/example/lintel/lintel/ledger/CaseStatus"), (0, .fieldref 7 10), (0, .nameAndType 11 12), (0, u "IN_PROCESS"), (0, u "Lcom/example/lintel/lintel/ledger/CaseStatus;"), (0, .fieldref 7 14), (0, .nameAndType 15 12), (0, u "RESERVED"), (0, .fieldref 7 17), (0, .nameAndType 18 12), (0, u "FILE_RECEIVED"), (0, .fieldref 7 20), (0, .nameAndType 21 12), (0, u "PENDING"), (0, .fieldref 7 23), (0, .nameAndType 24 12), (0, u "APPROVED"), (0, .fieldref 7 26), (0, .nameAndType 27 12), (0, u "DENIED"), (0, .fieldref 7 29), (0, .nameAndType 30 12), (0, u "SERVICER_APPROVED"), (0, .fieldref 7 32), (0, .nameAndType 33 12), (0, u "SERVICING"), (0, .fieldref 7 35), (0, .nameAndType 36 12), (0, u "COMPLETE"), (0, .fieldref 7 38), (0, .nameAndType 39 12), (0, u "CLOSED_ON_SALE"), (0, .fieldref 7 41), (0, .nameAndType 42 12), (0, u "WITHDRAWN"), (0, .fieldref 7 44), (0, .nameAndType 45 12), (0, u "NOT_ELIGIBLE"), (0, .class_ 47), (0, u "com/example/lintel/lintel/ledger/CaseAction"), (0, .fieldref 46 49), (0, .nameAndType 50 51), (0, u "OPEN"), (0, u "Lcom/example/lintel/lintel/ledger/CaseAction;"), (0, .fieldref 46 53), (0, .nameAndType 54 51), (0, u "REPLACE_HOUSEHOLD"), (0, .fieldref 46 56), (0, .nameAndType 57 51), (0, u "RESERVE"), (0, .fieldref 46 59), (0, .nameAndType 60 51), (0, u "SUBMIT_FILE"), (0, .fieldref 46 62), (0, .nameAndType 63 51), (0, u "PEND"), (0, .fieldref 46 65), (0, .nameAndType 66 51), (0, u "APPROVE"), (0, .fieldref 46 68), (0, .nameAndType 69 51), (0, u "DENY"), (0, .fieldref 46 71), (0, .nameAndType 72 51), (0, u "SERVICER_APPROVE"), (0, .fieldref 46 74), (0, .nameAndType 75 51), (0, u "CLOSE"), (0, .fieldref 46 77), (0, .nameAndType 78 51), (0, u "PAY"), (0, .fieldref 46 80), (0, .nameAndType 36 51), (0, .fieldref 46 82), (0, .nameAndType 83 51), (0, u "SALE"), (0, .fieldref 46 85), (0, .nameAndType 86 51), (0, u "WITHDRAW"), (0, .fieldref 46 88), (0, .nameAndType 45 51), (0, .integer 2147483647), (0, .methodref 46 91), (0, .nameAndType 92 93), (0, u "to"), (0, u "(Lcom/example/lintel/lintel/ledger/CaseStatus;)Lcom/example/lintel/lintel/ledger/CaseStatus;"), (0, .class_ 95), (0, u "com/example/lintel/lintel/ledger/CaseActionToPinLaw"), (2, u "law"), (0, u "(II)Z")] 9

def k1m0 : Method := { name := "<init>", desc := "()V", sig := { parameters := [], returnType := none }, accessFlags := 2, code := none }
def k1c1 : Code := { maxStack := 4, maxLocals := 11, code := code, exceptionTable := #[], attributes := #[] }
def k1m1 : Method := { name := "law", desc := "(II)Z", sig := { parameters := [.int, .int], returnType := some .boolean }, accessFlags := 9, code := some k1c1 }
/-- com/example/lintel/lintel/ledger/CaseActionToPinLaw -/
def k1 : Class := { plain "com/example/lintel/lintel/ledger/CaseActionToPinLaw" (some 0) with
  accessFlags := 49
  interfaces := #[]
  cf := some (fileOf pool1 94 #[] #[{ accessFlags := 2, nameIndex := 5, descriptorIndex := 6, attributes := #[] }, { accessFlags := 9, nameIndex := 98, descriptorIndex := 99, attributes := #[] }] 49 2 #[] #[])
  fields := #[]
  methods := #[k1m0, k1m1]
  instanceTypes := #[]
  staticTypes := #[]
  resolved := Array.replicate 109 none
  statics := none }

def pool2 : Array CpInfo := pool [(1, .class_ 2), (0, u "java/lang/constant/Constable"), (0, .class_ 4), (0, u "java/lang/Object")] 6

/-- java/lang/constant/Constable -/
def k2 : Class := { plain "java/lang/constant/Constable" (some 0) with
  accessFlags := 1537
  interfaces := #[]
  cf := some (fileOf pool2 1 #[] #[] 1537 3 #[] #[])
  fields := #[]
  methods := #[]
  instanceTypes := #[]
  staticTypes := #[]
  resolved := Array.replicate 11 none
  statics := none }

def pool3 : Array CpInfo := pool [(1, .class_ 2), (0, u "java/lang/Comparable"), (0, .class_ 4), (0, u "java/lang/Object")] 7

/-- java/lang/Comparable -/
def k3 : Class := { plain "java/lang/Comparable" (some 0) with
  accessFlags := 1537
  interfaces := #[]
  cf := some (fileOf pool3 1 #[] #[] 1537 3 #[] #[])
  fields := #[]
  methods := #[]
  instanceTypes := #[]
  staticTypes := #[]
  resolved := Array.replicate 12 none
  statics := none }

def pool4 : Array CpInfo := pool [(1, .class_ 2), (0, u "java/io/Serializable"), (0, .class_ 4), (0, u "java/lang/Object")] 2

/-- java/io/Serializable -/
def k4 : Class := { plain "java/io/Serializable" (some 0) with
  accessFlags := 1537
  interfaces := #[]
  cf := some (fileOf pool4 1 #[] #[] 1537 3 #[] #[])
  fields := #[]
  methods := #[]
  instanceTypes := #[]
  staticTypes := #[]
  resolved := Array.replicate 7 none
  statics := none }

def pool5 : Array CpInfo := pool [(2, .class_ 4), (1, u "java/lang/Enum"), (0, u "name"), (0, u "Ljava/lang/String;"), (2, u "ordinal"), (0, u "I"), (1, .class_ 14), (1, u "java/lang/Object"), (4, u "hash"), (86, .class_ 108), (1, u "java/lang/Enum$EnumDesc"), (2, .class_ 112), (0, u "java/lang/constant/Constable"), (0, .class_ 114), (0, u "java/lang/Comparable"), (0, .class_ 116), (0, u "java/io/Serializable")] 87

/-- java/lang/Enum -/
def k5 : Class := { plain "java/lang/Enum" (some 0) with
  accessFlags := 1057
  interfaces := #[2, 3, 4]
  cf := some (fileOf pool5 2 #[.nestMembers #[106]] #[] 1057 12 #[111, 113, 115] #[{ accessFlags := 18, nameIndex := 5, descriptorIndex := 6, attributes := #[] }, { accessFlags := 18, nameIndex := 9, descriptorIndex := 10, attributes := #[] }, { accessFlags := 2, nameIndex := 19, descriptorIndex := 10, attributes := #[] }])
  fields := #[{ name := "name", type := (.object "java/lang/String"), accessFlags := 18, slot := 0, constantValue := 0 }, { name := "ordinal", type := .int, accessFlags := 18, slot := 1, constantValue := 0 }, { name := "hash", type := .int, accessFlags := 2, slot := 2, constantValue := 0 }]
  methods := #[]
  instanceTypes := #[(.object "java/lang/String"), .int, .int]
  staticTypes := #[]
  resolved := Array.replicate 204 none
  statics := none }

def pool6 : Array CpInfo := pool [(1, .class_ 2), (0, u "com/example/lintel/lintel/ledger/CaseStatus"), (2, u "IN_PROCESS"), (0, u "Lcom/example/lintel/lintel/ledger/CaseStatus;"), (2, u "RESERVED"), (2, u "FILE_RECEIVED"), (2, u "PENDING"), (2, u "APPROVED"), (2, u "DENIED"), (2, u "SERVICER_APPROVED"), (2, u "SERVICING"), (2, u "COMPLETE"), (2, u "CLOSED_ON_SALE"), (2, u "WITHDRAWN"), (2, u "NOT_ELIGIBLE"), (2, u "$VALUES"), (0, u "[Lcom/example/lintel/lintel/ledger/CaseStatus;"), (6, .class_ 52), (1, u "java/lang/Enum"), (8, u "householdLocked"), (0, u "Z")] 32

/-- com/example/lintel/lintel/ledger/CaseStatus -/
def k6 : Class := { plain "com/example/lintel/lintel/ledger/CaseStatus" (some 5) with
  accessFlags := 16433
  interfaces := #[]
  cf := some (fileOf pool6 1 #[] #[] 16433 50 #[] #[{ accessFlags := 16409, nameIndex := 5, descriptorIndex := 6, attributes := #[] }, { accessFlags := 16409, nameIndex := 9, descriptorIndex := 6, attributes := #[] }, { accessFlags := 16409, nameIndex := 12, descriptorIndex := 6, attributes := #[] }, { accessFlags := 16409, nameIndex := 15, descriptorIndex := 6, attributes := #[] }, { accessFlags := 16409, nameIndex := 18, descriptorIndex := 6, attributes := #[] }, { accessFlags := 16409, nameIndex := 21, descriptorIndex := 6, attributes := #[] }, { accessFlags := 16409, nameIndex := 24, descriptorIndex := 6, attributes := #[] }, { accessFlags := 16409, nameIndex := 27, descriptorIndex := 6, attributes := #[] }, { accessFlags := 16409, nameIndex := 30, descriptorIndex := 6, attributes := #[] }, { accessFlags := 16409, nameIndex := 33, descriptorIndex := 6, attributes := #[] }, { accessFlags := 16409, nameIndex := 36, descriptorIndex := 6, attributes := #[] }, { accessFlags := 16409, nameIndex := 39, descriptorIndex := 6, attributes := #[] }, { accessFlags := 18, nameIndex := 61, descriptorIndex := 62, attributes := #[] }, { accessFlags := 4122, nameIndex := 42, descriptorIndex := 43, attributes := #[] }])
  fields := #[{ name := "IN_PROCESS", type := (.object "com/example/lintel/lintel/ledger/CaseStatus"), accessFlags := 16409, slot := 0, constantValue := 0 }, { name := "RESERVED", type := (.object "com/example/lintel/lintel/ledger/CaseStatus"), accessFlags := 16409, slot := 1, constantValue := 0 }, { name := "FILE_RECEIVED", type := (.object "com/example/lintel/lintel/ledger/CaseStatus"), accessFlags := 16409, slot := 2, constantValue := 0 }, { name := "PENDING", type := (.object "com/example/lintel/lintel/ledger/CaseStatus"), accessFlags := 16409, slot := 3, constantValue := 0 }, { name := "APPROVED", type := (.object "com/example/lintel/lintel/ledger/CaseStatus"), accessFlags := 16409, slot := 4, constantValue := 0 }, { name := "DENIED", type := (.object "com/example/lintel/lintel/ledger/CaseStatus"), accessFlags := 16409, slot := 5, constantValue := 0 }, { name := "SERVICER_APPROVED", type := (.object "com/example/lintel/lintel/ledger/CaseStatus"), accessFlags := 16409, slot := 6, constantValue := 0 }, { name := "SERVICING", type := (.object "com/example/lintel/lintel/ledger/CaseStatus"), accessFlags := 16409, slot := 7, constantValue := 0 }, { name := "COMPLETE", type := (.object "com/example/lintel/lintel/ledger/CaseStatus"), accessFlags := 16409, slot := 8, constantValue := 0 }, { name := "CLOSED_ON_SALE", type := (.object "com/example/lintel/lintel/ledger/CaseStatus"), accessFlags := 16409, slot := 9, constantValue := 0 }, { name := "WITHDRAWN", type := (.object "com/example/lintel/lintel/ledger/CaseStatus"), accessFlags := 16409, slot := 10, constantValue := 0 }, { name := "NOT_ELIGIBLE", type := (.object "com/example/lintel/lintel/ledger/CaseStatus"), accessFlags := 16409, slot := 11, constantValue := 0 }, { name := "householdLocked", type := .boolean, accessFlags := 18, slot := 3, constantValue := 0 }, { name := "$VALUES", type := (.array (.object "com/example/lintel/lintel/ledger/CaseStatus")), accessFlags := 4122, slot := 12, constantValue := 0 }]
  methods := #[]
  instanceTypes := #[(.object "java/lang/String"), .int, .int, .boolean]
  staticTypes := #[(.object "com/example/lintel/lintel/ledger/CaseStatus"), (.object "com/example/lintel/lintel/ledger/CaseStatus"), (.object "com/example/lintel/lintel/ledger/CaseStatus"), (.object "com/example/lintel/lintel/ledger/CaseStatus"), (.object "com/example/lintel/lintel/ledger/CaseStatus"), (.object "com/example/lintel/lintel/ledger/CaseStatus"), (.object "com/example/lintel/lintel/ledger/CaseStatus"), (.object "com/example/lintel/lintel/ledger/CaseStatus"), (.object "com/example/lintel/lintel/ledger/CaseStatus"), (.object "com/example/lintel/lintel/ledger/CaseStatus"), (.object "com/example/lintel/lintel/ledger/CaseStatus"), (.object "com/example/lintel/lintel/ledger/CaseStatus"), (.array (.object "com/example/lintel/lintel/ledger/CaseStatus"))]
  resolved := Array.replicate 95 none
  statics := some 0 }

def pool7 : Array CpInfo := pool [(1, .class_ 2), (0, u "com/example/lintel/lintel/ledger/CaseAction"), (2, u "OPEN"), (0, u "Lcom/example/lintel/lintel/ledger/CaseAction;"), (2, u "REPLACE_HOUSEHOLD"), (2, u "RESERVE"), (2, u "SUBMIT_FILE"), (2, u "PEND"), (2, u "APPROVE"), (2, u "DENY"), (2, u "SERVICER_APPROVE"), (2, u "CLOSE"), (2, u "PAY"), (2, u "COMPLETE"), (2, u "SALE"), (2, u "WITHDRAW"), (2, u "NOT_ELIGIBLE"), (2, u "$VALUES"), (0, u "[Lcom/example/lintel/lintel/ledger/CaseAction;"), (6, .class_ 58), (1, u "java/lang/Enum"), (8, u "from"), (0, u "Ljava/util/Set;"), (0, .fieldref 1 70), (0, .nameAndType 71 72), (0, u "to"), (0, u "Lcom/example/lintel/lintel/ledger/CaseStatus;"), (6, .methodref 80 81), (0, .class_ 82), (0, .nameAndType 83 84), (0, u "java/util/Optional"), (0, u "ofNullable"), (0, u "(Ljava/lang/Object;)Ljava/util/Optional;"), (0, .methodref 80 86), (0, .nameAndType 87 88), (0, u "orElse"), (0, u "(Ljava/lang/Object;)Ljava/lang/Object;"), (0, .class_ 90), (0, u "com/example/lintel/lintel/ledger/CaseStatus"), (78, u "(Lcom/example/lintel/lintel/ledger/CaseStatus;)Lcom/example/lintel/lintel/ledger/CaseStatus;")] 5

def k7c0 : Code := { maxStack := 2, maxLocals := 2, code := prog_8_method_5_code, exceptionTable := #[], attributes := #[] }
def k7m0 : Method := { name := "to", desc := "(Lcom/example/lintel/lintel/ledger/CaseStatus;)Lcom/example/lintel/lintel/ledger/CaseStatus;", sig := { parameters := [(.object "com/example/lintel/lintel/ledger/CaseStatus")], returnType := some (.object "com/example/lintel/lintel/ledger/CaseStatus") }, accessFlags := 1, code := some k7c0 }
/-- com/example/lintel/lintel/ledger/CaseAction -/
def k7 : Class := { plain "com/example/lintel/lintel/ledger/CaseAction" (some 5) with
  accessFlags := 16433
  interfaces := #[]
  cf := some (fileOf pool7 1 #[] #[{ accessFlags := 1, nameIndex := 71, descriptorIndex := 169, attributes := #[] }] 16433 56 #[] #[{ accessFlags := 16409, nameIndex := 5, descriptorIndex := 6, attributes := #[] }, { accessFlags := 16409, nameIndex := 9, descriptorIndex := 6, attributes := #[] }, { accessFlags := 16409, nameIndex := 12, descriptorIndex := 6, attributes := #[] }, { accessFlags := 16409, nameIndex := 15, descriptorIndex := 6, attributes := #[] }, { accessFlags := 16409, nameIndex := 18, descriptorIndex := 6, attributes := #[] }, { accessFlags := 16409, nameIndex := 21, descriptorIndex := 6, attributes := #[] }, { accessFlags := 16409, nameIndex := 24, descriptorIndex := 6, attributes := #[] }, { accessFlags := 16409, nameIndex := 27, descriptorIndex := 6, attributes := #[] }, { accessFlags := 16409, nameIndex := 30, descriptorIndex := 6, attributes := #[] }, { accessFlags := 16409, nameIndex := 33, descriptorIndex := 6, attributes := #[] }, { accessFlags := 16409, nameIndex := 36, descriptorIndex := 6, attributes := #[] }, { accessFlags := 16409, nameIndex := 39, descriptorIndex := 6, attributes := #[] }, { accessFlags := 16409, nameIndex := 42, descriptorIndex := 6, attributes := #[] }, { accessFlags := 16409, nameIndex := 45, descriptorIndex := 6, attributes := #[] }, { accessFlags := 18, nameIndex := 67, descriptorIndex := 68, attributes := #[] }, { accessFlags := 18, nameIndex := 71, descriptorIndex := 72, attributes := #[] }, { accessFlags := 4122, nameIndex := 48, descriptorIndex := 49, attributes := #[] }])
  fields := #[{ name := "OPEN", type := (.object "com/example/lintel/lintel/ledger/CaseAction"), accessFlags := 16409, slot := 0, constantValue := 0 }, { name := "REPLACE_HOUSEHOLD", type := (.object "com/example/lintel/lintel/ledger/CaseAction"), accessFlags := 16409, slot := 1, constantValue := 0 }, { name := "RESERVE", type := (.object "com/example/lintel/lintel/ledger/CaseAction"), accessFlags := 16409, slot := 2, constantValue := 0 }, { name := "SUBMIT_FILE", type := (.object "com/example/lintel/lintel/ledger/CaseAction"), accessFlags := 16409, slot := 3, constantValue := 0 }, { name := "PEND", type := (.object "com/example/lintel/lintel/ledger/CaseAction"), accessFlags := 16409, slot := 4, constantValue := 0 }, { name := "APPROVE", type := (.object "com/example/lintel/lintel/ledger/CaseAction"), accessFlags := 16409, slot := 5, constantValue := 0 }, { name := "DENY", type := (.object "com/example/lintel/lintel/ledger/CaseAction"), accessFlags := 16409, slot := 6, constantValue := 0 }, { name := "SERVICER_APPROVE", type := (.object "com/example/lintel/lintel/ledger/CaseAction"), accessFlags := 16409, slot := 7, constantValue := 0 }, { name := "CLOSE", type := (.object "com/example/lintel/lintel/ledger/CaseAction"), accessFlags := 16409, slot := 8, constantValue := 0 }, { name := "PAY", type := (.object "com/example/lintel/lintel/ledger/CaseAction"), accessFlags := 16409, slot := 9, constantValue := 0 }, { name := "COMPLETE", type := (.object "com/example/lintel/lintel/ledger/CaseAction"), accessFlags := 16409, slot := 10, constantValue := 0 }, { name := "SALE", type := (.object "com/example/lintel/lintel/ledger/CaseAction"), accessFlags := 16409, slot := 11, constantValue := 0 }, { name := "WITHDRAW", type := (.object "com/example/lintel/lintel/ledger/CaseAction"), accessFlags := 16409, slot := 12, constantValue := 0 }, { name := "NOT_ELIGIBLE", type := (.object "com/example/lintel/lintel/ledger/CaseAction"), accessFlags := 16409, slot := 13, constantValue := 0 }, { name := "from", type := (.object "java/util/Set"), accessFlags := 18, slot := 3, constantValue := 0 }, { name := "to", type := (.object "com/example/lintel/lintel/ledger/CaseStatus"), accessFlags := 18, slot := 4, constantValue := 0 }, { name := "$VALUES", type := (.array (.object "com/example/lintel/lintel/ledger/CaseAction")), accessFlags := 4122, slot := 14, constantValue := 0 }]
  methods := #[k7m0]
  instanceTypes := #[(.object "java/lang/String"), .int, .int, (.object "java/util/Set"), (.object "com/example/lintel/lintel/ledger/CaseStatus")]
  staticTypes := #[(.object "com/example/lintel/lintel/ledger/CaseAction"), (.object "com/example/lintel/lintel/ledger/CaseAction"), (.object "com/example/lintel/lintel/ledger/CaseAction"), (.object "com/example/lintel/lintel/ledger/CaseAction"), (.object "com/example/lintel/lintel/ledger/CaseAction"), (.object "com/example/lintel/lintel/ledger/CaseAction"), (.object "com/example/lintel/lintel/ledger/CaseAction"), (.object "com/example/lintel/lintel/ledger/CaseAction"), (.object "com/example/lintel/lintel/ledger/CaseAction"), (.object "com/example/lintel/lintel/ledger/CaseAction"), (.object "com/example/lintel/lintel/ledger/CaseAction"), (.object "com/example/lintel/lintel/ledger/CaseAction"), (.object "com/example/lintel/lintel/ledger/CaseAction"), (.object "com/example/lintel/lintel/ledger/CaseAction"), (.array (.object "com/example/lintel/lintel/ledger/CaseAction"))]
  resolved := Array.replicate 175 none
  statics := some 1 }

def pool8 : Array CpInfo := pool [(1, .fieldref 2 3), (0, .class_ 4), (0, .nameAndType 5 6), (0, u "java/util/Optional"), (0, u "EMPTY"), (0, u "Ljava/util/Optional;"), (0, .methodref 8 9), (0, .class_ 10), (0, .nameAndType 11 12), (0, u "java/lang/Object"), (0, u "<init>"), (0, u "()V"), (0, .fieldref 2 14), (0, .nameAndType 15 16), (0, u "value"), (0, u "Ljava/lang/Object;"), (5, u "(Ljava/lang/Object;)Ljava/lang/Object;"), (0, .methodref 2 24), (0, .nameAndType 11 25), (0, u "(Ljava/lang/Object;)V"), (38, u "ofNullable"), (0, u "(Ljava/lang/Object;)Ljava/util/Optional;"), (99, u "orElse")] 21

def k8c0 : Code := { maxStack := 2, maxLocals := 2, code := jdk_32_method_2_code, exceptionTable := #[], attributes := #[] }
def k8m0 : Method := { name := "<init>", desc := "(Ljava/lang/Object;)V", sig := { parameters := [(.object "java/lang/Object")], returnType := none }, accessFlags := 2, code := some k8c0 }
def k8c1 : Code := { maxStack := 3, maxLocals := 1, code := jdk_32_method_4_code, exceptionTable := #[], attributes := #[] }
def k8m1 : Method := { name := "ofNullable", desc := "(Ljava/lang/Object;)Ljava/util/Optional;", sig := { parameters := [(.object "java/lang/Object")], returnType := some (.object "java/util/Optional") }, accessFlags := 9, code := some k8c1 }
def k8c2 : Code := { maxStack := 1, maxLocals := 2, code := jdk_32_method_15_code, exceptionTable := #[], attributes := #[] }
def k8m2 : Method := { name := "orElse", desc := "(Ljava/lang/Object;)Ljava/lang/Object;", sig := { parameters := [(.object "java/lang/Object")], returnType := some (.object "java/lang/Object") }, accessFlags := 1, code := some k8c2 }
/-- java/util/Optional -/
def k8 : Class := { plain "java/util/Optional" (some 0) with
  accessFlags := 49
  interfaces := #[]
  cf := some (fileOf pool8 2 #[] #[{ accessFlags := 2, nameIndex := 11, descriptorIndex := 25, attributes := #[] }, { accessFlags := 9, nameIndex := 64, descriptorIndex := 65, attributes := #[] }, { accessFlags := 1, nameIndex := 165, descriptorIndex := 22, attributes := #[] }] 49 8 #[] #[{ accessFlags := 26, nameIndex := 5, descriptorIndex := 6, attributes := #[] }, { accessFlags := 18, nameIndex := 15, descriptorIndex := 16, attributes := #[] }])
  fields := #[{ name := "EMPTY", type := (.object "java/util/Optional"), accessFlags := 26, slot := 0, constantValue := 0 }, { name := "value", type := (.object "java/lang/Object"), accessFlags := 18, slot := 0, constantValue := 0 }]
  methods := #[k8m0, k8m1, k8m2]
  instanceTypes := #[(.object "java/lang/Object")]
  staticTypes := #[(.object "java/util/Optional")]
  resolved := Array.replicate 187 none
  statics := some 2 }

def pool9 : Array CpInfo := pool [(1, u "java/lang/Cloneable"), (0, .class_ 1), (0, u "java/lang/Object"), (0, .class_ 3)] 3

/-- java/lang/Cloneable -/
def k9 : Class := { plain "java/lang/Cloneable" (some 0) with
  accessFlags := 1537
  interfaces := #[]
  cf := some (fileOf pool9 2 #[] #[] 1537 4 #[] #[])
  fields := #[]
  methods := #[]
  instanceTypes := #[]
  staticTypes := #[]
  resolved := Array.replicate 8 none
  statics := none }

/-- the primitive byte -/
def k10 : Class := { plain "byte" none with kind := .primitive 'B', accessFlags := 0x411 }
/-- [B -/
def k11 : Class := { plain "[B" (some 0) with kind := .array 10 .byte, interfaces := #[9, 4], accessFlags := 1041 }

/-- the primitive int -/
def k12 : Class := { plain "int" none with kind := .primitive 'I', accessFlags := 0x411 }
/-- [I -/
def k13 : Class := { plain "[I" (some 0) with kind := .array 12 .int, interfaces := #[9, 4], accessFlags := 1041 }

/-- [Lcom/example/lintel/lintel/ledger/CaseAction; -/
def k14 : Class := { plain "[Lcom/example/lintel/lintel/ledger/CaseAction;" (some 0) with kind := .array 7 (.object "com/example/lintel/lintel/ledger/CaseAction"), interfaces := #[9, 4], accessFlags := 1041 }

/-- [Lcom/example/lintel/lintel/ledger/CaseStatus; -/
def k15 : Class := { plain "[Lcom/example/lintel/lintel/ledger/CaseStatus;" (some 0) with kind := .array 6 (.object "com/example/lintel/lintel/ledger/CaseStatus"), interfaces := #[9, 4], accessFlags := 1041 }

def heap : Heap := #[{ cls := 6, slots := #[.ref 3, .ref 4, .ref 5, .ref 6, .ref 7, .ref 8, .ref 9, .ref 10, .ref 11, .ref 12, .ref 13, .ref 14, .null], vm := .statics 6 },
  { cls := 7, slots := #[.ref 15, .ref 16, .ref 17, .ref 18, .ref 19, .ref 20, .ref 21, .ref 22, .ref 23, .ref 24, .ref 25, .ref 26, .ref 27, .ref 28, .null], vm := .statics 7 },
  { cls := 8, slots := #[.ref 29], vm := .statics 8 },
  { cls := 6, slots := #[.null, .int 0, .int 0, .int 0], vm := .none },
  { cls := 6, slots := #[.null, .int 1, .int 0, .int 0], vm := .none },
  { cls := 6, slots := #[.null, .int 2, .int 0, .int 0], vm := .none },
  { cls := 6, slots := #[.null, .int 3, .int 0, .int 0], vm := .none },
  { cls := 6, slots := #[.null, .int 4, .int 0, .int 0], vm := .none },
  { cls := 6, slots := #[.null, .int 5, .int 0, .int 0], vm := .none },
  { cls := 6, slots := #[.null, .int 6, .int 0, .int 0], vm := .none },
  { cls := 6, slots := #[.null, .int 7, .int 0, .int 0], vm := .none },
  { cls := 6, slots := #[.null, .int 8, .int 0, .int 0], vm := .none },
  { cls := 6, slots := #[.null, .int 9, .int 0, .int 0], vm := .none },
  { cls := 6, slots := #[.null, .int 10, .int 0, .int 0], vm := .none },
  { cls := 6, slots := #[.null, .int 11, .int 0, .int 0], vm := .none },
  { cls := 7, slots := #[.null, .int 0, .int 0, .null, .ref 3], vm := .none },
  { cls := 7, slots := #[.null, .int 1, .int 0, .null, .null], vm := .none },
  { cls := 7, slots := #[.null, .int 2, .int 0, .null, .ref 4], vm := .none },
  { cls := 7, slots := #[.null, .int 3, .int 0, .null, .ref 5], vm := .none },
  { cls := 7, slots := #[.null, .int 4, .int 0, .null, .ref 6], vm := .none },
  { cls := 7, slots := #[.null, .int 5, .int 0, .null, .ref 7], vm := .none },
  { cls := 7, slots := #[.null, .int 6, .int 0, .null, .ref 8], vm := .none },
  { cls := 7, slots := #[.null, .int 7, .int 0, .null, .ref 9], vm := .none },
  { cls := 7, slots := #[.null, .int 8, .int 0, .null, .ref 10], vm := .none },
  { cls := 7, slots := #[.null, .int 9, .int 0, .null, .null], vm := .none },
  { cls := 7, slots := #[.null, .int 10, .int 0, .null, .ref 11], vm := .none },
  { cls := 7, slots := #[.null, .int 11, .int 0, .null, .ref 12], vm := .none },
  { cls := 7, slots := #[.null, .int 12, .int 0, .null, .ref 13], vm := .none },
  { cls := 7, slots := #[.null, .int 13, .int 0, .null, .ref 14], vm := .none },
  { cls := 8, slots := #[.null], vm := .none }]
def classes : Array Class := #[k0, k1, k2, k3, k4, k5, k6, k7, k8, k9, k10, k11, k12, k13, k14, k15]
def interned : List (Array UInt16 × Addr) := []
def slotsUsed : Nat := 148
def theMethod : MethodId := ⟨1, 1⟩
def args0 : Array Value := #[.int 6, .int 5]
def aboutOver (below : List Frame) : State where
  vm := { classes := classes, interned := interned.toArray }
  heap := heap
  slotsUsed := slotsUsed
  threads := #[{ frames := .invoking theMethod args0 :: below }]
def below0 : List Frame := [.native { method := ⟨0, 0⟩, args := #[] }]
def about1 : State := aboutOver below0
def p0 : Program := .bare "" "" ""
def e0 : Env := launch0.env 0 0 0
theorem w_frames : about1.frames = Frame.invoking theMethod args0 :: below0 := rfl
set_option maxRecDepth 65536 in
theorem w_args : argsFit about1.vm theMethod args0 = true := by decide +kernel
set_option maxRecDepth 65536 in
theorem w_heap : heapFits about1 = true := by decide +kernel
set_option maxRecDepth 65536 in
theorem w_runnable : about1.curStatus? = some .runnable := by decide +kernel
set_option maxRecDepth 65536 in
theorem w_alone : about1.alone = true := by decide +kernel
set_option maxRecDepth 65536 in
theorem w_named : about1.methodNamed? x = some theMethod := by decide +kernel
set_option maxRecDepth 65536 in
theorem w_hears : about1.hears theMethod below0 = true := by decide +kernel
set_option maxRecDepth 65536 in
theorem w_ripe : about1.ripe theMethod args0 below0 = true := by decide +kernel
theorem w_running : about1.status = .running := rfl
set_option maxRecDepth 65536 in
theorem w_room : about1.hasRoom e0.platform room_1 = true :=
  launch0.hasRoom_least _ room_1 (by decide +kernel) (by decide +kernel) (by decide +kernel) (by decide +kernel) (by decide +kernel) (by decide +kernel)
theorem allAtoms_all (ts : List Jvm.Cond) (a : Array Jvm.Value) (st : Jvm.State) : (allAtoms ts).before a st = ts.all (fun c => c.before a st) := by
  induction ts with
  | nil => rfl
  | cons c t ih =>
    show (Jvm.Cond.and c (allAtoms t)).before a st = _
    rw [Jvm.Cond.before_and, ih, List.all_cons]
def words1 : List Jvm.Cond := Jvm.Cond.code x code maxLocals ret :: tables_1
/-- a 'code' word, met by the world's own term for the bytes: nothing is compared byte by byte -/
theorem code_word {y : MethodName} {bytes : ByteArray} {mx : Nat} {rt : Option FieldType} {a : Array Value} {s : State} {m : MethodId} {meth : Method} {c : Code} (h1 : s.methodNamed? y = some m) (h2 : s.vm.method? m = some meth) (h3 : meth.code = some c) (h4 : c.code = bytes)
    (h5 : (c.maxLocals == mx && c.exceptionTable.isEmpty && decide (c.maxStack ≤ mostOperands) && decide (meth.sig.returnType = rt) && !meth.locks && decide (parseMethodDescriptor y.desc = some meth.sig)) = true) : (Jvm.Cond.code y bytes mx rt).before a s = true := by
  simp only [Bool.and_eq_true, beq_iff_eq, Bool.not_eq_true', decide_eq_true_eq] at h5
  obtain ⟨⟨⟨⟨⟨g1, g2⟩, g3⟩, g4⟩, g5⟩, g6⟩ := h5
  simp [Cond.before, Cond.holds, Cond.value, h1, h2, h3, h4, g1, g2, g3, g4, g5, g6]
def isCode : Jvm.Cond → Bool
  | .code _ _ _ _ => true
  | _ => false
theorem all_split {L : List Jvm.Cond} {P : Jvm.Cond → Bool} (h1 : L.all (fun c => isCode c || P c) = true) (h2 : ∀ c ∈ L.filter isCode, P c = true) : L.all P = true := by
  refine List.all_eq_true.mpr fun c hc => ?_
  have h := List.all_eq_true.mp h1 c hc
  rcases Bool.eq_false_or_eq_true (isCode c) with hi | hi
  · exact h2 c (List.mem_filter.mpr ⟨hc, hi⟩)
  · simpa [hi] using h
set_option maxRecDepth 65536 in
theorem w_c0 : (Jvm.Cond.code x code maxLocals ret).before args0 about1 = true := code_word (m := ⟨1, 1⟩) (meth := k1m1) (c := k1c1) (by decide +kernel) rfl rfl rfl (by decide +kernel)
set_option maxRecDepth 65536 in
theorem w_c1 : (Jvm.Cond.code ({ cls := "com/example/lintel/lintel/ledger/CaseAction", name := "to", desc := "(Lcom/example/lintel/lintel/ledger/CaseStatus;)Lcom/example/lintel/lintel/ledger/CaseStatus;" } : Jvm.MethodName) prog_8_method_5_code (2 : Nat) (Option.some (Jvm.ClassFile.FieldType.object "com/example/lintel/lintel/ledger/CaseStatus"))).before args0 about1 = true := code_word (m := ⟨7, 0⟩) (meth := k7m0) (c := k7c0) (by decide +kernel) rfl rfl rfl (by decide +kernel)
set_option maxRecDepth 65536 in
theorem w_c2 : (Jvm.Cond.code ({ cls := "java/util/Optional", name := "ofNullable", desc := "(Ljava/lang/Object;)Ljava/util/Optional;" } : Jvm.MethodName) jdk_32_method_4_code (1 : Nat) (Option.some (Jvm.ClassFile.FieldType.object "java/util/Optional"))).before args0 about1 = true := code_word (m := ⟨8, 1⟩) (meth := k8m1) (c := k8c1) (by decide +kernel) rfl rfl rfl (by decide +kernel)
set_option maxRecDepth 65536 in
theorem w_c3 : (Jvm.Cond.code ({ cls := "java/util/Optional", name := "<init>", desc := "(Ljava/lang/Object;)V" } : Jvm.MethodName) jdk_32_method_2_code (2 : Nat) (Option.none : Option Jvm.ClassFile.FieldType)).before args0 about1 = true := code_word (m := ⟨8, 0⟩) (meth := k8m0) (c := k8c0) (by decide +kernel) rfl rfl rfl (by decide +kernel)
set_option maxRecDepth 65536 in
theorem w_c4 : (Jvm.Cond.code ({ cls := "java/lang/Object", name := "<init>", desc := "()V" } : Jvm.MethodName) object_method_1_code (1 : Nat) (Option.none : Option Jvm.ClassFile.FieldType)).before args0 about1 = true := code_word (m := ⟨0, 0⟩) (meth := k0m0) (c := k0c0) (by decide +kernel) rfl rfl rfl (by decide +kernel)
set_option maxRecDepth 65536 in
theorem w_c5 : (Jvm.Cond.code ({ cls := "java/util/Optional", name := "orElse", desc := "(Ljava/lang/Object;)Ljava/lang/Object;" } : Jvm.MethodName) jdk_32_method_15_code (2 : Nat) (Option.some (Jvm.ClassFile.FieldType.object "java/lang/Object"))).before args0 about1 = true := code_word (m := ⟨8, 2⟩) (meth := k8m2) (c := k8c2) (by decide +kernel) rfl rfl rfl (by decide +kernel)
def codes1 : List Jvm.Cond := [Jvm.Cond.code x code maxLocals ret, Jvm.Cond.code ({ cls := "com/example/lintel/lintel/ledger/CaseAction", name := "to", desc := "(Lcom/example/lintel/lintel/ledger/CaseStatus;)Lcom/example/lintel/lintel/ledger/CaseStatus;" } : Jvm.MethodName) prog_8_method_5_code (2 : Nat) (Option.some (Jvm.ClassFile.FieldType.object "com/example/lintel/lintel/ledger/CaseStatus")), Jvm.Cond.code ({ cls := "java/util/Optional", name := "ofNullable", desc := "(Ljava/lang/Object;)Ljava/util/Optional;" } : Jvm.MethodName) jdk_32_method_4_code (1 : Nat) (Option.some (Jvm.ClassFile.FieldType.object "java/util/Optional")), Jvm.Cond.code ({ cls := "java/util/Optional", name := "<init>", desc := "(Ljava/lang/Object;)V" } : Jvm.MethodName) jdk_32_method_2_code (2 : Nat) (Option.none : Option Jvm.ClassFile.FieldType), Jvm.Cond.code ({ cls := "java/lang/Object", name := "<init>", desc := "()V" } : Jvm.MethodName) object_method_1_code (1 : Nat) (Option.none : Option Jvm.ClassFile.FieldType), Jvm.Cond.code ({ cls := "java/util/Optional", name := "orElse", desc := "(Ljava/lang/Object;)Ljava/lang/Object;" } : Jvm.MethodName) jdk_32_method_15_code (2 : Nat) (Option.some (Jvm.ClassFile.FieldType.object "java/lang/Object"))]
set_option maxRecDepth 65536 in
theorem codes_eq : words1.filter isCode = codes1 := rfl
theorem w_codes : ∀ c ∈ words1.filter isCode, c.before args0 about1 = true := by
  rw [codes_eq]
  intro c hc
  simp only [codes1, List.mem_cons, List.not_mem_nil, or_false] at hc
  rcases hc with rfl | rfl | rfl | rfl | rfl | rfl
  · exact w_c0
  · exact w_c1
  · exact w_c2
  · exact w_c3
  · exact w_c4
  · exact w_c5
set_option maxRecDepth 65536 in
theorem w_t1 : (words1.take 24).all (fun c => isCode c || c.before args0 about1) = true := by decide +kernel
set_option maxRecDepth 65536 in
theorem w_t2 : ((words1.drop 24).take 24).all (fun c => isCode c || c.before args0 about1) = true := by decide +kernel
set_option maxRecDepth 65536 in
theorem w_t3 : (((words1.drop 24).drop 24).take 24).all (fun c => isCode c || c.before args0 about1) = true := by decide +kernel
set_option maxRecDepth 65536 in
theorem w_t4 : (((words1.drop 24).drop 24).drop 24).all (fun c => isCode c || c.before args0 about1) = true := by decide +kernel
theorem w_tables : (allAtoms (Jvm.Cond.code x code maxLocals ret :: tables_1)).before args0 about1 = true := by
  rw [allAtoms_all]
  show words1.all (fun c => c.before args0 about1) = true
  refine all_split ?_ w_codes
  rw [← List.take_append_drop 24 words1, List.all_append, w_t1, ← List.take_append_drop 24 (words1.drop 24), List.all_append, w_t2, ← List.take_append_drop 24 ((words1.drop 24).drop 24), List.all_append, w_t3, w_t4]
  rfl
set_option maxRecDepth 65536 in
theorem w_rest : rest_1_c.before args0 about1 = true := by decide +kernel
set_option maxRecDepth 65536 in
theorem w_case : (Jvm.Cond.and given_1 narrow_1).before args0 about1 = true := by decide +kernel
theorem w_applies : (headSpec (Jvm.Cond.code x code maxLocals ret :: tables_1) room_1).applies x e0.platform about1 = true :=
  (Spec.applies_iff w_frames).mpr ⟨w_running, w_runnable, w_alone, w_named, w_hears, w_ripe, w_room, w_tables⟩
theorem atStart : AtStart classFile x code maxLocals ret World_1 tables_1 room_1 Calls_1 rest_1 Pre_1 launch0 p0 e0 about1 theMethod args0 below0 :=
  ⟨lists_1, trivial, launch0.admits_env _ _ _, launch0.least_env, fairChoices_fair.cas, fairChoices_fair.clock, w_frames, w_args, w_heap, w_applies, trivial, w_rest, w_case⟩
end start1
theorem witness_1 : WitnessClaimed_1 := ⟨start1.p0, start1.e0, start1.about1, start1.theMethod, start1.args0, start1.below0, start1.atStart⟩
end Jvm.Pilot.@@N@@

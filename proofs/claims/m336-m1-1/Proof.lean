import JvmDerived
import JvmDerived.Pilot.@@N@@Statement
import JvmDerived.Pilot.@@N@@Code
set_option linter.unusedVariables false
set_option linter.unusedSimpArgs false
namespace Jvm.OwnKit
open Sem ClassFile Op Lib Jvm.Stand Jvm.Free Jvm.LawKit Jvm.RoadKit
/-- a boolean as an int -/
def own_b (b : Bool) : Int32 := if b then 1 else 0
/-- what stands fast in a body -/
def Ctx (p : Program) (s : State) (m : MethodId) (meth : Method) (c : Code) (Z : State) (a0 : Array Value) (tb : List Jvm.Cond) (own : String) (bytes : ByteArray) (ml : Nat) (nm : String) (ret : Option FieldType) : Prop :=
  p.tables.exec = Jvm.exec ∧ Z.Warmed39 s.vm ∧ (∀ d ∈ tb, d.before a0 Z = true) ∧ c.code = bytes ∧ c.maxLocals = ml ∧ s.vm.findClass own = some m.cls ∧ meth.name = nm ∧ meth.sig.returnType = ret ∧ meth.locks = false
/-- the run comes from S0 to pc, with these locals and this stack, over the heap h -/
def Rch (p : Program) (l : Launch) (e : Env) (R : Room) (s : State) (m : MethodId) (args : Array Value) (below : List Frame) (meth : Method) (c : Code) (S0 : State) (n0 k n : Nat) (h : Heap) (pc : Nat) (Ls : Array Slot) (st : List Value) : Prop :=
  ∃ (T : State) (locs : List Loc), Stand p l e R s m args below meth c T locs k n ∧ T.heap = h ∧ Fr n0 locs ∧ n0 ≤ s.heap.size ∧ ∀ t, Steps p.tables e below (T.setTop (mkF m pc Ls st)) t → Steps p.tables e below S0 t
section Walk
variable {p : Program} {l : Launch} {e : Env} {R : Room} {s : State} {m : MethodId} {args : Array Value} {below : List Frame} {meth : Method} {c : Code} {S0 : State} {n0 k n : Nat} {h : Heap} {Z : State} {a0 : Array Value} {tb : List Jvm.Cond} {own : String} {bytes : ByteArray} {ml : Nat} {nm : String} {ret : Option FieldType} {pc pc' : Nat} {Ls Ls' : Array Slot} {st st' : List Value}
theorem Ctx.w (C : Ctx p s m meth c Z a0 tb own bytes ml nm ret) (i : Nat) {d : Jvm.Cond} (q : tb[i]? = some d) : d.before a0 Z = true := C.2.2.1 d (List.mem_of_getElem? q)
theorem Rch.pure (X : Rch p l e R s m args below meth c S0 n0 k n h pc Ls st) (f : ∀ T, At T m c below → ∀ t, Steps p.tables e below (T.setTop (mkF m pc' Ls' st')) t → Steps p.tables e below (T.setTop (mkF m pc Ls st)) t) : Rch p l e R s m args below meth c S0 n0 k n h pc' Ls' st' := by
  obtain ⟨T, locs, Y, eT, N, z, q⟩ := X
  exact ⟨T, locs, Y, eT, N, z, fun t kk => q t (f T Y.here t kk)⟩
theorem Rch.as (X : Rch p l e R s m args below meth c S0 n0 k n h pc Ls st) (q : st = st') : Rch p l e R s m args below meth c S0 n0 k n h pc Ls st' := q ▸ X
theorem Rch.asL (X : Rch p l e R s m args below meth c S0 n0 k n h pc Ls st) (q : Ls = Ls') : Rch p l e R s m args below meth c S0 n0 k n h pc Ls' st := q ▸ X
theorem Rch.more {k' n' : Nat} (X : Rch p l e R s m args below meth c S0 n0 k n h pc Ls st) (hk : k ≤ k') (hn : n ≤ n') : Rch p l e R s m args below meth c S0 n0 k' n' h pc Ls st := by
  obtain ⟨T, locs, Y, eT, N, z, q⟩ := X
  exact ⟨T, locs, Y.more hk hn, eT, N, z, q⟩
theorem Rch.size (X : Rch p l e R s m args below meth c S0 n0 k n h pc Ls st) : n0 ≤ h.size := by
  obtain ⟨T, locs, Y, rfl, N, z, q⟩ := X
  have q2 : s.heap.size ≤ T.heap.size := Y.same.2.1
  exact Nat.le_trans z q2
theorem Rch.iload {i : Nat} {v : Int32} (X : Rch p l e R s m args below meth c S0 n0 k n h pc Ls st) (C : Ctx p s m meth c Z a0 tb own bytes ml nm ret) (hd : decode bytes pc = .ok (.iload i, 2)) (hl : Ls[i]? = some (.val (.int v))) (hp : pc + 2 = pc') : Rch p l e R s m args below meth c S0 n0 k n h pc' Ls (.int v :: st) := by
  subst hp; exact X.pure fun T A t kk => XS.iload (g := mkF m pc Ls _) A C.1 rfl (hb C.2.2.2.1 hd) hl kk
theorem Rch.iloadN {i : Fin 4} {v : Int32} (X : Rch p l e R s m args below meth c S0 n0 k n h pc Ls st) (C : Ctx p s m meth c Z a0 tb own bytes ml nm ret) (hd : decode bytes pc = .ok (.iload_n i, 1)) (hl : Ls[i.val]? = some (.val (.int v))) (hp : pc + 1 = pc') : Rch p l e R s m args below meth c S0 n0 k n h pc' Ls (.int v :: st) := by
  subst hp; exact X.pure fun T A t kk => XS.iloadN (g := mkF m pc Ls _) A C.1 rfl (hb C.2.2.2.1 hd) hl kk
theorem Rch.istore {i : Nat} {v : Int32} (X : Rch p l e R s m args below meth c S0 n0 k n h pc Ls (.int v :: st)) (C : Ctx p s m meth c Z a0 tb own bytes ml nm ret) (hd : decode bytes pc = .ok (.istore i, 2)) (hl : storeLocals Ls i (.int v) = some Ls') (hp : pc + 2 = pc') : Rch p l e R s m args below meth c S0 n0 k n h pc' Ls' st := by
  subst hp; exact X.pure fun T A t kk => XS.istore (g := mkF m pc Ls _) A C.1 rfl (hb C.2.2.2.1 hd) rfl hl kk
theorem Rch.istoreN {i : Fin 4} {v : Int32} (X : Rch p l e R s m args below meth c S0 n0 k n h pc Ls (.int v :: st)) (C : Ctx p s m meth c Z a0 tb own bytes ml nm ret) (hd : decode bytes pc = .ok (.istore_n i, 1)) (hl : storeLocals Ls i.val (.int v) = some Ls') (hp : pc + 1 = pc') : Rch p l e R s m args below meth c S0 n0 k n h pc' Ls' st := by
  subst hp; exact X.pure fun T A t kk => XS.istoreN (g := mkF m pc Ls _) A C.1 rfl (hb C.2.2.2.1 hd) rfl hl kk
theorem Rch.lload {i : Nat} {v : Int64} (X : Rch p l e R s m args below meth c S0 n0 k n h pc Ls st) (C : Ctx p s m meth c Z a0 tb own bytes ml nm ret) (hd : decode bytes pc = .ok (.lload i, 2)) (hl : Ls[i]? = some (.val (.long v))) (hp : pc + 2 = pc') : Rch p l e R s m args below meth c S0 n0 k n h pc' Ls (.long v :: st) := by
  subst hp; exact X.pure fun T A t kk => XS.lload (g := mkF m pc Ls _) A C.1 rfl (hb C.2.2.2.1 hd) hl kk
theorem Rch.lloadN {i : Fin 4} {v : Int64} (X : Rch p l e R s m args below meth c S0 n0 k n h pc Ls st) (C : Ctx p s m meth c Z a0 tb own bytes ml nm ret) (hd : decode bytes pc = .ok (.lload_n i, 1)) (hl : Ls[i.val]? = some (.val (.long v))) (hp : pc + 1 = pc') : Rch p l e R s m args below meth c S0 n0 k n h pc' Ls (.long v :: st) := by
  subst hp; exact X.pure fun T A t kk => XS.lloadN (g := mkF m pc Ls _) A C.1 rfl (hb C.2.2.2.1 hd) hl kk
theorem Rch.lstore {i : Nat} {v : Int64} (X : Rch p l e R s m args below meth c S0 n0 k n h pc Ls (.long v :: st)) (C : Ctx p s m meth c Z a0 tb own bytes ml nm ret) (hd : decode bytes pc = .ok (.lstore i, 2)) (hl : storeLocals Ls i (.long v) = some Ls') (hp : pc + 2 = pc') : Rch p l e R s m args below meth c S0 n0 k n h pc' Ls' st := by
  subst hp; exact X.pure fun T A t kk => XS.lstore (g := mkF m pc Ls _) A C.1 rfl (hb C.2.2.2.1 hd) rfl hl kk
theorem Rch.lstoreN {i : Fin 4} {v : Int64} (X : Rch p l e R s m args below meth c S0 n0 k n h pc Ls (.long v :: st)) (C : Ctx p s m meth c Z a0 tb own bytes ml nm ret) (hd : decode bytes pc = .ok (.lstore_n i, 1)) (hl : storeLocals Ls i.val (.long v) = some Ls') (hp : pc + 1 = pc') : Rch p l e R s m args below meth c S0 n0 k n h pc' Ls' st := by
  subst hp; exact X.pure fun T A t kk => XS.lstoreN (g := mkF m pc Ls _) A C.1 rfl (hb C.2.2.2.1 hd) rfl hl kk
theorem Rch.aload {i : Nat} {v : Value} (X : Rch p l e R s m args below meth c S0 n0 k n h pc Ls st) (C : Ctx p s m meth c Z a0 tb own bytes ml nm ret) (hd : decode bytes pc = .ok (.aload i, 2)) (hl : Ls[i]? = some (.val v)) (hv : v.isRef = true) (hp : pc + 2 = pc') : Rch p l e R s m args below meth c S0 n0 k n h pc' Ls (v :: st) := by
  subst hp; exact X.pure fun T A t kk => XS.aload (g := mkF m pc Ls _) A C.1 rfl (hb C.2.2.2.1 hd) hl hv kk
theorem Rch.aloadN {i : Fin 4} {v : Value} (X : Rch p l e R s m args below meth c S0 n0 k n h pc Ls st) (C : Ctx p s m meth c Z a0 tb own bytes ml nm ret) (hd : decode bytes pc = .ok (.aload_n i, 1)) (hl : Ls[i.val]? = some (.val v)) (hv : v.isRef = true) (hp : pc + 1 = pc') : Rch p l e R s m args below meth c S0 n0 k n h pc' Ls (v :: st) := by
  subst hp; exact X.pure fun T A t kk => XS.aloadN (g := mkF m pc Ls _) A C.1 rfl (hb C.2.2.2.1 hd) hl hv kk
theorem Rch.astore {i : Nat} {v : Value} (X : Rch p l e R s m args below meth c S0 n0 k n h pc Ls (v :: st)) (C : Ctx p s m meth c Z a0 tb own bytes ml nm ret) (hd : decode bytes pc = .ok (.astore i, 2)) (hv : v.isRef = true) (hl : storeLocals Ls i v = some Ls') (hp : pc + 2 = pc') : Rch p l e R s m args below meth c S0 n0 k n h pc' Ls' st := by
  subst hp; exact X.pure fun T A t kk => XS.astore (g := mkF m pc Ls _) A C.1 rfl (hb C.2.2.2.1 hd) rfl hv hl kk
theorem Rch.astoreN {i : Fin 4} {v : Value} (X : Rch p l e R s m args below meth c S0 n0 k n h pc Ls (v :: st)) (C : Ctx p s m meth c Z a0 tb own bytes ml nm ret) (hd : decode bytes pc = .ok (.astore_n i, 1)) (hv : v.isRef = true) (hl : storeLocals Ls i.val v = some Ls') (hp : pc + 1 = pc') : Rch p l e R s m args below meth c S0 n0 k n h pc' Ls' st := by
  subst hp; exact X.pure fun T A t kk => XS.astoreN (g := mkF m pc Ls _) A C.1 rfl (hb C.2.2.2.1 hd) rfl hv hl kk
theorem Rch.iconst {i : Int} {v : Int32} (X : Rch p l e R s m args below meth c S0 n0 k n h pc Ls st) (C : Ctx p s m meth c Z a0 tb own bytes ml nm ret) (hd : decode bytes pc = .ok (.iconst i, 1)) (hv : Int32.ofInt i = v) (hp : pc + 1 = pc') : Rch p l e R s m args below meth c S0 n0 k n h pc' Ls (.int v :: st) := by
  subst hp; exact X.pure fun T A t kk => by subst hv; exact XS.iconst (g := mkF m pc Ls _) A C.1 rfl (hb C.2.2.2.1 hd)  kk
theorem Rch.bipush {i : Int} {v : Int32} (X : Rch p l e R s m args below meth c S0 n0 k n h pc Ls st) (C : Ctx p s m meth c Z a0 tb own bytes ml nm ret) (hd : decode bytes pc = .ok (.bipush i, 2)) (hv : (Int8.ofInt i).toInt32 = v) (hp : pc + 2 = pc') : Rch p l e R s m args below meth c S0 n0 k n h pc' Ls (.int v :: st) := by
  subst hp; exact X.pure fun T A t kk => by subst hv; exact XS.bipush (g := mkF m pc Ls _) A C.1 rfl (hb C.2.2.2.1 hd)  kk
theorem Rch.sipush {i : Int} {v : Int32} (X : Rch p l e R s m args below meth c S0 n0 k n h pc Ls st) (C : Ctx p s m meth c Z a0 tb own bytes ml nm ret) (hd : decode bytes pc = .ok (.sipush i, 3)) (hv : (Int16.ofInt i).toInt32 = v) (hp : pc + 3 = pc') : Rch p l e R s m args below meth c S0 n0 k n h pc' Ls (.int v :: st) := by
  subst hp; exact X.pure fun T A t kk => by subst hv; exact XS.sipush (g := mkF m pc Ls _) A C.1 rfl (hb C.2.2.2.1 hd)  kk
theorem Rch.lconst {i : Fin 2} {v : Int64} (X : Rch p l e R s m args below meth c S0 n0 k n h pc Ls st) (C : Ctx p s m meth c Z a0 tb own bytes ml nm ret) (hd : decode bytes pc = .ok (.lconst i, 1)) (hv : Int64.ofNat i = v) (hp : pc + 1 = pc') : Rch p l e R s m args below meth c S0 n0 k n h pc' Ls (.long v :: st) := by
  subst hp; exact X.pure fun T A t kk => by subst hv; exact XS.lconst (g := mkF m pc Ls _) A C.1 rfl (hb C.2.2.2.1 hd)  kk
theorem Rch.aconstNull (X : Rch p l e R s m args below meth c S0 n0 k n h pc Ls st) (C : Ctx p s m meth c Z a0 tb own bytes ml nm ret) (hd : decode bytes pc = .ok (.aconst_null, 1)) (hp : pc + 1 = pc') : Rch p l e R s m args below meth c S0 n0 k n h pc' Ls (.null :: st) := by
  subst hp; exact X.pure fun T A t kk => XS.aconstNull (g := mkF m pc Ls _) A C.1 rfl (hb C.2.2.2.1 hd)  kk
theorem Rch.iadd {x y : Int32} (X : Rch p l e R s m args below meth c S0 n0 k n h pc Ls (.int y :: .int x :: st)) (C : Ctx p s m meth c Z a0 tb own bytes ml nm ret) (hd : decode bytes pc = .ok (.iadd, 1)) (hp : pc + 1 = pc') : Rch p l e R s m args below meth c S0 n0 k n h pc' Ls (.int (x + y) :: st) := by
  subst hp; exact X.pure fun T A t kk => XS.iadd (g := mkF m pc Ls _) A C.1 rfl (hb C.2.2.2.1 hd) rfl kk
theorem Rch.ladd {x y : Int64} (X : Rch p l e R s m args below meth c S0 n0 k n h pc Ls (.long y :: .long x :: st)) (C : Ctx p s m meth c Z a0 tb own bytes ml nm ret) (hd : decode bytes pc = .ok (.ladd, 1)) (hp : pc + 1 = pc') : Rch p l e R s m args below meth c S0 n0 k n h pc' Ls (.long (x + y) :: st) := by
  subst hp; exact X.pure fun T A t kk => XS.ladd (g := mkF m pc Ls _) A C.1 rfl (hb C.2.2.2.1 hd) rfl kk
theorem Rch.isub {x y : Int32} (X : Rch p l e R s m args below meth c S0 n0 k n h pc Ls (.int y :: .int x :: st)) (C : Ctx p s m meth c Z a0 tb own bytes ml nm ret) (hd : decode bytes pc = .ok (.isub, 1)) (hp : pc + 1 = pc') : Rch p l e R s m args below meth c S0 n0 k n h pc' Ls (.int (x - y) :: st) := by
  subst hp; exact X.pure fun T A t kk => XS.isub (g := mkF m pc Ls _) A C.1 rfl (hb C.2.2.2.1 hd) rfl kk
theorem Rch.lsub {x y : Int64} (X : Rch p l e R s m args below meth c S0 n0 k n h pc Ls (.long y :: .long x :: st)) (C : Ctx p s m meth c Z a0 tb own bytes ml nm ret) (hd : decode bytes pc = .ok (.lsub, 1)) (hp : pc + 1 = pc') : Rch p l e R s m args below meth c S0 n0 k n h pc' Ls (.long (x - y) :: st) := by
  subst hp; exact X.pure fun T A t kk => XS.lsub (g := mkF m pc Ls _) A C.1 rfl (hb C.2.2.2.1 hd) rfl kk
theorem Rch.imul {x y : Int32} (X : Rch p l e R s m args below meth c S0 n0 k n h pc Ls (.int y :: .int x :: st)) (C : Ctx p s m meth c Z a0 tb own bytes ml nm ret) (hd : decode bytes pc = .ok (.imul, 1)) (hp : pc + 1 = pc') : Rch p l e R s m args below meth c S0 n0 k n h pc' Ls (.int (x * y) :: st) := by
  subst hp; exact X.pure fun T A t kk => XS.imul (g := mkF m pc Ls _) A C.1 rfl (hb C.2.2.2.1 hd) rfl kk
theorem Rch.lmul {x y : Int64} (X : Rch p l e R s m args below meth c S0 n0 k n h pc Ls (.long y :: .long x :: st)) (C : Ctx p s m meth c Z a0 tb own bytes ml nm ret) (hd : decode bytes pc = .ok (.lmul, 1)) (hp : pc + 1 = pc') : Rch p l e R s m args below meth c S0 n0 k n h pc' Ls (.long (x * y) :: st) := by
  subst hp; exact X.pure fun T A t kk => XS.lmul (g := mkF m pc Ls _) A C.1 rfl (hb C.2.2.2.1 hd) rfl kk
theorem Rch.iand {x y : Int32} (X : Rch p l e R s m args below meth c S0 n0 k n h pc Ls (.int y :: .int x :: st)) (C : Ctx p s m meth c Z a0 tb own bytes ml nm ret) (hd : decode bytes pc = .ok (.iand, 1)) (hp : pc + 1 = pc') : Rch p l e R s m args below meth c S0 n0 k n h pc' Ls (.int (x &&& y) :: st) := by
  subst hp; exact X.pure fun T A t kk => XS.iand (g := mkF m pc Ls _) A C.1 rfl (hb C.2.2.2.1 hd) rfl kk
theorem Rch.land {x y : Int64} (X : Rch p l e R s m args below meth c S0 n0 k n h pc Ls (.long y :: .long x :: st)) (C : Ctx p s m meth c Z a0 tb own bytes ml nm ret) (hd : decode bytes pc = .ok (.land, 1)) (hp : pc + 1 = pc') : Rch p l e R s m args below meth c S0 n0 k n h pc' Ls (.long (x &&& y) :: st) := by
  subst hp; exact X.pure fun T A t kk => XS.land (g := mkF m pc Ls _) A C.1 rfl (hb C.2.2.2.1 hd) rfl kk
theorem Rch.ior {x y : Int32} (X : Rch p l e R s m args below meth c S0 n0 k n h pc Ls (.int y :: .int x :: st)) (C : Ctx p s m meth c Z a0 tb own bytes ml nm ret) (hd : decode bytes pc = .ok (.ior, 1)) (hp : pc + 1 = pc') : Rch p l e R s m args below meth c S0 n0 k n h pc' Ls (.int (x ||| y) :: st) := by
  subst hp; exact X.pure fun T A t kk => XS.ior (g := mkF m pc Ls _) A C.1 rfl (hb C.2.2.2.1 hd) rfl kk
theorem Rch.lor {x y : Int64} (X : Rch p l e R s m args below meth c S0 n0 k n h pc Ls (.long y :: .long x :: st)) (C : Ctx p s m meth c Z a0 tb own bytes ml nm ret) (hd : decode bytes pc = .ok (.lor, 1)) (hp : pc + 1 = pc') : Rch p l e R s m args below meth c S0 n0 k n h pc' Ls (.long (x ||| y) :: st) := by
  subst hp; exact X.pure fun T A t kk => XS.lor (g := mkF m pc Ls _) A C.1 rfl (hb C.2.2.2.1 hd) rfl kk
theorem Rch.ixor {x y : Int32} (X : Rch p l e R s m args below meth c S0 n0 k n h pc Ls (.int y :: .int x :: st)) (C : Ctx p s m meth c Z a0 tb own bytes ml nm ret) (hd : decode bytes pc = .ok (.ixor, 1)) (hp : pc + 1 = pc') : Rch p l e R s m args below meth c S0 n0 k n h pc' Ls (.int (x ^^^ y) :: st) := by
  subst hp; exact X.pure fun T A t kk => XS.ixor (g := mkF m pc Ls _) A C.1 rfl (hb C.2.2.2.1 hd) rfl kk
theorem Rch.lxor {x y : Int64} (X : Rch p l e R s m args below meth c S0 n0 k n h pc Ls (.long y :: .long x :: st)) (C : Ctx p s m meth c Z a0 tb own bytes ml nm ret) (hd : decode bytes pc = .ok (.lxor, 1)) (hp : pc + 1 = pc') : Rch p l e R s m args below meth c S0 n0 k n h pc' Ls (.long (x ^^^ y) :: st) := by
  subst hp; exact X.pure fun T A t kk => XS.lxor (g := mkF m pc Ls _) A C.1 rfl (hb C.2.2.2.1 hd) rfl kk
theorem Rch.ishl {x y : Int32} (X : Rch p l e R s m args below meth c S0 n0 k n h pc Ls (.int y :: .int x :: st)) (C : Ctx p s m meth c Z a0 tb own bytes ml nm ret) (hd : decode bytes pc = .ok (.ishl, 1)) (hp : pc + 1 = pc') : Rch p l e R s m args below meth c S0 n0 k n h pc' Ls (.int (x <<< (y &&& 31)) :: st) := by
  subst hp; exact X.pure fun T A t kk => XS.ishl (g := mkF m pc Ls _) A C.1 rfl (hb C.2.2.2.1 hd) rfl kk
theorem Rch.ishr {x y : Int32} (X : Rch p l e R s m args below meth c S0 n0 k n h pc Ls (.int y :: .int x :: st)) (C : Ctx p s m meth c Z a0 tb own bytes ml nm ret) (hd : decode bytes pc = .ok (.ishr, 1)) (hp : pc + 1 = pc') : Rch p l e R s m args below meth c S0 n0 k n h pc' Ls (.int (x >>> (y &&& 31)) :: st) := by
  subst hp; exact X.pure fun T A t kk => XS.ishr (g := mkF m pc Ls _) A C.1 rfl (hb C.2.2.2.1 hd) rfl kk
theorem Rch.iushr {x y : Int32} (X : Rch p l e R s m args below meth c S0 n0 k n h pc Ls (.int y :: .int x :: st)) (C : Ctx p s m meth c Z a0 tb own bytes ml nm ret) (hd : decode bytes pc = .ok (.iushr, 1)) (hp : pc + 1 = pc') : Rch p l e R s m args below meth c S0 n0 k n h pc' Ls (.int ((x.toUInt32 >>> (y &&& 31).toUInt32).toInt32) :: st) := by
  subst hp; exact X.pure fun T A t kk => XS.iushr (g := mkF m pc Ls _) A C.1 rfl (hb C.2.2.2.1 hd) rfl kk
theorem Rch.lshl {x : Int64} {y : Int32} (X : Rch p l e R s m args below meth c S0 n0 k n h pc Ls (.int y :: .long x :: st)) (C : Ctx p s m meth c Z a0 tb own bytes ml nm ret) (hd : decode bytes pc = .ok (.lshl, 1)) (hp : pc + 1 = pc') : Rch p l e R s m args below meth c S0 n0 k n h pc' Ls (.long (x <<< (y &&& 0x3f).toInt64) :: st) := by
  subst hp; exact X.pure fun T A t kk => XS.lshl (g := mkF m pc Ls _) A C.1 rfl (hb C.2.2.2.1 hd) rfl kk
theorem Rch.lshr {x : Int64} {y : Int32} (X : Rch p l e R s m args below meth c S0 n0 k n h pc Ls (.int y :: .long x :: st)) (C : Ctx p s m meth c Z a0 tb own bytes ml nm ret) (hd : decode bytes pc = .ok (.lshr, 1)) (hp : pc + 1 = pc') : Rch p l e R s m args below meth c S0 n0 k n h pc' Ls (.long (x >>> (y &&& 0x3f).toInt64) :: st) := by
  subst hp; exact X.pure fun T A t kk => XS.lshr (g := mkF m pc Ls _) A C.1 rfl (hb C.2.2.2.1 hd) rfl kk
theorem Rch.lushr {x : Int64} {y : Int32} (X : Rch p l e R s m args below meth c S0 n0 k n h pc Ls (.int y :: .long x :: st)) (C : Ctx p s m meth c Z a0 tb own bytes ml nm ret) (hd : decode bytes pc = .ok (.lushr, 1)) (hp : pc + 1 = pc') : Rch p l e R s m args below meth c S0 n0 k n h pc' Ls (.long ((x.toUInt64 >>> (y &&& 0x3f).toInt64.toUInt64).toInt64) :: st) := by
  subst hp; exact X.pure fun T A t kk => XS.lushr (g := mkF m pc Ls _) A C.1 rfl (hb C.2.2.2.1 hd) rfl kk
theorem Rch.idiv {x y : Int32} (X : Rch p l e R s m args below meth c S0 n0 k n h pc Ls (.int y :: .int x :: st)) (C : Ctx p s m meth c Z a0 tb own bytes ml nm ret) (hd : decode bytes pc = .ok (.idiv, 1)) (hy : y ≠ 0) (hp : pc + 1 = pc') : Rch p l e R s m args below meth c S0 n0 k n h pc' Ls (.int (x / y) :: st) := by
  subst hp; exact X.pure fun T A t kk => XS.idiv (g := mkF m pc Ls _) A C.1 rfl (hb C.2.2.2.1 hd) rfl hy kk
theorem Rch.ldiv {x y : Int64} (X : Rch p l e R s m args below meth c S0 n0 k n h pc Ls (.long y :: .long x :: st)) (C : Ctx p s m meth c Z a0 tb own bytes ml nm ret) (hd : decode bytes pc = .ok (.ldiv, 1)) (hy : y ≠ 0) (hp : pc + 1 = pc') : Rch p l e R s m args below meth c S0 n0 k n h pc' Ls (.long (x / y) :: st) := by
  subst hp; exact X.pure fun T A t kk => XS.ldiv (g := mkF m pc Ls _) A C.1 rfl (hb C.2.2.2.1 hd) rfl hy kk
theorem Rch.irem {x y : Int32} (X : Rch p l e R s m args below meth c S0 n0 k n h pc Ls (.int y :: .int x :: st)) (C : Ctx p s m meth c Z a0 tb own bytes ml nm ret) (hd : decode bytes pc = .ok (.irem, 1)) (hy : y ≠ 0) (hp : pc + 1 = pc') : Rch p l e R s m args below meth c S0 n0 k n h pc' Ls (.int (x % y) :: st) := by
  subst hp; exact X.pure fun T A t kk => by rw [← irem_eq_mod x y] at kk; exact XS.irem (g := mkF m pc Ls _) A C.1 rfl (hb C.2.2.2.1 hd) rfl hy kk
theorem Rch.lrem {x y : Int64} (X : Rch p l e R s m args below meth c S0 n0 k n h pc Ls (.long y :: .long x :: st)) (C : Ctx p s m meth c Z a0 tb own bytes ml nm ret) (hd : decode bytes pc = .ok (.lrem, 1)) (hy : y ≠ 0) (hp : pc + 1 = pc') : Rch p l e R s m args below meth c S0 n0 k n h pc' Ls (.long (x % y) :: st) := by
  subst hp; exact X.pure fun T A t kk => by rw [← lrem_mod x y] at kk; exact XS.lrem (g := mkF m pc Ls _) A C.1 rfl (hb C.2.2.2.1 hd) rfl hy kk
theorem Rch.ineg {x : Int32} (X : Rch p l e R s m args below meth c S0 n0 k n h pc Ls (.int x :: st)) (C : Ctx p s m meth c Z a0 tb own bytes ml nm ret) (hd : decode bytes pc = .ok (.ineg, 1)) (hp : pc + 1 = pc') : Rch p l e R s m args below meth c S0 n0 k n h pc' Ls (.int (-x) :: st) := by
  subst hp; exact X.pure fun T A t kk => XS.ineg (g := mkF m pc Ls _) A C.1 rfl (hb C.2.2.2.1 hd) rfl kk
theorem Rch.lneg {x : Int64} (X : Rch p l e R s m args below meth c S0 n0 k n h pc Ls (.long x :: st)) (C : Ctx p s m meth c Z a0 tb own bytes ml nm ret) (hd : decode bytes pc = .ok (.lneg, 1)) (hp : pc + 1 = pc') : Rch p l e R s m args below meth c S0 n0 k n h pc' Ls (.long (-x) :: st) := by
  subst hp; exact X.pure fun T A t kk => XS.lneg (g := mkF m pc Ls _) A C.1 rfl (hb C.2.2.2.1 hd) rfl kk
theorem Rch.i2l {x : Int32} (X : Rch p l e R s m args below meth c S0 n0 k n h pc Ls (.int x :: st)) (C : Ctx p s m meth c Z a0 tb own bytes ml nm ret) (hd : decode bytes pc = .ok (.i2l, 1)) (hp : pc + 1 = pc') : Rch p l e R s m args below meth c S0 n0 k n h pc' Ls (.long x.toInt64 :: st) := by
  subst hp; exact X.pure fun T A t kk => XS.i2l (g := mkF m pc Ls _) A C.1 rfl (hb C.2.2.2.1 hd) rfl kk
theorem Rch.l2i {x : Int64} (X : Rch p l e R s m args below meth c S0 n0 k n h pc Ls (.long x :: st)) (C : Ctx p s m meth c Z a0 tb own bytes ml nm ret) (hd : decode bytes pc = .ok (.l2i, 1)) (hp : pc + 1 = pc') : Rch p l e R s m args below meth c S0 n0 k n h pc' Ls (.int x.toInt32 :: st) := by
  subst hp; exact X.pure fun T A t kk => XS.l2i (g := mkF m pc Ls _) A C.1 rfl (hb C.2.2.2.1 hd) rfl kk
theorem Rch.lcmp {x y : Int64} (X : Rch p l e R s m args below meth c S0 n0 k n h pc Ls (.long y :: .long x :: st)) (C : Ctx p s m meth c Z a0 tb own bytes ml nm ret) (hd : decode bytes pc = .ok (.lcmp, 1)) (hp : pc + 1 = pc') : Rch p l e R s m args below meth c S0 n0 k n h pc' Ls (.int (lcmpW x y) :: st) := by
  subst hp; exact X.pure fun T A t kk => XS.lcmp (g := mkF m pc Ls _) A C.1 rfl (hb C.2.2.2.1 hd) rfl kk
theorem Rch.iinc {i : Nat} {d : Int} {x v : Int32} (X : Rch p l e R s m args below meth c S0 n0 k n h pc Ls st) (C : Ctx p s m meth c Z a0 tb own bytes ml nm ret) (hd : decode bytes pc = .ok (.iinc i d, 3)) (hl : Ls[i]? = some (.val (.int x))) (hv : x + Int32.ofInt d = v) (hl' : storeLocals Ls i (.int v) = some Ls') (hp : pc + 3 = pc') : Rch p l e R s m args below meth c S0 n0 k n h pc' Ls' st := by
  subst hp; exact X.pure fun T A t kk => by subst hv; exact XS.iinc (g := mkF m pc Ls _) A C.1 rfl (hb C.2.2.2.1 hd) hl hl' kk
theorem Rch.dup {v : Value} (X : Rch p l e R s m args below meth c S0 n0 k n h pc Ls (v :: st)) (C : Ctx p s m meth c Z a0 tb own bytes ml nm ret) (hd : decode bytes pc = .ok (.dup, 1)) (hv : v.category = 1) (hp : pc + 1 = pc') : Rch p l e R s m args below meth c S0 n0 k n h pc' Ls (v :: v :: st) := by
  subst hp; exact X.pure fun T A t kk => XS.dup (g := mkF m pc Ls _) A C.1 rfl (hb C.2.2.2.1 hd) rfl hv kk
theorem Rch.pop {v : Value} (X : Rch p l e R s m args below meth c S0 n0 k n h pc Ls (v :: st)) (C : Ctx p s m meth c Z a0 tb own bytes ml nm ret) (hd : decode bytes pc = .ok (.pop, 1)) (hv : v.category = 1) (hp : pc + 1 = pc') : Rch p l e R s m args below meth c S0 n0 k n h pc' Ls st := by
  subst hp; exact X.pure fun T A t kk => XS.pop (g := mkF m pc Ls _) A C.1 rfl (hb C.2.2.2.1 hd) rfl hv kk
theorem Rch.dupX1 {v u : Value} (X : Rch p l e R s m args below meth c S0 n0 k n h pc Ls (v :: u :: st)) (C : Ctx p s m meth c Z a0 tb own bytes ml nm ret) (hd : decode bytes pc = .ok (.dup_x1, 1)) (hv : v.category = 1) (hu : u.category = 1) (hp : pc + 1 = pc') : Rch p l e R s m args below meth c S0 n0 k n h pc' Ls (v :: u :: v :: st) := by
  subst hp; exact X.pure fun T A t kk => XS.dupX1 (g := mkF m pc Ls _) A C.1 rfl (hb C.2.2.2.1 hd) rfl hv hu kk
theorem Rch.dup2 {v u : Value} (X : Rch p l e R s m args below meth c S0 n0 k n h pc Ls (v :: u :: st)) (C : Ctx p s m meth c Z a0 tb own bytes ml nm ret) (hd : decode bytes pc = .ok (.dup2, 1)) (hv : v.category = 1) (hu : u.category = 1) (hp : pc + 1 = pc') : Rch p l e R s m args below meth c S0 n0 k n h pc' Ls (v :: u :: v :: u :: st) := by
  subst hp; exact X.pure fun T A t kk => XT.dup2 (g := mkF m pc Ls _) A C.1 rfl (hb C.2.2.2.1 hd) rfl hv hu kk
theorem toNat_of {pc pc' : Nat} {o : Int} (hq : (pc : Int) + o = (pc' : Int)) : 0 ≤ (pc : Int) + o ∧ ((pc : Int) + o).toNat = pc' := by rw [hq]; exact ⟨Int.natCast_nonneg _, Int.toNat_natCast _⟩
theorem Rch.goto (X : Rch p l e R s m args below meth c S0 n0 k n h pc Ls st) (C : Ctx p s m meth c Z a0 tb own bytes ml nm ret) {o : Int} (hd : decode bytes pc = .ok (.goto o, 3)) (hq : (pc : Int) + o = (pc' : Int)) : Rch p l e R s m args below meth c S0 n0 k n h pc' Ls st :=
  X.pure fun T A t kk => XS.goto (g := mkF m pc Ls _) A C.1 rfl rfl (hb C.2.2.2.1 hd) (toNat_of hq).1 (toNat_of hq).2 kk
theorem Rch.ifY {cd : ClassFile.Cond} {x : Int32} (X : Rch p l e R s m args below meth c S0 n0 k n h pc Ls (.int x :: st)) (C : Ctx p s m meth c Z a0 tb own bytes ml nm ret) {o : Int} (hd : decode bytes pc = .ok (.ifCond cd o, 3)) (hc : ifCond.holds cd x = true) (hq : (pc : Int) + o = (pc' : Int)) : Rch p l e R s m args below meth c S0 n0 k n h pc' Ls st :=
  X.pure fun T A t kk => XS.ifYes (g := mkF m pc Ls _) A C.1 rfl rfl (hb C.2.2.2.1 hd) rfl hc (toNat_of hq).1 (toNat_of hq).2 kk
theorem Rch.ifN {cd : ClassFile.Cond} {x : Int32} (X : Rch p l e R s m args below meth c S0 n0 k n h pc Ls (.int x :: st)) (C : Ctx p s m meth c Z a0 tb own bytes ml nm ret) {o : Int} (hd : decode bytes pc = .ok (.ifCond cd o, 3)) (hc : ifCond.holds cd x = false) (hp : pc + 3 = pc') : Rch p l e R s m args below meth c S0 n0 k n h pc' Ls st := by
  subst hp; exact X.pure fun T A t kk => XS.ifNo (g := mkF m pc Ls _) A C.1 rfl (hb C.2.2.2.1 hd) rfl hc kk
theorem Rch.icmpY {cd : ClassFile.Cond} {x y : Int32} (X : Rch p l e R s m args below meth c S0 n0 k n h pc Ls (.int y :: .int x :: st)) (C : Ctx p s m meth c Z a0 tb own bytes ml nm ret) {o : Int} (hd : decode bytes pc = .ok (.if_icmp cd o, 3)) (hc : if_icmp.holds cd x y = true) (hq : (pc : Int) + o = (pc' : Int)) : Rch p l e R s m args below meth c S0 n0 k n h pc' Ls st :=
  X.pure fun T A t kk => XS.icmpYes (g := mkF m pc Ls _) A C.1 rfl rfl (hb C.2.2.2.1 hd) rfl hc (toNat_of hq).1 (toNat_of hq).2 kk
theorem Rch.icmpN {cd : ClassFile.Cond} {x y : Int32} (X : Rch p l e R s m args below meth c S0 n0 k n h pc Ls (.int y :: .int x :: st)) (C : Ctx p s m meth c Z a0 tb own bytes ml nm ret) {o : Int} (hd : decode bytes pc = .ok (.if_icmp cd o, 3)) (hc : if_icmp.holds cd x y = false) (hp : pc + 3 = pc') : Rch p l e R s m args below meth c S0 n0 k n h pc' Ls st := by
  subst hp; exact X.pure fun T A t kk => XS.icmpNo (g := mkF m pc Ls _) A C.1 rfl (hb C.2.2.2.1 hd) rfl hc kk
theorem Rch.acmpY {cd : ClassFile.ACond} {x y : Addr} (X : Rch p l e R s m args below meth c S0 n0 k n h pc Ls (.ref y :: .ref x :: st)) (C : Ctx p s m meth c Z a0 tb own bytes ml nm ret) {o : Int} (hd : decode bytes pc = .ok (.if_acmp cd o, 3)) (hc : if_acmp.holds cd (some x) (some y) = true) (hq : (pc : Int) + o = (pc' : Int)) : Rch p l e R s m args below meth c S0 n0 k n h pc' Ls st :=
  X.pure fun T A t kk => XS.acmpYes (g := mkF m pc Ls _) A C.1 rfl rfl (hb C.2.2.2.1 hd) rfl hc (toNat_of hq).1 (toNat_of hq).2 kk
/-- 'if.. else 1 : 0' -/
theorem Rch.dia {cd : ClassFile.Cond} {x : Int32} {b : Bool} (X : Rch p l e R s m args below meth c S0 n0 k n h pc Ls (.int x :: st)) (C : Ctx p s m meth c Z a0 tb own bytes ml nm ret) (hd : decode bytes pc = .ok (.ifCond cd 7, 3)) (hd1 : decode bytes (pc + 3) = .ok (.iconst 1, 1)) (hd2 : decode bytes (pc + 4) = .ok (.goto 4, 3)) (hd3 : decode bytes (pc + 7) = .ok (.iconst 0, 1)) (hc : ifCond.holds cd x = !b) (hp : pc + 8 = pc') : Rch p l e R s m args below meth c S0 n0 k n h pc' Ls (.int (own_b b) :: st) := by
  subst hp
  cases b with
  | false => exact ((X.ifY C hd hc (pc' := pc + 7) (by omega)).iconst C hd3 (v := 0) rfl rfl)
  | true => exact (((X.ifN C hd hc rfl).iconst C hd1 (v := 1) rfl rfl).goto C hd2 (by omega))
theorem Rch.diac {cd : ClassFile.Cond} {x y : Int32} {b : Bool} (X : Rch p l e R s m args below meth c S0 n0 k n h pc Ls (.int y :: .int x :: st)) (C : Ctx p s m meth c Z a0 tb own bytes ml nm ret) (hd : decode bytes pc = .ok (.if_icmp cd 7, 3)) (hd1 : decode bytes (pc + 3) = .ok (.iconst 1, 1)) (hd2 : decode bytes (pc + 4) = .ok (.goto 4, 3)) (hd3 : decode bytes (pc + 7) = .ok (.iconst 0, 1)) (hc : if_icmp.holds cd x y = !b) (hp : pc + 8 = pc') : Rch p l e R s m args below meth c S0 n0 k n h pc' Ls (.int (own_b b) :: st) := by
  subst hp
  cases b with
  | false => exact ((X.icmpY C hd hc (pc' := pc + 7) (by omega)).iconst C hd3 (v := 0) rfl rfl)
  | true => exact (((X.icmpN C hd hc rfl).iconst C hd1 (v := 1) rfl rfl).goto C hd2 (by omega))
theorem Rch.ldcI (X : Rch p l e R s m args below meth c S0 n0 k n h pc Ls st) (C : Ctx p s m meth c Z a0 tb own bytes ml nm ret) {i : Nat} {v : Int32} (wc : (Jvm.Cond.constant own i v).before a0 Z = true) (hd : decode bytes pc = .ok (.ldc i, 2)) (hp : pc + 2 = pc') : Rch p l e R s m args below meth c S0 n0 k n h pc' Ls (.int v :: st) := by
  subst hp
  obtain ⟨T, locs, Y, eT, N, z, q⟩ := X
  exact ⟨T, locs, Y, eT, N, z, fun t kk => q t (Y.ldcInt C.1 C.2.2.2.2.2.1 (mvT C.2.1 wc) (g := mkF m pc Ls st) rfl (hb C.2.2.2.1 hd) t kk)⟩
theorem Rch.ldcJ (X : Rch p l e R s m args below meth c S0 n0 k n h pc Ls st) (C : Ctx p s m meth c Z a0 tb own bytes ml nm ret) {i : Nat} {v : Int64} (wc : (Jvm.Cond.constantLong own i v).before a0 Z = true) (hd : decode bytes pc = .ok (.ldc2_w i, 3)) (hp : pc + 3 = pc') : Rch p l e R s m args below meth c S0 n0 k n h pc' Ls (.long v :: st) := by
  subst hp
  obtain ⟨T, locs, Y, eT, N, z, q⟩ := X
  exact ⟨T, locs, Y, eT, N, z, fun t kk => q t (Y.ldc2Long C.1 C.2.2.2.2.2.1 (mvT C.2.1 wc) (g := mkF m pc Ls st) rfl (hb C.2.2.2.1 hd) t kk)⟩
theorem Rch.getF {O f d : String} {i : Nat} {a : Addr} {v : Value} (X : Rch p l e R s m args below meth c S0 n0 k n h pc Ls (.ref a :: st)) (C : Ctx p s m meth c Z a0 tb own bytes ml nm ret) (wl : (Jvm.Cond.fieldLink own i O f d).before a0 Z = true) (F : Fld Z h a O f d v) (hd : decode bytes pc = .ok (.getfield i, 3)) (hp : pc + 3 = pc') : Rch p l e R s m args below meth c S0 n0 k n h pc' Ls (v :: st) := by
  subst hp
  obtain ⟨T, locs, Y, eT, N, z, q⟩ := X
  obtain ⟨T', Y', e', st'⟩ := Jvm.RoadKit.getF Y C.1 C.2.1 C.2.2.2.2.2.1 (host := "") (Or.inl wl) Via.refl eT F (g := mkF m pc Ls (.ref a :: st)) rfl rfl (hb C.2.2.2.1 hd)
  exact ⟨T', locs, Y', e', N, z, fun t kk => q t (st' t kk)⟩
theorem Rch.getFv {R0 O f d host : String} {i : Nat} {a : Addr} {v : Value} (X : Rch p l e R s m args below meth c S0 n0 k n h pc Ls (.ref a :: st)) (C : Ctx p s m meth c Z a0 tb own bytes ml nm ret) (wl : (Jvm.Cond.fieldLink own i R0 f d).before a0 Z = true ∨ (Jvm.Cond.fieldLinkNest own i R0 f d host).before a0 Z = true) (via : Via Z R0 O f d) (F : Fld Z h a O f d v) (hd : decode bytes pc = .ok (.getfield i, 3)) (hp : pc + 3 = pc') : Rch p l e R s m args below meth c S0 n0 k n h pc' Ls (v :: st) := by
  subst hp
  obtain ⟨T, locs, Y, eT, N, z, q⟩ := X
  obtain ⟨T', Y', e', st'⟩ := Jvm.RoadKit.getF Y C.1 C.2.1 C.2.2.2.2.2.1 (host := host) wl via eT F (g := mkF m pc Ls (.ref a :: st)) rfl rfl (hb C.2.2.2.1 hd)
  exact ⟨T', locs, Y', e', N, z, fun t kk => q t (st' t kk)⟩
theorem Rch.getS {O f d : String} {i : Nat} {v : Value} (X : Rch p l e R s m args below meth c S0 n0 k n h pc Ls st) (C : Ctx p s m meth c Z a0 tb own bytes ml nm ret) (wl : (Jvm.Cond.fieldLink own i O f d).before a0 Z = true) (F : Sta Z h O f d v) (hd : decode bytes pc = .ok (.getstatic i, 3)) (hp : pc + 3 = pc') : Rch p l e R s m args below meth c S0 n0 k n h pc' Ls (v :: st) := by
  subst hp
  obtain ⟨T, locs, Y, eT, N, z, q⟩ := X
  obtain ⟨T', Y', e', st'⟩ := Jvm.RoadKit.getS Y C.1 C.2.1 C.2.2.2.2.2.1 (host := "") wl Via.refl eT F (g := mkF m pc Ls st) rfl (hb C.2.2.2.1 hd)
  exact ⟨T', locs, Y', e', N, z, fun t kk => q t (st' t kk)⟩
theorem Rch.putFv {R0 O f d K : String} {i kk : Nat} {a : Addr} {v v' old : Value} {ty : FieldType} (X : Rch p l e R s m args below meth c S0 n0 k n h pc Ls (v :: .ref a :: st)) (C : Ctx p s m meth c Z a0 tb own bytes ml nm ret) (wl : (Jvm.Cond.fieldLink own i R0 f d).before a0 Z = true) (via : Via Z R0 O f d) (F : Fld Z h a O f d old) (E : Exa Z h a K) (L : (Jvm.Cond.lays K O f d).before a0 Z = true ∨ ((Jvm.Cond.laysFinal K O f d).before a0 Z = true ∧ own = O ∧ nm = "<init>")) (wi : (Jvm.Cond.instantiable K kk).before a0 Z = true) (hty : parseFieldDescriptor d = some ty) (hn : narrow ty v = v') (hf : fits ty v' = true) (ga : n0 ≤ a) (hd : decode bytes pc = .ok (.putfield i, 3)) (hp : pc + 3 = pc') :
    ∃ h', Rch p l e R s m args below meth c S0 n0 k n h' pc' Ls st ∧ Wr h h' a (Jvm.RoadKit.slotOf Z O f d) v' := by
  subst hp
  obtain ⟨T, locs, Y, eT, N, z, q⟩ := X
  obtain ⟨T', h', Y', e', W, st'⟩ := Jvm.RoadKit.putFN Y C.1 C.2.1 C.2.2.2.2.2.1 wl via eT F E (L.imp id fun x => ⟨x.1, x.2.1, C.2.2.2.2.2.2.1.trans x.2.2⟩) wi hty hn hf (g := mkF m pc Ls (v :: .ref a :: st)) rfl rfl (hb C.2.2.2.1 hd)
  exact ⟨h', ⟨T', _, Y', e', Fr.snoc Y' N ga, z, fun t kk => q t (st' t kk)⟩, W⟩
theorem Rch.newO {K : String} {i sl : Nat} (X : Rch p l e R s m args below meth c S0 n0 k n h pc Ls st) (C : Ctx p s m meth c Z a0 tb own bytes ml nm ret) (wl : (Jvm.Cond.classLink own i K).before a0 Z = true) (wi : (Jvm.Cond.instantiable K sl).before a0 Z = true) (wz : (Jvm.Cond.initialized K).before a0 Z = true) (hd : decode bytes pc = .ok (.new i, 3)) (hk : k + 1 ≤ R.cells) (hn : n + sl ≤ R.slots) (hp : pc + 3 = pc') :
    ∃ h', Rch p l e R s m args below meth c S0 n0 (k + 1) (n + sl) h' pc' Ls (.ref h.size :: st) ∧ Ext h h' ∧ Exa Z h' h.size K ∧ (∀ {O f d : String} {ty : FieldType}, Laid Z a0 K O f d → parseFieldDescriptor d = some ty → Fld Z h' h.size O f d (defaultValue ty)) := by
  subst hp
  obtain ⟨T, locs, Y, eT, N, z, q⟩ := X
  obtain ⟨T', h', Y', e', E, A, D, -, st'⟩ := Jvm.RoadKit.newO Y C.1 C.2.1 C.2.2.2.2.2.1 wl wi wz eT (g := mkF m pc Ls st) rfl (hb C.2.2.2.1 hd) hk hn
  exact ⟨h', ⟨T', _, Y', e', N, z, fun t kk => q t (st' t kk)⟩, E, A, D⟩
theorem Rch.initO {i W : Nat} {a : Addr} (X : Rch p l e R s m args below meth c S0 n0 k n h pc Ls (.ref a :: st)) (C : Ctx p s m meth c Z a0 tb own bytes ml nm ret) (w1 : (Jvm.Cond.methodLink own i Lib.objectInit).before a0 Z = true) (w2 : (Jvm.Cond.instanceMethod Lib.objectInit).before a0 Z = true) (w3 : (Jvm.Cond.code Lib.objectInit ⟨#[0xb1]⟩ 1 none).before a0 Z = true) (hsz : Ls.size = ml) (hd : decode bytes pc = .ok (.invokespecial i, 3)) (hf : 1 ≤ R.frames) (hW : (st.map fun v => v.category).sum ≤ W) (hl : W + 12 ≤ R.locals) (hp : pc + 3 = pc') : Rch p l e R s m args below meth c S0 n0 k n h pc' Ls st := by
  subst hp
  obtain ⟨T, locs, Y, eT, N, z, q⟩ := X
  obtain ⟨T', Y', e', st'⟩ := Jvm.RoadKit.initO Y C.1 C.2.1 C.2.2.2.2.2.1 w1 w2 w3 eT (g := mkF m pc Ls (.ref a :: st)) rfl (hsz.trans C.2.2.2.2.1.symm) rfl (hb C.2.2.2.1 hd) hf (W := W) (by show 2 * 0 + _ ≤ _; omega) hl
  exact ⟨T', _, Y', e', N, z, fun t kk => q t (st' t kk)⟩
/-- an array: its kind, its length, what its places hold -/
def Ary (Z : State) (h : Heap) (a : Addr) (ty : FieldType) (N : Nat) (f : Nat → Value) : Prop := ∃ cl : Cell, Arr Z h a cl ty ∧ cl.slots.size = N ∧ N < 2 ^ 31 ∧ ∀ i, i < N → cl.slots[i]? = some (f i)
def updN {α : Type} (f : Nat → α) (i : Nat) (v : α) : Nat → α := fun j => if j = i then v else f j
section Arrays
variable {h' : Heap} {a b : Addr} {ty : FieldType} {N i sl : Nat} {f g : Nat → Value} {v w : Value} {ws : List Addr}
theorem Ary.lt (A : Ary Z h a ty N f) : a < h.size := by obtain ⟨_, A, -⟩ := A; exact A.lt
theorem Ary.ext (A : Ary Z h a ty N f) (E : Ext h h') : Ary Z h' a ty N f := by obtain ⟨cl, A, r⟩ := A; exact ⟨cl, A.ext E, r⟩
theorem Ary.other (A : Ary Z h b ty N f) (W : Wr h h' a sl v) (q : b ≠ a) : Ary Z h' b ty N f := by obtain ⟨cl, A, r⟩ := A; exact ⟨cl, A.other W q, r⟩
theorem Ary.keep (A : Ary Z h a ty N f) (K : Keep h h' ws) (q : a ∉ ws) : Ary Z h' a ty N f := by obtain ⟨cl, A, r⟩ := A; exact ⟨cl, ⟨K.2.1 a cl A.1 q, A.2⟩, r⟩
theorem Ary.set (A : Ary Z h a ty N f) (W : Wr h h' a i v) : Ary Z h' a ty N (updN f i v) := by
  obtain ⟨cl, A, S, L, H⟩ := A
  refine ⟨_, A.same W, by rw [sz_set]; exact S, L, fun j hj => ?_⟩
  unfold updN
  by_cases q : j = i
  · subst q; simp [Cell.setSlot, S, hj]
  · simp only [Cell.setSlot, q, if_false]; rw [Array.getElem?_setIfInBounds_ne (Ne.symm q)]; exact H j hj
theorem Ary.of (A : Ary Z h a ty N f) (q : ∀ i, i < N → f i = g i) : Ary Z h a ty N g := by obtain ⟨cl, A, S, L, H⟩ := A; exact ⟨cl, A, S, L, fun i hi => by rw [← q i hi]; exact H i hi⟩
theorem idx_nat {j : Int32} {i : Nat} (hj : j.toInt = (i : Int)) : j.toNatClampNeg = i := by simp only [Int32.toNatClampNeg, hj]; rfl
theorem idx_ok {j : Int32} {i : Nat} {cl : Cell} (hj : j.toInt = (i : Int)) (hi : i < N) (S : cl.slots.size = N) : ¬ (j < 0 ∨ cl.slots.size ≤ j.toNatClampNeg) := by
  rw [idx_nat hj, S, Int32.lt_iff_toInt_lt, hj]
  have : (0 : Int32).toInt = 0 := rfl
  omega
theorem Rch.alen (X : Rch p l e R s m args below meth c S0 n0 k n h pc Ls (.ref a :: st)) (C : Ctx p s m meth c Z a0 tb own bytes ml nm ret) (A : Ary Z h a ty N f) {v : Int32} (hv : N.toInt32 = v) (hd : decode bytes pc = .ok (.arraylength, 1)) (hp : pc + 1 = pc') : Rch p l e R s m args below meth c S0 n0 k n h pc' Ls (.int v :: st) := by
  subst hp hv
  obtain ⟨T, locs, Y, eT, N, z, q⟩ := X
  obtain ⟨cl, A, rfl, L, H⟩ := A
  exact ⟨T, locs, Y, eT, N, z, fun t kk => q t (Y.arraylength C.1 (by rw [eT]; exact A.1) (State.isArrayOf_alike C.2.1.alike A.2.1) (g := mkF m pc Ls (.ref a :: st)) rfl rfl (hb C.2.2.2.1 hd) t kk)⟩
theorem Rch.laload {j : Int32} (X : Rch p l e R s m args below meth c S0 n0 k n h pc Ls (.int j :: .ref a :: st)) (C : Ctx p s m meth c Z a0 tb own bytes ml nm ret) (A : Ary Z h a .long N f) (hj : j.toInt = (i : Int)) (hi : i < N) (hv : f i = v) (hd : decode bytes pc = .ok (.laload, 1)) (hp : pc + 1 = pc') : Rch p l e R s m args below meth c S0 n0 k n h pc' Ls (v :: st) := by
  subst hp hv
  obtain ⟨T, locs, Y, eT, N, z, q⟩ := X
  obtain ⟨cl, A, S, L, H⟩ := A
  exact ⟨T, locs, Y, eT, N, z, fun t kk => q t (Y.laload C.1 (by rw [eT]; exact A.1) (State.isArrayOf_alike C.2.1.alike A.2.1) A.2.2 (idx_ok hj hi S) (by rw [idx_nat hj]; exact H i hi) (g := mkF m pc Ls (.int j :: .ref a :: st)) rfl rfl (hb C.2.2.2.1 hd) t kk)⟩
theorem Rch.iaload {j : Int32} (X : Rch p l e R s m args below meth c S0 n0 k n h pc Ls (.int j :: .ref a :: st)) (C : Ctx p s m meth c Z a0 tb own bytes ml nm ret) (A : Ary Z h a .int N f) (hj : j.toInt = (i : Int)) (hi : i < N) (hv : f i = v) (hd : decode bytes pc = .ok (.iaload, 1)) (hp : pc + 1 = pc') : Rch p l e R s m args below meth c S0 n0 k n h pc' Ls (v :: st) := by
  subst hp hv
  obtain ⟨T, locs, Y, eT, N, z, q⟩ := X
  obtain ⟨cl, A, S, L, H⟩ := A
  exact ⟨T, locs, Y, eT, N, z, fun t kk => q t (Y.iaload C.1 (by rw [eT]; exact A.1) (State.isArrayOf_alike C.2.1.alike A.2.1) A.2.2 (idx_ok hj hi S) (by rw [idx_nat hj]; exact H i hi) (g := mkF m pc Ls (.int j :: .ref a :: st)) rfl rfl (hb C.2.2.2.1 hd) t kk)⟩
theorem Rch.baload {j : Int32} (X : Rch p l e R s m args below meth c S0 n0 k n h pc Ls (.int j :: .ref a :: st)) (C : Ctx p s m meth c Z a0 tb own bytes ml nm ret) (A : Ary Z h a .boolean N f) (hj : j.toInt = (i : Int)) (hi : i < N) (hv : f i = v) (hd : decode bytes pc = .ok (.baload, 1)) (hp : pc + 1 = pc') : Rch p l e R s m args below meth c S0 n0 k n h pc' Ls (v :: st) := by
  subst hp hv
  obtain ⟨T, locs, Y, eT, N, z, q⟩ := X
  obtain ⟨cl, A, S, L, H⟩ := A
  exact ⟨T, locs, Y, eT, N, z, fun t kk => q t (Y.baloadBooleans C.1 (by rw [eT]; exact A.1) (State.isArrayOf_alike C.2.1.alike A.2.1) A.2.2 (idx_ok hj hi S) (by rw [idx_nat hj]; exact H i hi) (g := mkF m pc Ls (.int j :: .ref a :: st)) rfl rfl (hb C.2.2.2.1 hd) t kk)⟩
theorem Rch.daload {j : Int32} (X : Rch p l e R s m args below meth c S0 n0 k n h pc Ls (.int j :: .ref a :: st)) (C : Ctx p s m meth c Z a0 tb own bytes ml nm ret) (A : Ary Z h a .double N f) (hj : j.toInt = (i : Int)) (hi : i < N) (hv : f i = v) (hd : decode bytes pc = .ok (.daload, 1)) (hp : pc + 1 = pc') : Rch p l e R s m args below meth c S0 n0 k n h pc' Ls (v :: st) := by
  subst hp hv
  obtain ⟨T, locs, Y, eT, N, z, q⟩ := X
  obtain ⟨cl, A, S, L, H⟩ := A
  exact ⟨T, locs, Y, eT, N, z, fun t kk => q t (Y.daload C.1 (by rw [eT]; exact A.1) (State.isArrayOf_alike C.2.1.alike A.2.1) A.2.2 (idx_ok hj hi S) (by rw [idx_nat hj]; exact H i hi) (g := mkF m pc Ls (.int j :: .ref a :: st)) rfl rfl (hb C.2.2.2.1 hd) t kk)⟩
theorem Rch.aaload {j : Int32} (X : Rch p l e R s m args below meth c S0 n0 k n h pc Ls (.int j :: .ref a :: st)) (C : Ctx p s m meth c Z a0 tb own bytes ml nm ret) (A : Ary Z h a ty N f) (hty : ty.isReference = true) (hj : j.toInt = (i : Int)) (hi : i < N) (hv : f i = v) (hd : decode bytes pc = .ok (.aaload, 1)) (hp : pc + 1 = pc') : Rch p l e R s m args below meth c S0 n0 k n h pc' Ls (v :: st) := by
  subst hp hv
  obtain ⟨T, locs, Y, eT, N, z, q⟩ := X
  obtain ⟨cl, A, S, L, H⟩ := A
  exact ⟨T, locs, Y, eT, N, z, fun t kk => q t (Y.aaload C.1 (by rw [eT]; exact A.1) (State.isArrayOf_alike C.2.1.alike A.2.1) hty A.2.2 (idx_ok hj hi S) (by rw [idx_nat hj]; exact H i hi) (g := mkF m pc Ls (.int j :: .ref a :: st)) rfl rfl (hb C.2.2.2.1 hd) t kk)⟩
theorem Rch.lastore {j : Int32} {x : Int64} (X : Rch p l e R s m args below meth c S0 n0 k n h pc Ls (.long x :: .int j :: .ref a :: st)) (C : Ctx p s m meth c Z a0 tb own bytes ml nm ret) (A : Ary Z h a .long N f) (hj : j.toInt = (i : Int)) (hi : i < N) (ga : n0 ≤ a) (hd : decode bytes pc = .ok (.lastore, 1)) (hp : pc + 1 = pc') :
    ∃ h', Rch p l e R s m args below meth c S0 n0 k n h' pc' Ls st ∧ Wr h h' a i (.long x) := by
  subst hp
  obtain ⟨T, locs, Y, eT, N, z, q⟩ := X
  obtain ⟨cl, A, S, L, H⟩ := A
  obtain ⟨T', h', Y', e', W, st'⟩ := stJ Y C.1 C.2.1 eT A (idx_ok hj hi S) (g := mkF m pc Ls (.long x :: .int j :: .ref a :: st)) rfl rfl (hb C.2.2.2.1 hd)
  rw [idx_nat hj] at W
  exact ⟨h', ⟨T', _, Y', e', Fr.snoc Y' N ga, z, fun t kk => q t (st' t kk)⟩, W⟩
theorem Rch.iastore {j : Int32} {x : Int32} (X : Rch p l e R s m args below meth c S0 n0 k n h pc Ls (.int x :: .int j :: .ref a :: st)) (C : Ctx p s m meth c Z a0 tb own bytes ml nm ret) (A : Ary Z h a .int N f) (hj : j.toInt = (i : Int)) (hi : i < N) (ga : n0 ≤ a) (hd : decode bytes pc = .ok (.iastore, 1)) (hp : pc + 1 = pc') :
    ∃ h', Rch p l e R s m args below meth c S0 n0 k n h' pc' Ls st ∧ Wr h h' a i (.int x) := by
  subst hp
  obtain ⟨T, locs, Y, eT, N, z, q⟩ := X
  obtain ⟨cl, A, S, L, H⟩ := A
  obtain ⟨T', h', Y', e', W, st'⟩ := stI Y C.1 C.2.1 eT A (idx_ok hj hi S) (g := mkF m pc Ls (.int x :: .int j :: .ref a :: st)) rfl rfl (hb C.2.2.2.1 hd)
  rw [idx_nat hj] at W
  exact ⟨h', ⟨T', _, Y', e', Fr.snoc Y' N ga, z, fun t kk => q t (st' t kk)⟩, W⟩
theorem Rch.dastore {j : Int32} {x : UInt64} (X : Rch p l e R s m args below meth c S0 n0 k n h pc Ls (.double x :: .int j :: .ref a :: st)) (C : Ctx p s m meth c Z a0 tb own bytes ml nm ret) (A : Ary Z h a .double N f) (hj : j.toInt = (i : Int)) (hi : i < N) (ga : n0 ≤ a) (hd : decode bytes pc = .ok (.dastore, 1)) (hp : pc + 1 = pc') :
    ∃ h', Rch p l e R s m args below meth c S0 n0 k n h' pc' Ls st ∧ Wr h h' a i (.double x) := by
  subst hp
  obtain ⟨T, locs, Y, eT, N, z, q⟩ := X
  obtain ⟨cl, A, S, L, H⟩ := A
  obtain ⟨T', h', Y', e', W, st'⟩ := stD Y C.1 C.2.1 eT A (idx_ok hj hi S) (g := mkF m pc Ls (.double x :: .int j :: .ref a :: st)) rfl rfl (hb C.2.2.2.1 hd)
  rw [idx_nat hj] at W
  exact ⟨h', ⟨T', _, Y', e', Fr.snoc Y' N ga, z, fun t kk => q t (st' t kk)⟩, W⟩
theorem nar_b (b : Bool) : nar .boolean (own_b b) = own_b b := by cases b <;> decide
theorem Rch.zastore {j : Int32} {b : Bool} (X : Rch p l e R s m args below meth c S0 n0 k n h pc Ls (.int (own_b b) :: .int j :: .ref a :: st)) (C : Ctx p s m meth c Z a0 tb own bytes ml nm ret) (A : Ary Z h a .boolean N f) (hj : j.toInt = (i : Int)) (hi : i < N) (ga : n0 ≤ a) (hd : decode bytes pc = .ok (.bastore, 1)) (hp : pc + 1 = pc') :
    ∃ h', Rch p l e R s m args below meth c S0 n0 k n h' pc' Ls st ∧ Wr h h' a i (.int (own_b b)) := by
  subst hp
  obtain ⟨T, locs, Y, eT, N, z, q⟩ := X
  obtain ⟨cl, A, S, L, H⟩ := A
  obtain ⟨T', h', Y', e', W, st'⟩ := stZ Y C.1 C.2.1 eT A (idx_ok hj hi S) (g := mkF m pc Ls (.int (own_b b) :: .int j :: .ref a :: st)) rfl rfl (hb C.2.2.2.1 hd)
  rw [idx_nat hj, nar_b] at W
  exact ⟨h', ⟨T', _, Y', e', Fr.snoc Y' N ga, z, fun t kk => q t (st' t kk)⟩, W⟩
theorem Rch.newA {aty : ArrayType} {j : Int32} {cap : Nat} {ad : String} (X : Rch p l e R s m args below meth c S0 n0 k n h pc Ls (.int j :: st)) (C : Ctx p s m meth c Z a0 tb own bytes ml nm ret) (wa : (Jvm.Cond.arrayClass (newarray.typeOf aty)).before a0 Z = true) (hj : j.toInt = (N : Int)) (hcap : N ≤ cap) (hcb : cap * 8 ≤ 536870912) (had : "[" ++ (newarray.typeOf aty).toString = ad) (hd : decode bytes pc = .ok (.newarray aty, 2)) (hk : k + 1 ≤ R.cells) (hn : n + cap ≤ R.slots) (hp : pc + 2 = pc') :
    ∃ h', Rch p l e R s m args below meth c S0 n0 (k + 1) (n + cap) h' pc' Ls (.ref h.size :: st) ∧ Ext h h' ∧ Ary Z h' h.size (newarray.typeOf aty) N (fun _ => defaultValue (newarray.typeOf aty)) ∧ Exa Z h' h.size ad := by
  subst hp
  obtain ⟨T, locs, Y, eT, N1, z, q⟩ := X
  have hn0 : ¬ j < 0 := by rw [Int32.lt_iff_toInt_lt, hj]; have : (0 : Int32).toInt = 0 := rfl; omega
  obtain ⟨T', h', cA, Y', e', E, A, Ex, st'⟩ := newPE Y C.1 C.2.1 wa eT (g := mkF m pc Ls (.int j :: st)) rfl (hb C.2.2.2.1 hd) rfl hn0 (by rw [idx_nat hj]; exact hcap) hcb hk hn had
  have hN : N < 2 ^ 31 := by have := Int32.toInt_lt j; omega
  refine ⟨h', ⟨T', _, Y', e', N1, z, fun t kk => q t (st' t kk)⟩, E, ⟨_, A, by rw [sz_new, idx_nat hj], hN, fun i hi => ?_⟩, Ex⟩
  simp [Jvm.RoadKit.newA, idx_nat hj, hi]
theorem Rch.cloneA {i W cap : Nat} {ad : String} (X : Rch p l e R s m args below meth c S0 n0 k n h pc Ls (.ref a :: st)) (C : Ctx p s m meth c Z a0 tb own bytes ml nm ret) (w1 : (Jvm.Cond.methodLink own i ⟨ad, "clone", "()Ljava/lang/Object;"⟩).before a0 Z = true) (w2 : (Jvm.Cond.sameMethod ad "java/lang/Object" "clone" "()Ljava/lang/Object;").before a0 Z = true) (w3 : (Jvm.Cond.native ⟨"java/lang/Object", "clone", "()Ljava/lang/Object;"⟩).before a0 Z = true) (w4 : (Jvm.Cond.instanceMethod ⟨"java/lang/Object", "clone", "()Ljava/lang/Object;"⟩).before a0 Z = true) (w5 : (Jvm.Cond.selects ad ⟨ad, "clone", "()Ljava/lang/Object;"⟩ ⟨"java/lang/Object", "clone", "()Ljava/lang/Object;"⟩).before a0 Z = true) (w6 : (Jvm.Cond.castable ad "java/lang/Cloneable").before a0 Z = true)
    (A : Ary Z h a ty N f) (E : Exa Z h a ad) (hfit : ∀ i, i < N → fits ty (f i) = true) (hsz : Ls.size = ml) (hd : decode bytes pc = .ok (.invokevirtual i, 3)) (hf : 1 ≤ R.frames) (hW : (st.map fun v => v.category).sum ≤ W) (hl : W + 14 ≤ R.locals) (hcap : N ≤ cap) (hk : k + 1 ≤ R.cells) (hn : n + cap ≤ R.slots) (hp : pc + 3 = pc') :
    ∃ h', Rch p l e R s m args below meth c S0 n0 (k + 1) (n + cap) h' pc' Ls (.ref h.size :: st) ∧ Ext h h' ∧ Ary Z h' h.size ty N f ∧ Exa Z h' h.size ad := by
  subst hp
  obtain ⟨T, locs, Y, eT, N1, z, q⟩ := X
  obtain ⟨cl, A, S, L, H⟩ := A
  have FC : FitC Z cl := fitC_of A fun j hj v hv => by rw [S] at hj; rw [H j hj] at hv; cases hv; exact hfit j hj
  obtain ⟨T', h', Y', e', Ex, A', E', st'⟩ := Jvm.RoadKit.cloneA Y C.1 C.2.1 C.2.2.2.2.2.1 w1 w2 w3 w4 w5 w6 eT A E FC (g := mkF m pc Ls (.ref a :: st)) rfl (hsz.trans C.2.2.2.2.1.symm) rfl (hb C.2.2.2.1 hd) hf (W := W) (by show 2 * 0 + _ ≤ _; omega) hl (by rw [S]; exact hcap) hk hn
  exact ⟨h', ⟨T', _, Y', e', N1, z, fun t kk => q t (st' t kk)⟩, Ex, ⟨_, A', S, L, H⟩, E'⟩
/-- what may lie in an array of objects -/
def Orr (Z : State) (h : Heap) (a : Addr) (K : String) : Prop := ∃ cl : Cell, h[a]? = some cl ∧ Ovr Z cl.cls K
theorem Orr.ext {K : String} (O : Orr Z h a K) (E : Ext h h') : Orr Z h' a K := by obtain ⟨cl, q, r⟩ := O; exact ⟨cl, E.2 _ _ q, r⟩
theorem Orr.wr {K : String} (O : Orr Z h a K) (W : Wr h h' b sl v) : Orr Z h' a K := by obtain ⟨cl, q, r⟩ := O; obtain ⟨c', e1, e2, -⟩ := wr_at W q; exact ⟨c', e1, by rw [e2]; exact r⟩
theorem Orr.lt {K : String} (O : Orr Z h a K) : a < h.size := by obtain ⟨cl, q, r⟩ := O; exact (Array.getElem?_eq_some_iff.mp q).1
theorem Orr.sto {K : String} {y : Addr} (O : Orr Z h a K) (A : Ary Z h a ty N f) (I : Ins Z h y K true) : Sto Z h a (.ref y) := by
  obtain ⟨cl, q, r⟩ := O; obtain ⟨cl', A, -⟩ := A; cases q.symm.trans A.1; exact Sto.of A r I
theorem Rch.newR {K : String} {j : Int32} {i cap : Nat} {ad : String} (X : Rch p l e R s m args below meth c S0 n0 k n h pc Ls (.int j :: st)) (C : Ctx p s m meth c Z a0 tb own bytes ml nm ret) (wl : (Jvm.Cond.classLink own i K).before a0 Z = true) (wa : (Jvm.Cond.arrayOver (.object K)).before a0 Z = true) (hj : j.toInt = (N : Int)) (hcap : N ≤ cap) (hcb : cap * 8 ≤ 536870912) (had : "[" ++ (FieldType.object K).toString = ad) (hd : decode bytes pc = .ok (.anewarray i, 3)) (hk : k + 1 ≤ R.cells) (hn : n + cap ≤ R.slots) (hp : pc + 3 = pc') :
    ∃ h', Rch p l e R s m args below meth c S0 n0 (k + 1) (n + cap) h' pc' Ls (.ref h.size :: st) ∧ Ext h h' ∧ Ary Z h' h.size (.object K) N (fun _ => .null) ∧ Exa Z h' h.size ad ∧ Orr Z h' h.size K := by
  subst hp
  obtain ⟨T, locs, Y, eT, N1, z, q⟩ := X
  have hn0 : ¬ j < 0 := by rw [Int32.lt_iff_toInt_lt, hj]; have : (0 : Int32).toInt = 0 := rfl; omega
  obtain ⟨T', h', cA, Y', e', E, A, Ex, O, st'⟩ := newRE Y C.1 C.2.1 C.2.2.2.2.2.1 wl wa eT (g := mkF m pc Ls (.int j :: st)) rfl (hb C.2.2.2.1 hd) rfl hn0 (by rw [idx_nat hj]; exact hcap) hcb hk hn had
  have hN : N < 2 ^ 31 := by have := Int32.toInt_lt j; omega
  refine ⟨h', ⟨T', _, Y', e', N1, z, fun t kk => q t (st' t kk)⟩, E, ⟨_, A, by rw [sz_new, idx_nat hj], hN, fun i hi => ?_⟩, Ex, ⟨_, A.1, O⟩⟩
  simp [Jvm.RoadKit.newA, idx_nat hj, hi, defaultValue]
theorem Rch.aastore {j : Int32} (X : Rch p l e R s m args below meth c S0 n0 k n h pc Ls (v :: .int j :: .ref a :: st)) (C : Ctx p s m meth c Z a0 tb own bytes ml nm ret) (A : Ary Z h a ty N f) (hty : ty.isReference = true) (F : Sto Z h a v) (hj : j.toInt = (i : Int)) (hi : i < N) (ga : n0 ≤ a) (hd : decode bytes pc = .ok (.aastore, 1)) (hp : pc + 1 = pc') :
    ∃ h', Rch p l e R s m args below meth c S0 n0 k n h' pc' Ls st ∧ Wr h h' a i v := by
  subst hp
  obtain ⟨T, locs, Y, eT, N, z, q⟩ := X
  obtain ⟨cl, A, S, L, H⟩ := A
  obtain ⟨T', h', Y', e', W, st'⟩ := stR Y C.1 C.2.1 eT A (idx_ok hj hi S) hty F (g := mkF m pc Ls (v :: .int j :: .ref a :: st)) rfl rfl (hb C.2.2.2.1 hd)
  rw [idx_nat hj] at W
  exact ⟨h', ⟨T', _, Y', e', Fr.snoc Y' N ga, z, fun t kk => q t (st' t kk)⟩, W⟩
end Arrays
/-- the run comes to the method's end, as P says -/
def OwnEnds (p : Program) (e : Env) (below : List Frame) (s S0 : State) (n0 : Nat) (P : Option Value → Heap → Prop) (K M : Nat) : Prop := ∃ s₂ o, Steps p.tables e below S0 s₂ ∧ s₂.status = .running ∧ Ended s₂ below o ∧ ∃ v L, o = .returned v ∧ (P v s₂.heap ∧ Fr n0 L) ∧ FrameEnd s o s₂ L K M
theorem Rch.end (X : Rch p l e R s m args below meth c S0 n0 k n h pc Ls st) {v : Option Value} (hv : meth.sig.returnType = none → v = none) (hlk : meth.locks = false) {P : Option Value → Heap → Prop} {K M : Nat} (hP : P v h) (hK : k ≤ K) (hM : n ≤ M)
    (f : ∀ T locs, Stand p l e R s m args below meth c T locs k n → ∀ fs : List Frame, (∀ (f : JFrame) (acts : List Action), f.method = m → f.locked = none → f.entered = [] → (doReturn e (T.setTop f) acts v).1 = T.setFrames fs) → Steps p.tables e below (T.setTop (mkF m pc Ls st)) (T.setFrames fs)) :
    OwnEnds p e below s S0 n0 P K M := by
  obtain ⟨T, locs, Y, eT, N, z, q⟩ := X
  obtain ⟨fs, hr, hrun, hended, hW, hsame⟩ := Y.leave (v := v) hv hlk
  exact ⟨_, _, q _ (f T locs Y fs hr), hrun, hended, v, locs, rfl, ⟨by rw [show (T.setFrames fs).heap = T.heap from rfl, eT]; exact hP, N⟩, ⟨_, rfl⟩, hW, hsame.mono hK hM⟩
theorem Rch.retV (X : Rch p l e R s m args below meth c S0 n0 k n h pc Ls []) (C : Ctx p s m meth c Z a0 tb own bytes ml nm none) (hd : decode bytes pc = .ok (.return_, 1)) {P : Option Value → Heap → Prop} {K M : Nat} (hP : P none h) (hK : k ≤ K) (hM : n ≤ M) :
    OwnEnds p e below s S0 n0 P K M :=
  X.end (fun _ => rfl) C.2.2.2.2.2.2.2.2 hP hK hM fun T locs Y fs hr => Y.returnOut C.1 C.2.2.2.2.2.2.2.1 (hb C.2.2.2.1 hd) hr
theorem Rch.retJ {x : Int64} (X : Rch p l e R s m args below meth c S0 n0 k n h pc Ls [.long x]) (C : Ctx p s m meth c Z a0 tb own bytes ml nm (some .long)) (hd : decode bytes pc = .ok (.lreturn, 1)) {P : Option Value → Heap → Prop} {K M : Nat} (hP : P (some (.long x)) h) (hK : k ≤ K) (hM : n ≤ M) :
    OwnEnds p e below s S0 n0 P K M :=
  X.end (fun q => by rw [C.2.2.2.2.2.2.2.1] at q; cases q) C.2.2.2.2.2.2.2.2 hP hK hM fun T locs Y fs hr => Y.lreturnOut C.1 C.2.2.2.2.2.2.2.1 (hb C.2.2.2.1 hd) hr
theorem Rch.retI {x : Int32} (X : Rch p l e R s m args below meth c S0 n0 k n h pc Ls [.int x]) (C : Ctx p s m meth c Z a0 tb own bytes ml nm (some .int)) (hd : decode bytes pc = .ok (.ireturn, 1)) {P : Option Value → Heap → Prop} {K M : Nat} (hP : P (some (.int x)) h) (hK : k ≤ K) (hM : n ≤ M) :
    OwnEnds p e below s S0 n0 P K M :=
  X.end (fun q => by rw [C.2.2.2.2.2.2.2.1] at q; cases q) C.2.2.2.2.2.2.2.2 hP hK hM fun T locs Y fs hr => Y.ireturnOut C.1 C.2.2.2.2.2.2.2.1 rfl (Or.inl rfl) (hb C.2.2.2.1 hd) hr
theorem Rch.retZ {b : Bool} (X : Rch p l e R s m args below meth c S0 n0 k n h pc Ls [.int (own_b b)]) (C : Ctx p s m meth c Z a0 tb own bytes ml nm (some .boolean)) (hd : decode bytes pc = .ok (.ireturn, 1)) {P : Option Value → Heap → Prop} {K M : Nat} (hP : P (some (.int (own_b b))) h) (hK : k ≤ K) (hM : n ≤ M) :
    OwnEnds p e below s S0 n0 P K M :=
  X.end (fun q => by rw [C.2.2.2.2.2.2.2.1] at q; cases q) C.2.2.2.2.2.2.2.2 hP hK hM fun T locs Y fs hr => Y.ireturnOut C.1 C.2.2.2.2.2.2.2.1 (by cases b <;> rfl) (Or.inr (Or.inl rfl)) (hb C.2.2.2.1 hd) hr
theorem Rch.retA {a : Addr} {t : FieldType} (X : Rch p l e R s m args below meth c S0 n0 k n h pc Ls [.ref a]) (C : Ctx p s m meth c Z a0 tb own bytes ml nm (some t)) (ht : t.isReference = true) (hd : decode bytes pc = .ok (.areturn, 1)) {P : Option Value → Heap → Prop} {K M : Nat} (hP : P (some (.ref a)) h) (hK : k ≤ K) (hM : n ≤ M) :
    OwnEnds p e below s S0 n0 P K M :=
  X.end (fun q => by rw [C.2.2.2.2.2.2.2.1] at q; cases q) C.2.2.2.2.2.2.2.2 hP hK hM fun T locs Y fs hr => retOut Y C.1 C.2.2.2.2.2.2.2.1 (by cases t <;> first | rfl | (simp [FieldType.isReference] at ht)) (Or.inr (Or.inr (Or.inr (Or.inr ⟨rfl, ht, rfl⟩)))) (hb C.2.2.2.1 hd) hr
/-- a contract: from the heap h0 with these arguments the body returns, as P says -/
def Con (l : Launch) (Z : State) (y : MethodName) (bytes : ByteArray) (ml : Nat) (ret : Option FieldType) (rm : Room) (as' : Array Value) (h0 : Heap) (n0 : Nat) (P : Option Value → Heap → Prop) : Prop :=
  ∀ ws : List Jvm.Cond, MetFree l y (head1 (Jvm.Cond.code y bytes ml ret :: ws) rm) (fun a U => a = as' ∧ Z.Warmed39 U.vm ∧ U.heap = h0) (fun _ _ _ _ _ => True) (fun _ U o U' => ∃ v L, o = .returned v ∧ (P v U'.heap ∧ Fr n0 L) ∧ FrameEnd U o U' L rm.cells rm.slots)
theorem Con.mk {y : MethodName} {rm : Room} {as' : Array Value} {h0 : Heap} {P : Option Value → Heap → Prop} (hpn : plainFor y = true) (hw : ∀ d ∈ tb, d.before a0 Z = true) (z0 : n0 ≤ h0.size) (he : ∀ m, entryFrame m as' ml = mkF m 0 Ls [])
    (body : ∀ (p : Program) (e : Env) (s : State) (m : MethodId) (below : List Frame) (meth : Method) (c : Code) (S0 : State), Ctx p s m meth c Z a0 tb y.cls bytes ml y.name ret → Rch p l e rm s m as' below meth c S0 n0 0 0 h0 0 Ls [] →
      OwnEnds p e below s S0 n0 P rm.cells rm.slots) :
    Con l Z y bytes ml ret rm as' h0 n0 P := by
  intro ws
  refine MetFree.of_bodySF hpn hisR ?_
  intro p e s m args below meth c s₁ Bd hml0 hP hK
  obtain ⟨rfl, hZ, hh⟩ := hP
  have hown : s.vm.findClass y.cls = some m.cls := findClass_of_methodNamed Bd.named
  have hnm := (name_of_methodNamed Bd.named Bd.method).1
  have X0 := Stand.of_body Bd
  have e0 : s₁.heap = h0 := by rw [← hh, Bd.state]; rfl
  exact body p e s m below meth c _ ⟨Bd.exec, hZ, hw, Bd.bytes, hml0, hown, hnm, Bd.returns, Bd.notSynchronized⟩ ⟨s₁, [], X0, e0, Fr.nil n0, by rw [hh]; exact z0, fun t kk => castTop (he m) kk⟩
section Calls
variable {y z : MethodName} {bytes' : ByteArray} {ml' W i : Nat} {ret' : Option FieldType} {rm : Room} {P : Option Value → Heap → Prop} {argsL rest : List Value} {a : Addr} {K : String}
theorem Rch.callS (X : Rch p l e R s m args below meth c S0 n0 k n h pc Ls st) (C : Ctx p s m meth c Z a0 tb own bytes ml nm ret) (w1 : (Jvm.Cond.methodLink own i y).before a0 Z = true) (w2 : (Jvm.Cond.static y).before a0 Z = true) (w3 : (Jvm.Cond.initialized y.cls).before a0 Z = true) (w4 : (Jvm.Cond.code y bytes' ml' ret').before a0 Z = true) (hy : y.cls ≠ "java/lang/invoke/MethodHandle" ∧ y.cls ≠ "java/lang/invoke/VarHandle")
    (argsL rest : List Value) (hst : st = argsL.reverse ++ rest) (hcon : Con l Z y bytes' ml' ret' rm argsL.toArray h n0 P) (W : Nat) (hW : (rest.map fun v => v.category).sum ≤ W) (hf : rm.frames + 1 ≤ R.frames) (hl : W + (ml' + 11) + rm.locals ≤ R.locals) (hk : k + rm.cells ≤ R.cells) (hn : n + rm.slots ≤ R.slots) (hlen : ∀ sig, parseMethodDescriptor y.desc = some sig → argsL.length = sig.parameters.length) (hsz : Ls.size = ml)
    (hd : decode bytes pc = .ok (.invokestatic i, 3)) (hp : pc + 3 = pc') : ∃ v h', Rch p l e R s m args below meth c S0 n0 (k + rm.cells) (n + rm.slots) h' pc' Ls (v.toList ++ rest) ∧ P v h' := by
  subst hp hst
  obtain ⟨T, locs, Y, eT, N, z, q⟩ := X
  obtain ⟨v, _, ⟨T', L', k', n'⟩, -, Y', ⟨Lc, hQ, l1, y1, z1⟩, st'⟩ := Jvm.LawKit.callS Y C.1 (y := y) C.2.2.2.2.2.1 (mvT C.2.1 w1) (mvT C.2.1 w2) (mvT C.2.1 w3) (mvT C.2.1 w4) hy (backOf (W := W) (Q := fun v h L => P v h ∧ Fr n0 L) (hcon []) C.2.1 w4 w3 hf hl) (g := mkF m pc Ls _) rfl (hsz.trans C.2.2.2.2.1.symm) (argsL := argsL) (rest := rest) hlen rfl (by show 2 * 0 + _ ≤ _; omega) (hb C.2.2.2.1 hd) (fun _ _ => ⟨rfl, eT, hk, hn⟩)
  dsimp only [Pt.U, Pt.locs, Pt.cells, Pt.slots] at Y' l1 y1 z1 st' hQ
  subst l1 y1 z1
  exact ⟨v, T'.heap, ⟨T', _, Y', rfl, Fr.app N hQ.2, z, fun t kk => q t (st' t kk)⟩, hQ.1⟩
theorem Rch.callI (X : Rch p l e R s m args below meth c S0 n0 k n h pc Ls st) (C : Ctx p s m meth c Z a0 tb own bytes ml nm ret) (hy1 : y.name = "<init>") (w1 : (Jvm.Cond.methodLink own i y).before a0 Z = true) (w2 : (Jvm.Cond.instanceMethod y).before a0 Z = true) (w3 : (Jvm.Cond.initialized y.cls).before a0 Z = true) (w4 : (Jvm.Cond.code y bytes' ml' none).before a0 Z = true) (hy : y.cls ≠ "java/lang/invoke/MethodHandle" ∧ y.cls ≠ "java/lang/invoke/VarHandle")
    (a : Addr) (argsL rest : List Value) (hst : st = argsL.reverse ++ .ref a :: rest) (hcon : Con l Z y bytes' ml' none rm (.ref a :: argsL).toArray h n0 P) (W : Nat) (hW : (rest.map fun v => v.category).sum ≤ W) (hf : rm.frames + 1 ≤ R.frames) (hl : W + (ml' + 11) + rm.locals ≤ R.locals) (hk : k + rm.cells ≤ R.cells) (hn : n + rm.slots ≤ R.slots) (hlen : ∀ sig, parseMethodDescriptor y.desc = some sig → argsL.length = sig.parameters.length) (hsz : Ls.size = ml)
    (hd : decode bytes pc = .ok (.invokespecial i, 3)) (hp : pc + 3 = pc') : ∃ v h', Rch p l e R s m args below meth c S0 n0 (k + rm.cells) (n + rm.slots) h' pc' Ls (v.toList ++ rest) ∧ P v h' := by
  subst hp hst
  obtain ⟨T, locs, Y, eT, N, z, q⟩ := X
  obtain ⟨v, _, ⟨T', L', k', n'⟩, -, Y', ⟨Lc, hQ, l1, y1, z1⟩, st'⟩ := Y.specialBack C.1 (y := y) hy1 C.2.2.2.2.2.1 (mvT C.2.1 w1) (mvT C.2.1 w2) (mvT C.2.1 w4) hy (backOf (W := W) (Q := fun v h L => P v h ∧ Fr n0 L) (hcon []) C.2.1 w4 w3 hf hl) (g := mkF m pc Ls _) rfl (hsz.trans C.2.2.2.2.1.symm) (Steps.refl _) (a := a) (argsL := argsL) (rest := rest) hlen rfl (by show 2 * 0 + _ ≤ _; omega) (hb C.2.2.2.1 hd) (fun _ _ => ⟨rfl, eT, hk, hn⟩)
  dsimp only [Pt.U, Pt.locs, Pt.cells, Pt.slots] at Y' l1 y1 z1 st' hQ
  subst l1 y1 z1
  exact ⟨v, T'.heap, ⟨T', _, Y', rfl, Fr.app N hQ.2, z, fun t kk => q t (st'.trans kk)⟩, hQ.1⟩
theorem Rch.callV (X : Rch p l e R s m args below meth c S0 n0 k n h pc Ls st) (C : Ctx p s m meth c Z a0 tb own bytes ml nm ret) (E : Exa Z h a K) (w1 : (Jvm.Cond.methodLink own i y).before a0 Z = true) (w2 : (Jvm.Cond.declares y).before a0 Z = true) (w5 : (Jvm.Cond.selects K y y).before a0 Z = true) (w6 : (Jvm.Cond.instanceMethod y).before a0 Z = true) (w3 : (Jvm.Cond.initialized y.cls).before a0 Z = true) (w4 : (Jvm.Cond.code y bytes' ml' ret').before a0 Z = true) (hy : y.cls ≠ "java/lang/invoke/MethodHandle" ∧ y.cls ≠ "java/lang/invoke/VarHandle")
    (argsL rest : List Value) (hst : st = argsL.reverse ++ .ref a :: rest) (hcon : Con l Z y bytes' ml' ret' rm (.ref a :: argsL).toArray h n0 P) (W : Nat) (hW : (rest.map fun v => v.category).sum ≤ W) (hf : rm.frames + 1 ≤ R.frames) (hl : W + (ml' + 11) + rm.locals ≤ R.locals) (hk : k + rm.cells ≤ R.cells) (hn : n + rm.slots ≤ R.slots) (hlen : ∀ sig, parseMethodDescriptor y.desc = some sig → argsL.length = sig.parameters.length) (hsz : Ls.size = ml)
    (hd : decode bytes pc = .ok (.invokevirtual i, 3)) (hp : pc + 3 = pc') : ∃ v h', Rch p l e R s m args below meth c S0 n0 (k + rm.cells) (n + rm.slots) h' pc' Ls (v.toList ++ rest) ∧ P v h' := by
  subst hp hst
  obtain ⟨T, locs, Y, eT, N, z, q⟩ := X
  obtain ⟨cq, kq, qa, qb, qc⟩ := isOf C.2.1 eT E
  obtain ⟨v, _, ⟨T', L', k', n'⟩, -, Y', ⟨Lc, hQ, l1, y1, z1⟩, st'⟩ := Y.virtualBack C.1 (y := y) (z := y) C.2.2.2.2.2.1 (mvT C.2.1 w1) (mvT C.2.1 w2) (notFace_of_selects (args := #[]) (mvT C.2.1 w5)) (mvT C.2.1 w5) (mvT C.2.1 w6) hy (backOf (W := W) (Q := fun v h L => P v h ∧ Fr n0 L) (hcon []) C.2.1 w4 w3 hf hl) qa qc (g := mkF m pc Ls _) rfl (hsz.trans C.2.2.2.2.1.symm) (Steps.refl _) (argsL := argsL) (rest := rest) hlen rfl (by show 2 * 0 + _ ≤ _; omega) (hb C.2.2.2.1 hd) (fun _ _ => ⟨rfl, eT, hk, hn⟩)
  dsimp only [Pt.U, Pt.locs, Pt.cells, Pt.slots] at Y' l1 y1 z1 st' hQ
  subst l1 y1 z1
  exact ⟨v, T'.heap, ⟨T', _, Y', rfl, Fr.app N hQ.2, z, fun t kk => q t (st'.trans kk)⟩, hQ.1⟩
theorem Rch.callP (X : Rch p l e R s m args below meth c S0 n0 k n h pc Ls st) (C : Ctx p s m meth c Z a0 tb own bytes ml nm ret) (E : Exa Z h a K) (w1 : (Jvm.Cond.methodLink own i y).before a0 Z = true) (w6 : (Jvm.Cond.instanceMethod y).before a0 Z = true) {kk : Nat} (w5 : (Jvm.Cond.instantiable y.cls kk).before a0 Z = true) (w7 : (Jvm.Cond.privateMethod y).before a0 Z = true) (w3 : (Jvm.Cond.initialized y.cls).before a0 Z = true) (w4 : (Jvm.Cond.code y bytes' ml' ret').before a0 Z = true) (hy : y.cls ≠ "java/lang/invoke/MethodHandle" ∧ y.cls ≠ "java/lang/invoke/VarHandle")
    (argsL rest : List Value) (hst : st = argsL.reverse ++ .ref a :: rest) (hcon : Con l Z y bytes' ml' ret' rm (.ref a :: argsL).toArray h n0 P) (W : Nat) (hW : (rest.map fun v => v.category).sum ≤ W) (hf : rm.frames + 1 ≤ R.frames) (hl : W + (ml' + 11) + rm.locals ≤ R.locals) (hk : k + rm.cells ≤ R.cells) (hn : n + rm.slots ≤ R.slots) (hlen : ∀ sig, parseMethodDescriptor y.desc = some sig → argsL.length = sig.parameters.length) (hsz : Ls.size = ml)
    (hd : decode bytes pc = .ok (.invokevirtual i, 3)) (hp : pc + 3 = pc') : ∃ v h', Rch p l e R s m args below meth c S0 n0 (k + rm.cells) (n + rm.slots) h' pc' Ls (v.toList ++ rest) ∧ P v h' := by
  subst hp hst
  obtain ⟨T, locs, Y, eT, N, z, q⟩ := X
  obtain ⟨cq, qa, qb⟩ := E.cell
  have wi : (Jvm.Cond.instantiable y.cls kk).before args s = true := mvT C.2.1 w5
  obtain ⟨ci, ki, i1, i2, -, i4, -⟩ := Cond.instantiable_spec wi
  have hpv := Cond.privateMethod_at (mvP C.2.1 w7 (args := #[]))
  have hsl : (Jvm.Cond.selects y.cls y y).before args s = true := selects_self_of_private i1 i2 (Bool.or_eq_false_iff.mp i4).1 hpv (mvT C.2.1 w6) hy
  obtain ⟨v, _, ⟨T', L', k', n'⟩, -, Y', ⟨Lc, hQ, l1, y1, z1⟩, st'⟩ := Y.privateBack C.1 (y := y) C.2.2.2.2.2.1 (mvT C.2.1 w1) (mvT C.2.1 w6) hsl hpv (mvT C.2.1 w4) hy (backOf (W := W) (Q := fun v h L => P v h ∧ Fr n0 L) (hcon []) C.2.1 w4 w3 hf hl) (g := mkF m pc Ls _) rfl (hsz.trans C.2.2.2.2.1.symm) (Steps.refl _) (a := a) (by rw [eT]; exact qa) qb (argsL := argsL) (rest := rest) hlen rfl (by show 2 * 0 + _ ≤ _; omega) (hb C.2.2.2.1 hd) (fun _ _ => ⟨rfl, eT, hk, hn⟩)
  dsimp only [Pt.U, Pt.locs, Pt.cells, Pt.slots] at Y' l1 y1 z1 st' hQ
  subst l1 y1 z1
  exact ⟨v, T'.heap, ⟨T', _, Y', rfl, Fr.app N hQ.2, z, fun t kk => q t (st'.trans kk)⟩, hQ.1⟩
theorem Rch.callF {cnt : Nat} (X : Rch p l e R s m args below meth c S0 n0 k n h pc Ls st) (C : Ctx p s m meth c Z a0 tb own bytes ml nm ret) (E : Exa Z h a K) (w1 : (Jvm.Cond.methodLink own i z).before a0 Z = true) (w2 : (Jvm.Cond.declares z).before a0 Z = true) (w8 : (Jvm.Cond.interfaceMethod z.cls z.cls z.name z.desc).before a0 Z = true) (w5 : (Jvm.Cond.selects K z y).before a0 Z = true) (w6 : (Jvm.Cond.instanceMethod y).before a0 Z = true) (w9 : (Jvm.Cond.publicMethod y).before a0 Z = true) (w10 : (Jvm.Cond.unhidden K z.name z.desc).before a0 Z = true) (w11 : (Jvm.Cond.castable K z.cls).before a0 Z = true) (w3 : (Jvm.Cond.initialized y.cls).before a0 Z = true) (w4 : (Jvm.Cond.code y bytes' ml' ret').before a0 Z = true) (hy : z.cls ≠ "java/lang/invoke/MethodHandle" ∧ z.cls ≠ "java/lang/invoke/VarHandle")
    (argsL rest : List Value) (hst : st = argsL.reverse ++ .ref a :: rest) (hcon : Con l Z y bytes' ml' ret' rm (.ref a :: argsL).toArray h n0 P) (W : Nat) (hW : (rest.map fun v => v.category).sum ≤ W) (hf : rm.frames + 1 ≤ R.frames) (hl : W + (ml' + 11) + rm.locals ≤ R.locals) (hk : k + rm.cells ≤ R.cells) (hn : n + rm.slots ≤ R.slots) (hlen : ∀ sig, parseMethodDescriptor z.desc = some sig → argsL.length = sig.parameters.length) (hsz : Ls.size = ml)
    (hd : decode bytes pc = .ok (.invokeinterface i cnt, 5)) (hp : pc + 5 = pc') : ∃ v h', Rch p l e R s m args below meth c S0 n0 (k + rm.cells) (n + rm.slots) h' pc' Ls (v.toList ++ rest) ∧ P v h' := by
  subst hp hst
  obtain ⟨T, locs, Y, eT, N, zz, q⟩ := X
  obtain ⟨cq, kq, qa, qb, qc⟩ := isOf C.2.1 eT E
  obtain ⟨v, _, ⟨T', L', k', n'⟩, -, Y', ⟨Lc, hQ, l1, y1, z1⟩, st'⟩ := Y.interfaceBack C.1 (xi := z) (y := y) C.2.2.2.2.2.1 (mvT C.2.1 w1) (mvT C.2.1 w2) (mvT C.2.1 w8 (by simp [Cond.onTables, Cond.keepsFace, Cond.keeps, Cond.steady, Cond.faceAtom, hy.1, hy.2])) (mvT C.2.1 w5) (mvT C.2.1 w6) (mvT C.2.1 w9) (mvT C.2.1 w10) (mvT C.2.1 w11) hy (backOf (W := W) (Q := fun v h L => P v h ∧ Fr n0 L) (hcon []) C.2.1 w4 w3 hf hl) qa qb qc (g := mkF m pc Ls _) rfl (hsz.trans C.2.2.2.2.1.symm) (Steps.refl _) (argsL := argsL) (rest := rest) hlen rfl (by show 2 * 0 + _ ≤ _; omega) (hb C.2.2.2.1 hd) (fun _ _ => ⟨rfl, eT, hk, hn⟩)
  dsimp only [Pt.U, Pt.locs, Pt.cells, Pt.slots] at Y' l1 y1 z1 st' hQ
  subst l1 y1 z1
  exact ⟨v, T'.heap, ⟨T', _, Y', rfl, Fr.app N hQ.2, zz, fun t kk => q t (st'.trans kk)⟩, hQ.1⟩
theorem Rch.castY {K' : String} (X : Rch p l e R s m args below meth c S0 n0 k n h pc Ls (.ref a :: st)) (C : Ctx p s m meth c Z a0 tb own bytes ml nm ret) (I : Ins Z h a K' true) (wl : (Jvm.Cond.classLink own i K').before a0 Z = true) (hd : decode bytes pc = .ok (.checkcast i, 3)) (hp : pc + 3 = pc') : Rch p l e R s m args below meth c S0 n0 k n h pc' Ls (.ref a :: st) := by
  subst hp
  obtain ⟨T, locs, Y, eT, N, z, q⟩ := X
  obtain ⟨T', Y', e', st'⟩ := Jvm.RoadKit.castY Y C.1 C.2.1 C.2.2.2.2.2.1 wl eT I (g := mkF m pc Ls (.ref a :: st)) rfl rfl (hb C.2.2.2.1 hd)
  exact ⟨T', _, Y', e', N, z, fun t kk => q t (st' t kk)⟩
end Calls
end Walk
end Jvm.OwnKit

namespace Jvm.Pilot.@@N@@
open Jvm Jvm.ClassFile Sem Op Lib Jvm.Free Jvm.Stand Jvm.LawKit Jvm.RoadKit Bundle Jvm.OwnKit Jvm.Pilot.@@N@@.Jvm.D
/-! small facts on booleans and comparisons -/
def own_max (x y : Int64) : Int64 := if x < y then y else x
theorem own_max_pos (x : Int64) : 1 ≤ (own_max 1 x).toInt := by
  unfold own_max
  split
  · rename_i q; rw [Int64.lt_iff_toInt_lt] at q; have : (1 : Int64).toInt = 1 := rfl; omega
  · decide
theorem lcmp_lt (x y : Int64) : ifCond.holds .lt (lcmpW x y) = decide (x < y) := by rw [lcW]; simp only [ifCond.holds]; exact decide_eq_decide.mpr (lc_lt x y)
theorem lcmp_ge (x y : Int64) : ifCond.holds .ge (lcmpW x y) = decide (y ≤ x) := by rw [lcW]; simp only [ifCond.holds]; exact decide_eq_decide.mpr (lc_ge x y)
theorem lcmp_le (x y : Int64) : ifCond.holds .le (lcmpW x y) = decide (x ≤ y) := by rw [lcW]; simp only [ifCond.holds]; exact decide_eq_decide.mpr (lc_le x y)
theorem lcmp_ne (x y : Int64) : ifCond.holds .ne (lcmpW x y) = decide (¬ x = y) := by
  rw [lcW]
  by_cases q : x = y
  · subst q; simp [ifCond.holds, (lc_eq x x).mpr rfl]
  · simp [ifCond.holds, mt (lc_eq x y).mp q, q]
theorem lcmp_eq (x y : Int64) : ifCond.holds .eq (lcmpW x y) = decide (x = y) := by
  rw [lcW]
  by_cases q : x = y
  · subst q; simp [ifCond.holds, (lc_eq x x).mpr rfl]
  · simp [ifCond.holds, mt (lc_eq x y).mp q, q]
theorem h_ge (x : Int32) : ifCond.holds .ge x = decide (0 ≤ x.toInt) := by simp only [ifCond.holds]; exact decide_eq_decide.mpr (Int32.le_iff_toInt_le)
theorem h_lt (x : Int32) : ifCond.holds .lt x = decide (x.toInt < 0) := by simp only [ifCond.holds]; exact decide_eq_decide.mpr (Int32.lt_iff_toInt_lt)
theorem own_nle (x y : Int64) : decide (y < x) = !decide (x ≤ y) := by
  by_cases q : x ≤ y
  · rw [decide_eq_true q, decide_eq_false (Int64.not_lt.mpr q)]; rfl
  · rw [decide_eq_false q, decide_eq_true (Int64.not_le.mp q)]; rfl
theorem b_eq (b : Bool) : ifCond.holds .eq (own_b b) = !b := by cases b <;> decide
theorem b_ne (b : Bool) : ifCond.holds .ne (own_b b) = b := by cases b <;> decide
theorem bb_eq (a b : Bool) : if_icmp.holds .eq (own_b a) (own_b b) = (a == b) := by cases a <;> cases b <;> decide
theorem bb_ne (a b : Bool) : if_icmp.holds .ne (own_b a) (own_b b) = (a != b) := by cases a <;> cases b <;> decide
theorem b_and (a b : Bool) : own_b a &&& own_b b = own_b (a && b) := by cases a <;> cases b <;> decide
theorem b_or (a b : Bool) : own_b a ||| own_b b = own_b (a || b) := by cases a <;> cases b <;> decide
theorem nar_bz (b : Bool) : narrow .boolean (.int (own_b b)) = .int (own_b b) := by cases b <;> rfl
theorem fit_bz (b : Bool) : fits .boolean (.int (own_b b)) = true := by cases b <;> rfl
theorem own_bit (x : Int32) : ∃ t : Bool, ifCond.holds .eq x = !t := ⟨!ifCond.holds .eq x, by simp⟩
theorem h_le (x : Int32) : ifCond.holds .le x = !decide (0 < x) := by
  simp only [ifCond.holds]
  by_cases z : 0 < x
  · rw [decide_eq_true z, decide_eq_false (Int32.not_le.mpr z)]; rfl
  · rw [decide_eq_false z, decide_eq_true (Int32.not_lt.mp z)]; rfl

theorem pd_0 : parseMethodDescriptor "()V" = some ⟨[], none⟩ := by decide +kernel
theorem pd_1 : parseMethodDescriptor "(ILjava/util/List;I)V" = some ⟨[.int, (.object "java/util/List"), .int], none⟩ := by decide +kernel
theorem pd_2 : parseMethodDescriptor "([JJ)V" = some ⟨[(.array .long), .long], none⟩ := by decide +kernel
theorem pd_3 : parseMethodDescriptor "()Ljava/util/Iterator;" = some ⟨[], some (.object "java/util/Iterator")⟩ := by decide +kernel
theorem pd_4 : parseMethodDescriptor "(Ljava/util/ArrayList;)V" = some ⟨[(.object "java/util/ArrayList")], none⟩ := by decide +kernel
theorem pd_5 : parseMethodDescriptor "()Z" = some ⟨[], some .boolean⟩ := by decide +kernel
theorem pd_6 : parseMethodDescriptor "(IZ)V" = some ⟨[.int, .boolean], none⟩ := by decide +kernel
theorem pd_7 : parseMethodDescriptor "(IJ)Z" = some ⟨[.int, .long], some .boolean⟩ := by decide +kernel
theorem pd_8 : parseMethodDescriptor "(JJ)J" = some ⟨[.long, .long], some .long⟩ := by decide +kernel
theorem pd_9 : parseMethodDescriptor "(II)V" = some ⟨[.int, .int], none⟩ := by decide +kernel
theorem pd_10 : parseMethodDescriptor "(Ljava/lang/Object;)Z" = some ⟨[(.object "java/lang/Object")], some .boolean⟩ := by decide +kernel
theorem pd_11 : parseMethodDescriptor "(Ljava/lang/Object;[Ljava/lang/Object;I)V" = some ⟨[(.object "java/lang/Object"), (.array (.object "java/lang/Object")), .int], none⟩ := by decide +kernel
theorem pd_12 : parseMethodDescriptor "()[Ljava/lang/Object;" = some ⟨[], some (.array (.object "java/lang/Object"))⟩ := by decide +kernel
theorem pd_13 : parseMethodDescriptor "(I)[Ljava/lang/Object;" = some ⟨[.int], some (.array (.object "java/lang/Object"))⟩ := by decide +kernel
theorem pd_14 : parseMethodDescriptor "(II)I" = some ⟨[.int, .int], some .int⟩ := by decide +kernel
theorem pd_15 : parseMethodDescriptor "()Ljava/lang/Object;" = some ⟨[], some (.object "java/lang/Object")⟩ := by decide +kernel
theorem pd_16 : parseMethodDescriptor "()I" = some ⟨[], some .int⟩ := by decide +kernel
theorem pd_17 : parseMethodDescriptor "(I)V" = some ⟨[.int], none⟩ := by decide +kernel
theorem pf_1 : plainFor (⟨"java/util/ArrayList", "<init>", "()V"⟩ : MethodName) = true := by decide +kernel
theorem d1_0 : decode jdk_38_method_2_code 0 = .ok (.aload_n 0, 1) := by decide +kernel
theorem d1_1 : decode jdk_38_method_2_code 1 = .ok (.invokespecial 1, 3) := by decide +kernel
theorem d1_4 : decode jdk_38_method_2_code 4 = .ok (.aload_n 0, 1) := by decide +kernel
theorem d1_5 : decode jdk_38_method_2_code 5 = .ok (.getstatic 39, 3) := by decide +kernel
theorem d1_8 : decode jdk_38_method_2_code 8 = .ok (.putfield 9, 3) := by decide +kernel
theorem d1_11 : decode jdk_38_method_2_code 11 = .ok (.return_, 1) := by decide +kernel
theorem pf_2 : plainFor (⟨"java/util/AbstractList", "<init>", "()V"⟩ : MethodName) = true := by decide +kernel
theorem d2_0 : decode jdk_39_method_1_code 0 = .ok (.aload_n 0, 1) := by decide +kernel
theorem d2_1 : decode jdk_39_method_1_code 1 = .ok (.invokespecial 1, 3) := by decide +kernel
theorem d2_4 : decode jdk_39_method_1_code 4 = .ok (.aload_n 0, 1) := by decide +kernel
theorem d2_5 : decode jdk_39_method_1_code 5 = .ok (.iconst 0, 1) := by decide +kernel
theorem d2_6 : decode jdk_39_method_1_code 6 = .ok (.putfield 7, 3) := by decide +kernel
theorem d2_9 : decode jdk_39_method_1_code 9 = .ok (.return_, 1) := by decide +kernel
theorem pf_3 : plainFor (⟨"java/util/AbstractCollection", "<init>", "()V"⟩ : MethodName) = true := by decide +kernel
theorem d3_0 : decode jdk_22_method_1_code 0 = .ok (.aload_n 0, 1) := by decide +kernel
theorem d3_1 : decode jdk_22_method_1_code 1 = .ok (.invokespecial 1, 3) := by decide +kernel
theorem d3_4 : decode jdk_22_method_1_code 4 = .ok (.return_, 1) := by decide +kernel
theorem pf_5 : plainFor (⟨"com/example/ohjaus/ohjaus/signal/Situation", "<init>", "(ILjava/util/List;I)V"⟩ : MethodName) = true := by decide +kernel
theorem d5_0 : decode prog_49_method_1_code 0 = .ok (.aload_n 0, 1) := by decide +kernel
theorem d5_1 : decode prog_49_method_1_code 1 = .ok (.invokespecial 3, 3) := by decide +kernel
theorem d5_4 : decode prog_49_method_1_code 4 = .ok (.aload_n 0, 1) := by decide +kernel
theorem d5_5 : decode prog_49_method_1_code 5 = .ok (.iload_n 1, 1) := by decide +kernel
theorem d5_6 : decode prog_49_method_1_code 6 = .ok (.newarray .boolean, 2) := by decide +kernel
theorem d5_8 : decode prog_49_method_1_code 8 = .ok (.putfield 9, 3) := by decide +kernel
theorem d5_11 : decode prog_49_method_1_code 11 = .ok (.aload_n 0, 1) := by decide +kernel
theorem d5_12 : decode prog_49_method_1_code 12 = .ok (.iload_n 1, 1) := by decide +kernel
theorem d5_13 : decode prog_49_method_1_code 13 = .ok (.newarray .boolean, 2) := by decide +kernel
theorem d5_15 : decode prog_49_method_1_code 15 = .ok (.putfield 15, 3) := by decide +kernel
theorem d5_18 : decode prog_49_method_1_code 18 = .ok (.aload_n 0, 1) := by decide +kernel
theorem d5_19 : decode prog_49_method_1_code 19 = .ok (.iload_n 1, 1) := by decide +kernel
theorem d5_20 : decode prog_49_method_1_code 20 = .ok (.newarray .long, 2) := by decide +kernel
theorem d5_22 : decode prog_49_method_1_code 22 = .ok (.putfield 18, 3) := by decide +kernel
theorem d5_25 : decode prog_49_method_1_code 25 = .ok (.aload_n 0, 1) := by decide +kernel
theorem d5_26 : decode prog_49_method_1_code 26 = .ok (.getfield 18, 3) := by decide +kernel
theorem d5_29 : decode prog_49_method_1_code 29 = .ok (.ldc2_w 22, 3) := by decide +kernel
theorem d5_32 : decode prog_49_method_1_code 32 = .ok (.invokestatic 24, 3) := by decide +kernel
theorem d5_35 : decode prog_49_method_1_code 35 = .ok (.aload_n 0, 1) := by decide +kernel
theorem d5_36 : decode prog_49_method_1_code 36 = .ok (.iload_n 3, 1) := by decide +kernel
theorem d5_37 : decode prog_49_method_1_code 37 = .ok (.newarray .boolean, 2) := by decide +kernel
theorem d5_39 : decode prog_49_method_1_code 39 = .ok (.putfield 30, 3) := by decide +kernel
theorem d5_42 : decode prog_49_method_1_code 42 = .ok (.aload_n 0, 1) := by decide +kernel
theorem d5_43 : decode prog_49_method_1_code 43 = .ok (.iload_n 1, 1) := by decide +kernel
theorem d5_44 : decode prog_49_method_1_code 44 = .ok (.newarray .boolean, 2) := by decide +kernel
theorem d5_46 : decode prog_49_method_1_code 46 = .ok (.putfield 33, 3) := by decide +kernel
theorem d5_49 : decode prog_49_method_1_code 49 = .ok (.aload_n 2, 1) := by decide +kernel
theorem d5_50 : decode prog_49_method_1_code 50 = .ok (.invokeinterface 36 1, 5) := by decide +kernel
theorem d5_55 : decode prog_49_method_1_code 55 = .ok (.astore 4, 2) := by decide +kernel
theorem d5_57 : decode prog_49_method_1_code 57 = .ok (.aload 4, 2) := by decide +kernel
theorem d5_59 : decode prog_49_method_1_code 59 = .ok (.invokeinterface 42 1, 5) := by decide +kernel
theorem d5_64 : decode prog_49_method_1_code 64 = .ok (.ifCond .eq 29, 3) := by decide +kernel
theorem d5_67 : decode prog_49_method_1_code 67 = .ok (.aload 4, 2) := by decide +kernel
theorem d5_69 : decode prog_49_method_1_code 69 = .ok (.invokeinterface 48 1, 5) := by decide +kernel
theorem d5_74 : decode prog_49_method_1_code 74 = .ok (.checkcast 52, 3) := by decide +kernel
theorem d5_77 : decode prog_49_method_1_code 77 = .ok (.astore 5, 2) := by decide +kernel
theorem d5_79 : decode prog_49_method_1_code 79 = .ok (.aload_n 0, 1) := by decide +kernel
theorem d5_80 : decode prog_49_method_1_code 80 = .ok (.getfield 33, 3) := by decide +kernel
theorem d5_83 : decode prog_49_method_1_code 83 = .ok (.aload 5, 2) := by decide +kernel
theorem d5_85 : decode prog_49_method_1_code 85 = .ok (.invokevirtual 54, 3) := by decide +kernel
theorem d5_88 : decode prog_49_method_1_code 88 = .ok (.iconst 1, 1) := by decide +kernel
theorem d5_89 : decode prog_49_method_1_code 89 = .ok (.bastore, 1) := by decide +kernel
theorem d5_90 : decode prog_49_method_1_code 90 = .ok (.goto (-33), 3) := by decide +kernel
theorem d5_93 : decode prog_49_method_1_code 93 = .ok (.aload_n 0, 1) := by decide +kernel
theorem d5_94 : decode prog_49_method_1_code 94 = .ok (.iload_n 1, 1) := by decide +kernel
theorem d5_95 : decode prog_49_method_1_code 95 = .ok (.newarray .boolean, 2) := by decide +kernel
theorem d5_97 : decode prog_49_method_1_code 97 = .ok (.putfield 58, 3) := by decide +kernel
theorem d5_100 : decode prog_49_method_1_code 100 = .ok (.return_, 1) := by decide +kernel
theorem pf_6 : plainFor (⟨"java/util/Arrays", "fill", "([JJ)V"⟩ : MethodName) = true := by decide +kernel
theorem d6_0 : decode jdk_65_method_101_code 0 = .ok (.iconst 0, 1) := by decide +kernel
theorem d6_1 : decode jdk_65_method_101_code 1 = .ok (.istore_n 3, 1) := by decide +kernel
theorem d6_2 : decode jdk_65_method_101_code 2 = .ok (.aload_n 0, 1) := by decide +kernel
theorem d6_3 : decode jdk_65_method_101_code 3 = .ok (.arraylength, 1) := by decide +kernel
theorem d6_4 : decode jdk_65_method_101_code 4 = .ok (.istore 4, 2) := by decide +kernel
theorem d6_6 : decode jdk_65_method_101_code 6 = .ok (.iload_n 3, 1) := by decide +kernel
theorem d6_7 : decode jdk_65_method_101_code 7 = .ok (.iload 4, 2) := by decide +kernel
theorem d6_9 : decode jdk_65_method_101_code 9 = .ok (.if_icmp .ge 13, 3) := by decide +kernel
theorem d6_12 : decode jdk_65_method_101_code 12 = .ok (.aload_n 0, 1) := by decide +kernel
theorem d6_13 : decode jdk_65_method_101_code 13 = .ok (.iload_n 3, 1) := by decide +kernel
theorem d6_14 : decode jdk_65_method_101_code 14 = .ok (.lload_n 1, 1) := by decide +kernel
theorem d6_15 : decode jdk_65_method_101_code 15 = .ok (.lastore, 1) := by decide +kernel
theorem d6_16 : decode jdk_65_method_101_code 16 = .ok (.iinc 3 1, 3) := by decide +kernel
theorem d6_19 : decode jdk_65_method_101_code 19 = .ok (.goto (-13), 3) := by decide +kernel
theorem d6_22 : decode jdk_65_method_101_code 22 = .ok (.return_, 1) := by decide +kernel
theorem pf_7 : plainFor (⟨"java/util/ArrayList", "iterator", "()Ljava/util/Iterator;"⟩ : MethodName) = true := by decide +kernel
theorem d7_0 : decode jdk_38_method_55_code 0 = .ok (.new 267, 3) := by decide +kernel
theorem d7_3 : decode jdk_38_method_55_code 3 = .ok (.dup, 1) := by decide +kernel
theorem d7_4 : decode jdk_38_method_55_code 4 = .ok (.aload_n 0, 1) := by decide +kernel
theorem d7_5 : decode jdk_38_method_55_code 5 = .ok (.invokespecial 269, 3) := by decide +kernel
theorem d7_8 : decode jdk_38_method_55_code 8 = .ok (.areturn, 1) := by decide +kernel
theorem pf_8 : plainFor (⟨"java/util/ArrayList$Itr", "<init>", "(Ljava/util/ArrayList;)V"⟩ : MethodName) = true := by decide +kernel
theorem d8_0 : decode jdk_49_method_1_code 0 = .ok (.aload_n 0, 1) := by decide +kernel
theorem d8_1 : decode jdk_49_method_1_code 1 = .ok (.aload_n 1, 1) := by decide +kernel
theorem d8_2 : decode jdk_49_method_1_code 2 = .ok (.putfield 1, 3) := by decide +kernel
theorem d8_5 : decode jdk_49_method_1_code 5 = .ok (.aload_n 0, 1) := by decide +kernel
theorem d8_6 : decode jdk_49_method_1_code 6 = .ok (.invokespecial 7, 3) := by decide +kernel
theorem d8_9 : decode jdk_49_method_1_code 9 = .ok (.aload_n 0, 1) := by decide +kernel
theorem d8_10 : decode jdk_49_method_1_code 10 = .ok (.iconst (-1), 1) := by decide +kernel
theorem d8_11 : decode jdk_49_method_1_code 11 = .ok (.putfield 13, 3) := by decide +kernel
theorem d8_14 : decode jdk_49_method_1_code 14 = .ok (.aload_n 0, 1) := by decide +kernel
theorem d8_15 : decode jdk_49_method_1_code 15 = .ok (.aload_n 0, 1) := by decide +kernel
theorem d8_16 : decode jdk_49_method_1_code 16 = .ok (.getfield 1, 3) := by decide +kernel
theorem d8_19 : decode jdk_49_method_1_code 19 = .ok (.getfield 17, 3) := by decide +kernel
theorem d8_22 : decode jdk_49_method_1_code 22 = .ok (.putfield 22, 3) := by decide +kernel
theorem d8_25 : decode jdk_49_method_1_code 25 = .ok (.return_, 1) := by decide +kernel
theorem pf_9 : plainFor (⟨"java/util/ArrayList$Itr", "hasNext", "()Z"⟩ : MethodName) = true := by decide +kernel
theorem d9_0 : decode jdk_49_method_2_code 0 = .ok (.aload_n 0, 1) := by decide +kernel
theorem d9_1 : decode jdk_49_method_2_code 1 = .ok (.getfield 25, 3) := by decide +kernel
theorem d9_4 : decode jdk_49_method_2_code 4 = .ok (.aload_n 0, 1) := by decide +kernel
theorem d9_5 : decode jdk_49_method_2_code 5 = .ok (.getfield 1, 3) := by decide +kernel
theorem d9_8 : decode jdk_49_method_2_code 8 = .ok (.getfield 28, 3) := by decide +kernel
theorem d9_11 : decode jdk_49_method_2_code 11 = .ok (.if_icmp .eq 7, 3) := by decide +kernel
theorem d9_14 : decode jdk_49_method_2_code 14 = .ok (.iconst 1, 1) := by decide +kernel
theorem d9_15 : decode jdk_49_method_2_code 15 = .ok (.goto 4, 3) := by decide +kernel
theorem d9_18 : decode jdk_49_method_2_code 18 = .ok (.iconst 0, 1) := by decide +kernel
theorem d9_19 : decode jdk_49_method_2_code 19 = .ok (.ireturn, 1) := by decide +kernel
theorem pf_10 : plainFor (⟨"com/example/ohjaus/ohjaus/signal/Situation", "next", "()V"⟩ : MethodName) = true := by decide +kernel
theorem d10_0 : decode prog_49_method_2_code 0 = .ok (.aload_n 0, 1) := by decide +kernel
theorem d10_1 : decode prog_49_method_2_code 1 = .ok (.dup, 1) := by decide +kernel
theorem d10_2 : decode prog_49_method_2_code 2 = .ok (.getfield 61, 3) := by decide +kernel
theorem d10_5 : decode prog_49_method_2_code 5 = .ok (.lconst 1, 1) := by decide +kernel
theorem d10_6 : decode prog_49_method_2_code 6 = .ok (.ladd, 1) := by decide +kernel
theorem d10_7 : decode prog_49_method_2_code 7 = .ok (.putfield 61, 3) := by decide +kernel
theorem d10_10 : decode prog_49_method_2_code 10 = .ok (.return_, 1) := by decide +kernel
theorem pf_11 : plainFor (⟨"com/example/ohjaus/ohjaus/signal/Situation", "detect", "(IZ)V"⟩ : MethodName) = true := by decide +kernel
theorem d11_0 : decode prog_49_method_3_code 0 = .ok (.aload_n 0, 1) := by decide +kernel
theorem d11_1 : decode prog_49_method_3_code 1 = .ok (.getfield 15, 3) := by decide +kernel
theorem d11_4 : decode prog_49_method_3_code 4 = .ok (.iload_n 1, 1) := by decide +kernel
theorem d11_5 : decode prog_49_method_3_code 5 = .ok (.baload, 1) := by decide +kernel
theorem d11_6 : decode prog_49_method_3_code 6 = .ok (.ifCond .ne 13, 3) := by decide +kernel
theorem d11_9 : decode prog_49_method_3_code 9 = .ok (.aload_n 0, 1) := by decide +kernel
theorem d11_10 : decode prog_49_method_3_code 10 = .ok (.getfield 9, 3) := by decide +kernel
theorem d11_13 : decode prog_49_method_3_code 13 = .ok (.iload_n 1, 1) := by decide +kernel
theorem d11_14 : decode prog_49_method_3_code 14 = .ok (.baload, 1) := by decide +kernel
theorem d11_15 : decode prog_49_method_3_code 15 = .ok (.iload_n 2, 1) := by decide +kernel
theorem d11_16 : decode prog_49_method_3_code 16 = .ok (.if_icmp .eq 73, 3) := by decide +kernel
theorem d11_19 : decode prog_49_method_3_code 19 = .ok (.aload_n 0, 1) := by decide +kernel
theorem d11_20 : decode prog_49_method_3_code 20 = .ok (.getfield 15, 3) := by decide +kernel
theorem d11_23 : decode prog_49_method_3_code 23 = .ok (.iload_n 1, 1) := by decide +kernel
theorem d11_24 : decode prog_49_method_3_code 24 = .ok (.baload, 1) := by decide +kernel
theorem d11_25 : decode prog_49_method_3_code 25 = .ok (.ifCond .eq 20, 3) := by decide +kernel
theorem d11_28 : decode prog_49_method_3_code 28 = .ok (.aload_n 0, 1) := by decide +kernel
theorem d11_29 : decode prog_49_method_3_code 29 = .ok (.getfield 15, 3) := by decide +kernel
theorem d11_32 : decode prog_49_method_3_code 32 = .ok (.iload_n 1, 1) := by decide +kernel
theorem d11_33 : decode prog_49_method_3_code 33 = .ok (.iconst 0, 1) := by decide +kernel
theorem d11_34 : decode prog_49_method_3_code 34 = .ok (.bastore, 1) := by decide +kernel
theorem d11_35 : decode prog_49_method_3_code 35 = .ok (.aload_n 0, 1) := by decide +kernel
theorem d11_36 : decode prog_49_method_3_code 36 = .ok (.dup, 1) := by decide +kernel
theorem d11_37 : decode prog_49_method_3_code 37 = .ok (.getfield 65, 3) := by decide +kernel
theorem d11_40 : decode prog_49_method_3_code 40 = .ok (.iconst 1, 1) := by decide +kernel
theorem d11_41 : decode prog_49_method_3_code 41 = .ok (.isub, 1) := by decide +kernel
theorem d11_42 : decode prog_49_method_3_code 42 = .ok (.putfield 65, 3) := by decide +kernel
theorem d11_45 : decode prog_49_method_3_code 45 = .ok (.aload_n 0, 1) := by decide +kernel
theorem d11_46 : decode prog_49_method_3_code 46 = .ok (.getfield 9, 3) := by decide +kernel
theorem d11_49 : decode prog_49_method_3_code 49 = .ok (.iload_n 1, 1) := by decide +kernel
theorem d11_50 : decode prog_49_method_3_code 50 = .ok (.iload_n 2, 1) := by decide +kernel
theorem d11_51 : decode prog_49_method_3_code 51 = .ok (.bastore, 1) := by decide +kernel
theorem d11_52 : decode prog_49_method_3_code 52 = .ok (.aload_n 0, 1) := by decide +kernel
theorem d11_53 : decode prog_49_method_3_code 53 = .ok (.getfield 18, 3) := by decide +kernel
theorem d11_56 : decode prog_49_method_3_code 56 = .ok (.iload_n 1, 1) := by decide +kernel
theorem d11_57 : decode prog_49_method_3_code 57 = .ok (.aload_n 0, 1) := by decide +kernel
theorem d11_58 : decode prog_49_method_3_code 58 = .ok (.getfield 61, 3) := by decide +kernel
theorem d11_61 : decode prog_49_method_3_code 61 = .ok (.lastore, 1) := by decide +kernel
theorem d11_62 : decode prog_49_method_3_code 62 = .ok (.aload_n 0, 1) := by decide +kernel
theorem d11_63 : decode prog_49_method_3_code 63 = .ok (.getfield 58, 3) := by decide +kernel
theorem d11_66 : decode prog_49_method_3_code 66 = .ok (.iload_n 1, 1) := by decide +kernel
theorem d11_67 : decode prog_49_method_3_code 67 = .ok (.dup2, 1) := by decide +kernel
theorem d11_68 : decode prog_49_method_3_code 68 = .ok (.baload, 1) := by decide +kernel
theorem d11_69 : decode prog_49_method_3_code 69 = .ok (.iload_n 2, 1) := by decide +kernel
theorem d11_70 : decode prog_49_method_3_code 70 = .ok (.ifCond .eq 16, 3) := by decide +kernel
theorem d11_73 : decode prog_49_method_3_code 73 = .ok (.aload_n 0, 1) := by decide +kernel
theorem d11_74 : decode prog_49_method_3_code 74 = .ok (.getfield 33, 3) := by decide +kernel
theorem d11_77 : decode prog_49_method_3_code 77 = .ok (.iload_n 1, 1) := by decide +kernel
theorem d11_78 : decode prog_49_method_3_code 78 = .ok (.baload, 1) := by decide +kernel
theorem d11_79 : decode prog_49_method_3_code 79 = .ok (.ifCond .eq 7, 3) := by decide +kernel
theorem d11_82 : decode prog_49_method_3_code 82 = .ok (.iconst 1, 1) := by decide +kernel
theorem d11_83 : decode prog_49_method_3_code 83 = .ok (.goto 4, 3) := by decide +kernel
theorem d11_86 : decode prog_49_method_3_code 86 = .ok (.iconst 0, 1) := by decide +kernel
theorem d11_87 : decode prog_49_method_3_code 87 = .ok (.ior, 1) := by decide +kernel
theorem d11_88 : decode prog_49_method_3_code 88 = .ok (.bastore, 1) := by decide +kernel
theorem d11_89 : decode prog_49_method_3_code 89 = .ok (.return_, 1) := by decide +kernel
theorem pf_12 : plainFor (⟨"com/example/ohjaus/ohjaus/signal/Situation", "gapUnder", "(IJ)Z"⟩ : MethodName) = true := by decide +kernel
theorem d12_0 : decode prog_49_method_8_code 0 = .ok (.aload_n 0, 1) := by decide +kernel
theorem d12_1 : decode prog_49_method_8_code 1 = .ok (.getfield 58, 3) := by decide +kernel
theorem d12_4 : decode prog_49_method_8_code 4 = .ok (.iload_n 1, 1) := by decide +kernel
theorem d12_5 : decode prog_49_method_8_code 5 = .ok (.baload, 1) := by decide +kernel
theorem d12_6 : decode prog_49_method_8_code 6 = .ok (.ifCond .ne 39, 3) := by decide +kernel
theorem d12_9 : decode prog_49_method_8_code 9 = .ok (.aload_n 0, 1) := by decide +kernel
theorem d12_10 : decode prog_49_method_8_code 10 = .ok (.getfield 15, 3) := by decide +kernel
theorem d12_13 : decode prog_49_method_8_code 13 = .ok (.iload_n 1, 1) := by decide +kernel
theorem d12_14 : decode prog_49_method_8_code 14 = .ok (.baload, 1) := by decide +kernel
theorem d12_15 : decode prog_49_method_8_code 15 = .ok (.ifCond .ne 30, 3) := by decide +kernel
theorem d12_18 : decode prog_49_method_8_code 18 = .ok (.aload_n 0, 1) := by decide +kernel
theorem d12_19 : decode prog_49_method_8_code 19 = .ok (.getfield 9, 3) := by decide +kernel
theorem d12_22 : decode prog_49_method_8_code 22 = .ok (.iload_n 1, 1) := by decide +kernel
theorem d12_23 : decode prog_49_method_8_code 23 = .ok (.baload, 1) := by decide +kernel
theorem d12_24 : decode prog_49_method_8_code 24 = .ok (.ifCond .ne 21, 3) := by decide +kernel
theorem d12_27 : decode prog_49_method_8_code 27 = .ok (.aload_n 0, 1) := by decide +kernel
theorem d12_28 : decode prog_49_method_8_code 28 = .ok (.getfield 61, 3) := by decide +kernel
theorem d12_31 : decode prog_49_method_8_code 31 = .ok (.aload_n 0, 1) := by decide +kernel
theorem d12_32 : decode prog_49_method_8_code 32 = .ok (.getfield 18, 3) := by decide +kernel
theorem d12_35 : decode prog_49_method_8_code 35 = .ok (.iload_n 1, 1) := by decide +kernel
theorem d12_36 : decode prog_49_method_8_code 36 = .ok (.laload, 1) := by decide +kernel
theorem d12_37 : decode prog_49_method_8_code 37 = .ok (.lload_n 2, 1) := by decide +kernel
theorem d12_38 : decode prog_49_method_8_code 38 = .ok (.invokestatic 69, 3) := by decide +kernel
theorem d12_41 : decode prog_49_method_8_code 41 = .ok (.lcmp, 1) := by decide +kernel
theorem d12_42 : decode prog_49_method_8_code 42 = .ok (.ifCond .ge 7, 3) := by decide +kernel
theorem d12_45 : decode prog_49_method_8_code 45 = .ok (.iconst 1, 1) := by decide +kernel
theorem d12_46 : decode prog_49_method_8_code 46 = .ok (.goto 4, 3) := by decide +kernel
theorem d12_49 : decode prog_49_method_8_code 49 = .ok (.iconst 0, 1) := by decide +kernel
theorem d12_50 : decode prog_49_method_8_code 50 = .ok (.ireturn, 1) := by decide +kernel
theorem pf_13 : plainFor (⟨"com/example/ohjaus/ohjaus/time/Steps", "after", "(JJ)J"⟩ : MethodName) = true := by decide +kernel
theorem d13_0 : decode prog_57_method_8_code 0 = .ok (.lload_n 0, 1) := by decide +kernel
theorem d13_1 : decode prog_57_method_8_code 1 = .ok (.ldc2_w 93, 3) := by decide +kernel
theorem d13_4 : decode prog_57_method_8_code 4 = .ok (.lload_n 2, 1) := by decide +kernel
theorem d13_5 : decode prog_57_method_8_code 5 = .ok (.lsub, 1) := by decide +kernel
theorem d13_6 : decode prog_57_method_8_code 6 = .ok (.lcmp, 1) := by decide +kernel
theorem d13_7 : decode prog_57_method_8_code 7 = .ok (.ifCond .le 9, 3) := by decide +kernel
theorem d13_10 : decode prog_57_method_8_code 10 = .ok (.ldc2_w 93, 3) := by decide +kernel
theorem d13_13 : decode prog_57_method_8_code 13 = .ok (.goto 6, 3) := by decide +kernel
theorem d13_16 : decode prog_57_method_8_code 16 = .ok (.lload_n 0, 1) := by decide +kernel
theorem d13_17 : decode prog_57_method_8_code 17 = .ok (.lload_n 2, 1) := by decide +kernel
theorem d13_18 : decode prog_57_method_8_code 18 = .ok (.ladd, 1) := by decide +kernel
theorem d13_19 : decode prog_57_method_8_code 19 = .ok (.lreturn, 1) := by decide +kernel
theorem pf_14 : plainFor (⟨"com/example/ohjaus/ohjaus/signal/Situation", "occupiedOver", "(IJ)Z"⟩ : MethodName) = true := by decide +kernel
theorem d14_0 : decode prog_49_method_9_code 0 = .ok (.aload_n 0, 1) := by decide +kernel
theorem d14_1 : decode prog_49_method_9_code 1 = .ok (.getfield 58, 3) := by decide +kernel
theorem d14_4 : decode prog_49_method_9_code 4 = .ok (.iload_n 1, 1) := by decide +kernel
theorem d14_5 : decode prog_49_method_9_code 5 = .ok (.baload, 1) := by decide +kernel
theorem d14_6 : decode prog_49_method_9_code 6 = .ok (.ifCond .ne 39, 3) := by decide +kernel
theorem d14_9 : decode prog_49_method_9_code 9 = .ok (.aload_n 0, 1) := by decide +kernel
theorem d14_10 : decode prog_49_method_9_code 10 = .ok (.getfield 15, 3) := by decide +kernel
theorem d14_13 : decode prog_49_method_9_code 13 = .ok (.iload_n 1, 1) := by decide +kernel
theorem d14_14 : decode prog_49_method_9_code 14 = .ok (.baload, 1) := by decide +kernel
theorem d14_15 : decode prog_49_method_9_code 15 = .ok (.ifCond .ne 34, 3) := by decide +kernel
theorem d14_18 : decode prog_49_method_9_code 18 = .ok (.aload_n 0, 1) := by decide +kernel
theorem d14_19 : decode prog_49_method_9_code 19 = .ok (.getfield 9, 3) := by decide +kernel
theorem d14_22 : decode prog_49_method_9_code 22 = .ok (.iload_n 1, 1) := by decide +kernel
theorem d14_23 : decode prog_49_method_9_code 23 = .ok (.baload, 1) := by decide +kernel
theorem d14_24 : decode prog_49_method_9_code 24 = .ok (.ifCond .eq 25, 3) := by decide +kernel
theorem d14_27 : decode prog_49_method_9_code 27 = .ok (.aload_n 0, 1) := by decide +kernel
theorem d14_28 : decode prog_49_method_9_code 28 = .ok (.getfield 61, 3) := by decide +kernel
theorem d14_31 : decode prog_49_method_9_code 31 = .ok (.aload_n 0, 1) := by decide +kernel
theorem d14_32 : decode prog_49_method_9_code 32 = .ok (.getfield 18, 3) := by decide +kernel
theorem d14_35 : decode prog_49_method_9_code 35 = .ok (.iload_n 1, 1) := by decide +kernel
theorem d14_36 : decode prog_49_method_9_code 36 = .ok (.laload, 1) := by decide +kernel
theorem d14_37 : decode prog_49_method_9_code 37 = .ok (.lload_n 2, 1) := by decide +kernel
theorem d14_38 : decode prog_49_method_9_code 38 = .ok (.invokestatic 69, 3) := by decide +kernel
theorem d14_41 : decode prog_49_method_9_code 41 = .ok (.lcmp, 1) := by decide +kernel
theorem d14_42 : decode prog_49_method_9_code 42 = .ok (.ifCond .le 7, 3) := by decide +kernel
theorem d14_45 : decode prog_49_method_9_code 45 = .ok (.iconst 1, 1) := by decide +kernel
theorem d14_46 : decode prog_49_method_9_code 46 = .ok (.goto 4, 3) := by decide +kernel
theorem d14_49 : decode prog_49_method_9_code 49 = .ok (.iconst 0, 1) := by decide +kernel
theorem d14_50 : decode prog_49_method_9_code 50 = .ok (.ireturn, 1) := by decide +kernel
theorem pf_15 : plainFor (⟨"com/example/ohjaus/ohjaus/signal/Situation", "anyFaulty", "()Z"⟩ : MethodName) = true := by decide +kernel
theorem d15_0 : decode prog_49_method_5_code 0 = .ok (.aload_n 0, 1) := by decide +kernel
theorem d15_1 : decode prog_49_method_5_code 1 = .ok (.getfield 65, 3) := by decide +kernel
theorem d15_4 : decode prog_49_method_5_code 4 = .ok (.ifCond .le 7, 3) := by decide +kernel
theorem d15_7 : decode prog_49_method_5_code 7 = .ok (.iconst 1, 1) := by decide +kernel
theorem d15_8 : decode prog_49_method_5_code 8 = .ok (.goto 4, 3) := by decide +kernel
theorem d15_11 : decode prog_49_method_5_code 11 = .ok (.iconst 0, 1) := by decide +kernel
theorem d15_12 : decode prog_49_method_5_code 12 = .ok (.ireturn, 1) := by decide +kernel
theorem pf_16 : plainFor (⟨"com/example/ohjaus/ohjaus/signal/PushButton", "<init>", "(II)V"⟩ : MethodName) = true := by decide +kernel
theorem d16_0 : decode prog_43_method_1_code 0 = .ok (.aload_n 0, 1) := by decide +kernel
theorem d16_1 : decode prog_43_method_1_code 1 = .ok (.invokespecial 1, 3) := by decide +kernel
theorem d16_4 : decode prog_43_method_1_code 4 = .ok (.aload_n 0, 1) := by decide +kernel
theorem d16_5 : decode prog_43_method_1_code 5 = .ok (.iload_n 1, 1) := by decide +kernel
theorem d16_6 : decode prog_43_method_1_code 6 = .ok (.putfield 7, 3) := by decide +kernel
theorem d16_9 : decode prog_43_method_1_code 9 = .ok (.aload_n 0, 1) := by decide +kernel
theorem d16_10 : decode prog_43_method_1_code 10 = .ok (.iload_n 2, 1) := by decide +kernel
theorem d16_11 : decode prog_43_method_1_code 11 = .ok (.putfield 13, 3) := by decide +kernel
theorem d16_14 : decode prog_43_method_1_code 14 = .ok (.return_, 1) := by decide +kernel
theorem pf_17 : plainFor (⟨"java/util/ArrayList", "add", "(Ljava/lang/Object;)Z"⟩ : MethodName) = true := by decide +kernel
theorem d17_0 : decode jdk_38_method_25_code 0 = .ok (.aload_n 0, 1) := by decide +kernel
theorem d17_1 : decode jdk_38_method_25_code 1 = .ok (.dup, 1) := by decide +kernel
theorem d17_2 : decode jdk_38_method_25_code 2 = .ok (.getfield 63, 3) := by decide +kernel
theorem d17_5 : decode jdk_38_method_25_code 5 = .ok (.iconst 1, 1) := by decide +kernel
theorem d17_6 : decode jdk_38_method_25_code 6 = .ok (.iadd, 1) := by decide +kernel
theorem d17_7 : decode jdk_38_method_25_code 7 = .ok (.putfield 63, 3) := by decide +kernel
theorem d17_10 : decode jdk_38_method_25_code 10 = .ok (.aload_n 0, 1) := by decide +kernel
theorem d17_11 : decode jdk_38_method_25_code 11 = .ok (.aload_n 1, 1) := by decide +kernel
theorem d17_12 : decode jdk_38_method_25_code 12 = .ok (.aload_n 0, 1) := by decide +kernel
theorem d17_13 : decode jdk_38_method_25_code 13 = .ok (.getfield 9, 3) := by decide +kernel
theorem d17_16 : decode jdk_38_method_25_code 16 = .ok (.aload_n 0, 1) := by decide +kernel
theorem d17_17 : decode jdk_38_method_25_code 17 = .ok (.getfield 48, 3) := by decide +kernel
theorem d17_20 : decode jdk_38_method_25_code 20 = .ok (.invokevirtual 131, 3) := by decide +kernel
theorem d17_23 : decode jdk_38_method_25_code 23 = .ok (.iconst 1, 1) := by decide +kernel
theorem d17_24 : decode jdk_38_method_25_code 24 = .ok (.ireturn, 1) := by decide +kernel
theorem pf_18 : plainFor (⟨"java/util/ArrayList", "add", "(Ljava/lang/Object;[Ljava/lang/Object;I)V"⟩ : MethodName) = true := by decide +kernel
theorem d18_0 : decode jdk_38_method_24_code 0 = .ok (.iload_n 3, 1) := by decide +kernel
theorem d18_1 : decode jdk_38_method_24_code 1 = .ok (.aload_n 2, 1) := by decide +kernel
theorem d18_2 : decode jdk_38_method_24_code 2 = .ok (.arraylength, 1) := by decide +kernel
theorem d18_3 : decode jdk_38_method_24_code 3 = .ok (.if_icmp .ne 8, 3) := by decide +kernel
theorem d18_6 : decode jdk_38_method_24_code 6 = .ok (.aload_n 0, 1) := by decide +kernel
theorem d18_7 : decode jdk_38_method_24_code 7 = .ok (.invokevirtual 129, 3) := by decide +kernel
theorem d18_10 : decode jdk_38_method_24_code 10 = .ok (.astore_n 2, 1) := by decide +kernel
theorem d18_11 : decode jdk_38_method_24_code 11 = .ok (.aload_n 2, 1) := by decide +kernel
theorem d18_12 : decode jdk_38_method_24_code 12 = .ok (.iload_n 3, 1) := by decide +kernel
theorem d18_13 : decode jdk_38_method_24_code 13 = .ok (.aload_n 1, 1) := by decide +kernel
theorem d18_14 : decode jdk_38_method_24_code 14 = .ok (.aastore, 1) := by decide +kernel
theorem d18_15 : decode jdk_38_method_24_code 15 = .ok (.aload_n 0, 1) := by decide +kernel
theorem d18_16 : decode jdk_38_method_24_code 16 = .ok (.iload_n 3, 1) := by decide +kernel
theorem d18_17 : decode jdk_38_method_24_code 17 = .ok (.iconst 1, 1) := by decide +kernel
theorem d18_18 : decode jdk_38_method_24_code 18 = .ok (.iadd, 1) := by decide +kernel
theorem d18_19 : decode jdk_38_method_24_code 19 = .ok (.putfield 48, 3) := by decide +kernel
theorem d18_22 : decode jdk_38_method_24_code 22 = .ok (.return_, 1) := by decide +kernel
theorem pf_19 : plainFor (⟨"java/util/ArrayList", "grow", "()[Ljava/lang/Object;"⟩ : MethodName) = true := by decide +kernel
theorem d19_0 : decode jdk_38_method_7_code 0 = .ok (.aload_n 0, 1) := by decide +kernel
theorem d19_1 : decode jdk_38_method_7_code 1 = .ok (.aload_n 0, 1) := by decide +kernel
theorem d19_2 : decode jdk_38_method_7_code 2 = .ok (.getfield 48, 3) := by decide +kernel
theorem d19_5 : decode jdk_38_method_7_code 5 = .ok (.iconst 1, 1) := by decide +kernel
theorem d19_6 : decode jdk_38_method_7_code 6 = .ok (.iadd, 1) := by decide +kernel
theorem d19_7 : decode jdk_38_method_7_code 7 = .ok (.invokevirtual 69, 3) := by decide +kernel
theorem d19_10 : decode jdk_38_method_7_code 10 = .ok (.areturn, 1) := by decide +kernel
theorem pf_20 : plainFor (⟨"java/util/ArrayList", "grow", "(I)[Ljava/lang/Object;"⟩ : MethodName) = true := by decide +kernel
theorem d20_0 : decode jdk_38_method_6_code 0 = .ok (.aload_n 0, 1) := by decide +kernel
theorem d20_1 : decode jdk_38_method_6_code 1 = .ok (.getfield 9, 3) := by decide +kernel
theorem d20_4 : decode jdk_38_method_6_code 4 = .ok (.arraylength, 1) := by decide +kernel
theorem d20_5 : decode jdk_38_method_6_code 5 = .ok (.istore_n 2, 1) := by decide +kernel
theorem d20_6 : decode jdk_38_method_6_code 6 = .ok (.iload_n 2, 1) := by decide +kernel
theorem d20_7 : decode jdk_38_method_6_code 7 = .ok (.ifCond .gt 13, 3) := by decide +kernel
theorem d20_10 : decode jdk_38_method_6_code 10 = .ok (.aload_n 0, 1) := by decide +kernel
theorem d20_11 : decode jdk_38_method_6_code 11 = .ok (.getfield 9, 3) := by decide +kernel
theorem d20_14 : decode jdk_38_method_6_code 14 = .ok (.getstatic 39, 3) := by decide +kernel
theorem d20_17 : decode jdk_38_method_6_code 17 = .ok (.if_acmp .eq 28, 3) := by decide +kernel
theorem d20_20 : decode jdk_38_method_6_code 20 = .ok (.iload_n 2, 1) := by decide +kernel
theorem d20_21 : decode jdk_38_method_6_code 21 = .ok (.iload_n 1, 1) := by decide +kernel
theorem d20_22 : decode jdk_38_method_6_code 22 = .ok (.iload_n 2, 1) := by decide +kernel
theorem d20_23 : decode jdk_38_method_6_code 23 = .ok (.isub, 1) := by decide +kernel
theorem d20_24 : decode jdk_38_method_6_code 24 = .ok (.iload_n 2, 1) := by decide +kernel
theorem d20_25 : decode jdk_38_method_6_code 25 = .ok (.iconst 1, 1) := by decide +kernel
theorem d20_26 : decode jdk_38_method_6_code 26 = .ok (.ishr, 1) := by decide +kernel
theorem d20_27 : decode jdk_38_method_6_code 27 = .ok (.invokestatic 73, 3) := by decide +kernel
theorem d20_30 : decode jdk_38_method_6_code 30 = .ok (.istore_n 3, 1) := by decide +kernel
theorem d20_31 : decode jdk_38_method_6_code 31 = .ok (.aload_n 0, 1) := by decide +kernel
theorem d20_32 : decode jdk_38_method_6_code 32 = .ok (.aload_n 0, 1) := by decide +kernel
theorem d20_33 : decode jdk_38_method_6_code 33 = .ok (.getfield 9, 3) := by decide +kernel
theorem d20_36 : decode jdk_38_method_6_code 36 = .ok (.iload_n 3, 1) := by decide +kernel
theorem d20_37 : decode jdk_38_method_6_code 37 = .ok (.invokestatic 66, 3) := by decide +kernel
theorem d20_40 : decode jdk_38_method_6_code 40 = .ok (.dup_x1, 1) := by decide +kernel
theorem d20_41 : decode jdk_38_method_6_code 41 = .ok (.putfield 9, 3) := by decide +kernel
theorem d20_44 : decode jdk_38_method_6_code 44 = .ok (.areturn, 1) := by decide +kernel
theorem d20_45 : decode jdk_38_method_6_code 45 = .ok (.aload_n 0, 1) := by decide +kernel
theorem d20_46 : decode jdk_38_method_6_code 46 = .ok (.bipush 10, 2) := by decide +kernel
theorem d20_48 : decode jdk_38_method_6_code 48 = .ok (.iload_n 1, 1) := by decide +kernel
theorem d20_49 : decode jdk_38_method_6_code 49 = .ok (.invokestatic 79, 3) := by decide +kernel
theorem d20_52 : decode jdk_38_method_6_code 52 = .ok (.anewarray 7, 3) := by decide +kernel
theorem d20_55 : decode jdk_38_method_6_code 55 = .ok (.dup_x1, 1) := by decide +kernel
theorem d20_56 : decode jdk_38_method_6_code 56 = .ok (.putfield 9, 3) := by decide +kernel
theorem d20_59 : decode jdk_38_method_6_code 59 = .ok (.areturn, 1) := by decide +kernel
theorem pf_21 : plainFor (⟨"java/lang/Math", "max", "(II)I"⟩ : MethodName) = true := by decide +kernel
theorem d21_0 : decode jdk_29_method_65_code 0 = .ok (.iload_n 0, 1) := by decide +kernel
theorem d21_1 : decode jdk_29_method_65_code 1 = .ok (.iload_n 1, 1) := by decide +kernel
theorem d21_2 : decode jdk_29_method_65_code 2 = .ok (.if_icmp .lt 7, 3) := by decide +kernel
theorem d21_5 : decode jdk_29_method_65_code 5 = .ok (.iload_n 0, 1) := by decide +kernel
theorem d21_6 : decode jdk_29_method_65_code 6 = .ok (.goto 4, 3) := by decide +kernel
theorem d21_9 : decode jdk_29_method_65_code 9 = .ok (.iload_n 1, 1) := by decide +kernel
theorem d21_10 : decode jdk_29_method_65_code 10 = .ok (.ireturn, 1) := by decide +kernel
theorem pf_22 : plainFor (⟨"java/util/ArrayList$Itr", "next", "()Ljava/lang/Object;"⟩ : MethodName) = true := by decide +kernel
theorem d22_0 : decode jdk_49_method_3_code 0 = .ok (.aload_n 0, 1) := by decide +kernel
theorem d22_1 : decode jdk_49_method_3_code 1 = .ok (.invokevirtual 31, 3) := by decide +kernel
theorem d22_4 : decode jdk_49_method_3_code 4 = .ok (.aload_n 0, 1) := by decide +kernel
theorem d22_5 : decode jdk_49_method_3_code 5 = .ok (.getfield 25, 3) := by decide +kernel
theorem d22_8 : decode jdk_49_method_3_code 8 = .ok (.istore_n 1, 1) := by decide +kernel
theorem d22_9 : decode jdk_49_method_3_code 9 = .ok (.iload_n 1, 1) := by decide +kernel
theorem d22_10 : decode jdk_49_method_3_code 10 = .ok (.aload_n 0, 1) := by decide +kernel
theorem d22_11 : decode jdk_49_method_3_code 11 = .ok (.getfield 1, 3) := by decide +kernel
theorem d22_14 : decode jdk_49_method_3_code 14 = .ok (.getfield 28, 3) := by decide +kernel
theorem d22_17 : decode jdk_49_method_3_code 17 = .ok (.if_icmp .lt 11, 3) := by decide +kernel
theorem d22_20 : decode jdk_49_method_3_code 20 = .ok (.new 34, 3) := by decide +kernel
theorem d22_23 : decode jdk_49_method_3_code 23 = .ok (.dup, 1) := by decide +kernel
theorem d22_24 : decode jdk_49_method_3_code 24 = .ok (.invokespecial 36, 3) := by decide +kernel
theorem d22_27 : decode jdk_49_method_3_code 27 = .ok (.athrow, 1) := by decide +kernel
theorem d22_28 : decode jdk_49_method_3_code 28 = .ok (.aload_n 0, 1) := by decide +kernel
theorem d22_29 : decode jdk_49_method_3_code 29 = .ok (.getfield 1, 3) := by decide +kernel
theorem d22_32 : decode jdk_49_method_3_code 32 = .ok (.getfield 37, 3) := by decide +kernel
theorem d22_35 : decode jdk_49_method_3_code 35 = .ok (.astore_n 2, 1) := by decide +kernel
theorem d22_36 : decode jdk_49_method_3_code 36 = .ok (.iload_n 1, 1) := by decide +kernel
theorem d22_37 : decode jdk_49_method_3_code 37 = .ok (.aload_n 2, 1) := by decide +kernel
theorem d22_38 : decode jdk_49_method_3_code 38 = .ok (.arraylength, 1) := by decide +kernel
theorem d22_39 : decode jdk_49_method_3_code 39 = .ok (.if_icmp .lt 11, 3) := by decide +kernel
theorem d22_42 : decode jdk_49_method_3_code 42 = .ok (.new 41, 3) := by decide +kernel
theorem d22_45 : decode jdk_49_method_3_code 45 = .ok (.dup, 1) := by decide +kernel
theorem d22_46 : decode jdk_49_method_3_code 46 = .ok (.invokespecial 43, 3) := by decide +kernel
theorem d22_49 : decode jdk_49_method_3_code 49 = .ok (.athrow, 1) := by decide +kernel
theorem d22_50 : decode jdk_49_method_3_code 50 = .ok (.aload_n 0, 1) := by decide +kernel
theorem d22_51 : decode jdk_49_method_3_code 51 = .ok (.iload_n 1, 1) := by decide +kernel
theorem d22_52 : decode jdk_49_method_3_code 52 = .ok (.iconst 1, 1) := by decide +kernel
theorem d22_53 : decode jdk_49_method_3_code 53 = .ok (.iadd, 1) := by decide +kernel
theorem d22_54 : decode jdk_49_method_3_code 54 = .ok (.putfield 25, 3) := by decide +kernel
theorem d22_57 : decode jdk_49_method_3_code 57 = .ok (.aload_n 2, 1) := by decide +kernel
theorem d22_58 : decode jdk_49_method_3_code 58 = .ok (.aload_n 0, 1) := by decide +kernel
theorem d22_59 : decode jdk_49_method_3_code 59 = .ok (.iload_n 1, 1) := by decide +kernel
theorem d22_60 : decode jdk_49_method_3_code 60 = .ok (.dup_x1, 1) := by decide +kernel
theorem d22_61 : decode jdk_49_method_3_code 61 = .ok (.putfield 13, 3) := by decide +kernel
theorem d22_64 : decode jdk_49_method_3_code 64 = .ok (.aaload, 1) := by decide +kernel
theorem d22_65 : decode jdk_49_method_3_code 65 = .ok (.areturn, 1) := by decide +kernel
theorem pf_23 : plainFor (⟨"java/util/ArrayList$Itr", "checkForComodification", "()V"⟩ : MethodName) = true := by decide +kernel
theorem d23_0 : decode jdk_49_method_6_code 0 = .ok (.aload_n 0, 1) := by decide +kernel
theorem d23_1 : decode jdk_49_method_6_code 1 = .ok (.getfield 1, 3) := by decide +kernel
theorem d23_4 : decode jdk_49_method_6_code 4 = .ok (.getfield 17, 3) := by decide +kernel
theorem d23_7 : decode jdk_49_method_6_code 7 = .ok (.aload_n 0, 1) := by decide +kernel
theorem d23_8 : decode jdk_49_method_6_code 8 = .ok (.getfield 22, 3) := by decide +kernel
theorem d23_11 : decode jdk_49_method_6_code 11 = .ok (.if_icmp .eq 11, 3) := by decide +kernel
theorem d23_14 : decode jdk_49_method_6_code 14 = .ok (.new 41, 3) := by decide +kernel
theorem d23_17 : decode jdk_49_method_6_code 17 = .ok (.dup, 1) := by decide +kernel
theorem d23_18 : decode jdk_49_method_6_code 18 = .ok (.invokespecial 43, 3) := by decide +kernel
theorem d23_21 : decode jdk_49_method_6_code 21 = .ok (.athrow, 1) := by decide +kernel
theorem d23_22 : decode jdk_49_method_6_code 22 = .ok (.return_, 1) := by decide +kernel
theorem pf_24 : plainFor (⟨"com/example/ohjaus/ohjaus/signal/PushButton", "detector", "()I"⟩ : MethodName) = true := by decide +kernel
theorem d24_0 : decode prog_43_method_2_code 0 = .ok (.aload_n 0, 1) := by decide +kernel
theorem d24_1 : decode prog_43_method_2_code 1 = .ok (.getfield 7, 3) := by decide +kernel
theorem d24_4 : decode prog_43_method_2_code 4 = .ok (.ireturn, 1) := by decide +kernel
theorem pf_25 : plainFor (⟨"com/example/ohjaus/ohjaus/signal/Situation", "serve", "(I)V"⟩ : MethodName) = true := by decide +kernel
theorem d25_0 : decode prog_49_method_6_code 0 = .ok (.aload_n 0, 1) := by decide +kernel
theorem d25_1 : decode prog_49_method_6_code 1 = .ok (.getfield 58, 3) := by decide +kernel
theorem d25_4 : decode prog_49_method_6_code 4 = .ok (.iload_n 1, 1) := by decide +kernel
theorem d25_5 : decode prog_49_method_6_code 5 = .ok (.iconst 0, 1) := by decide +kernel
theorem d25_6 : decode prog_49_method_6_code 6 = .ok (.bastore, 1) := by decide +kernel
theorem d25_7 : decode prog_49_method_6_code 7 = .ok (.return_, 1) := by decide +kernel
theorem pf_26 : plainFor (⟨"com/example/ohjaus/ohjaus/signal/Situation", "fault", "(I)V"⟩ : MethodName) = true := by decide +kernel
theorem d26_0 : decode prog_49_method_4_code 0 = .ok (.aload_n 0, 1) := by decide +kernel
theorem d26_1 : decode prog_49_method_4_code 1 = .ok (.getfield 15, 3) := by decide +kernel
theorem d26_4 : decode prog_49_method_4_code 4 = .ok (.iload_n 1, 1) := by decide +kernel
theorem d26_5 : decode prog_49_method_4_code 5 = .ok (.baload, 1) := by decide +kernel
theorem d26_6 : decode prog_49_method_4_code 6 = .ok (.ifCond .ne 20, 3) := by decide +kernel
theorem d26_9 : decode prog_49_method_4_code 9 = .ok (.aload_n 0, 1) := by decide +kernel
theorem d26_10 : decode prog_49_method_4_code 10 = .ok (.getfield 15, 3) := by decide +kernel
theorem d26_13 : decode prog_49_method_4_code 13 = .ok (.iload_n 1, 1) := by decide +kernel
theorem d26_14 : decode prog_49_method_4_code 14 = .ok (.iconst 1, 1) := by decide +kernel
theorem d26_15 : decode prog_49_method_4_code 15 = .ok (.bastore, 1) := by decide +kernel
theorem d26_16 : decode prog_49_method_4_code 16 = .ok (.aload_n 0, 1) := by decide +kernel
theorem d26_17 : decode prog_49_method_4_code 17 = .ok (.dup, 1) := by decide +kernel
theorem d26_18 : decode prog_49_method_4_code 18 = .ok (.getfield 65, 3) := by decide +kernel
theorem d26_21 : decode prog_49_method_4_code 21 = .ok (.iconst 1, 1) := by decide +kernel
theorem d26_22 : decode prog_49_method_4_code 22 = .ok (.iadd, 1) := by decide +kernel
theorem d26_23 : decode prog_49_method_4_code 23 = .ok (.putfield 65, 3) := by decide +kernel
theorem d26_26 : decode prog_49_method_4_code 26 = .ok (.return_, 1) := by decide +kernel
theorem pf_0 : plainFor x = true := plainFor_of_name (by show plainName "com/example/ohjaus/ohjaus/signal/SituationDetectPinLaw" = true; simp [plainName, overriddenIn])
theorem sta_keep1 {Z : State} {h h' : Heap} {C n d K : String} {v : Value} {q : Addr} (F : Sta Z h C n d v) (E : Exa Z h q K) (Kp : Keep h h' [q]) : Sta Z h' C n d v := by
  obtain ⟨cf, i, k, f, st, cell, h1, h2, h3, h4, h5, h6, h7⟩ := F
  obtain ⟨c2, k2, g1, -, -, g4, -⟩ := E
  refine ⟨cf, i, k, f, st, cell, h1, h2, h3, h4, Kp.2.1 st cell h5 (ninS (fun e => ?_) nin0), h6, h7⟩
  subst e; cases h5.symm.trans g1; rw [g4] at h6; cases h6
def Lst (Z : State) (h : Heap) (n0 : Nat) (q : Addr) (mc sz : Int32) (ed : Value) : Prop := n0 ≤ q ∧ Exa Z h q "java/util/ArrayList" ∧ Fld Z h q "java/util/AbstractList" "modCount" "I" (.int mc) ∧ Fld Z h q "java/util/ArrayList" "elementData" "[Ljava/lang/Object;" ed ∧ Fld Z h q "java/util/ArrayList" "size" "I" (.int sz)
def Itt (Z : State) (h : Heap) (n0 : Nat) (t q : Addr) (mc cur : Int32) : Prop := n0 ≤ t ∧ Exa Z h t "java/util/ArrayList$Itr" ∧ Fld Z h t "java/util/ArrayList$Itr" "this$0" "Ljava/util/ArrayList;" (.ref q) ∧ Fld Z h t "java/util/ArrayList$Itr" "expectedModCount" "I" (.int mc) ∧ Fld Z h t "java/util/ArrayList$Itr" "cursor" "I" (.int cur) ∧ ∃ lr, Fld Z h t "java/util/ArrayList$Itr" "lastRet" "I" (.int lr)
def Lf (g : Nat → Int64) : Nat → Value := fun i => .long (g i)
def Bf (g : Nat → Bool) : Nat → Value := fun i => .int (own_b (g i))
theorem upd_L (g : Nat → Int64) (i : Nat) (v : Int64) : updN (Lf g) i (.long v) = Lf (updN g i v) := by funext j; simp only [updN, Lf]; split <;> rfl
theorem upd_B (g : Nat → Bool) (i : Nat) (v : Bool) : updN (Bf g) i (.int (own_b v)) = Bf (updN g i v) := by funext j; simp only [updN, Bf]; split <;> rfl
set_option maxRecDepth 65536 in
set_option maxHeartbeats 40000000 in
theorem con_ac (l : Launch) (Z : State) (a0 : Array Value) (hw : ∀ d ∈ tables_1, d.before a0 Z = true) (q : Addr) (h0 : Heap) (n0 : Nat) (z0 : n0 ≤ h0.size) :
    Con l Z (⟨"java/util/AbstractCollection", "<init>", "()V"⟩ : MethodName) jdk_22_method_1_code 1 none ({ frames := 1, cells := 0, slots := 0, locals := 12 } : Room) #[(.ref q)] h0 n0 (fun v h' => v = none ∧ h0 = h') := by
  refine Con.mk (tb := tables_1) (a0 := a0) (Ls := #[.val (.ref q)]) pf_3 hw z0 (fun m => by first | (simp [entryFrame, mkF, argsToLocals, Value.category, maxLocals]; done) | rfl) ?_
  intro p e s m below meth c S0 C R
  replace R := R.aloadN C (pc' := 1) d3_0 rfl rfl rfl
  replace R := R.initO C (C.w 19 rfl) (C.w 20 rfl) (C.w 21 rfl) rfl (pc' := 4) d3_1 (by decide) (W := 0) (Nat.le_of_eq rfl) (by decide) rfl
  exact R.retV C d3_4 ⟨rfl, rfl⟩ (by decide) (by decide)
set_option maxRecDepth 65536 in
set_option maxHeartbeats 40000000 in
theorem con_abl (l : Launch) (Z : State) (a0 : Array Value) (hw : ∀ d ∈ tables_1, d.before a0 Z = true) (q : Addr) (mc sz : Int32) (ed : Value) (h0 : Heap) (n0 : Nat) (z0 : n0 ≤ h0.size) (B : Lst Z h0 n0 q mc sz ed) :
    Con l Z (⟨"java/util/AbstractList", "<init>", "()V"⟩ : MethodName) jdk_39_method_1_code 1 none ({ frames := 2, cells := 0, slots := 0, locals := 24 } : Room) #[(.ref q)] h0 n0 (fun v h' => v = none ∧ Keep h0 h' [q] ∧ Lst Z h' n0 q 0 sz ed) := by
  refine Con.mk (tb := tables_1) (a0 := a0) (Ls := #[.val (.ref q)]) pf_2 hw z0 (fun m => by first | (simp [entryFrame, mkF, argsToLocals, Value.category, maxLocals]; done) | rfl) ?_
  intro p e s m below meth c S0 C R
  obtain ⟨gq, E, Fm, Fe, Fz⟩ := B
  have K := Keep.refl h0 [q]
  replace R := R.aloadN C (pc' := 1) d2_0 rfl rfl rfl
  obtain ⟨_, _, R', rfl, rfl⟩ := R.callI C (y := (⟨"java/util/AbstractCollection", "<init>", "()V"⟩ : MethodName)) rfl (C.w 13 rfl) (C.w 14 rfl) (C.w 17 rfl) (C.w 18 rfl) (by decide) q [] [] rfl (con_ac l Z a0 hw q h0 n0 z0) 0 (Nat.le_of_eq rfl) (by decide) (by decide) (by decide) (by decide) (lenOf pd_0 rfl) rfl (pc' := 4) d2_1 rfl
  clear R
  replace R := R'.as (st' := []) rfl
  clear R'
  replace R := R.aloadN C (pc' := 5) d2_4 rfl rfl rfl
  replace R := R.iconst C (pc' := 6) d2_5 (v := (0 : Int32)) rfl rfl
  obtain ⟨h1, R', W1⟩ := R.putFv C (C.w 22 rfl) Via.refl Fm E (Or.inl (C.w 23 rfl)) (C.w 2 rfl) (ty := .int) (v' := (.int (0 : Int32))) (by decide) rfl rfl gq (pc' := 9) d2_6 rfl
  replace R := R'
  clear R'
  replace E := E.wr W1
  replace Fm := Fm.same W1
  replace Fe := Fe.other W1 (Or.inr (slot_ne (Or.inl (C.w 26 rfl)) (Or.inl (C.w 23 rfl)) (by decide) (t := (.array (.object "java/lang/Object"))) (t' := .int) (by decide) (by decide)))
  replace Fz := Fz.other W1 (Or.inr (slot_ne (Or.inl (C.w 88 rfl)) (Or.inl (C.w 23 rfl)) (by decide) (t := .int) (t' := .int) (by decide) (by decide)))
  replace K := K.wr W1 (Or.inl (List.mem_of_getElem? (i := 0) rfl))
  exact R.retV C d2_9 ⟨rfl, K, gq, E, Fm, Fe, Fz⟩ (by decide) (by decide)
set_option maxRecDepth 65536 in
set_option maxHeartbeats 40000000 in
theorem con_ali (l : Launch) (Z : State) (a0 : Array Value) (hw : ∀ d ∈ tables_1, d.before a0 Z = true) (q dv : Addr) (h0 : Heap) (n0 : Nat) (z0 : n0 ≤ h0.size) (B : Lst Z h0 n0 q 0 0 .null) (S : Sta Z h0 "java/util/ArrayList" "DEFAULTCAPACITY_EMPTY_ELEMENTDATA" "[Ljava/lang/Object;" (.ref dv)) :
    Con l Z (⟨"java/util/ArrayList", "<init>", "()V"⟩ : MethodName) jdk_38_method_2_code 1 none ({ frames := 3, cells := 0, slots := 0, locals := 36 } : Room) #[(.ref q)] h0 n0 (fun v h' => v = none ∧ Keep h0 h' [q] ∧ Lst Z h' n0 q 0 0 (.ref dv)) := by
  refine Con.mk (tb := tables_1) (a0 := a0) (Ls := #[.val (.ref q)]) pf_1 hw z0 (fun m => by first | (simp [entryFrame, mkF, argsToLocals, Value.category, maxLocals]; done) | rfl) ?_
  intro p e s m below meth c S0 C R
  replace R := R.aloadN C (pc' := 1) d1_0 rfl rfl rfl
  obtain ⟨_, h1, R', rfl, K, B1⟩ := R.callI C (y := (⟨"java/util/AbstractList", "<init>", "()V"⟩ : MethodName)) rfl (C.w 7 rfl) (C.w 8 rfl) (C.w 11 rfl) (C.w 12 rfl) (by decide) q [] [] rfl (con_abl l Z a0 hw q 0 0 .null h0 n0 z0 B) 0 (Nat.le_of_eq rfl) (by decide) (by decide) (by decide) (by decide) (lenOf pd_0 rfl) rfl (pc' := 4) d1_1 rfl
  clear R
  replace R := R'.as (st' := []) rfl
  clear R'
  replace S := sta_keep1 S B.2.1 K
  obtain ⟨gq, E, Fm, Fe, Fz⟩ := B1
  replace R := R.aloadN C (pc' := 5) d1_4 rfl rfl rfl
  replace R := R.getS C (C.w 24 rfl) S (pc' := 8) d1_5 rfl
  obtain ⟨h2, R', W2⟩ := R.putFv C (C.w 25 rfl) Via.refl Fe E (Or.inl (C.w 26 rfl)) (C.w 2 rfl) (ty := (.array (.object "java/lang/Object"))) (v' := (.ref dv)) (by decide) rfl rfl gq (pc' := 11) d1_8 rfl
  replace R := R'
  clear R'
  replace E := E.wr W2
  replace Fm := Fm.other W2 (Or.inr (slot_ne (Or.inl (C.w 23 rfl)) (Or.inl (C.w 26 rfl)) (by decide) (t := .int) (t' := (.array (.object "java/lang/Object"))) (by decide) (by decide)))
  replace Fe := Fe.same W2
  replace Fz := Fz.other W2 (Or.inr (slot_ne (Or.inl (C.w 88 rfl)) (Or.inl (C.w 26 rfl)) (by decide) (t := .int) (t' := (.array (.object "java/lang/Object"))) (by decide) (by decide)))
  replace K := K.wr W2 (Or.inl (List.mem_of_getElem? (i := 0) rfl))
  exact R.retV C d1_11 ⟨rfl, K, gq, E, Fm, Fe, Fz⟩ (by decide) (by decide)
set_option maxRecDepth 65536 in
set_option maxHeartbeats 40000000 in
theorem con_maxi (l : Launch) (Z : State) (a0 : Array Value) (hw : ∀ d ∈ tables_1, d.before a0 Z = true)  (h0 : Heap) (n0 : Nat) (z0 : n0 ≤ h0.size) :
    Con l Z (⟨"java/lang/Math", "max", "(II)I"⟩ : MethodName) jdk_29_method_65_code 2 (some .int) ({ frames := 0, cells := 0, slots := 0, locals := 0 } : Room) #[(.int (10 : Int32)), (.int (1 : Int32))] h0 n0 (fun v h' => v = some (.int 10) ∧ h0 = h') := by
  refine Con.mk (tb := tables_1) (a0 := a0) (Ls := #[.val (.int (10 : Int32)), .val (.int (1 : Int32))]) pf_21 hw z0 (fun m => by first | (simp [entryFrame, mkF, argsToLocals, Value.category, maxLocals]; done) | rfl) ?_
  intro p e s m below meth c S0 C R
  replace R := R.iloadN C (pc' := 1) d21_0 rfl rfl
  replace R := R.iloadN C (pc' := 2) d21_1 rfl rfl
  replace R := R.icmpN C (pc' := 5) d21_2 rfl rfl
  replace R := R.iloadN C (pc' := 6) d21_5 rfl rfl
  replace R := R.goto C (pc' := 10) d21_6 rfl
  exact R.retI C d21_10 ⟨rfl, rfl⟩ (by decide) (by decide)
set_option maxRecDepth 65536 in
set_option maxHeartbeats 40000000 in
theorem con_g1 (l : Launch) (Z : State) (a0 : Array Value) (hw : ∀ d ∈ tables_1, d.before a0 Z = true) (q dv : Addr) (mc : Int32) (fd : Nat → Value) (h0 : Heap) (n0 : Nat) (z0 : n0 ≤ h0.size) (B : Lst Z h0 n0 q mc 0 (.ref dv)) (S : Sta Z h0 "java/util/ArrayList" "DEFAULTCAPACITY_EMPTY_ELEMENTDATA" "[Ljava/lang/Object;" (.ref dv)) (A : Ary Z h0 dv (.object "java/lang/Object") 0 fd) :
    Con l Z (⟨"java/util/ArrayList", "grow", "(I)[Ljava/lang/Object;"⟩ : MethodName) jdk_38_method_6_code 4 (some (.array (.object "java/lang/Object"))) ({ frames := 1, cells := 1, slots := 10, locals := 14 } : Room) #[(.ref q), (.int (1 : Int32))] h0 n0 (fun v h' => ∃ ar, v = some (.ref ar) ∧ Keep h0 h' [q] ∧ h0.size ≤ ar ∧ Lst Z h' n0 q mc 0 (.ref ar) ∧ Ary Z h' ar (.object "java/lang/Object") 10 (fun _ => .null) ∧ Orr Z h' ar "java/lang/Object") := by
  refine Con.mk (tb := tables_1) (a0 := a0) (Ls := #[.val (.ref q), .val (.int (1 : Int32)), .unset, .unset]) pf_20 hw z0 (fun m => by first | (simp [entryFrame, mkF, argsToLocals, Value.category, maxLocals]; done) | rfl) ?_
  intro p e s m below meth c S0 C R
  obtain ⟨gq, E, Fm, Fe, Fz⟩ := B
  have K := Keep.refl h0 [q]
  replace R := R.aloadN C (pc' := 1) d20_0 rfl rfl rfl
  replace R := R.getF C (C.w 25 rfl) Fe (pc' := 4) d20_1 rfl
  replace R := R.alen C A (v := (0 : Int32)) rfl (pc' := 5) d20_4 rfl
  replace R := R.istoreN C (Ls' := #[.val (.ref q), .val (.int (1 : Int32)), .val (.int (0 : Int32)), .unset]) (pc' := 6) d20_5 rfl rfl
  replace R := R.iloadN C (pc' := 7) d20_6 rfl rfl
  replace R := R.ifN C (pc' := 10) d20_7 rfl rfl
  replace R := R.aloadN C (pc' := 11) d20_10 rfl rfl rfl
  replace R := R.getF C (C.w 25 rfl) Fe (pc' := 14) d20_11 rfl
  replace R := R.getS C (C.w 24 rfl) S (pc' := 17) d20_14 rfl
  replace R := R.acmpY C (pc' := 45) d20_17 (by simp [if_acmp.holds]) rfl
  replace R := R.aloadN C (pc' := 46) d20_45 rfl rfl rfl
  replace R := R.bipush C (pc' := 48) d20_46 (v := (10 : Int32)) rfl rfl
  replace R := R.iloadN C (pc' := 49) d20_48 rfl rfl
  obtain ⟨_, _, R', rfl, rfl⟩ := R.callS C (y := (⟨"java/lang/Math", "max", "(II)I"⟩ : MethodName)) (C.w 158 rfl) (C.w 159 rfl) (C.w 160 rfl) (C.w 161 rfl) (by decide) [(.int (10 : Int32)), (.int (1 : Int32))] [(.ref q)] rfl (con_maxi l Z a0 hw h0 n0 z0) 1 (Nat.le_of_eq rfl) (by decide) (by decide) (by decide) (by decide) (lenOf pd_14 rfl) rfl (pc' := 52) d20_49 rfl
  clear R
  replace R := R'.as (st' := [(.int (10 : Int32)), (.ref q)]) rfl
  clear R'
  obtain ⟨h1, R', E1, A1, X1, O1⟩ := R.newR C (N := 10) (cap := 10) (ad := "[Ljava/lang/Object;") (C.w 162 rfl) (C.w 163 rfl) rfl (by decide) (by decide) (by decide) d20_52 (by decide) (by decide) (pc' := 55) rfl
  replace R := R'
  clear R'
  obtain ⟨ar, g_ar⟩ : ∃ z, z = h0.size := ⟨_, rfl⟩
  rw [← g_ar] at R A1 X1 O1
  have ne_q_ar : q ≠ ar := by rw [g_ar]; exact Nat.ne_of_lt E.lt
  replace E := E.ext E1
  replace Fm := Fm.ext E1
  replace Fe := Fe.ext E1
  replace Fz := Fz.ext E1
  replace K := K.ext E1
  replace R := R.dupX1 C (pc' := 56) d20_55 rfl rfl rfl
  obtain ⟨h2, R', W2⟩ := R.putFv C (C.w 25 rfl) Via.refl Fe E (Or.inl (C.w 26 rfl)) (C.w 2 rfl) (ty := (.array (.object "java/lang/Object"))) (v' := (.ref ar)) (by decide) rfl rfl gq (pc' := 59) d20_56 rfl
  replace R := R'
  clear R'
  replace E := E.wr W2
  replace Fm := Fm.other W2 (Or.inr (slot_ne (Or.inl (C.w 23 rfl)) (Or.inl (C.w 26 rfl)) (by decide) (t := .int) (t' := (.array (.object "java/lang/Object"))) (by decide) (by decide)))
  replace Fe := Fe.same W2
  replace Fz := Fz.other W2 (Or.inr (slot_ne (Or.inl (C.w 88 rfl)) (Or.inl (C.w 26 rfl)) (by decide) (t := .int) (t' := (.array (.object "java/lang/Object"))) (by decide) (by decide)))
  replace A1 := A1.other W2 (Ne.symm ne_q_ar)
  replace O1 := O1.wr W2
  replace K := K.wr W2 (Or.inl (List.mem_of_getElem? (i := 0) rfl))
  exact R.retA C rfl d20_59 ⟨ar, rfl, K, Nat.le_of_eq g_ar.symm, ⟨gq, E, Fm, Fe, Fz⟩, A1, O1⟩ (by decide) (by decide)
set_option maxRecDepth 65536 in
set_option maxHeartbeats 40000000 in
theorem con_g0 (l : Launch) (Z : State) (a0 : Array Value) (hw : ∀ d ∈ tables_1, d.before a0 Z = true) (q dv : Addr) (mc : Int32) (fd : Nat → Value) (h0 : Heap) (n0 : Nat) (z0 : n0 ≤ h0.size) (B : Lst Z h0 n0 q mc 0 (.ref dv)) (S : Sta Z h0 "java/util/ArrayList" "DEFAULTCAPACITY_EMPTY_ELEMENTDATA" "[Ljava/lang/Object;" (.ref dv)) (A : Ary Z h0 dv (.object "java/lang/Object") 0 fd) :
    Con l Z (⟨"java/util/ArrayList", "grow", "()[Ljava/lang/Object;"⟩ : MethodName) jdk_38_method_7_code 1 (some (.array (.object "java/lang/Object"))) ({ frames := 2, cells := 1, slots := 10, locals := 29 } : Room) #[(.ref q)] h0 n0 (fun v h' => ∃ ar, v = some (.ref ar) ∧ Keep h0 h' [q] ∧ h0.size ≤ ar ∧ Lst Z h' n0 q mc 0 (.ref ar) ∧ Ary Z h' ar (.object "java/lang/Object") 10 (fun _ => .null) ∧ Orr Z h' ar "java/lang/Object") := by
  refine Con.mk (tb := tables_1) (a0 := a0) (Ls := #[.val (.ref q)]) pf_19 hw z0 (fun m => by first | (simp [entryFrame, mkF, argsToLocals, Value.category, maxLocals]; done) | rfl) ?_
  intro p e s m below meth c S0 C R
  obtain ⟨gq, E, Fm, Fe, Fz⟩ := id B
  replace R := R.aloadN C (pc' := 1) d19_0 rfl rfl rfl
  replace R := R.aloadN C (pc' := 2) d19_1 rfl rfl rfl
  replace R := R.getF C (C.w 142 rfl) Fz (pc' := 5) d19_2 rfl
  replace R := R.iconst C (pc' := 6) d19_5 (v := (1 : Int32)) rfl rfl
  replace R := R.iadd C (pc' := 7) d19_6 rfl
  replace R := R.as (st' := [(.int (1 : Int32)), (.ref q)]) rfl
  obtain ⟨_, h1, R', ar, rfl, K, z_ar, B1, A1, O1⟩ := R.callP C (y := (⟨"java/util/ArrayList", "grow", "(I)[Ljava/lang/Object;"⟩ : MethodName)) E (C.w 153 rfl) (C.w 154 rfl) (C.w 2 rfl) (C.w 155 rfl) (C.w 3 rfl) (C.w 157 rfl) (by decide) [(.int (1 : Int32))] [] rfl (con_g1 l Z a0 hw q dv mc fd h0 n0 z0 B S A) 0 (Nat.le_of_eq rfl) (by decide) (by decide) (by decide) (by decide) (lenOf pd_13 rfl) rfl (pc' := 10) d19_7 rfl
  clear R
  replace R := R'.as (st' := [(.ref ar)]) rfl
  clear R'
  exact R.retA C rfl d19_10 ⟨ar, rfl, K, z_ar, B1, A1, O1⟩ (by decide) (by decide)
set_option maxRecDepth 65536 in
set_option maxHeartbeats 40000000 in
theorem con_a3 (l : Launch) (Z : State) (a0 : Array Value) (hw : ∀ d ∈ tables_1, d.before a0 Z = true) (q dv : Addr) (mc : Int32) (fd : Nat → Value) (b : Addr) (h0 : Heap) (n0 : Nat) (z0 : n0 ≤ h0.size) (B : Lst Z h0 n0 q mc 0 (.ref dv)) (S : Sta Z h0 "java/util/ArrayList" "DEFAULTCAPACITY_EMPTY_ELEMENTDATA" "[Ljava/lang/Object;" (.ref dv)) (A : Ary Z h0 dv (.object "java/lang/Object") 0 fd) (Eb : Exa Z h0 b "com/example/ohjaus/ohjaus/signal/PushButton") :
    Con l Z (⟨"java/util/ArrayList", "add", "(Ljava/lang/Object;[Ljava/lang/Object;I)V"⟩ : MethodName) jdk_38_method_24_code 4 none ({ frames := 3, cells := 1, slots := 10, locals := 41 } : Room) #[(.ref q), (.ref b), (.ref dv), (.int (0 : Int32))] h0 n0 (fun v h' => v = none ∧ Keep h0 h' [q] ∧ ∃ ar, h0.size ≤ ar ∧ Lst Z h' n0 q mc 1 (.ref ar) ∧ Ary Z h' ar (.object "java/lang/Object") 10 (updN (fun _ => .null) 0 (.ref b))) := by
  refine Con.mk (tb := tables_1) (a0 := a0) (Ls := #[.val (.ref q), .val (.ref b), .val (.ref dv), .val (.int (0 : Int32))]) pf_18 hw z0 (fun m => by first | (simp [entryFrame, mkF, argsToLocals, Value.category, maxLocals]; done) | rfl) ?_
  intro p e s m below meth c S0 C R
  have E := B.2.1
  replace R := R.iloadN C (pc' := 1) d18_0 rfl rfl
  replace R := R.aloadN C (pc' := 2) d18_1 rfl rfl rfl
  replace R := R.alen C A (v := (0 : Int32)) rfl (pc' := 3) d18_2 rfl
  replace R := R.icmpN C (pc' := 6) d18_3 rfl rfl
  replace R := R.aloadN C (pc' := 7) d18_6 rfl rfl rfl
  obtain ⟨_, h1, R', ar, rfl, K, z_ar, B1, A1, O1⟩ := R.callP C (y := (⟨"java/util/ArrayList", "grow", "()[Ljava/lang/Object;"⟩ : MethodName)) E (C.w 148 rfl) (C.w 149 rfl) (C.w 2 rfl) (C.w 150 rfl) (C.w 3 rfl) (C.w 152 rfl) (by decide) [] [] rfl (con_g0 l Z a0 hw q dv mc fd h0 n0 z0 B S A) 0 (Nat.le_of_eq rfl) (by decide) (by decide) (by decide) (by decide) (lenOf pd_12 rfl) rfl (pc' := 10) d18_7 rfl
  clear R
  replace R := R'.as (st' := [(.ref ar)]) rfl
  clear R'
  obtain ⟨gq, E, Fm, Fe, Fz⟩ := B1
  replace Eb := Eb.keep K
  have n_q_ar : q ≠ ar := Nat.ne_of_lt (Nat.lt_of_lt_of_le B.2.1.lt z_ar)
  replace R := R.astoreN C (Ls' := #[.val (.ref q), .val (.ref b), .val (.ref ar), .val (.int (0 : Int32))]) (pc' := 11) d18_10 rfl rfl rfl
  replace R := R.aloadN C (pc' := 12) d18_11 rfl rfl rfl
  replace R := R.iloadN C (pc' := 13) d18_12 rfl rfl
  replace R := R.aloadN C (pc' := 14) d18_13 rfl rfl rfl
  have st1 : Sto Z h1 ar (.ref b) := O1.sto A1 (Ins.of_exa Eb (C.w 164 rfl))
  obtain ⟨h2, R', W2⟩ := R.aastore C A1 rfl st1 (i := 0) rfl (by decide) (Nat.le_trans z0 z_ar) (pc' := 15) d18_14 rfl
  replace R := R'
  clear R'
  replace E := E.wr W2
  replace Fm := Fm.other W2 (Or.inl n_q_ar)
  replace Fe := Fe.other W2 (Or.inl n_q_ar)
  replace Fz := Fz.other W2 (Or.inl n_q_ar)
  replace A1 := A1.set W2
  replace Eb := Eb.wr W2
  replace K := K.wr W2 (Or.inr z_ar)
  replace R := R.aloadN C (pc' := 16) d18_15 rfl rfl rfl
  replace R := R.iloadN C (pc' := 17) d18_16 rfl rfl
  replace R := R.iconst C (pc' := 18) d18_17 (v := (1 : Int32)) rfl rfl
  replace R := R.iadd C (pc' := 19) d18_18 rfl
  replace R := R.as (st' := [(.int (1 : Int32)), (.ref q)]) rfl
  obtain ⟨h3, R', W3⟩ := R.putFv C (C.w 142 rfl) Via.refl Fz E (Or.inl (C.w 88 rfl)) (C.w 2 rfl) (ty := .int) (v' := (.int (1 : Int32))) (by decide) rfl rfl gq (pc' := 22) d18_19 rfl
  replace R := R'
  clear R'
  replace E := E.wr W3
  replace Fm := Fm.other W3 (Or.inr (slot_ne (Or.inl (C.w 23 rfl)) (Or.inl (C.w 88 rfl)) (by decide) (t := .int) (t' := .int) (by decide) (by decide)))
  replace Fe := Fe.other W3 (Or.inr (slot_ne (Or.inl (C.w 26 rfl)) (Or.inl (C.w 88 rfl)) (by decide) (t := (.array (.object "java/lang/Object"))) (t' := .int) (by decide) (by decide)))
  replace Fz := Fz.same W3
  replace A1 := A1.other W3 (Ne.symm n_q_ar)
  replace Eb := Eb.wr W3
  replace K := K.wr W3 (Or.inl (List.mem_of_getElem? (i := 0) rfl))
  exact R.retV C d18_22 ⟨rfl, K, ar, z_ar, ⟨gq, E, Fm, Fe, Fz⟩, A1⟩ (by decide) (by decide)
set_option maxRecDepth 65536 in
set_option maxHeartbeats 40000000 in
theorem con_a1 (l : Launch) (Z : State) (a0 : Array Value) (hw : ∀ d ∈ tables_1, d.before a0 Z = true) (q dv : Addr) (fd : Nat → Value) (b : Addr) (h0 : Heap) (n0 : Nat) (z0 : n0 ≤ h0.size) (B : Lst Z h0 n0 q 0 0 (.ref dv)) (S : Sta Z h0 "java/util/ArrayList" "DEFAULTCAPACITY_EMPTY_ELEMENTDATA" "[Ljava/lang/Object;" (.ref dv)) (A : Ary Z h0 dv (.object "java/lang/Object") 0 fd) (Eb : Exa Z h0 b "com/example/ohjaus/ohjaus/signal/PushButton") (nd : dv ≠ q) :
    Con l Z (⟨"java/util/ArrayList", "add", "(Ljava/lang/Object;)Z"⟩ : MethodName) jdk_38_method_25_code 2 (some .boolean) ({ frames := 4, cells := 1, slots := 10, locals := 56 } : Room) #[(.ref q), (.ref b)] h0 n0 (fun v h' => v = some (.int (own_b true)) ∧ Keep h0 h' [q] ∧ ∃ ar, h0.size ≤ ar ∧ Lst Z h' n0 q 1 1 (.ref ar) ∧ Ary Z h' ar (.object "java/lang/Object") 10 (updN (fun _ => .null) 0 (.ref b))) := by
  refine Con.mk (tb := tables_1) (a0 := a0) (Ls := #[.val (.ref q), .val (.ref b)]) pf_17 hw z0 (fun m => by first | (simp [entryFrame, mkF, argsToLocals, Value.category, maxLocals]; done) | rfl) ?_
  intro p e s m below meth c S0 C R
  obtain ⟨gq, E, Fm, Fe, Fz⟩ := B
  have K := Keep.refl h0 [q]
  replace R := R.aloadN C (pc' := 1) d17_0 rfl rfl rfl
  replace R := R.dup C (pc' := 2) d17_1 rfl rfl
  replace R := R.getFv C (host := "") (Or.inl (C.w 141 rfl)) (Via.of (C.w 73 rfl)) Fm (pc' := 5) d17_2 rfl
  replace R := R.iconst C (pc' := 6) d17_5 (v := (1 : Int32)) rfl rfl
  replace R := R.iadd C (pc' := 7) d17_6 rfl
  replace R := R.as (st' := [(.int (1 : Int32)), (.ref q)]) rfl
  obtain ⟨h1, R', W1⟩ := R.putFv C (C.w 141 rfl) (Via.of (C.w 73 rfl)) Fm E (Or.inl (C.w 23 rfl)) (C.w 2 rfl) (ty := .int) (v' := (.int (1 : Int32))) (by decide) rfl rfl gq (pc' := 10) d17_7 rfl
  replace R := R'
  clear R'
  replace E := E.wr W1
  replace Fm := Fm.same W1
  replace Fe := Fe.other W1 (Or.inr (slot_ne (Or.inl (C.w 26 rfl)) (Or.inl (C.w 23 rfl)) (by decide) (t := (.array (.object "java/lang/Object"))) (t' := .int) (by decide) (by decide)))
  replace Fz := Fz.other W1 (Or.inr (slot_ne (Or.inl (C.w 88 rfl)) (Or.inl (C.w 23 rfl)) (by decide) (t := .int) (t' := .int) (by decide) (by decide)))
  replace S := S.wr W1
  replace A := A.other W1 nd
  replace Eb := Eb.wr W1
  replace K := K.wr W1 (Or.inl (List.mem_of_getElem? (i := 0) rfl))
  replace R := R.aloadN C (pc' := 11) d17_10 rfl rfl rfl
  replace R := R.aloadN C (pc' := 12) d17_11 rfl rfl rfl
  replace R := R.aloadN C (pc' := 13) d17_12 rfl rfl rfl
  replace R := R.getF C (C.w 25 rfl) Fe (pc' := 16) d17_13 rfl
  replace R := R.aloadN C (pc' := 17) d17_16 rfl rfl rfl
  replace R := R.getF C (C.w 142 rfl) Fz (pc' := 20) d17_17 rfl
  obtain ⟨_, h2, R', rfl, K2, ar, z_ar, B2, A2⟩ := R.callP C (y := (⟨"java/util/ArrayList", "add", "(Ljava/lang/Object;[Ljava/lang/Object;I)V"⟩ : MethodName)) E (C.w 143 rfl) (C.w 144 rfl) (C.w 2 rfl) (C.w 145 rfl) (C.w 3 rfl) (C.w 147 rfl) (by decide) [(.ref b), (.ref dv), (.int (0 : Int32))] [] rfl (con_a3 l Z a0 hw q dv 1 fd b h1 n0 R.size ⟨gq, E, Fm, Fe, Fz⟩ S A Eb) 0 (Nat.le_of_eq rfl) (by decide) (by decide) (by decide) (by decide) (lenOf pd_11 rfl) rfl (pc' := 23) d17_20 rfl
  clear R
  replace R := R'.as (st' := []) rfl
  clear R'
  replace R := R.iconst C (pc' := 24) d17_23 (v := (1 : Int32)) rfl rfl
  exact R.retZ (b := true) C d17_24 ⟨rfl, K.trans K2 (allS (Or.inl (List.mem_of_getElem? (i := 0) rfl)) all0), ar, Nat.le_trans K.1 z_ar, B2, A2⟩ (by decide) (by decide)
set_option maxRecDepth 65536 in
set_option maxHeartbeats 40000000 in
theorem con_pbi (l : Launch) (Z : State) (a0 : Array Value) (hw : ∀ d ∈ tables_1, d.before a0 Z = true) (b : Addr) (d g : Int32) (h0 : Heap) (n0 : Nat) (z0 : n0 ≤ h0.size) (gb : n0 ≤ b) (E : Exa Z h0 b "com/example/ohjaus/ohjaus/signal/PushButton") (Fd : Fld Z h0 b "com/example/ohjaus/ohjaus/signal/PushButton" "detector" "I" (.int 0)) (Fg : Fld Z h0 b "com/example/ohjaus/ohjaus/signal/PushButton" "group" "I" (.int 0)) :
    Con l Z (⟨"com/example/ohjaus/ohjaus/signal/PushButton", "<init>", "(II)V"⟩ : MethodName) prog_43_method_1_code 3 none ({ frames := 1, cells := 0, slots := 0, locals := 12 } : Room) #[(.ref b), (.int d), (.int g)] h0 n0 (fun v h' => v = none ∧ Keep h0 h' [b] ∧ Exa Z h' b "com/example/ohjaus/ohjaus/signal/PushButton" ∧ Fld Z h' b "com/example/ohjaus/ohjaus/signal/PushButton" "detector" "I" (.int d)) := by
  refine Con.mk (tb := tables_1) (a0 := a0) (Ls := #[.val (.ref b), .val (.int d), .val (.int g)]) pf_16 hw z0 (fun m => by first | (simp [entryFrame, mkF, argsToLocals, Value.category, maxLocals]; done) | rfl) ?_
  intro p e s m below meth c S0 C R
  have K := Keep.refl h0 [b]
  replace R := R.aloadN C (pc' := 1) d16_0 rfl rfl rfl
  replace R := R.initO C (C.w 131 rfl) (C.w 20 rfl) (C.w 21 rfl) rfl (pc' := 4) d16_1 (by decide) (W := 0) (Nat.le_of_eq rfl) (by decide) rfl
  replace R := R.aloadN C (pc' := 5) d16_4 rfl rfl rfl
  replace R := R.iloadN C (pc' := 6) d16_5 rfl rfl
  obtain ⟨h1, R', W1⟩ := R.putFv C (C.w 132 rfl) Via.refl Fd E (Or.inr ⟨(C.w 133 rfl), rfl, rfl⟩) (C.w 126 rfl) (ty := .int) (v' := (.int d)) (by decide) rfl rfl gb (pc' := 9) d16_6 rfl
  replace R := R'
  clear R'
  replace E := E.wr W1
  replace Fd := Fd.same W1
  replace Fg := Fg.other W1 (Or.inr (slot_ne (Or.inr (C.w 135 rfl)) (Or.inr (C.w 133 rfl)) (by decide) (t := .int) (t' := .int) (by decide) (by decide)))
  replace K := K.wr W1 (Or.inl (List.mem_of_getElem? (i := 0) rfl))
  replace R := R.aloadN C (pc' := 10) d16_9 rfl rfl rfl
  replace R := R.iloadN C (pc' := 11) d16_10 rfl rfl
  obtain ⟨h2, R', W2⟩ := R.putFv C (C.w 134 rfl) Via.refl Fg E (Or.inr ⟨(C.w 135 rfl), rfl, rfl⟩) (C.w 126 rfl) (ty := .int) (v' := (.int g)) (by decide) rfl rfl gb (pc' := 14) d16_11 rfl
  replace R := R'
  clear R'
  replace E := E.wr W2
  replace Fd := Fd.other W2 (Or.inr (slot_ne (Or.inr (C.w 133 rfl)) (Or.inr (C.w 135 rfl)) (by decide) (t := .int) (t' := .int) (by decide) (by decide)))
  replace Fg := Fg.same W2
  replace K := K.wr W2 (Or.inl (List.mem_of_getElem? (i := 0) rfl))
  exact R.retV C d16_14 ⟨rfl, K, E, Fd⟩ (by decide) (by decide)
set_option maxRecDepth 65536 in
set_option maxHeartbeats 40000000 in
theorem con_det (l : Launch) (Z : State) (a0 : Array Value) (hw : ∀ d ∈ tables_1, d.before a0 Z = true) (b : Addr) (d : Int32) (h0 : Heap) (n0 : Nat) (z0 : n0 ≤ h0.size) (Fd : Fld Z h0 b "com/example/ohjaus/ohjaus/signal/PushButton" "detector" "I" (.int d)) :
    Con l Z (⟨"com/example/ohjaus/ohjaus/signal/PushButton", "detector", "()I"⟩ : MethodName) prog_43_method_2_code 1 (some .int) ({ frames := 0, cells := 0, slots := 0, locals := 0 } : Room) #[(.ref b)] h0 n0 (fun v h' => v = some (.int d) ∧ h0 = h') := by
  refine Con.mk (tb := tables_1) (a0 := a0) (Ls := #[.val (.ref b)]) pf_24 hw z0 (fun m => by first | (simp [entryFrame, mkF, argsToLocals, Value.category, maxLocals]; done) | rfl) ?_
  intro p e s m below meth c S0 C R
  replace R := R.aloadN C (pc' := 1) d24_0 rfl rfl rfl
  replace R := R.getF C (C.w 132 rfl) Fd (pc' := 4) d24_1 rfl
  exact R.retI C d24_4 ⟨rfl, rfl⟩ (by decide) (by decide)
set_option maxRecDepth 65536 in
set_option maxHeartbeats 40000000 in
theorem con_iti (l : Launch) (Z : State) (a0 : Array Value) (hw : ∀ d ∈ tables_1, d.before a0 Z = true) (t q : Addr) (mc : Int32) (h0 : Heap) (n0 : Nat) (z0 : n0 ≤ h0.size) (gt : n0 ≤ t) (nqt : q ≠ t) (Et : Exa Z h0 t "java/util/ArrayList$Itr") (Ft : Fld Z h0 t "java/util/ArrayList$Itr" "this$0" "Ljava/util/ArrayList;" .null) (Fx : Fld Z h0 t "java/util/ArrayList$Itr" "expectedModCount" "I" (.int 0)) (Fc : Fld Z h0 t "java/util/ArrayList$Itr" "cursor" "I" (.int 0)) (Fl : Fld Z h0 t "java/util/ArrayList$Itr" "lastRet" "I" (.int 0)) (Fm : Fld Z h0 q "java/util/AbstractList" "modCount" "I" (.int mc)) :
    Con l Z (⟨"java/util/ArrayList$Itr", "<init>", "(Ljava/util/ArrayList;)V"⟩ : MethodName) jdk_49_method_1_code 2 none ({ frames := 1, cells := 0, slots := 0, locals := 12 } : Room) #[(.ref t), (.ref q)] h0 n0 (fun v h' => v = none ∧ Keep h0 h' [t] ∧ Itt Z h' n0 t q mc 0) := by
  refine Con.mk (tb := tables_1) (a0 := a0) (Ls := #[.val (.ref t), .val (.ref q)]) pf_8 hw z0 (fun m => by first | (simp [entryFrame, mkF, argsToLocals, Value.category, maxLocals]; done) | rfl) ?_
  intro p e s m below meth c S0 C R
  have K := Keep.refl h0 [t]
  replace R := R.aloadN C (pc' := 1) d8_0 rfl rfl rfl
  replace R := R.aloadN C (pc' := 2) d8_1 rfl rfl rfl
  obtain ⟨h1, R', W1⟩ := R.putFv C (C.w 67 rfl) Via.refl Ft Et (Or.inr ⟨(C.w 68 rfl), rfl, rfl⟩) (C.w 61 rfl) (ty := (.object "java/util/ArrayList")) (v' := (.ref q)) (by decide) rfl rfl gt (pc' := 5) d8_2 rfl
  replace R := R'
  clear R'
  replace Et := Et.wr W1
  replace Ft := Ft.same W1
  replace Fx := Fx.other W1 (Or.inr (slot_ne (Or.inl (C.w 75 rfl)) (Or.inr (C.w 68 rfl)) (by decide) (t := .int) (t' := (.object "java/util/ArrayList")) (by decide) (by decide)))
  replace Fc := Fc.other W1 (Or.inr (slot_ne (Or.inl (C.w 86 rfl)) (Or.inr (C.w 68 rfl)) (by decide) (t := .int) (t' := (.object "java/util/ArrayList")) (by decide) (by decide)))
  replace Fl := Fl.other W1 (Or.inr (slot_ne (Or.inl (C.w 71 rfl)) (Or.inr (C.w 68 rfl)) (by decide) (t := .int) (t' := (.object "java/util/ArrayList")) (by decide) (by decide)))
  replace Fm := Fm.other W1 (Or.inl nqt)
  replace K := K.wr W1 (Or.inl (List.mem_of_getElem? (i := 0) rfl))
  replace R := R.aloadN C (pc' := 6) d8_5 rfl rfl rfl
  replace R := R.initO C (C.w 69 rfl) (C.w 20 rfl) (C.w 21 rfl) rfl (pc' := 9) d8_6 (by decide) (W := 0) (Nat.le_of_eq rfl) (by decide) rfl
  replace R := R.aloadN C (pc' := 10) d8_9 rfl rfl rfl
  replace R := R.iconst C (pc' := 11) d8_10 (v := (-1 : Int32)) rfl rfl
  obtain ⟨h2, R', W2⟩ := R.putFv C (C.w 70 rfl) Via.refl Fl Et (Or.inl (C.w 71 rfl)) (C.w 61 rfl) (ty := .int) (v' := (.int (-1 : Int32))) (by decide) rfl rfl gt (pc' := 14) d8_11 rfl
  replace R := R'
  clear R'
  replace Et := Et.wr W2
  replace Ft := Ft.other W2 (Or.inr (slot_ne (Or.inr (C.w 68 rfl)) (Or.inl (C.w 71 rfl)) (by decide) (t := (.object "java/util/ArrayList")) (t' := .int) (by decide) (by decide)))
  replace Fx := Fx.other W2 (Or.inr (slot_ne (Or.inl (C.w 75 rfl)) (Or.inl (C.w 71 rfl)) (by decide) (t := .int) (t' := .int) (by decide) (by decide)))
  replace Fc := Fc.other W2 (Or.inr (slot_ne (Or.inl (C.w 86 rfl)) (Or.inl (C.w 71 rfl)) (by decide) (t := .int) (t' := .int) (by decide) (by decide)))
  replace Fl := Fl.same W2
  replace Fm := Fm.other W2 (Or.inl nqt)
  replace K := K.wr W2 (Or.inl (List.mem_of_getElem? (i := 0) rfl))
  replace R := R.aloadN C (pc' := 15) d8_14 rfl rfl rfl
  replace R := R.aloadN C (pc' := 16) d8_15 rfl rfl rfl
  replace R := R.getF C (C.w 67 rfl) Ft (pc' := 19) d8_16 rfl
  replace R := R.getFv C (host := "") (Or.inl (C.w 72 rfl)) (Via.of (C.w 73 rfl)) Fm (pc' := 22) d8_19 rfl
  obtain ⟨h3, R', W3⟩ := R.putFv C (C.w 74 rfl) Via.refl Fx Et (Or.inl (C.w 75 rfl)) (C.w 61 rfl) (ty := .int) (v' := (.int mc)) (by decide) rfl rfl gt (pc' := 25) d8_22 rfl
  replace R := R'
  clear R'
  replace Et := Et.wr W3
  replace Ft := Ft.other W3 (Or.inr (slot_ne (Or.inr (C.w 68 rfl)) (Or.inl (C.w 75 rfl)) (by decide) (t := (.object "java/util/ArrayList")) (t' := .int) (by decide) (by decide)))
  replace Fx := Fx.same W3
  replace Fc := Fc.other W3 (Or.inr (slot_ne (Or.inl (C.w 86 rfl)) (Or.inl (C.w 75 rfl)) (by decide) (t := .int) (t' := .int) (by decide) (by decide)))
  replace Fl := Fl.other W3 (Or.inr (slot_ne (Or.inl (C.w 71 rfl)) (Or.inl (C.w 75 rfl)) (by decide) (t := .int) (t' := .int) (by decide) (by decide)))
  replace Fm := Fm.other W3 (Or.inl nqt)
  replace K := K.wr W3 (Or.inl (List.mem_of_getElem? (i := 0) rfl))
  exact R.retV C d8_25 ⟨rfl, K, gt, Et, Ft, Fx, Fc, _, Fl⟩ (by decide) (by decide)
set_option maxRecDepth 65536 in
set_option maxHeartbeats 40000000 in
theorem con_itr (l : Launch) (Z : State) (a0 : Array Value) (hw : ∀ d ∈ tables_1, d.before a0 Z = true) (q : Addr) (mc : Int32) (h0 : Heap) (n0 : Nat) (z0 : n0 ≤ h0.size) (Fm : Fld Z h0 q "java/util/AbstractList" "modCount" "I" (.int mc)) :
    Con l Z (⟨"java/util/ArrayList", "iterator", "()Ljava/util/Iterator;"⟩ : MethodName) jdk_38_method_55_code 1 (some (.object "java/util/Iterator")) ({ frames := 2, cells := 1, slots := 4, locals := 26 } : Room) #[(.ref q)] h0 n0 (fun v h' => ∃ t, v = some (.ref t) ∧ Keep h0 h' [] ∧ h0.size ≤ t ∧ Itt Z h' n0 t q mc 0) := by
  refine Con.mk (tb := tables_1) (a0 := a0) (Ls := #[.val (.ref q)]) pf_7 hw z0 (fun m => by first | (simp [entryFrame, mkF, argsToLocals, Value.category, maxLocals]; done) | rfl) ?_
  intro p e s m below meth c S0 C R
  have K := Keep.refl h0 []
  obtain ⟨h1, R', E1, Et, D1⟩ := R.newO C (C.w 60 rfl) (C.w 61 rfl) (C.w 62 rfl) d7_0 (by decide) (by decide) (pc' := 3) rfl
  replace R := R'
  clear R'
  obtain ⟨t, g_t⟩ : ∃ z, z = h0.size := ⟨_, rfl⟩
  rw [← g_t] at R Et D1
  have ne_q_t : q ≠ t := by rw [g_t]; exact Nat.ne_of_lt Fm.lt
  replace Fm := Fm.ext E1
  replace K := K.ext E1
  have Ft := D1 (Or.inr (C.w 68 rfl)) (ty := (.object "java/util/ArrayList")) (by decide)
  have Fx := D1 (Or.inl (C.w 75 rfl)) (ty := .int) (by decide)
  have Fc := D1 (Or.inl (C.w 86 rfl)) (ty := .int) (by decide)
  have Fl := D1 (Or.inl (C.w 71 rfl)) (ty := .int) (by decide)
  replace R := R.dup C (pc' := 4) d7_3 rfl rfl
  replace R := R.aloadN C (pc' := 5) d7_4 rfl rfl rfl
  obtain ⟨_, h2, R', rfl, K2, B2⟩ := R.callI C (y := (⟨"java/util/ArrayList$Itr", "<init>", "(Ljava/util/ArrayList;)V"⟩ : MethodName)) rfl (C.w 63 rfl) (C.w 64 rfl) (C.w 62 rfl) (C.w 66 rfl) (by decide) t [(.ref q)] [(.ref t)] rfl (con_iti l Z a0 hw t q mc h1 n0 R.size (by rw [g_t]; exact z0) ne_q_t Et Ft Fx Fc Fl Fm) 1 (Nat.le_of_eq rfl) (by decide) (by decide) (by decide) (by decide) (lenOf pd_4 rfl) rfl (pc' := 8) d7_5 rfl
  clear R
  replace R := R'.as (st' := [(.ref t)]) rfl
  clear R'
  exact R.retA C rfl d7_8 ⟨t, rfl, K.trans K2 (allS (Or.inr (Nat.le_of_eq g_t.symm)) all0), Nat.le_of_eq g_t.symm, B2⟩ (by decide) (by decide)
set_option maxRecDepth 65536 in
set_option maxHeartbeats 40000000 in
theorem con_hn (l : Launch) (Z : State) (a0 : Array Value) (hw : ∀ d ∈ tables_1, d.before a0 Z = true) (t q : Addr) (mc cur sz : Int32) (h0 : Heap) (n0 : Nat) (z0 : n0 ≤ h0.size) (B : Itt Z h0 n0 t q mc cur) (Fz : Fld Z h0 q "java/util/ArrayList" "size" "I" (.int sz)) :
    Con l Z (⟨"java/util/ArrayList$Itr", "hasNext", "()Z"⟩ : MethodName) jdk_49_method_2_code 1 (some .boolean) ({ frames := 0, cells := 0, slots := 0, locals := 0 } : Room) #[(.ref t)] h0 n0 (fun v h' => v = some (.int (own_b (decide (¬ cur = sz)))) ∧ h0 = h') := by
  refine Con.mk (tb := tables_1) (a0 := a0) (Ls := #[.val (.ref t)]) pf_9 hw z0 (fun m => by first | (simp [entryFrame, mkF, argsToLocals, Value.category, maxLocals]; done) | rfl) ?_
  intro p e s m below meth c S0 C R
  obtain ⟨gt, Et, Ft, Fx, Fc, lr, Fl⟩ := B
  replace R := R.aloadN C (pc' := 1) d9_0 rfl rfl rfl
  replace R := R.getF C (C.w 85 rfl) Fc (pc' := 4) d9_1 rfl
  replace R := R.aloadN C (pc' := 5) d9_4 rfl rfl rfl
  replace R := R.getF C (C.w 67 rfl) Ft (pc' := 8) d9_5 rfl
  replace R := R.getFv C (Or.inr (C.w 87 rfl)) Via.refl Fz (pc' := 11) d9_8 rfl
  replace R := R.diac C (b := (decide (¬ cur = sz))) (pc' := 19) d9_11 d9_14 d9_15 d9_18 (by simp [if_icmp.holds, Bool.beq_eq_decide_eq]) rfl
  exact R.retZ C d9_19 ⟨rfl, rfl⟩ (by decide) (by decide)
set_option maxRecDepth 65536 in
set_option maxHeartbeats 40000000 in
theorem con_cf (l : Launch) (Z : State) (a0 : Array Value) (hw : ∀ d ∈ tables_1, d.before a0 Z = true) (t q : Addr) (mc cur : Int32) (h0 : Heap) (n0 : Nat) (z0 : n0 ≤ h0.size) (B : Itt Z h0 n0 t q mc cur) (Fm : Fld Z h0 q "java/util/AbstractList" "modCount" "I" (.int mc)) :
    Con l Z (⟨"java/util/ArrayList$Itr", "checkForComodification", "()V"⟩ : MethodName) jdk_49_method_6_code 1 none ({ frames := 0, cells := 0, slots := 0, locals := 0 } : Room) #[(.ref t)] h0 n0 (fun v h' => v = none ∧ h0 = h') := by
  refine Con.mk (tb := tables_1) (a0 := a0) (Ls := #[.val (.ref t)]) pf_23 hw z0 (fun m => by first | (simp [entryFrame, mkF, argsToLocals, Value.category, maxLocals]; done) | rfl) ?_
  intro p e s m below meth c S0 C R
  obtain ⟨gt, Et, Ft, Fx, Fc, lr, Fl⟩ := B
  replace R := R.aloadN C (pc' := 1) d23_0 rfl rfl rfl
  replace R := R.getF C (C.w 67 rfl) Ft (pc' := 4) d23_1 rfl
  replace R := R.getFv C (host := "") (Or.inl (C.w 72 rfl)) (Via.of (C.w 73 rfl)) Fm (pc' := 7) d23_4 rfl
  replace R := R.aloadN C (pc' := 8) d23_7 rfl rfl rfl
  replace R := R.getF C (C.w 74 rfl) Fx (pc' := 11) d23_8 rfl
  replace R := R.icmpY C (pc' := 22) d23_11 (teq rfl).1 rfl
  exact R.retV C d23_22 ⟨rfl, rfl⟩ (by decide) (by decide)
set_option maxRecDepth 65536 in
set_option maxHeartbeats 40000000 in
theorem con_nx (l : Launch) (Z : State) (a0 : Array Value) (hw : ∀ d ∈ tables_1, d.before a0 Z = true) (t q ar b : Addr) (mc : Int32) (fa : Nat → Value) (h0 : Heap) (n0 : Nat) (z0 : n0 ≤ h0.size) (nat : ar ≠ t) (B : Itt Z h0 n0 t q mc 0) (L : Lst Z h0 n0 q mc 1 (.ref ar)) (A : Ary Z h0 ar (.object "java/lang/Object") 10 fa) (hfa : fa 0 = .ref b) :
    Con l Z (⟨"java/util/ArrayList$Itr", "next", "()Ljava/lang/Object;"⟩ : MethodName) jdk_49_method_3_code 3 (some (.object "java/lang/Object")) ({ frames := 1, cells := 0, slots := 0, locals := 12 } : Room) #[(.ref t)] h0 n0 (fun v h' => v = some (.ref b) ∧ Keep h0 h' [t] ∧ Itt Z h' n0 t q mc 1) := by
  refine Con.mk (tb := tables_1) (a0 := a0) (Ls := #[.val (.ref t), .unset, .unset]) pf_22 hw z0 (fun m => by first | (simp [entryFrame, mkF, argsToLocals, Value.category, maxLocals]; done) | rfl) ?_
  intro p e s m below meth c S0 C R
  obtain ⟨gq, E, Fm, Fe, Fz⟩ := L
  have Et := B.2.1
  replace R := R.aloadN C (pc' := 1) d22_0 rfl rfl rfl
  obtain ⟨_, _, R', rfl, rfl⟩ := R.callV C (y := (⟨"java/util/ArrayList$Itr", "checkForComodification", "()V"⟩ : MethodName)) Et (C.w 173 rfl) (C.w 174 rfl) (C.w 176 rfl) (C.w 175 rfl) (C.w 62 rfl) (C.w 177 rfl) (by decide) [] [] rfl (con_cf l Z a0 hw t q mc 0 h0 n0 z0 B Fm) 0 (Nat.le_of_eq rfl) (by decide) (by decide) (by decide) (by decide) (lenOf pd_0 rfl) rfl (pc' := 4) d22_1 rfl
  clear R
  replace R := R'.as (st' := []) rfl
  clear R'
  obtain ⟨gt, Et, Ft, Fx, Fc, lr, Fl⟩ := B
  have K := Keep.refl h0 [t]
  replace R := R.aloadN C (pc' := 5) d22_4 rfl rfl rfl
  replace R := R.getF C (C.w 85 rfl) Fc (pc' := 8) d22_5 rfl
  replace R := R.istoreN C (Ls' := #[.val (.ref t), .val (.int (0 : Int32)), .unset]) (pc' := 9) d22_8 rfl rfl
  replace R := R.iloadN C (pc' := 10) d22_9 rfl rfl
  replace R := R.aloadN C (pc' := 11) d22_10 rfl rfl rfl
  replace R := R.getF C (C.w 67 rfl) Ft (pc' := 14) d22_11 rfl
  replace R := R.getFv C (Or.inr (C.w 87 rfl)) Via.refl Fz (pc' := 17) d22_14 rfl
  replace R := R.icmpY C (pc' := 28) d22_17 rfl rfl
  replace R := R.aloadN C (pc' := 29) d22_28 rfl rfl rfl
  replace R := R.getF C (C.w 67 rfl) Ft (pc' := 32) d22_29 rfl
  replace R := R.getF C (C.w 178 rfl) Fe (pc' := 35) d22_32 rfl
  replace R := R.astoreN C (Ls' := #[.val (.ref t), .val (.int (0 : Int32)), .val (.ref ar)]) (pc' := 36) d22_35 rfl rfl rfl
  replace R := R.iloadN C (pc' := 37) d22_36 rfl rfl
  replace R := R.aloadN C (pc' := 38) d22_37 rfl rfl rfl
  replace R := R.alen C A (v := (10 : Int32)) rfl (pc' := 39) d22_38 rfl
  replace R := R.icmpY C (pc' := 50) d22_39 rfl rfl
  replace R := R.aloadN C (pc' := 51) d22_50 rfl rfl rfl
  replace R := R.iloadN C (pc' := 52) d22_51 rfl rfl
  replace R := R.iconst C (pc' := 53) d22_52 (v := (1 : Int32)) rfl rfl
  replace R := R.iadd C (pc' := 54) d22_53 rfl
  replace R := R.as (st' := [(.int (1 : Int32)), (.ref t)]) rfl
  obtain ⟨h1, R', W1⟩ := R.putFv C (C.w 85 rfl) Via.refl Fc Et (Or.inl (C.w 86 rfl)) (C.w 61 rfl) (ty := .int) (v' := (.int (1 : Int32))) (by decide) rfl rfl gt (pc' := 57) d22_54 rfl
  replace R := R'
  clear R'
  replace Et := Et.wr W1
  replace Ft := Ft.other W1 (Or.inr (slot_ne (Or.inr (C.w 68 rfl)) (Or.inl (C.w 86 rfl)) (by decide) (t := (.object "java/util/ArrayList")) (t' := .int) (by decide) (by decide)))
  replace Fx := Fx.other W1 (Or.inr (slot_ne (Or.inl (C.w 75 rfl)) (Or.inl (C.w 86 rfl)) (by decide) (t := .int) (t' := .int) (by decide) (by decide)))
  replace Fc := Fc.same W1
  replace Fl := Fl.other W1 (Or.inr (slot_ne (Or.inl (C.w 71 rfl)) (Or.inl (C.w 86 rfl)) (by decide) (t := .int) (t' := .int) (by decide) (by decide)))
  replace A := A.other W1 nat
  replace K := K.wr W1 (Or.inl (List.mem_of_getElem? (i := 0) rfl))
  replace R := R.aloadN C (pc' := 58) d22_57 rfl rfl rfl
  replace R := R.aloadN C (pc' := 59) d22_58 rfl rfl rfl
  replace R := R.iloadN C (pc' := 60) d22_59 rfl rfl
  replace R := R.dupX1 C (pc' := 61) d22_60 rfl rfl rfl
  obtain ⟨h2, R', W2⟩ := R.putFv C (C.w 70 rfl) Via.refl Fl Et (Or.inl (C.w 71 rfl)) (C.w 61 rfl) (ty := .int) (v' := (.int (0 : Int32))) (by decide) rfl rfl gt (pc' := 64) d22_61 rfl
  replace R := R'
  clear R'
  replace Et := Et.wr W2
  replace Ft := Ft.other W2 (Or.inr (slot_ne (Or.inr (C.w 68 rfl)) (Or.inl (C.w 71 rfl)) (by decide) (t := (.object "java/util/ArrayList")) (t' := .int) (by decide) (by decide)))
  replace Fx := Fx.other W2 (Or.inr (slot_ne (Or.inl (C.w 75 rfl)) (Or.inl (C.w 71 rfl)) (by decide) (t := .int) (t' := .int) (by decide) (by decide)))
  replace Fc := Fc.other W2 (Or.inr (slot_ne (Or.inl (C.w 86 rfl)) (Or.inl (C.w 71 rfl)) (by decide) (t := .int) (t' := .int) (by decide) (by decide)))
  replace Fl := Fl.same W2
  replace A := A.other W2 nat
  replace K := K.wr W2 (Or.inl (List.mem_of_getElem? (i := 0) rfl))
  replace R := R.aaload C (v := (.ref b)) A rfl (i := 0) rfl (by decide) hfa (pc' := 65) d22_64 rfl
  exact R.retA C rfl d22_65 ⟨rfl, K, gt, Et, Ft, Fx, Fc, _, Fl⟩ (by decide) (by decide)
set_option maxRecDepth 65536 in
set_option maxHeartbeats 40000000 in
theorem con_fill (l : Launch) (Z : State) (a0 : Array Value) (hw : ∀ d ∈ tables_1, d.before a0 Z = true) (a : Addr) (x : Int64) (f : Nat → Value) (h0 : Heap) (n0 : Nat) (z0 : n0 ≤ h0.size) (ga : n0 ≤ a) (A : Ary Z h0 a .long 2 f) :
    Con l Z (⟨"java/util/Arrays", "fill", "([JJ)V"⟩ : MethodName) jdk_65_method_101_code 5 none ({ frames := 0, cells := 0, slots := 0, locals := 0 } : Room) #[(.ref a), (.long x)] h0 n0 (fun v h' => v = none ∧ Keep h0 h' [a] ∧ Ary Z h' a .long 2 (Lf (fun _ => x))) := by
  refine Con.mk (tb := tables_1) (a0 := a0) (Ls := #[.val (.ref a), .val (.long x), .second, .unset, .unset]) pf_6 hw z0 (fun m => by first | (simp [entryFrame, mkF, argsToLocals, Value.category, maxLocals]; done) | rfl) ?_
  intro p e s m below meth c S0 C R
  have K := Keep.refl h0 [a]
  replace R := R.iconst C (pc' := 1) d6_0 (v := (0 : Int32)) rfl rfl
  replace R := R.istoreN C (Ls' := #[.val (.ref a), .val (.long x), .second, .val (.int (0 : Int32)), .unset]) (pc' := 2) d6_1 rfl rfl
  replace R := R.aloadN C (pc' := 3) d6_2 rfl rfl rfl
  replace R := R.alen C A (v := (2 : Int32)) rfl (pc' := 4) d6_3 rfl
  replace R := R.istore C (Ls' := #[.val (.ref a), .val (.long x), .second, .val (.int (0 : Int32)), .val (.int (2 : Int32))]) (pc' := 6) d6_4 rfl rfl
  replace R := R.iloadN C (pc' := 7) d6_6 rfl rfl
  replace R := R.iload C (pc' := 9) d6_7 rfl rfl
  replace R := R.icmpN C (pc' := 12) d6_9 rfl rfl
  replace R := R.aloadN C (pc' := 13) d6_12 rfl rfl rfl
  replace R := R.iloadN C (pc' := 14) d6_13 rfl rfl
  replace R := R.lloadN C (pc' := 15) d6_14 rfl rfl
  obtain ⟨h1, R', W1⟩ := R.lastore C A (i := 0) rfl (by decide) ga (pc' := 16) d6_15 rfl
  replace R := R'
  clear R'
  replace A := A.set W1
  replace K := K.wr W1 (Or.inl (List.mem_of_getElem? (i := 0) rfl))
  replace R := R.iinc C (pc' := 19) (Ls' := #[.val (.ref a), .val (.long x), .second, .val (.int (1 : Int32)), .val (.int (2 : Int32))]) d6_16 rfl (v := (1 : Int32)) rfl rfl rfl
  replace R := R.goto C (pc' := 6) d6_19 rfl
  replace R := R.iloadN C (pc' := 7) d6_6 rfl rfl
  replace R := R.iload C (pc' := 9) d6_7 rfl rfl
  replace R := R.icmpN C (pc' := 12) d6_9 rfl rfl
  replace R := R.aloadN C (pc' := 13) d6_12 rfl rfl rfl
  replace R := R.iloadN C (pc' := 14) d6_13 rfl rfl
  replace R := R.lloadN C (pc' := 15) d6_14 rfl rfl
  obtain ⟨h2, R', W2⟩ := R.lastore C A (i := 1) rfl (by decide) ga (pc' := 16) d6_15 rfl
  replace R := R'
  clear R'
  replace A := A.set W2
  replace K := K.wr W2 (Or.inl (List.mem_of_getElem? (i := 0) rfl))
  replace R := R.iinc C (pc' := 19) (Ls' := #[.val (.ref a), .val (.long x), .second, .val (.int (2 : Int32)), .val (.int (2 : Int32))]) d6_16 rfl (v := (2 : Int32)) rfl rfl rfl
  replace R := R.goto C (pc' := 6) d6_19 rfl
  replace R := R.iloadN C (pc' := 7) d6_6 rfl rfl
  replace R := R.iload C (pc' := 9) d6_7 rfl rfl
  replace R := R.icmpY C (pc' := 22) d6_9 rfl rfl
  refine R.retV C d6_22 ⟨rfl, K, A.of fun i hi => ?_⟩ (by decide) (by decide)
  match i, hi with
  | 0, _ => rfl
  | 1, _ => rfl
def Sit (Z : State) (h : Heap) (n0 : Nat) (s : Addr) (occ flt req pb : Nat → Bool) (chg : Nat → Int64) (fls : Int32) (stp : Int64) : Prop :=
  ∃ ao af ac ap ar : Addr, (n0 ≤ s ∧ n0 ≤ ao ∧ n0 ≤ af ∧ n0 ≤ ac ∧ n0 ≤ ap ∧ n0 ≤ ar) ∧ (s ≠ ao ∧ s ≠ af ∧ s ≠ ac ∧ s ≠ ap ∧ s ≠ ar ∧ ao ≠ af ∧ ao ≠ ac ∧ ao ≠ ap ∧ ao ≠ ar ∧ af ≠ ac ∧ af ≠ ap ∧ af ≠ ar ∧ ac ≠ ap ∧ ac ≠ ar ∧ ap ≠ ar) ∧ Exa Z h s "com/example/ohjaus/ohjaus/signal/Situation" ∧ Fld Z h s "com/example/ohjaus/ohjaus/signal/Situation" "occupied" "[Z" (.ref ao) ∧ Fld Z h s "com/example/ohjaus/ohjaus/signal/Situation" "faulty" "[Z" (.ref af) ∧ Fld Z h s "com/example/ohjaus/ohjaus/signal/Situation" "changed" "[J" (.ref ac) ∧ Fld Z h s "com/example/ohjaus/ohjaus/signal/Situation" "pushButton" "[Z" (.ref ap) ∧ Fld Z h s "com/example/ohjaus/ohjaus/signal/Situation" "requested" "[Z" (.ref ar) ∧ Fld Z h s "com/example/ohjaus/ohjaus/signal/Situation" "faults" "I" (.int fls) ∧ Fld Z h s "com/example/ohjaus/ohjaus/signal/Situation" "step" "J" (.long stp) ∧ Ary Z h ao .boolean 2 (Bf occ) ∧ Ary Z h af .boolean 2 (Bf flt) ∧ Ary Z h ac .long 2 (Lf chg) ∧ Ary Z h ap .boolean 2 (Bf pb) ∧ Ary Z h ar .boolean 2 (Bf req)
set_option maxRecDepth 65536 in
set_option maxHeartbeats 40000000 in
theorem con_si0 (l : Launch) (Z : State) (a0 : Array Value) (hw : ∀ d ∈ tables_1, d.before a0 Z = true) (s q : Addr) (mc : Int32) (ed : Value) (h0 : Heap) (n0 : Nat) (z0 : n0 ≤ h0.size) (gs : n0 ≤ s) (nqs : q ≠ s) (E : Exa Z h0 s "com/example/ohjaus/ohjaus/signal/Situation") (Fo : Fld Z h0 s "com/example/ohjaus/ohjaus/signal/Situation" "occupied" "[Z" .null) (Ff : Fld Z h0 s "com/example/ohjaus/ohjaus/signal/Situation" "faulty" "[Z" .null) (Fc : Fld Z h0 s "com/example/ohjaus/ohjaus/signal/Situation" "changed" "[J" .null) (Fg : Fld Z h0 s "com/example/ohjaus/ohjaus/signal/Situation" "flags" "[Z" .null) (Fp : Fld Z h0 s "com/example/ohjaus/ohjaus/signal/Situation" "pushButton" "[Z" .null) (Fr : Fld Z h0 s "com/example/ohjaus/ohjaus/signal/Situation" "requested" "[Z" .null) (Fl : Fld Z h0 s "com/example/ohjaus/ohjaus/signal/Situation" "faults" "I" (.int 0)) (Fs : Fld Z h0 s "com/example/ohjaus/ohjaus/signal/Situation" "step" "J" (.long 0)) (L : Lst Z h0 n0 q mc 0 ed) :
    Con l Z (⟨"com/example/ohjaus/ohjaus/signal/Situation", "<init>", "(ILjava/util/List;I)V"⟩ : MethodName) prog_49_method_1_code 6 none ({ frames := 3, cells := 7, slots := 14, locals := 38 } : Room) #[(.ref s), (.int (2 : Int32)), (.ref q), (.int (0 : Int32))] h0 n0 (fun v h' => v = none ∧ Sit Z h' n0 s (fun _ => false) (fun _ => false) (fun _ => false) (fun _ => false) (fun _ => -9223372036854775808) 0 0) := by
  refine Con.mk (tb := tables_1) (a0 := a0) (Ls := #[.val (.ref s), .val (.int (2 : Int32)), .val (.ref q), .val (.int (0 : Int32)), .unset, .unset]) pf_5 hw z0 (fun m => by first | (simp [entryFrame, mkF, argsToLocals, Value.category, maxLocals]; done) | rfl) ?_
  intro p e s0 m below meth c S0 C R
  obtain ⟨gq, Eq, Fm, Fe, Fz⟩ := L
  replace R := R.aloadN C (pc' := 1) d5_0 rfl rfl rfl
  replace R := R.initO C (C.w 33 rfl) (C.w 20 rfl) (C.w 21 rfl) rfl (pc' := 4) d5_1 (by decide) (W := 0) (Nat.le_of_eq rfl) (by decide) rfl
  replace R := R.aloadN C (pc' := 5) d5_4 rfl rfl rfl
  replace R := R.iloadN C (pc' := 6) d5_5 rfl rfl
  obtain ⟨h1, R', E1, Ao, X1⟩ := R.newA C (N := 2) (cap := 2) (ad := "[Z") (C.w 34 rfl) rfl (by decide) (by decide) (by decide) d5_6 (by decide) (by decide) (pc' := 8) rfl
  replace R := R'
  clear R'
  obtain ⟨ao, g_ao⟩ : ∃ z, z = h0.size := ⟨_, rfl⟩
  rw [← g_ao] at R Ao X1
  have ne_s_ao : s ≠ ao := by rw [g_ao]; exact Nat.ne_of_lt E.lt
  have ne_q_ao : q ≠ ao := by rw [g_ao]; exact Nat.ne_of_lt Eq.lt
  have gg_ao : n0 ≤ ao := by rw [g_ao]; exact Nat.le_trans gs (Nat.le_of_lt E.lt)
  replace E := E.ext E1
  replace Fo := Fo.ext E1
  replace Ff := Ff.ext E1
  replace Fc := Fc.ext E1
  replace Fg := Fg.ext E1
  replace Fp := Fp.ext E1
  replace Fr := Fr.ext E1
  replace Fl := Fl.ext E1
  replace Fs := Fs.ext E1
  replace Eq := Eq.ext E1
  replace Fm := Fm.ext E1
  replace Fe := Fe.ext E1
  replace Fz := Fz.ext E1
  obtain ⟨h2, R', W2⟩ := R.putFv C (C.w 35 rfl) Via.refl Fo E (Or.inr ⟨(C.w 36 rfl), rfl, rfl⟩) (C.w 28 rfl) (ty := (.array .boolean)) (v' := (.ref ao)) (by decide) rfl rfl gs (pc' := 11) d5_8 rfl
  replace R := R'
  clear R'
  replace E := E.wr W2
  replace Fo := Fo.same W2
  replace Ff := Ff.other W2 (Or.inr (slot_ne (Or.inr (C.w 38 rfl)) (Or.inr (C.w 36 rfl)) (by decide) (t := (.array .boolean)) (t' := (.array .boolean)) (by decide) (by decide)))
  replace Fc := Fc.other W2 (Or.inr (slot_ne (Or.inr (C.w 41 rfl)) (Or.inr (C.w 36 rfl)) (by decide) (t := (.array .long)) (t' := (.array .boolean)) (by decide) (by decide)))
  replace Fg := Fg.other W2 (Or.inr (slot_ne (Or.inl (C.w 48 rfl)) (Or.inr (C.w 36 rfl)) (by decide) (t := (.array .boolean)) (t' := (.array .boolean)) (by decide) (by decide)))
  replace Fp := Fp.other W2 (Or.inr (slot_ne (Or.inr (C.w 50 rfl)) (Or.inr (C.w 36 rfl)) (by decide) (t := (.array .boolean)) (t' := (.array .boolean)) (by decide) (by decide)))
  replace Fr := Fr.other W2 (Or.inr (slot_ne (Or.inr (C.w 90 rfl)) (Or.inr (C.w 36 rfl)) (by decide) (t := (.array .boolean)) (t' := (.array .boolean)) (by decide) (by decide)))
  replace Fl := Fl.other W2 (Or.inr (slot_ne (Or.inl (C.w 124 rfl)) (Or.inr (C.w 36 rfl)) (by decide) (t := .int) (t' := (.array .boolean)) (by decide) (by decide)))
  replace Fs := Fs.other W2 (Or.inr (slot_ne (Or.inl (C.w 97 rfl)) (Or.inr (C.w 36 rfl)) (by decide) (t := .long) (t' := (.array .boolean)) (by decide) (by decide)))
  replace Eq := Eq.wr W2
  replace Fm := Fm.other W2 (Or.inl nqs)
  replace Fe := Fe.other W2 (Or.inl nqs)
  replace Fz := Fz.other W2 (Or.inl nqs)
  replace Ao := Ao.other W2 (Ne.symm ne_s_ao)
  replace R := R.aloadN C (pc' := 12) d5_11 rfl rfl rfl
  replace R := R.iloadN C (pc' := 13) d5_12 rfl rfl
  obtain ⟨h3, R', E3, Af, X3⟩ := R.newA C (N := 2) (cap := 2) (ad := "[Z") (C.w 34 rfl) rfl (by decide) (by decide) (by decide) d5_13 (by decide) (by decide) (pc' := 15) rfl
  replace R := R'
  clear R'
  obtain ⟨af, g_af⟩ : ∃ z, z = h2.size := ⟨_, rfl⟩
  rw [← g_af] at R Af X3
  have ne_s_af : s ≠ af := by rw [g_af]; exact Nat.ne_of_lt E.lt
  have ne_q_af : q ≠ af := by rw [g_af]; exact Nat.ne_of_lt Eq.lt
  have ne_ao_af : ao ≠ af := by rw [g_af]; exact Nat.ne_of_lt Ao.lt
  have gg_af : n0 ≤ af := by rw [g_af]; exact Nat.le_trans gs (Nat.le_of_lt E.lt)
  replace E := E.ext E3
  replace Fo := Fo.ext E3
  replace Ff := Ff.ext E3
  replace Fc := Fc.ext E3
  replace Fg := Fg.ext E3
  replace Fp := Fp.ext E3
  replace Fr := Fr.ext E3
  replace Fl := Fl.ext E3
  replace Fs := Fs.ext E3
  replace Eq := Eq.ext E3
  replace Fm := Fm.ext E3
  replace Fe := Fe.ext E3
  replace Fz := Fz.ext E3
  replace Ao := Ao.ext E3
  obtain ⟨h4, R', W4⟩ := R.putFv C (C.w 37 rfl) Via.refl Ff E (Or.inr ⟨(C.w 38 rfl), rfl, rfl⟩) (C.w 28 rfl) (ty := (.array .boolean)) (v' := (.ref af)) (by decide) rfl rfl gs (pc' := 18) d5_15 rfl
  replace R := R'
  clear R'
  replace E := E.wr W4
  replace Fo := Fo.other W4 (Or.inr (slot_ne (Or.inr (C.w 36 rfl)) (Or.inr (C.w 38 rfl)) (by decide) (t := (.array .boolean)) (t' := (.array .boolean)) (by decide) (by decide)))
  replace Ff := Ff.same W4
  replace Fc := Fc.other W4 (Or.inr (slot_ne (Or.inr (C.w 41 rfl)) (Or.inr (C.w 38 rfl)) (by decide) (t := (.array .long)) (t' := (.array .boolean)) (by decide) (by decide)))
  replace Fg := Fg.other W4 (Or.inr (slot_ne (Or.inl (C.w 48 rfl)) (Or.inr (C.w 38 rfl)) (by decide) (t := (.array .boolean)) (t' := (.array .boolean)) (by decide) (by decide)))
  replace Fp := Fp.other W4 (Or.inr (slot_ne (Or.inr (C.w 50 rfl)) (Or.inr (C.w 38 rfl)) (by decide) (t := (.array .boolean)) (t' := (.array .boolean)) (by decide) (by decide)))
  replace Fr := Fr.other W4 (Or.inr (slot_ne (Or.inr (C.w 90 rfl)) (Or.inr (C.w 38 rfl)) (by decide) (t := (.array .boolean)) (t' := (.array .boolean)) (by decide) (by decide)))
  replace Fl := Fl.other W4 (Or.inr (slot_ne (Or.inl (C.w 124 rfl)) (Or.inr (C.w 38 rfl)) (by decide) (t := .int) (t' := (.array .boolean)) (by decide) (by decide)))
  replace Fs := Fs.other W4 (Or.inr (slot_ne (Or.inl (C.w 97 rfl)) (Or.inr (C.w 38 rfl)) (by decide) (t := .long) (t' := (.array .boolean)) (by decide) (by decide)))
  replace Eq := Eq.wr W4
  replace Fm := Fm.other W4 (Or.inl nqs)
  replace Fe := Fe.other W4 (Or.inl nqs)
  replace Fz := Fz.other W4 (Or.inl nqs)
  replace Ao := Ao.other W4 (Ne.symm ne_s_ao)
  replace Af := Af.other W4 (Ne.symm ne_s_af)
  replace R := R.aloadN C (pc' := 19) d5_18 rfl rfl rfl
  replace R := R.iloadN C (pc' := 20) d5_19 rfl rfl
  obtain ⟨h5, R', E5, Ac, X5⟩ := R.newA C (N := 2) (cap := 2) (ad := "[J") (C.w 39 rfl) rfl (by decide) (by decide) (by decide) d5_20 (by decide) (by decide) (pc' := 22) rfl
  replace R := R'
  clear R'
  obtain ⟨ac, g_ac⟩ : ∃ z, z = h4.size := ⟨_, rfl⟩
  rw [← g_ac] at R Ac X5
  have ne_s_ac : s ≠ ac := by rw [g_ac]; exact Nat.ne_of_lt E.lt
  have ne_q_ac : q ≠ ac := by rw [g_ac]; exact Nat.ne_of_lt Eq.lt
  have ne_ao_ac : ao ≠ ac := by rw [g_ac]; exact Nat.ne_of_lt Ao.lt
  have ne_af_ac : af ≠ ac := by rw [g_ac]; exact Nat.ne_of_lt Af.lt
  have gg_ac : n0 ≤ ac := by rw [g_ac]; exact Nat.le_trans gs (Nat.le_of_lt E.lt)
  replace E := E.ext E5
  replace Fo := Fo.ext E5
  replace Ff := Ff.ext E5
  replace Fc := Fc.ext E5
  replace Fg := Fg.ext E5
  replace Fp := Fp.ext E5
  replace Fr := Fr.ext E5
  replace Fl := Fl.ext E5
  replace Fs := Fs.ext E5
  replace Eq := Eq.ext E5
  replace Fm := Fm.ext E5
  replace Fe := Fe.ext E5
  replace Fz := Fz.ext E5
  replace Ao := Ao.ext E5
  replace Af := Af.ext E5
  obtain ⟨h6, R', W6⟩ := R.putFv C (C.w 40 rfl) Via.refl Fc E (Or.inr ⟨(C.w 41 rfl), rfl, rfl⟩) (C.w 28 rfl) (ty := (.array .long)) (v' := (.ref ac)) (by decide) rfl rfl gs (pc' := 25) d5_22 rfl
  replace R := R'
  clear R'
  replace E := E.wr W6
  replace Fo := Fo.other W6 (Or.inr (slot_ne (Or.inr (C.w 36 rfl)) (Or.inr (C.w 41 rfl)) (by decide) (t := (.array .boolean)) (t' := (.array .long)) (by decide) (by decide)))
  replace Ff := Ff.other W6 (Or.inr (slot_ne (Or.inr (C.w 38 rfl)) (Or.inr (C.w 41 rfl)) (by decide) (t := (.array .boolean)) (t' := (.array .long)) (by decide) (by decide)))
  replace Fc := Fc.same W6
  replace Fg := Fg.other W6 (Or.inr (slot_ne (Or.inl (C.w 48 rfl)) (Or.inr (C.w 41 rfl)) (by decide) (t := (.array .boolean)) (t' := (.array .long)) (by decide) (by decide)))
  replace Fp := Fp.other W6 (Or.inr (slot_ne (Or.inr (C.w 50 rfl)) (Or.inr (C.w 41 rfl)) (by decide) (t := (.array .boolean)) (t' := (.array .long)) (by decide) (by decide)))
  replace Fr := Fr.other W6 (Or.inr (slot_ne (Or.inr (C.w 90 rfl)) (Or.inr (C.w 41 rfl)) (by decide) (t := (.array .boolean)) (t' := (.array .long)) (by decide) (by decide)))
  replace Fl := Fl.other W6 (Or.inr (slot_ne (Or.inl (C.w 124 rfl)) (Or.inr (C.w 41 rfl)) (by decide) (t := .int) (t' := (.array .long)) (by decide) (by decide)))
  replace Fs := Fs.other W6 (Or.inr (slot_ne (Or.inl (C.w 97 rfl)) (Or.inr (C.w 41 rfl)) (by decide) (t := .long) (t' := (.array .long)) (by decide) (by decide)))
  replace Eq := Eq.wr W6
  replace Fm := Fm.other W6 (Or.inl nqs)
  replace Fe := Fe.other W6 (Or.inl nqs)
  replace Fz := Fz.other W6 (Or.inl nqs)
  replace Ao := Ao.other W6 (Ne.symm ne_s_ao)
  replace Af := Af.other W6 (Ne.symm ne_s_af)
  replace Ac := Ac.other W6 (Ne.symm ne_s_ac)
  replace R := R.aloadN C (pc' := 26) d5_25 rfl rfl rfl
  replace R := R.getF C (C.w 40 rfl) Fc (pc' := 29) d5_26 rfl
  replace R := R.ldcJ C (v := (-9223372036854775808 : Int64)) (C.w 42 rfl) (pc' := 32) d5_29 rfl
  obtain ⟨_, h7, R', rfl, Kf, Ac'⟩ := R.callS C (y := (⟨"java/util/Arrays", "fill", "([JJ)V"⟩ : MethodName)) (C.w 43 rfl) (C.w 44 rfl) (C.w 45 rfl) (C.w 46 rfl) (by decide) [(.ref ac), (.long (-9223372036854775808 : Int64))] [] rfl (con_fill l Z a0 hw ac (-9223372036854775808) _ h6 n0 R.size gg_ac Ac) 0 (Nat.le_of_eq rfl) (by decide) (by decide) (by decide) (by decide) (lenOf pd_2 rfl) rfl (pc' := 35) d5_32 rfl
  clear R
  replace R := R'.as (st' := []) rfl
  clear R'
  replace E := E.keep Kf
  replace Fo := Fo.keep Kf (ninS ne_s_ac nin0)
  replace Ff := Ff.keep Kf (ninS ne_s_ac nin0)
  replace Fc := Fc.keep Kf (ninS ne_s_ac nin0)
  replace Fg := Fg.keep Kf (ninS ne_s_ac nin0)
  replace Fp := Fp.keep Kf (ninS ne_s_ac nin0)
  replace Fr := Fr.keep Kf (ninS ne_s_ac nin0)
  replace Fl := Fl.keep Kf (ninS ne_s_ac nin0)
  replace Fs := Fs.keep Kf (ninS ne_s_ac nin0)
  replace Eq := Eq.keep Kf
  replace Fm := Fm.keep Kf (ninS ne_q_ac nin0)
  replace Fe := Fe.keep Kf (ninS ne_q_ac nin0)
  replace Fz := Fz.keep Kf (ninS ne_q_ac nin0)
  replace Ao := Ao.keep Kf (ninS ne_ao_ac nin0)
  replace Af := Af.keep Kf (ninS ne_af_ac nin0)
  replace Ac := Ac'
  replace R := R.aloadN C (pc' := 36) d5_35 rfl rfl rfl
  replace R := R.iloadN C (pc' := 37) d5_36 rfl rfl
  obtain ⟨h8, R', E8, Ag, X8⟩ := R.newA C (N := 0) (cap := 0) (ad := "[Z") (C.w 34 rfl) rfl (by decide) (by decide) (by decide) d5_37 (by decide) (by decide) (pc' := 39) rfl
  replace R := R'
  clear R'
  obtain ⟨ag, g_ag⟩ : ∃ z, z = h7.size := ⟨_, rfl⟩
  rw [← g_ag] at R Ag X8
  have ne_s_ag : s ≠ ag := by rw [g_ag]; exact Nat.ne_of_lt E.lt
  have ne_q_ag : q ≠ ag := by rw [g_ag]; exact Nat.ne_of_lt Eq.lt
  have ne_ao_ag : ao ≠ ag := by rw [g_ag]; exact Nat.ne_of_lt Ao.lt
  have ne_af_ag : af ≠ ag := by rw [g_ag]; exact Nat.ne_of_lt Af.lt
  have ne_ac_ag : ac ≠ ag := by rw [g_ag]; exact Nat.ne_of_lt Ac.lt
  have gg_ag : n0 ≤ ag := by rw [g_ag]; exact Nat.le_trans gs (Nat.le_of_lt E.lt)
  replace E := E.ext E8
  replace Fo := Fo.ext E8
  replace Ff := Ff.ext E8
  replace Fc := Fc.ext E8
  replace Fg := Fg.ext E8
  replace Fp := Fp.ext E8
  replace Fr := Fr.ext E8
  replace Fl := Fl.ext E8
  replace Fs := Fs.ext E8
  replace Eq := Eq.ext E8
  replace Fm := Fm.ext E8
  replace Fe := Fe.ext E8
  replace Fz := Fz.ext E8
  replace Ao := Ao.ext E8
  replace Af := Af.ext E8
  replace Ac := Ac.ext E8
  obtain ⟨h9, R', W9⟩ := R.putFv C (C.w 47 rfl) Via.refl Fg E (Or.inl (C.w 48 rfl)) (C.w 28 rfl) (ty := (.array .boolean)) (v' := (.ref ag)) (by decide) rfl rfl gs (pc' := 42) d5_39 rfl
  replace R := R'
  clear R'
  replace E := E.wr W9
  replace Fo := Fo.other W9 (Or.inr (slot_ne (Or.inr (C.w 36 rfl)) (Or.inl (C.w 48 rfl)) (by decide) (t := (.array .boolean)) (t' := (.array .boolean)) (by decide) (by decide)))
  replace Ff := Ff.other W9 (Or.inr (slot_ne (Or.inr (C.w 38 rfl)) (Or.inl (C.w 48 rfl)) (by decide) (t := (.array .boolean)) (t' := (.array .boolean)) (by decide) (by decide)))
  replace Fc := Fc.other W9 (Or.inr (slot_ne (Or.inr (C.w 41 rfl)) (Or.inl (C.w 48 rfl)) (by decide) (t := (.array .long)) (t' := (.array .boolean)) (by decide) (by decide)))
  replace Fg := Fg.same W9
  replace Fp := Fp.other W9 (Or.inr (slot_ne (Or.inr (C.w 50 rfl)) (Or.inl (C.w 48 rfl)) (by decide) (t := (.array .boolean)) (t' := (.array .boolean)) (by decide) (by decide)))
  replace Fr := Fr.other W9 (Or.inr (slot_ne (Or.inr (C.w 90 rfl)) (Or.inl (C.w 48 rfl)) (by decide) (t := (.array .boolean)) (t' := (.array .boolean)) (by decide) (by decide)))
  replace Fl := Fl.other W9 (Or.inr (slot_ne (Or.inl (C.w 124 rfl)) (Or.inl (C.w 48 rfl)) (by decide) (t := .int) (t' := (.array .boolean)) (by decide) (by decide)))
  replace Fs := Fs.other W9 (Or.inr (slot_ne (Or.inl (C.w 97 rfl)) (Or.inl (C.w 48 rfl)) (by decide) (t := .long) (t' := (.array .boolean)) (by decide) (by decide)))
  replace Eq := Eq.wr W9
  replace Fm := Fm.other W9 (Or.inl nqs)
  replace Fe := Fe.other W9 (Or.inl nqs)
  replace Fz := Fz.other W9 (Or.inl nqs)
  replace Ao := Ao.other W9 (Ne.symm ne_s_ao)
  replace Af := Af.other W9 (Ne.symm ne_s_af)
  replace Ac := Ac.other W9 (Ne.symm ne_s_ac)
  replace Ag := Ag.other W9 (Ne.symm ne_s_ag)
  replace R := R.aloadN C (pc' := 43) d5_42 rfl rfl rfl
  replace R := R.iloadN C (pc' := 44) d5_43 rfl rfl
  obtain ⟨h10, R', E10, Ap, X10⟩ := R.newA C (N := 2) (cap := 2) (ad := "[Z") (C.w 34 rfl) rfl (by decide) (by decide) (by decide) d5_44 (by decide) (by decide) (pc' := 46) rfl
  replace R := R'
  clear R'
  obtain ⟨ap, g_ap⟩ : ∃ z, z = h9.size := ⟨_, rfl⟩
  rw [← g_ap] at R Ap X10
  have ne_s_ap : s ≠ ap := by rw [g_ap]; exact Nat.ne_of_lt E.lt
  have ne_q_ap : q ≠ ap := by rw [g_ap]; exact Nat.ne_of_lt Eq.lt
  have ne_ao_ap : ao ≠ ap := by rw [g_ap]; exact Nat.ne_of_lt Ao.lt
  have ne_af_ap : af ≠ ap := by rw [g_ap]; exact Nat.ne_of_lt Af.lt
  have ne_ac_ap : ac ≠ ap := by rw [g_ap]; exact Nat.ne_of_lt Ac.lt
  have ne_ag_ap : ag ≠ ap := by rw [g_ap]; exact Nat.ne_of_lt Ag.lt
  have gg_ap : n0 ≤ ap := by rw [g_ap]; exact Nat.le_trans gs (Nat.le_of_lt E.lt)
  replace E := E.ext E10
  replace Fo := Fo.ext E10
  replace Ff := Ff.ext E10
  replace Fc := Fc.ext E10
  replace Fg := Fg.ext E10
  replace Fp := Fp.ext E10
  replace Fr := Fr.ext E10
  replace Fl := Fl.ext E10
  replace Fs := Fs.ext E10
  replace Eq := Eq.ext E10
  replace Fm := Fm.ext E10
  replace Fe := Fe.ext E10
  replace Fz := Fz.ext E10
  replace Ao := Ao.ext E10
  replace Af := Af.ext E10
  replace Ac := Ac.ext E10
  replace Ag := Ag.ext E10
  obtain ⟨h11, R', W11⟩ := R.putFv C (C.w 49 rfl) Via.refl Fp E (Or.inr ⟨(C.w 50 rfl), rfl, rfl⟩) (C.w 28 rfl) (ty := (.array .boolean)) (v' := (.ref ap)) (by decide) rfl rfl gs (pc' := 49) d5_46 rfl
  replace R := R'
  clear R'
  replace E := E.wr W11
  replace Fo := Fo.other W11 (Or.inr (slot_ne (Or.inr (C.w 36 rfl)) (Or.inr (C.w 50 rfl)) (by decide) (t := (.array .boolean)) (t' := (.array .boolean)) (by decide) (by decide)))
  replace Ff := Ff.other W11 (Or.inr (slot_ne (Or.inr (C.w 38 rfl)) (Or.inr (C.w 50 rfl)) (by decide) (t := (.array .boolean)) (t' := (.array .boolean)) (by decide) (by decide)))
  replace Fc := Fc.other W11 (Or.inr (slot_ne (Or.inr (C.w 41 rfl)) (Or.inr (C.w 50 rfl)) (by decide) (t := (.array .long)) (t' := (.array .boolean)) (by decide) (by decide)))
  replace Fg := Fg.other W11 (Or.inr (slot_ne (Or.inl (C.w 48 rfl)) (Or.inr (C.w 50 rfl)) (by decide) (t := (.array .boolean)) (t' := (.array .boolean)) (by decide) (by decide)))
  replace Fp := Fp.same W11
  replace Fr := Fr.other W11 (Or.inr (slot_ne (Or.inr (C.w 90 rfl)) (Or.inr (C.w 50 rfl)) (by decide) (t := (.array .boolean)) (t' := (.array .boolean)) (by decide) (by decide)))
  replace Fl := Fl.other W11 (Or.inr (slot_ne (Or.inl (C.w 124 rfl)) (Or.inr (C.w 50 rfl)) (by decide) (t := .int) (t' := (.array .boolean)) (by decide) (by decide)))
  replace Fs := Fs.other W11 (Or.inr (slot_ne (Or.inl (C.w 97 rfl)) (Or.inr (C.w 50 rfl)) (by decide) (t := .long) (t' := (.array .boolean)) (by decide) (by decide)))
  replace Eq := Eq.wr W11
  replace Fm := Fm.other W11 (Or.inl nqs)
  replace Fe := Fe.other W11 (Or.inl nqs)
  replace Fz := Fz.other W11 (Or.inl nqs)
  replace Ao := Ao.other W11 (Ne.symm ne_s_ao)
  replace Af := Af.other W11 (Ne.symm ne_s_af)
  replace Ac := Ac.other W11 (Ne.symm ne_s_ac)
  replace Ag := Ag.other W11 (Ne.symm ne_s_ag)
  replace Ap := Ap.other W11 (Ne.symm ne_s_ap)
  replace R := R.aloadN C (pc' := 50) d5_49 rfl rfl rfl
  obtain ⟨_, h12, R', t, rfl, Ki, z_t, B⟩ := R.callF C (z := (⟨"java/util/List", "iterator", "()Ljava/util/Iterator;"⟩ : MethodName)) (y := (⟨"java/util/ArrayList", "iterator", "()Ljava/util/Iterator;"⟩ : MethodName)) Eq (C.w 51 rfl) (C.w 52 rfl) (C.w 53 rfl) (C.w 54 rfl) (C.w 55 rfl) (C.w 56 rfl) (C.w 57 rfl) (C.w 58 rfl) (C.w 3 rfl) (C.w 59 rfl) (by decide) [] [] rfl (con_itr l Z a0 hw q mc h11 n0 R.size Fm) 0 (Nat.le_of_eq rfl) (by decide) (by decide) (by decide) (by decide) (lenOf pd_3 rfl) rfl (pc' := 55) d5_50 rfl
  clear R
  replace R := R'.as (st' := [(.ref t)]) rfl
  clear R'
  have n_ao_t : ao ≠ t := Nat.ne_of_lt (Nat.lt_of_lt_of_le Ao.lt z_t)
  have n_af_t : af ≠ t := Nat.ne_of_lt (Nat.lt_of_lt_of_le Af.lt z_t)
  have n_ac_t : ac ≠ t := Nat.ne_of_lt (Nat.lt_of_lt_of_le Ac.lt z_t)
  have n_ap_t : ap ≠ t := Nat.ne_of_lt (Nat.lt_of_lt_of_le Ap.lt z_t)
  have n_s_t : s ≠ t := Nat.ne_of_lt (Nat.lt_of_lt_of_le E.lt z_t)
  have n_q_t : q ≠ t := Nat.ne_of_lt (Nat.lt_of_lt_of_le Eq.lt z_t)
  replace E := E.keep Ki
  replace Fo := Fo.keep Ki nin0
  replace Ff := Ff.keep Ki nin0
  replace Fc := Fc.keep Ki nin0
  replace Fg := Fg.keep Ki nin0
  replace Fp := Fp.keep Ki nin0
  replace Fr := Fr.keep Ki nin0
  replace Fl := Fl.keep Ki nin0
  replace Fs := Fs.keep Ki nin0
  replace Eq := Eq.keep Ki
  replace Fm := Fm.keep Ki nin0
  replace Fe := Fe.keep Ki nin0
  replace Fz := Fz.keep Ki nin0
  replace Ao := Ao.keep Ki nin0
  replace Af := Af.keep Ki nin0
  replace Ac := Ac.keep Ki nin0
  replace Ap := Ap.keep Ki nin0
  replace R := R.astore C (Ls' := #[.val (.ref s), .val (.int (2 : Int32)), .val (.ref q), .val (.int (0 : Int32)), .val (.ref t), .unset]) (pc' := 57) d5_55 rfl rfl rfl
  replace R := R.aload C (pc' := 59) d5_57 rfl rfl rfl
  have Et := B.2.1
  obtain ⟨_, _, R', rfl, rfl⟩ := R.callF C (z := (⟨"java/util/Iterator", "hasNext", "()Z"⟩ : MethodName)) (y := (⟨"java/util/ArrayList$Itr", "hasNext", "()Z"⟩ : MethodName)) Et (C.w 76 rfl) (C.w 77 rfl) (C.w 78 rfl) (C.w 79 rfl) (C.w 80 rfl) (C.w 81 rfl) (C.w 82 rfl) (C.w 83 rfl) (C.w 62 rfl) (C.w 84 rfl) (by decide) [] [] rfl (con_hn l Z a0 hw t q mc 0 0 h12 n0 R.size B Fz) 0 (Nat.le_of_eq rfl) (by decide) (by decide) (by decide) (by decide) (lenOf pd_5 rfl) rfl (pc' := 64) d5_59 rfl
  clear R
  replace R := R'.as (st' := [(.int (own_b false))]) rfl
  clear R'
  replace R := R.ifY C (pc' := 93) d5_64 rfl rfl
  replace R := R.aloadN C (pc' := 94) d5_93 rfl rfl rfl
  replace R := R.iloadN C (pc' := 95) d5_94 rfl rfl
  obtain ⟨h13, R', E13, Ar, X13⟩ := R.newA C (N := 2) (cap := 2) (ad := "[Z") (C.w 34 rfl) rfl (by decide) (by decide) (by decide) d5_95 (by decide) (by decide) (pc' := 97) rfl
  replace R := R'
  clear R'
  obtain ⟨ar, g_ar⟩ : ∃ z, z = h12.size := ⟨_, rfl⟩
  rw [← g_ar] at R Ar X13
  have ne_s_ar : s ≠ ar := by rw [g_ar]; exact Nat.ne_of_lt E.lt
  have ne_q_ar : q ≠ ar := by rw [g_ar]; exact Nat.ne_of_lt Eq.lt
  have ne_ao_ar : ao ≠ ar := by rw [g_ar]; exact Nat.ne_of_lt Ao.lt
  have ne_af_ar : af ≠ ar := by rw [g_ar]; exact Nat.ne_of_lt Af.lt
  have ne_ac_ar : ac ≠ ar := by rw [g_ar]; exact Nat.ne_of_lt Ac.lt
  have ne_ap_ar : ap ≠ ar := by rw [g_ar]; exact Nat.ne_of_lt Ap.lt
  have gg_ar : n0 ≤ ar := by rw [g_ar]; exact Nat.le_trans gs (Nat.le_of_lt E.lt)
  replace E := E.ext E13
  replace Fo := Fo.ext E13
  replace Ff := Ff.ext E13
  replace Fc := Fc.ext E13
  replace Fg := Fg.ext E13
  replace Fp := Fp.ext E13
  replace Fr := Fr.ext E13
  replace Fl := Fl.ext E13
  replace Fs := Fs.ext E13
  replace Eq := Eq.ext E13
  replace Fz := Fz.ext E13
  replace Ao := Ao.ext E13
  replace Af := Af.ext E13
  replace Ac := Ac.ext E13
  replace Ap := Ap.ext E13
  obtain ⟨h14, R', W14⟩ := R.putFv C (C.w 89 rfl) Via.refl Fr E (Or.inr ⟨(C.w 90 rfl), rfl, rfl⟩) (C.w 28 rfl) (ty := (.array .boolean)) (v' := (.ref ar)) (by decide) rfl rfl gs (pc' := 100) d5_97 rfl
  replace R := R'
  clear R'
  replace E := E.wr W14
  replace Fo := Fo.other W14 (Or.inr (slot_ne (Or.inr (C.w 36 rfl)) (Or.inr (C.w 90 rfl)) (by decide) (t := (.array .boolean)) (t' := (.array .boolean)) (by decide) (by decide)))
  replace Ff := Ff.other W14 (Or.inr (slot_ne (Or.inr (C.w 38 rfl)) (Or.inr (C.w 90 rfl)) (by decide) (t := (.array .boolean)) (t' := (.array .boolean)) (by decide) (by decide)))
  replace Fc := Fc.other W14 (Or.inr (slot_ne (Or.inr (C.w 41 rfl)) (Or.inr (C.w 90 rfl)) (by decide) (t := (.array .long)) (t' := (.array .boolean)) (by decide) (by decide)))
  replace Fg := Fg.other W14 (Or.inr (slot_ne (Or.inl (C.w 48 rfl)) (Or.inr (C.w 90 rfl)) (by decide) (t := (.array .boolean)) (t' := (.array .boolean)) (by decide) (by decide)))
  replace Fp := Fp.other W14 (Or.inr (slot_ne (Or.inr (C.w 50 rfl)) (Or.inr (C.w 90 rfl)) (by decide) (t := (.array .boolean)) (t' := (.array .boolean)) (by decide) (by decide)))
  replace Fr := Fr.same W14
  replace Fl := Fl.other W14 (Or.inr (slot_ne (Or.inl (C.w 124 rfl)) (Or.inr (C.w 90 rfl)) (by decide) (t := .int) (t' := (.array .boolean)) (by decide) (by decide)))
  replace Fs := Fs.other W14 (Or.inr (slot_ne (Or.inl (C.w 97 rfl)) (Or.inr (C.w 90 rfl)) (by decide) (t := .long) (t' := (.array .boolean)) (by decide) (by decide)))
  replace Eq := Eq.wr W14
  replace Fz := Fz.other W14 (Or.inl nqs)
  replace Ao := Ao.other W14 (Ne.symm ne_s_ao)
  replace Af := Af.other W14 (Ne.symm ne_s_af)
  replace Ac := Ac.other W14 (Ne.symm ne_s_ac)
  replace Ap := Ap.other W14 (Ne.symm ne_s_ap)
  replace Ar := Ar.other W14 (Ne.symm ne_s_ar)
  exact R.retV C d5_100 ⟨rfl, ao, af, ac, ap, ar, ⟨gs, gg_ao, gg_af, gg_ac, gg_ap, gg_ar⟩, ⟨ne_s_ao, ne_s_af, ne_s_ac, ne_s_ap, ne_s_ar, ne_ao_af, ne_ao_ac, ne_ao_ap, ne_ao_ar, ne_af_ac, ne_af_ap, ne_af_ar, ne_ac_ap, ne_ac_ar, ne_ap_ar⟩, E, Fo, Ff, Fc, Fp, Fr, Fl, Fs, Ao, Af, Ac, Ap, Ar⟩ (by decide) (by decide)
set_option maxRecDepth 65536 in
set_option maxHeartbeats 40000000 in
theorem con_si1 (l : Launch) (Z : State) (a0 : Array Value) (hw : ∀ d ∈ tables_1, d.before a0 Z = true) (s q : Addr) (mc : Int32) (aa b : Addr) (fa : Nat → Value) (d : Int32) (dn : Nat) (h0 : Heap) (n0 : Nat) (z0 : n0 ≤ h0.size) (gs : n0 ≤ s) (nqs : q ≠ s) (E : Exa Z h0 s "com/example/ohjaus/ohjaus/signal/Situation") (Fo : Fld Z h0 s "com/example/ohjaus/ohjaus/signal/Situation" "occupied" "[Z" .null) (Ff : Fld Z h0 s "com/example/ohjaus/ohjaus/signal/Situation" "faulty" "[Z" .null) (Fc : Fld Z h0 s "com/example/ohjaus/ohjaus/signal/Situation" "changed" "[J" .null) (Fg : Fld Z h0 s "com/example/ohjaus/ohjaus/signal/Situation" "flags" "[Z" .null) (Fp : Fld Z h0 s "com/example/ohjaus/ohjaus/signal/Situation" "pushButton" "[Z" .null) (Fr : Fld Z h0 s "com/example/ohjaus/ohjaus/signal/Situation" "requested" "[Z" .null) (Fl : Fld Z h0 s "com/example/ohjaus/ohjaus/signal/Situation" "faults" "I" (.int 0)) (Fs : Fld Z h0 s "com/example/ohjaus/ohjaus/signal/Situation" "step" "J" (.long 0)) (L : Lst Z h0 n0 q mc 1 (.ref aa)) (nas : aa ≠ s) (nbs : b ≠ s) (Aa : Ary Z h0 aa (.object "java/lang/Object") 10 fa) (hfa : fa 0 = .ref b) (Eb : Exa Z h0 b "com/example/ohjaus/ohjaus/signal/PushButton") (Fd : Fld Z h0 b "com/example/ohjaus/ohjaus/signal/PushButton" "detector" "I" (.int d)) (hd : d.toInt = (dn : Int)) (hdn : dn < 2) :
    Con l Z (⟨"com/example/ohjaus/ohjaus/signal/Situation", "<init>", "(ILjava/util/List;I)V"⟩ : MethodName) prog_49_method_1_code 6 none ({ frames := 3, cells := 7, slots := 14, locals := 38 } : Room) #[(.ref s), (.int (2 : Int32)), (.ref q), (.int (0 : Int32))] h0 n0 (fun v h' => v = none ∧ Sit Z h' n0 s (fun _ => false) (fun _ => false) (fun _ => false) (updN (fun _ => false) dn true) (fun _ => -9223372036854775808) 0 0) := by
  refine Con.mk (tb := tables_1) (a0 := a0) (Ls := #[.val (.ref s), .val (.int (2 : Int32)), .val (.ref q), .val (.int (0 : Int32)), .unset, .unset]) pf_5 hw z0 (fun m => by first | (simp [entryFrame, mkF, argsToLocals, Value.category, maxLocals]; done) | rfl) ?_
  intro p e s0 m below meth c S0 C R
  obtain ⟨gq, Eq, Fm, Fe, Fz⟩ := L
  replace R := R.aloadN C (pc' := 1) d5_0 rfl rfl rfl
  replace R := R.initO C (C.w 33 rfl) (C.w 20 rfl) (C.w 21 rfl) rfl (pc' := 4) d5_1 (by decide) (W := 0) (Nat.le_of_eq rfl) (by decide) rfl
  replace R := R.aloadN C (pc' := 5) d5_4 rfl rfl rfl
  replace R := R.iloadN C (pc' := 6) d5_5 rfl rfl
  obtain ⟨h1, R', E1, Ao, X1⟩ := R.newA C (N := 2) (cap := 2) (ad := "[Z") (C.w 34 rfl) rfl (by decide) (by decide) (by decide) d5_6 (by decide) (by decide) (pc' := 8) rfl
  replace R := R'
  clear R'
  obtain ⟨ao, g_ao⟩ : ∃ z, z = h0.size := ⟨_, rfl⟩
  rw [← g_ao] at R Ao X1
  have ne_s_ao : s ≠ ao := by rw [g_ao]; exact Nat.ne_of_lt E.lt
  have ne_q_ao : q ≠ ao := by rw [g_ao]; exact Nat.ne_of_lt Eq.lt
  have ne_aa_ao : aa ≠ ao := by rw [g_ao]; exact Nat.ne_of_lt Aa.lt
  have ne_b_ao : b ≠ ao := by rw [g_ao]; exact Nat.ne_of_lt Eb.lt
  have gg_ao : n0 ≤ ao := by rw [g_ao]; exact Nat.le_trans gs (Nat.le_of_lt E.lt)
  replace E := E.ext E1
  replace Fo := Fo.ext E1
  replace Ff := Ff.ext E1
  replace Fc := Fc.ext E1
  replace Fg := Fg.ext E1
  replace Fp := Fp.ext E1
  replace Fr := Fr.ext E1
  replace Fl := Fl.ext E1
  replace Fs := Fs.ext E1
  replace Eq := Eq.ext E1
  replace Fm := Fm.ext E1
  replace Fe := Fe.ext E1
  replace Fz := Fz.ext E1
  replace Aa := Aa.ext E1
  replace Eb := Eb.ext E1
  replace Fd := Fd.ext E1
  obtain ⟨h2, R', W2⟩ := R.putFv C (C.w 35 rfl) Via.refl Fo E (Or.inr ⟨(C.w 36 rfl), rfl, rfl⟩) (C.w 28 rfl) (ty := (.array .boolean)) (v' := (.ref ao)) (by decide) rfl rfl gs (pc' := 11) d5_8 rfl
  replace R := R'
  clear R'
  replace E := E.wr W2
  replace Fo := Fo.same W2
  replace Ff := Ff.other W2 (Or.inr (slot_ne (Or.inr (C.w 38 rfl)) (Or.inr (C.w 36 rfl)) (by decide) (t := (.array .boolean)) (t' := (.array .boolean)) (by decide) (by decide)))
  replace Fc := Fc.other W2 (Or.inr (slot_ne (Or.inr (C.w 41 rfl)) (Or.inr (C.w 36 rfl)) (by decide) (t := (.array .long)) (t' := (.array .boolean)) (by decide) (by decide)))
  replace Fg := Fg.other W2 (Or.inr (slot_ne (Or.inl (C.w 48 rfl)) (Or.inr (C.w 36 rfl)) (by decide) (t := (.array .boolean)) (t' := (.array .boolean)) (by decide) (by decide)))
  replace Fp := Fp.other W2 (Or.inr (slot_ne (Or.inr (C.w 50 rfl)) (Or.inr (C.w 36 rfl)) (by decide) (t := (.array .boolean)) (t' := (.array .boolean)) (by decide) (by decide)))
  replace Fr := Fr.other W2 (Or.inr (slot_ne (Or.inr (C.w 90 rfl)) (Or.inr (C.w 36 rfl)) (by decide) (t := (.array .boolean)) (t' := (.array .boolean)) (by decide) (by decide)))
  replace Fl := Fl.other W2 (Or.inr (slot_ne (Or.inl (C.w 124 rfl)) (Or.inr (C.w 36 rfl)) (by decide) (t := .int) (t' := (.array .boolean)) (by decide) (by decide)))
  replace Fs := Fs.other W2 (Or.inr (slot_ne (Or.inl (C.w 97 rfl)) (Or.inr (C.w 36 rfl)) (by decide) (t := .long) (t' := (.array .boolean)) (by decide) (by decide)))
  replace Eq := Eq.wr W2
  replace Fm := Fm.other W2 (Or.inl nqs)
  replace Fe := Fe.other W2 (Or.inl nqs)
  replace Fz := Fz.other W2 (Or.inl nqs)
  replace Aa := Aa.other W2 nas
  replace Eb := Eb.wr W2
  replace Fd := Fd.other W2 (Or.inl nbs)
  replace Ao := Ao.other W2 (Ne.symm ne_s_ao)
  replace R := R.aloadN C (pc' := 12) d5_11 rfl rfl rfl
  replace R := R.iloadN C (pc' := 13) d5_12 rfl rfl
  obtain ⟨h3, R', E3, Af, X3⟩ := R.newA C (N := 2) (cap := 2) (ad := "[Z") (C.w 34 rfl) rfl (by decide) (by decide) (by decide) d5_13 (by decide) (by decide) (pc' := 15) rfl
  replace R := R'
  clear R'
  obtain ⟨af, g_af⟩ : ∃ z, z = h2.size := ⟨_, rfl⟩
  rw [← g_af] at R Af X3
  have ne_s_af : s ≠ af := by rw [g_af]; exact Nat.ne_of_lt E.lt
  have ne_q_af : q ≠ af := by rw [g_af]; exact Nat.ne_of_lt Eq.lt
  have ne_aa_af : aa ≠ af := by rw [g_af]; exact Nat.ne_of_lt Aa.lt
  have ne_b_af : b ≠ af := by rw [g_af]; exact Nat.ne_of_lt Eb.lt
  have ne_ao_af : ao ≠ af := by rw [g_af]; exact Nat.ne_of_lt Ao.lt
  have gg_af : n0 ≤ af := by rw [g_af]; exact Nat.le_trans gs (Nat.le_of_lt E.lt)
  replace E := E.ext E3
  replace Fo := Fo.ext E3
  replace Ff := Ff.ext E3
  replace Fc := Fc.ext E3
  replace Fg := Fg.ext E3
  replace Fp := Fp.ext E3
  replace Fr := Fr.ext E3
  replace Fl := Fl.ext E3
  replace Fs := Fs.ext E3
  replace Eq := Eq.ext E3
  replace Fm := Fm.ext E3
  replace Fe := Fe.ext E3
  replace Fz := Fz.ext E3
  replace Aa := Aa.ext E3
  replace Eb := Eb.ext E3
  replace Fd := Fd.ext E3
  replace Ao := Ao.ext E3
  obtain ⟨h4, R', W4⟩ := R.putFv C (C.w 37 rfl) Via.refl Ff E (Or.inr ⟨(C.w 38 rfl), rfl, rfl⟩) (C.w 28 rfl) (ty := (.array .boolean)) (v' := (.ref af)) (by decide) rfl rfl gs (pc' := 18) d5_15 rfl
  replace R := R'
  clear R'
  replace E := E.wr W4
  replace Fo := Fo.other W4 (Or.inr (slot_ne (Or.inr (C.w 36 rfl)) (Or.inr (C.w 38 rfl)) (by decide) (t := (.array .boolean)) (t' := (.array .boolean)) (by decide) (by decide)))
  replace Ff := Ff.same W4
  replace Fc := Fc.other W4 (Or.inr (slot_ne (Or.inr (C.w 41 rfl)) (Or.inr (C.w 38 rfl)) (by decide) (t := (.array .long)) (t' := (.array .boolean)) (by decide) (by decide)))
  replace Fg := Fg.other W4 (Or.inr (slot_ne (Or.inl (C.w 48 rfl)) (Or.inr (C.w 38 rfl)) (by decide) (t := (.array .boolean)) (t' := (.array .boolean)) (by decide) (by decide)))
  replace Fp := Fp.other W4 (Or.inr (slot_ne (Or.inr (C.w 50 rfl)) (Or.inr (C.w 38 rfl)) (by decide) (t := (.array .boolean)) (t' := (.array .boolean)) (by decide) (by decide)))
  replace Fr := Fr.other W4 (Or.inr (slot_ne (Or.inr (C.w 90 rfl)) (Or.inr (C.w 38 rfl)) (by decide) (t := (.array .boolean)) (t' := (.array .boolean)) (by decide) (by decide)))
  replace Fl := Fl.other W4 (Or.inr (slot_ne (Or.inl (C.w 124 rfl)) (Or.inr (C.w 38 rfl)) (by decide) (t := .int) (t' := (.array .boolean)) (by decide) (by decide)))
  replace Fs := Fs.other W4 (Or.inr (slot_ne (Or.inl (C.w 97 rfl)) (Or.inr (C.w 38 rfl)) (by decide) (t := .long) (t' := (.array .boolean)) (by decide) (by decide)))
  replace Eq := Eq.wr W4
  replace Fm := Fm.other W4 (Or.inl nqs)
  replace Fe := Fe.other W4 (Or.inl nqs)
  replace Fz := Fz.other W4 (Or.inl nqs)
  replace Aa := Aa.other W4 nas
  replace Eb := Eb.wr W4
  replace Fd := Fd.other W4 (Or.inl nbs)
  replace Ao := Ao.other W4 (Ne.symm ne_s_ao)
  replace Af := Af.other W4 (Ne.symm ne_s_af)
  replace R := R.aloadN C (pc' := 19) d5_18 rfl rfl rfl
  replace R := R.iloadN C (pc' := 20) d5_19 rfl rfl
  obtain ⟨h5, R', E5, Ac, X5⟩ := R.newA C (N := 2) (cap := 2) (ad := "[J") (C.w 39 rfl) rfl (by decide) (by decide) (by decide) d5_20 (by decide) (by decide) (pc' := 22) rfl
  replace R := R'
  clear R'
  obtain ⟨ac, g_ac⟩ : ∃ z, z = h4.size := ⟨_, rfl⟩
  rw [← g_ac] at R Ac X5
  have ne_s_ac : s ≠ ac := by rw [g_ac]; exact Nat.ne_of_lt E.lt
  have ne_q_ac : q ≠ ac := by rw [g_ac]; exact Nat.ne_of_lt Eq.lt
  have ne_aa_ac : aa ≠ ac := by rw [g_ac]; exact Nat.ne_of_lt Aa.lt
  have ne_b_ac : b ≠ ac := by rw [g_ac]; exact Nat.ne_of_lt Eb.lt
  have ne_ao_ac : ao ≠ ac := by rw [g_ac]; exact Nat.ne_of_lt Ao.lt
  have ne_af_ac : af ≠ ac := by rw [g_ac]; exact Nat.ne_of_lt Af.lt
  have gg_ac : n0 ≤ ac := by rw [g_ac]; exact Nat.le_trans gs (Nat.le_of_lt E.lt)
  replace E := E.ext E5
  replace Fo := Fo.ext E5
  replace Ff := Ff.ext E5
  replace Fc := Fc.ext E5
  replace Fg := Fg.ext E5
  replace Fp := Fp.ext E5
  replace Fr := Fr.ext E5
  replace Fl := Fl.ext E5
  replace Fs := Fs.ext E5
  replace Eq := Eq.ext E5
  replace Fm := Fm.ext E5
  replace Fe := Fe.ext E5
  replace Fz := Fz.ext E5
  replace Aa := Aa.ext E5
  replace Eb := Eb.ext E5
  replace Fd := Fd.ext E5
  replace Ao := Ao.ext E5
  replace Af := Af.ext E5
  obtain ⟨h6, R', W6⟩ := R.putFv C (C.w 40 rfl) Via.refl Fc E (Or.inr ⟨(C.w 41 rfl), rfl, rfl⟩) (C.w 28 rfl) (ty := (.array .long)) (v' := (.ref ac)) (by decide) rfl rfl gs (pc' := 25) d5_22 rfl
  replace R := R'
  clear R'
  replace E := E.wr W6
  replace Fo := Fo.other W6 (Or.inr (slot_ne (Or.inr (C.w 36 rfl)) (Or.inr (C.w 41 rfl)) (by decide) (t := (.array .boolean)) (t' := (.array .long)) (by decide) (by decide)))
  replace Ff := Ff.other W6 (Or.inr (slot_ne (Or.inr (C.w 38 rfl)) (Or.inr (C.w 41 rfl)) (by decide) (t := (.array .boolean)) (t' := (.array .long)) (by decide) (by decide)))
  replace Fc := Fc.same W6
  replace Fg := Fg.other W6 (Or.inr (slot_ne (Or.inl (C.w 48 rfl)) (Or.inr (C.w 41 rfl)) (by decide) (t := (.array .boolean)) (t' := (.array .long)) (by decide) (by decide)))
  replace Fp := Fp.other W6 (Or.inr (slot_ne (Or.inr (C.w 50 rfl)) (Or.inr (C.w 41 rfl)) (by decide) (t := (.array .boolean)) (t' := (.array .long)) (by decide) (by decide)))
  replace Fr := Fr.other W6 (Or.inr (slot_ne (Or.inr (C.w 90 rfl)) (Or.inr (C.w 41 rfl)) (by decide) (t := (.array .boolean)) (t' := (.array .long)) (by decide) (by decide)))
  replace Fl := Fl.other W6 (Or.inr (slot_ne (Or.inl (C.w 124 rfl)) (Or.inr (C.w 41 rfl)) (by decide) (t := .int) (t' := (.array .long)) (by decide) (by decide)))
  replace Fs := Fs.other W6 (Or.inr (slot_ne (Or.inl (C.w 97 rfl)) (Or.inr (C.w 41 rfl)) (by decide) (t := .long) (t' := (.array .long)) (by decide) (by decide)))
  replace Eq := Eq.wr W6
  replace Fm := Fm.other W6 (Or.inl nqs)
  replace Fe := Fe.other W6 (Or.inl nqs)
  replace Fz := Fz.other W6 (Or.inl nqs)
  replace Aa := Aa.other W6 nas
  replace Eb := Eb.wr W6
  replace Fd := Fd.other W6 (Or.inl nbs)
  replace Ao := Ao.other W6 (Ne.symm ne_s_ao)
  replace Af := Af.other W6 (Ne.symm ne_s_af)
  replace Ac := Ac.other W6 (Ne.symm ne_s_ac)
  replace R := R.aloadN C (pc' := 26) d5_25 rfl rfl rfl
  replace R := R.getF C (C.w 40 rfl) Fc (pc' := 29) d5_26 rfl
  replace R := R.ldcJ C (v := (-9223372036854775808 : Int64)) (C.w 42 rfl) (pc' := 32) d5_29 rfl
  obtain ⟨_, h7, R', rfl, Kf, Ac'⟩ := R.callS C (y := (⟨"java/util/Arrays", "fill", "([JJ)V"⟩ : MethodName)) (C.w 43 rfl) (C.w 44 rfl) (C.w 45 rfl) (C.w 46 rfl) (by decide) [(.ref ac), (.long (-9223372036854775808 : Int64))] [] rfl (con_fill l Z a0 hw ac (-9223372036854775808) _ h6 n0 R.size gg_ac Ac) 0 (Nat.le_of_eq rfl) (by decide) (by decide) (by decide) (by decide) (lenOf pd_2 rfl) rfl (pc' := 35) d5_32 rfl
  clear R
  replace R := R'.as (st' := []) rfl
  clear R'
  replace E := E.keep Kf
  replace Fo := Fo.keep Kf (ninS ne_s_ac nin0)
  replace Ff := Ff.keep Kf (ninS ne_s_ac nin0)
  replace Fc := Fc.keep Kf (ninS ne_s_ac nin0)
  replace Fg := Fg.keep Kf (ninS ne_s_ac nin0)
  replace Fp := Fp.keep Kf (ninS ne_s_ac nin0)
  replace Fr := Fr.keep Kf (ninS ne_s_ac nin0)
  replace Fl := Fl.keep Kf (ninS ne_s_ac nin0)
  replace Fs := Fs.keep Kf (ninS ne_s_ac nin0)
  replace Eq := Eq.keep Kf
  replace Fm := Fm.keep Kf (ninS ne_q_ac nin0)
  replace Fe := Fe.keep Kf (ninS ne_q_ac nin0)
  replace Fz := Fz.keep Kf (ninS ne_q_ac nin0)
  replace Aa := Aa.keep Kf (ninS ne_aa_ac nin0)
  replace Eb := Eb.keep Kf
  replace Fd := Fd.keep Kf (ninS ne_b_ac nin0)
  replace Ao := Ao.keep Kf (ninS ne_ao_ac nin0)
  replace Af := Af.keep Kf (ninS ne_af_ac nin0)
  replace Ac := Ac'
  replace R := R.aloadN C (pc' := 36) d5_35 rfl rfl rfl
  replace R := R.iloadN C (pc' := 37) d5_36 rfl rfl
  obtain ⟨h8, R', E8, Ag, X8⟩ := R.newA C (N := 0) (cap := 0) (ad := "[Z") (C.w 34 rfl) rfl (by decide) (by decide) (by decide) d5_37 (by decide) (by decide) (pc' := 39) rfl
  replace R := R'
  clear R'
  obtain ⟨ag, g_ag⟩ : ∃ z, z = h7.size := ⟨_, rfl⟩
  rw [← g_ag] at R Ag X8
  have ne_s_ag : s ≠ ag := by rw [g_ag]; exact Nat.ne_of_lt E.lt
  have ne_q_ag : q ≠ ag := by rw [g_ag]; exact Nat.ne_of_lt Eq.lt
  have ne_aa_ag : aa ≠ ag := by rw [g_ag]; exact Nat.ne_of_lt Aa.lt
  have ne_b_ag : b ≠ ag := by rw [g_ag]; exact Nat.ne_of_lt Eb.lt
  have ne_ao_ag : ao ≠ ag := by rw [g_ag]; exact Nat.ne_of_lt Ao.lt
  have ne_af_ag : af ≠ ag := by rw [g_ag]; exact Nat.ne_of_lt Af.lt
  have ne_ac_ag : ac ≠ ag := by rw [g_ag]; exact Nat.ne_of_lt Ac.lt
  have gg_ag : n0 ≤ ag := by rw [g_ag]; exact Nat.le_trans gs (Nat.le_of_lt E.lt)
  replace E := E.ext E8
  replace Fo := Fo.ext E8
  replace Ff := Ff.ext E8
  replace Fc := Fc.ext E8
  replace Fg := Fg.ext E8
  replace Fp := Fp.ext E8
  replace Fr := Fr.ext E8
  replace Fl := Fl.ext E8
  replace Fs := Fs.ext E8
  replace Eq := Eq.ext E8
  replace Fm := Fm.ext E8
  replace Fe := Fe.ext E8
  replace Fz := Fz.ext E8
  replace Aa := Aa.ext E8
  replace Eb := Eb.ext E8
  replace Fd := Fd.ext E8
  replace Ao := Ao.ext E8
  replace Af := Af.ext E8
  replace Ac := Ac.ext E8
  obtain ⟨h9, R', W9⟩ := R.putFv C (C.w 47 rfl) Via.refl Fg E (Or.inl (C.w 48 rfl)) (C.w 28 rfl) (ty := (.array .boolean)) (v' := (.ref ag)) (by decide) rfl rfl gs (pc' := 42) d5_39 rfl
  replace R := R'
  clear R'
  replace E := E.wr W9
  replace Fo := Fo.other W9 (Or.inr (slot_ne (Or.inr (C.w 36 rfl)) (Or.inl (C.w 48 rfl)) (by decide) (t := (.array .boolean)) (t' := (.array .boolean)) (by decide) (by decide)))
  replace Ff := Ff.other W9 (Or.inr (slot_ne (Or.inr (C.w 38 rfl)) (Or.inl (C.w 48 rfl)) (by decide) (t := (.array .boolean)) (t' := (.array .boolean)) (by decide) (by decide)))
  replace Fc := Fc.other W9 (Or.inr (slot_ne (Or.inr (C.w 41 rfl)) (Or.inl (C.w 48 rfl)) (by decide) (t := (.array .long)) (t' := (.array .boolean)) (by decide) (by decide)))
  replace Fg := Fg.same W9
  replace Fp := Fp.other W9 (Or.inr (slot_ne (Or.inr (C.w 50 rfl)) (Or.inl (C.w 48 rfl)) (by decide) (t := (.array .boolean)) (t' := (.array .boolean)) (by decide) (by decide)))
  replace Fr := Fr.other W9 (Or.inr (slot_ne (Or.inr (C.w 90 rfl)) (Or.inl (C.w 48 rfl)) (by decide) (t := (.array .boolean)) (t' := (.array .boolean)) (by decide) (by decide)))
  replace Fl := Fl.other W9 (Or.inr (slot_ne (Or.inl (C.w 124 rfl)) (Or.inl (C.w 48 rfl)) (by decide) (t := .int) (t' := (.array .boolean)) (by decide) (by decide)))
  replace Fs := Fs.other W9 (Or.inr (slot_ne (Or.inl (C.w 97 rfl)) (Or.inl (C.w 48 rfl)) (by decide) (t := .long) (t' := (.array .boolean)) (by decide) (by decide)))
  replace Eq := Eq.wr W9
  replace Fm := Fm.other W9 (Or.inl nqs)
  replace Fe := Fe.other W9 (Or.inl nqs)
  replace Fz := Fz.other W9 (Or.inl nqs)
  replace Aa := Aa.other W9 nas
  replace Eb := Eb.wr W9
  replace Fd := Fd.other W9 (Or.inl nbs)
  replace Ao := Ao.other W9 (Ne.symm ne_s_ao)
  replace Af := Af.other W9 (Ne.symm ne_s_af)
  replace Ac := Ac.other W9 (Ne.symm ne_s_ac)
  replace Ag := Ag.other W9 (Ne.symm ne_s_ag)
  replace R := R.aloadN C (pc' := 43) d5_42 rfl rfl rfl
  replace R := R.iloadN C (pc' := 44) d5_43 rfl rfl
  obtain ⟨h10, R', E10, Ap, X10⟩ := R.newA C (N := 2) (cap := 2) (ad := "[Z") (C.w 34 rfl) rfl (by decide) (by decide) (by decide) d5_44 (by decide) (by decide) (pc' := 46) rfl
  replace R := R'
  clear R'
  obtain ⟨ap, g_ap⟩ : ∃ z, z = h9.size := ⟨_, rfl⟩
  rw [← g_ap] at R Ap X10
  have ne_s_ap : s ≠ ap := by rw [g_ap]; exact Nat.ne_of_lt E.lt
  have ne_q_ap : q ≠ ap := by rw [g_ap]; exact Nat.ne_of_lt Eq.lt
  have ne_aa_ap : aa ≠ ap := by rw [g_ap]; exact Nat.ne_of_lt Aa.lt
  have ne_b_ap : b ≠ ap := by rw [g_ap]; exact Nat.ne_of_lt Eb.lt
  have ne_ao_ap : ao ≠ ap := by rw [g_ap]; exact Nat.ne_of_lt Ao.lt
  have ne_af_ap : af ≠ ap := by rw [g_ap]; exact Nat.ne_of_lt Af.lt
  have ne_ac_ap : ac ≠ ap := by rw [g_ap]; exact Nat.ne_of_lt Ac.lt
  have ne_ag_ap : ag ≠ ap := by rw [g_ap]; exact Nat.ne_of_lt Ag.lt
  have gg_ap : n0 ≤ ap := by rw [g_ap]; exact Nat.le_trans gs (Nat.le_of_lt E.lt)
  replace E := E.ext E10
  replace Fo := Fo.ext E10
  replace Ff := Ff.ext E10
  replace Fc := Fc.ext E10
  replace Fg := Fg.ext E10
  replace Fp := Fp.ext E10
  replace Fr := Fr.ext E10
  replace Fl := Fl.ext E10
  replace Fs := Fs.ext E10
  replace Eq := Eq.ext E10
  replace Fm := Fm.ext E10
  replace Fe := Fe.ext E10
  replace Fz := Fz.ext E10
  replace Aa := Aa.ext E10
  replace Eb := Eb.ext E10
  replace Fd := Fd.ext E10
  replace Ao := Ao.ext E10
  replace Af := Af.ext E10
  replace Ac := Ac.ext E10
  replace Ag := Ag.ext E10
  obtain ⟨h11, R', W11⟩ := R.putFv C (C.w 49 rfl) Via.refl Fp E (Or.inr ⟨(C.w 50 rfl), rfl, rfl⟩) (C.w 28 rfl) (ty := (.array .boolean)) (v' := (.ref ap)) (by decide) rfl rfl gs (pc' := 49) d5_46 rfl
  replace R := R'
  clear R'
  replace E := E.wr W11
  replace Fo := Fo.other W11 (Or.inr (slot_ne (Or.inr (C.w 36 rfl)) (Or.inr (C.w 50 rfl)) (by decide) (t := (.array .boolean)) (t' := (.array .boolean)) (by decide) (by decide)))
  replace Ff := Ff.other W11 (Or.inr (slot_ne (Or.inr (C.w 38 rfl)) (Or.inr (C.w 50 rfl)) (by decide) (t := (.array .boolean)) (t' := (.array .boolean)) (by decide) (by decide)))
  replace Fc := Fc.other W11 (Or.inr (slot_ne (Or.inr (C.w 41 rfl)) (Or.inr (C.w 50 rfl)) (by decide) (t := (.array .long)) (t' := (.array .boolean)) (by decide) (by decide)))
  replace Fg := Fg.other W11 (Or.inr (slot_ne (Or.inl (C.w 48 rfl)) (Or.inr (C.w 50 rfl)) (by decide) (t := (.array .boolean)) (t' := (.array .boolean)) (by decide) (by decide)))
  replace Fp := Fp.same W11
  replace Fr := Fr.other W11 (Or.inr (slot_ne (Or.inr (C.w 90 rfl)) (Or.inr (C.w 50 rfl)) (by decide) (t := (.array .boolean)) (t' := (.array .boolean)) (by decide) (by decide)))
  replace Fl := Fl.other W11 (Or.inr (slot_ne (Or.inl (C.w 124 rfl)) (Or.inr (C.w 50 rfl)) (by decide) (t := .int) (t' := (.array .boolean)) (by decide) (by decide)))
  replace Fs := Fs.other W11 (Or.inr (slot_ne (Or.inl (C.w 97 rfl)) (Or.inr (C.w 50 rfl)) (by decide) (t := .long) (t' := (.array .boolean)) (by decide) (by decide)))
  replace Eq := Eq.wr W11
  replace Fm := Fm.other W11 (Or.inl nqs)
  replace Fe := Fe.other W11 (Or.inl nqs)
  replace Fz := Fz.other W11 (Or.inl nqs)
  replace Aa := Aa.other W11 nas
  replace Eb := Eb.wr W11
  replace Fd := Fd.other W11 (Or.inl nbs)
  replace Ao := Ao.other W11 (Ne.symm ne_s_ao)
  replace Af := Af.other W11 (Ne.symm ne_s_af)
  replace Ac := Ac.other W11 (Ne.symm ne_s_ac)
  replace Ag := Ag.other W11 (Ne.symm ne_s_ag)
  replace Ap := Ap.other W11 (Ne.symm ne_s_ap)
  replace R := R.aloadN C (pc' := 50) d5_49 rfl rfl rfl
  obtain ⟨_, h12, R', t, rfl, Ki, z_t, B⟩ := R.callF C (z := (⟨"java/util/List", "iterator", "()Ljava/util/Iterator;"⟩ : MethodName)) (y := (⟨"java/util/ArrayList", "iterator", "()Ljava/util/Iterator;"⟩ : MethodName)) Eq (C.w 51 rfl) (C.w 52 rfl) (C.w 53 rfl) (C.w 54 rfl) (C.w 55 rfl) (C.w 56 rfl) (C.w 57 rfl) (C.w 58 rfl) (C.w 3 rfl) (C.w 59 rfl) (by decide) [] [] rfl (con_itr l Z a0 hw q mc h11 n0 R.size Fm) 0 (Nat.le_of_eq rfl) (by decide) (by decide) (by decide) (by decide) (lenOf pd_3 rfl) rfl (pc' := 55) d5_50 rfl
  clear R
  replace R := R'.as (st' := [(.ref t)]) rfl
  clear R'
  have n_ao_t : ao ≠ t := Nat.ne_of_lt (Nat.lt_of_lt_of_le Ao.lt z_t)
  have n_af_t : af ≠ t := Nat.ne_of_lt (Nat.lt_of_lt_of_le Af.lt z_t)
  have n_ac_t : ac ≠ t := Nat.ne_of_lt (Nat.lt_of_lt_of_le Ac.lt z_t)
  have n_ap_t : ap ≠ t := Nat.ne_of_lt (Nat.lt_of_lt_of_le Ap.lt z_t)
  have n_s_t : s ≠ t := Nat.ne_of_lt (Nat.lt_of_lt_of_le E.lt z_t)
  have n_q_t : q ≠ t := Nat.ne_of_lt (Nat.lt_of_lt_of_le Eq.lt z_t)
  have n_aa_t : aa ≠ t := Nat.ne_of_lt (Nat.lt_of_lt_of_le Aa.lt z_t)
  have n_b_t : b ≠ t := Nat.ne_of_lt (Nat.lt_of_lt_of_le Eb.lt z_t)
  replace E := E.keep Ki
  replace Fo := Fo.keep Ki nin0
  replace Ff := Ff.keep Ki nin0
  replace Fc := Fc.keep Ki nin0
  replace Fg := Fg.keep Ki nin0
  replace Fp := Fp.keep Ki nin0
  replace Fr := Fr.keep Ki nin0
  replace Fl := Fl.keep Ki nin0
  replace Fs := Fs.keep Ki nin0
  replace Eq := Eq.keep Ki
  replace Fm := Fm.keep Ki nin0
  replace Fe := Fe.keep Ki nin0
  replace Fz := Fz.keep Ki nin0
  replace Aa := Aa.keep Ki nin0
  replace Eb := Eb.keep Ki
  replace Fd := Fd.keep Ki nin0
  replace Ao := Ao.keep Ki nin0
  replace Af := Af.keep Ki nin0
  replace Ac := Ac.keep Ki nin0
  replace Ap := Ap.keep Ki nin0
  replace R := R.astore C (Ls' := #[.val (.ref s), .val (.int (2 : Int32)), .val (.ref q), .val (.int (0 : Int32)), .val (.ref t), .unset]) (pc' := 57) d5_55 rfl rfl rfl
  replace R := R.aload C (pc' := 59) d5_57 rfl rfl rfl
  have Et := B.2.1
  obtain ⟨_, _, R', rfl, rfl⟩ := R.callF C (z := (⟨"java/util/Iterator", "hasNext", "()Z"⟩ : MethodName)) (y := (⟨"java/util/ArrayList$Itr", "hasNext", "()Z"⟩ : MethodName)) Et (C.w 76 rfl) (C.w 77 rfl) (C.w 78 rfl) (C.w 79 rfl) (C.w 80 rfl) (C.w 81 rfl) (C.w 82 rfl) (C.w 83 rfl) (C.w 62 rfl) (C.w 84 rfl) (by decide) [] [] rfl (con_hn l Z a0 hw t q mc 0 1 h12 n0 R.size B Fz) 0 (Nat.le_of_eq rfl) (by decide) (by decide) (by decide) (by decide) (lenOf pd_5 rfl) rfl (pc' := 64) d5_59 rfl
  clear R
  replace R := R'.as (st' := [(.int (own_b true))]) rfl
  clear R'
  replace R := R.ifN C (pc' := 67) d5_64 rfl rfl
  replace R := R.aload C (pc' := 69) d5_67 rfl rfl rfl
  have Et2 := B.2.1
  obtain ⟨_, h13, R', rfl, Kn, B'⟩ := R.callF C (z := (⟨"java/util/Iterator", "next", "()Ljava/lang/Object;"⟩ : MethodName)) (y := (⟨"java/util/ArrayList$Itr", "next", "()Ljava/lang/Object;"⟩ : MethodName)) Et2 (C.w 165 rfl) (C.w 166 rfl) (C.w 167 rfl) (C.w 168 rfl) (C.w 169 rfl) (C.w 170 rfl) (C.w 171 rfl) (C.w 83 rfl) (C.w 62 rfl) (C.w 172 rfl) (by decide) [] [] rfl (con_nx l Z a0 hw t q aa b mc fa h12 n0 R.size n_aa_t B ⟨gq, Eq, Fm, Fe, Fz⟩ Aa hfa) 0 (Nat.le_of_eq rfl) (by decide) (by decide) (by decide) (by decide) (lenOf pd_15 rfl) rfl (pc' := 74) d5_69 rfl
  clear R
  replace R := R'.as (st' := [(.ref b)]) rfl
  clear R'
  replace B := B'
  replace E := E.keep Kn
  replace Fo := Fo.keep Kn (ninS n_s_t nin0)
  replace Ff := Ff.keep Kn (ninS n_s_t nin0)
  replace Fc := Fc.keep Kn (ninS n_s_t nin0)
  replace Fg := Fg.keep Kn (ninS n_s_t nin0)
  replace Fp := Fp.keep Kn (ninS n_s_t nin0)
  replace Fr := Fr.keep Kn (ninS n_s_t nin0)
  replace Fl := Fl.keep Kn (ninS n_s_t nin0)
  replace Fs := Fs.keep Kn (ninS n_s_t nin0)
  replace Eq := Eq.keep Kn
  replace Fm := Fm.keep Kn (ninS n_q_t nin0)
  replace Fe := Fe.keep Kn (ninS n_q_t nin0)
  replace Fz := Fz.keep Kn (ninS n_q_t nin0)
  replace Aa := Aa.keep Kn (ninS n_aa_t nin0)
  replace Eb := Eb.keep Kn
  replace Fd := Fd.keep Kn (ninS n_b_t nin0)
  replace Ao := Ao.keep Kn (ninS n_ao_t nin0)
  replace Af := Af.keep Kn (ninS n_af_t nin0)
  replace Ac := Ac.keep Kn (ninS n_ac_t nin0)
  replace Ap := Ap.keep Kn (ninS n_ap_t nin0)
  replace R := R.castY C (Ins.self Eb) (C.w 179 rfl) (pc' := 77) d5_74 rfl
  replace R := R.astore C (Ls' := #[.val (.ref s), .val (.int (2 : Int32)), .val (.ref q), .val (.int (0 : Int32)), .val (.ref t), .val (.ref b)]) (pc' := 79) d5_77 rfl rfl rfl
  replace R := R.aloadN C (pc' := 80) d5_79 rfl rfl rfl
  replace R := R.getF C (C.w 49 rfl) Fp (pc' := 83) d5_80 rfl
  replace R := R.aload C (pc' := 85) d5_83 rfl rfl rfl
  obtain ⟨_, _, R', rfl, rfl⟩ := R.callV C (y := (⟨"com/example/ohjaus/ohjaus/signal/PushButton", "detector", "()I"⟩ : MethodName)) Eb (C.w 181 rfl) (C.w 182 rfl) (C.w 184 rfl) (C.w 183 rfl) (C.w 127 rfl) (C.w 185 rfl) (by decide) [] [(.ref ap)] rfl (con_det l Z a0 hw b d h13 n0 R.size Fd) 1 (Nat.le_of_eq rfl) (by decide) (by decide) (by decide) (by decide) (lenOf pd_16 rfl) rfl (pc' := 88) d5_85 rfl
  clear R
  replace R := R'.as (st' := [(.int d), (.ref ap)]) rfl
  clear R'
  replace R := R.iconst C (pc' := 89) d5_88 (v := (1 : Int32)) rfl rfl
  replace R := R.as (st' := [(.int (own_b true)), (.int d), (.ref ap)]) rfl
  replace Ap : Ary Z h13 ap .boolean 2 (Bf (fun _ => false)) := Ap
  obtain ⟨h14, R', Wb⟩ := R.zastore C Ap (i := dn) hd hdn gg_ap (pc' := 90) d5_89 rfl
  replace R := R'
  clear R'
  replace B : Itt Z h14 n0 t q mc 1 := by
    obtain ⟨gt, Et, Ft, Fx, Fk, lr, Fy⟩ := B
    exact ⟨gt, Et.wr Wb, Ft.other Wb (Or.inl (Ne.symm n_ap_t)), Fx.other Wb (Or.inl (Ne.symm n_ap_t)), Fk.other Wb (Or.inl (Ne.symm n_ap_t)), lr, Fy.other Wb (Or.inl (Ne.symm n_ap_t))⟩
  replace E := E.wr Wb
  replace Fo := Fo.other Wb (Or.inl ne_s_ap)
  replace Ff := Ff.other Wb (Or.inl ne_s_ap)
  replace Fc := Fc.other Wb (Or.inl ne_s_ap)
  replace Fg := Fg.other Wb (Or.inl ne_s_ap)
  replace Fp := Fp.other Wb (Or.inl ne_s_ap)
  replace Fr := Fr.other Wb (Or.inl ne_s_ap)
  replace Fl := Fl.other Wb (Or.inl ne_s_ap)
  replace Fs := Fs.other Wb (Or.inl ne_s_ap)
  replace Eq := Eq.wr Wb
  replace Fm := Fm.other Wb (Or.inl ne_q_ap)
  replace Fe := Fe.other Wb (Or.inl ne_q_ap)
  replace Fz := Fz.other Wb (Or.inl ne_q_ap)
  replace Aa := Aa.other Wb ne_aa_ap
  replace Eb := Eb.wr Wb
  replace Fd := Fd.other Wb (Or.inl ne_b_ap)
  replace Ao := Ao.other Wb ne_ao_ap
  replace Af := Af.other Wb ne_af_ap
  replace Ac := Ac.other Wb ne_ac_ap
  replace Ap := Ap.set Wb
  rw [upd_B] at Ap
  replace R := R.goto C (pc' := 57) d5_90 rfl
  clear Et Et2
  replace R := R.aload C (pc' := 59) d5_57 rfl rfl rfl
  have Et := B.2.1
  obtain ⟨_, _, R', rfl, rfl⟩ := R.callF C (z := (⟨"java/util/Iterator", "hasNext", "()Z"⟩ : MethodName)) (y := (⟨"java/util/ArrayList$Itr", "hasNext", "()Z"⟩ : MethodName)) Et (C.w 76 rfl) (C.w 77 rfl) (C.w 78 rfl) (C.w 79 rfl) (C.w 80 rfl) (C.w 81 rfl) (C.w 82 rfl) (C.w 83 rfl) (C.w 62 rfl) (C.w 84 rfl) (by decide) [] [] rfl (con_hn l Z a0 hw t q mc 1 1 h14 n0 R.size B Fz) 0 (Nat.le_of_eq rfl) (by decide) (by decide) (by decide) (by decide) (lenOf pd_5 rfl) rfl (pc' := 64) d5_59 rfl
  clear R
  replace R := R'.as (st' := [(.int (own_b false))]) rfl
  clear R'
  replace R := R.ifY C (pc' := 93) d5_64 rfl rfl
  replace R := R.aloadN C (pc' := 94) d5_93 rfl rfl rfl
  replace R := R.iloadN C (pc' := 95) d5_94 rfl rfl
  obtain ⟨h15, R', E15, Ar, X15⟩ := R.newA C (N := 2) (cap := 2) (ad := "[Z") (C.w 34 rfl) rfl (by decide) (by decide) (by decide) d5_95 (by decide) (by decide) (pc' := 97) rfl
  replace R := R'
  clear R'
  obtain ⟨ar, g_ar⟩ : ∃ z, z = h14.size := ⟨_, rfl⟩
  rw [← g_ar] at R Ar X15
  have ne_s_ar : s ≠ ar := by rw [g_ar]; exact Nat.ne_of_lt E.lt
  have ne_q_ar : q ≠ ar := by rw [g_ar]; exact Nat.ne_of_lt Eq.lt
  have ne_ao_ar : ao ≠ ar := by rw [g_ar]; exact Nat.ne_of_lt Ao.lt
  have ne_af_ar : af ≠ ar := by rw [g_ar]; exact Nat.ne_of_lt Af.lt
  have ne_ac_ar : ac ≠ ar := by rw [g_ar]; exact Nat.ne_of_lt Ac.lt
  have ne_ap_ar : ap ≠ ar := by rw [g_ar]; exact Nat.ne_of_lt Ap.lt
  have gg_ar : n0 ≤ ar := by rw [g_ar]; exact Nat.le_trans gs (Nat.le_of_lt E.lt)
  replace E := E.ext E15
  replace Fo := Fo.ext E15
  replace Ff := Ff.ext E15
  replace Fc := Fc.ext E15
  replace Fg := Fg.ext E15
  replace Fp := Fp.ext E15
  replace Fr := Fr.ext E15
  replace Fl := Fl.ext E15
  replace Fs := Fs.ext E15
  replace Eq := Eq.ext E15
  replace Fz := Fz.ext E15
  replace Ao := Ao.ext E15
  replace Af := Af.ext E15
  replace Ac := Ac.ext E15
  replace Ap := Ap.ext E15
  obtain ⟨h16, R', W16⟩ := R.putFv C (C.w 89 rfl) Via.refl Fr E (Or.inr ⟨(C.w 90 rfl), rfl, rfl⟩) (C.w 28 rfl) (ty := (.array .boolean)) (v' := (.ref ar)) (by decide) rfl rfl gs (pc' := 100) d5_97 rfl
  replace R := R'
  clear R'
  replace E := E.wr W16
  replace Fo := Fo.other W16 (Or.inr (slot_ne (Or.inr (C.w 36 rfl)) (Or.inr (C.w 90 rfl)) (by decide) (t := (.array .boolean)) (t' := (.array .boolean)) (by decide) (by decide)))
  replace Ff := Ff.other W16 (Or.inr (slot_ne (Or.inr (C.w 38 rfl)) (Or.inr (C.w 90 rfl)) (by decide) (t := (.array .boolean)) (t' := (.array .boolean)) (by decide) (by decide)))
  replace Fc := Fc.other W16 (Or.inr (slot_ne (Or.inr (C.w 41 rfl)) (Or.inr (C.w 90 rfl)) (by decide) (t := (.array .long)) (t' := (.array .boolean)) (by decide) (by decide)))
  replace Fg := Fg.other W16 (Or.inr (slot_ne (Or.inl (C.w 48 rfl)) (Or.inr (C.w 90 rfl)) (by decide) (t := (.array .boolean)) (t' := (.array .boolean)) (by decide) (by decide)))
  replace Fp := Fp.other W16 (Or.inr (slot_ne (Or.inr (C.w 50 rfl)) (Or.inr (C.w 90 rfl)) (by decide) (t := (.array .boolean)) (t' := (.array .boolean)) (by decide) (by decide)))
  replace Fr := Fr.same W16
  replace Fl := Fl.other W16 (Or.inr (slot_ne (Or.inl (C.w 124 rfl)) (Or.inr (C.w 90 rfl)) (by decide) (t := .int) (t' := (.array .boolean)) (by decide) (by decide)))
  replace Fs := Fs.other W16 (Or.inr (slot_ne (Or.inl (C.w 97 rfl)) (Or.inr (C.w 90 rfl)) (by decide) (t := .long) (t' := (.array .boolean)) (by decide) (by decide)))
  replace Eq := Eq.wr W16
  replace Fz := Fz.other W16 (Or.inl nqs)
  replace Ao := Ao.other W16 (Ne.symm ne_s_ao)
  replace Af := Af.other W16 (Ne.symm ne_s_af)
  replace Ac := Ac.other W16 (Ne.symm ne_s_ac)
  replace Ap := Ap.other W16 (Ne.symm ne_s_ap)
  replace Ar := Ar.other W16 (Ne.symm ne_s_ar)
  exact R.retV C d5_100 ⟨rfl, ao, af, ac, ap, ar, ⟨gs, gg_ao, gg_af, gg_ac, gg_ap, gg_ar⟩, ⟨ne_s_ao, ne_s_af, ne_s_ac, ne_s_ap, ne_s_ar, ne_ao_af, ne_ao_ac, ne_ao_ap, ne_ao_ar, ne_af_ac, ne_af_ap, ne_af_ar, ne_ac_ap, ne_ac_ar, ne_ap_ar⟩, E, Fo, Ff, Fc, Fp, Fr, Fl, Fs, Ao, Af, Ac, Ap, Ar⟩ (by decide) (by decide)
set_option maxRecDepth 65536 in
set_option maxHeartbeats 40000000 in
theorem con_serve (l : Launch) (Z : State) (a0 : Array Value) (hw : ∀ d ∈ tables_1, d.before a0 Z = true) (s : Addr) (occ flt req pb : Nat → Bool) (chg : Nat → Int64) (fls : Int32) (stp : Int64) (d : Int32) (dn : Nat) (hd : d.toInt = (dn : Int)) (hdn : dn < 2) (h0 : Heap) (n0 : Nat) (z0 : n0 ≤ h0.size) (B : Sit Z h0 n0 s occ flt req pb chg fls stp) :
    Con l Z (⟨"com/example/ohjaus/ohjaus/signal/Situation", "serve", "(I)V"⟩ : MethodName) prog_49_method_6_code 2 none ({ frames := 0, cells := 0, slots := 0, locals := 0 } : Room) #[(.ref s), (.int d)] h0 n0 (fun v h' => v = none ∧ Sit Z h' n0 s occ flt (updN req dn false) pb chg fls stp) := by
  refine Con.mk (tb := tables_1) (a0 := a0) (Ls := #[.val (.ref s), .val (.int d)]) pf_25 hw z0 (fun m => by first | (simp [entryFrame, mkF, argsToLocals, Value.category, maxLocals]; done) | rfl) ?_
  intro p e s0 m below meth c S0 C R
  obtain ⟨ao, af, ac, ap, ar, ⟨g_s, g_ao, g_af, g_ac, g_ap, g_ar⟩, ⟨n_s_ao, n_s_af, n_s_ac, n_s_ap, n_s_ar, n_ao_af, n_ao_ac, n_ao_ap, n_ao_ar, n_af_ac, n_af_ap, n_af_ar, n_ac_ap, n_ac_ar, n_ap_ar⟩, E, Fo, Ff, Fc, Fp, Fr, Fl, Fs, Ao, Af, Ac, Ap, Ar⟩ := B
  replace R := R.aloadN C (pc' := 1) d25_0 rfl rfl rfl
  replace R := R.getF C (C.w 89 rfl) Fr (pc' := 4) d25_1 rfl
  replace R := R.iloadN C (pc' := 5) d25_4 rfl rfl
  replace R := R.iconst C (pc' := 6) d25_5 (v := (0 : Int32)) rfl rfl
  replace R := R.as (st' := [(.int (own_b false)), (.int d), (.ref ar)]) rfl
  obtain ⟨h1, R', W1⟩ := R.zastore C Ar (i := dn) hd hdn g_ar (pc' := 7) d25_6 rfl
  replace R := R'
  clear R'
  replace E := E.wr W1
  replace Fo := Fo.other W1 (Or.inl n_s_ar)
  replace Ao := Ao.other W1 n_ao_ar
  replace Ff := Ff.other W1 (Or.inl n_s_ar)
  replace Af := Af.other W1 n_af_ar
  replace Fc := Fc.other W1 (Or.inl n_s_ar)
  replace Ac := Ac.other W1 n_ac_ar
  replace Fp := Fp.other W1 (Or.inl n_s_ar)
  replace Ap := Ap.other W1 n_ap_ar
  replace Fr := Fr.other W1 (Or.inl n_s_ar)
  replace Ar := Ar.set W1
  replace Fl := Fl.other W1 (Or.inl n_s_ar)
  replace Fs := Fs.other W1 (Or.inl n_s_ar)
  rw [upd_B] at Ar
  exact R.retV C d25_7 ⟨rfl, ⟨ao, af, ac, ap, ar, ⟨g_s, g_ao, g_af, g_ac, g_ap, g_ar⟩, ⟨n_s_ao, n_s_af, n_s_ac, n_s_ap, n_s_ar, n_ao_af, n_ao_ac, n_ao_ap, n_ao_ar, n_af_ac, n_af_ap, n_af_ar, n_ac_ap, n_ac_ar, n_ap_ar⟩, E, Fo, Ff, Fc, Fp, Fr, Fl, Fs, Ao, Af, Ac, Ap, Ar⟩⟩ (by decide) (by decide)
set_option maxRecDepth 65536 in
set_option maxHeartbeats 40000000 in
theorem con_fault (l : Launch) (Z : State) (a0 : Array Value) (hw : ∀ d ∈ tables_1, d.before a0 Z = true) (s : Addr) (occ flt req pb : Nat → Bool) (chg : Nat → Int64) (fls : Int32) (stp : Int64) (d : Int32) (dn : Nat) (hd : d.toInt = (dn : Int)) (hdn : dn < 2) (h0 : Heap) (n0 : Nat) (z0 : n0 ≤ h0.size) (B : Sit Z h0 n0 s occ flt req pb chg fls stp) :
    Con l Z (⟨"com/example/ohjaus/ohjaus/signal/Situation", "fault", "(I)V"⟩ : MethodName) prog_49_method_4_code 2 none ({ frames := 0, cells := 0, slots := 0, locals := 0 } : Room) #[(.ref s), (.int d)] h0 n0 (fun v h' => v = none ∧ Sit Z h' n0 s occ (if flt dn = true then flt else updN flt dn true) req pb chg (if flt dn = true then fls else fls + 1) stp) := by
  refine Con.mk (tb := tables_1) (a0 := a0) (Ls := #[.val (.ref s), .val (.int d)]) pf_26 hw z0 (fun m => by first | (simp [entryFrame, mkF, argsToLocals, Value.category, maxLocals]; done) | rfl) ?_
  intro p e s0 m below meth c S0 C R
  obtain ⟨ao, af, ac, ap, ar, ⟨g_s, g_ao, g_af, g_ac, g_ap, g_ar⟩, ⟨n_s_ao, n_s_af, n_s_ac, n_s_ap, n_s_ar, n_ao_af, n_ao_ac, n_ao_ap, n_ao_ar, n_af_ac, n_af_ap, n_af_ar, n_ac_ap, n_ac_ar, n_ap_ar⟩, E, Fo, Ff, Fc, Fp, Fr, Fl, Fs, Ao, Af, Ac, Ap, Ar⟩ := B
  replace R := R.aloadN C (pc' := 1) d26_0 rfl rfl rfl
  replace R := R.getF C (C.w 37 rfl) Ff (pc' := 4) d26_1 rfl
  replace R := R.iloadN C (pc' := 5) d26_4 rfl rfl
  replace R := R.baload C (v := (.int (own_b (flt dn)))) Af hd hdn rfl (pc' := 6) d26_5 rfl
  by_cases hf : flt dn = true
  · skip
    replace R := R.ifY C (pc' := 26) d26_6 (by rw [b_ne]; exact hf) rfl
    rw [if_pos hf, if_pos hf]
    exact R.retV C d26_26 ⟨rfl, ⟨ao, af, ac, ap, ar, ⟨g_s, g_ao, g_af, g_ac, g_ap, g_ar⟩, ⟨n_s_ao, n_s_af, n_s_ac, n_s_ap, n_s_ar, n_ao_af, n_ao_ac, n_ao_ap, n_ao_ar, n_af_ac, n_af_ap, n_af_ar, n_ac_ap, n_ac_ar, n_ap_ar⟩, E, Fo, Ff, Fc, Fp, Fr, Fl, Fs, Ao, Af, Ac, Ap, Ar⟩⟩ (by decide) (by decide)
  · skip
    replace R := R.ifN C (pc' := 9) d26_6 (by rw [b_ne]; simpa using hf) rfl
    replace R := R.aloadN C (pc' := 10) d26_9 rfl rfl rfl
    replace R := R.getF C (C.w 37 rfl) Ff (pc' := 13) d26_10 rfl
    replace R := R.iloadN C (pc' := 14) d26_13 rfl rfl
    replace R := R.iconst C (pc' := 15) d26_14 (v := (1 : Int32)) rfl rfl
    replace R := R.as (st' := [(.int (own_b true)), (.int d), (.ref af)]) rfl
    obtain ⟨h1, R', W1⟩ := R.zastore C Af (i := dn) hd hdn g_af (pc' := 16) d26_15 rfl
    replace R := R'
    clear R'
    replace E := E.wr W1
    replace Fo := Fo.other W1 (Or.inl n_s_af)
    replace Ao := Ao.other W1 n_ao_af
    replace Ff := Ff.other W1 (Or.inl n_s_af)
    replace Af := Af.set W1
    replace Fc := Fc.other W1 (Or.inl n_s_af)
    replace Ac := Ac.other W1 (Ne.symm n_af_ac)
    replace Fp := Fp.other W1 (Or.inl n_s_af)
    replace Ap := Ap.other W1 (Ne.symm n_af_ap)
    replace Fr := Fr.other W1 (Or.inl n_s_af)
    replace Ar := Ar.other W1 (Ne.symm n_af_ar)
    replace Fl := Fl.other W1 (Or.inl n_s_af)
    replace Fs := Fs.other W1 (Or.inl n_s_af)
    rw [upd_B] at Af
    replace R := R.aloadN C (pc' := 17) d26_16 rfl rfl rfl
    replace R := R.dup C (pc' := 18) d26_17 rfl rfl
    replace R := R.getF C (C.w 123 rfl) Fl (pc' := 21) d26_18 rfl
    replace R := R.iconst C (pc' := 22) d26_21 (v := (1 : Int32)) rfl rfl
    replace R := R.iadd C (pc' := 23) d26_22 rfl
    obtain ⟨h2, R', W2⟩ := R.putFv C (C.w 123 rfl) Via.refl Fl E (Or.inl (C.w 124 rfl)) (C.w 28 rfl) (ty := .int) (v' := (.int (fls + (1 : Int32)))) (by decide) rfl rfl g_s (pc' := 26) d26_23 rfl
    replace R := R'
    clear R'
    replace E := E.wr W2
    replace Fo := Fo.other W2 (Or.inr (slot_ne (Or.inr (C.w 36 rfl)) (Or.inl (C.w 124 rfl)) (by decide) (t := (.array .boolean)) (t' := .int) (by decide) (by decide)))
    replace Ao := Ao.other W2 (Ne.symm n_s_ao)
    replace Ff := Ff.other W2 (Or.inr (slot_ne (Or.inr (C.w 38 rfl)) (Or.inl (C.w 124 rfl)) (by decide) (t := (.array .boolean)) (t' := .int) (by decide) (by decide)))
    replace Af := Af.other W2 (Ne.symm n_s_af)
    replace Fc := Fc.other W2 (Or.inr (slot_ne (Or.inr (C.w 41 rfl)) (Or.inl (C.w 124 rfl)) (by decide) (t := (.array .long)) (t' := .int) (by decide) (by decide)))
    replace Ac := Ac.other W2 (Ne.symm n_s_ac)
    replace Fp := Fp.other W2 (Or.inr (slot_ne (Or.inr (C.w 50 rfl)) (Or.inl (C.w 124 rfl)) (by decide) (t := (.array .boolean)) (t' := .int) (by decide) (by decide)))
    replace Ap := Ap.other W2 (Ne.symm n_s_ap)
    replace Fr := Fr.other W2 (Or.inr (slot_ne (Or.inr (C.w 90 rfl)) (Or.inl (C.w 124 rfl)) (by decide) (t := (.array .boolean)) (t' := .int) (by decide) (by decide)))
    replace Ar := Ar.other W2 (Ne.symm n_s_ar)
    replace Fl := Fl.same W2
    replace Fs := Fs.other W2 (Or.inr (slot_ne (Or.inl (C.w 97 rfl)) (Or.inl (C.w 124 rfl)) (by decide) (t := .long) (t' := .int) (by decide) (by decide)))
    rw [if_neg hf, if_neg hf]
    exact R.retV C d26_26 ⟨rfl, ⟨ao, af, ac, ap, ar, ⟨g_s, g_ao, g_af, g_ac, g_ap, g_ar⟩, ⟨n_s_ao, n_s_af, n_s_ac, n_s_ap, n_s_ar, n_ao_af, n_ao_ac, n_ao_ap, n_ao_ar, n_af_ac, n_af_ap, n_af_ar, n_ac_ap, n_ac_ar, n_ap_ar⟩, E, Fo, Ff, Fc, Fp, Fr, Fl, Fs, Ao, Af, Ac, Ap, Ar⟩⟩ (by decide) (by decide)
def own_chg (occ flt : Nat → Bool) (dn : Nat) (ob : Bool) : Bool := flt dn || (occ dn != ob)
set_option maxRecDepth 65536 in
set_option maxHeartbeats 40000000 in
theorem con_detect (l : Launch) (Z : State) (a0 : Array Value) (hw : ∀ d ∈ tables_1, d.before a0 Z = true) (s : Addr) (occ flt req pb : Nat → Bool) (chg : Nat → Int64) (fls : Int32) (stp : Int64) (d : Int32) (dn : Nat) (hd : d.toInt = (dn : Int)) (hdn : dn < 2) (ob : Bool) (h0 : Heap) (n0 : Nat) (z0 : n0 ≤ h0.size) (B : Sit Z h0 n0 s occ flt req pb chg fls stp) :
    Con l Z (⟨"com/example/ohjaus/ohjaus/signal/Situation", "detect", "(IZ)V"⟩ : MethodName) prog_49_method_3_code 3 none ({ frames := 0, cells := 0, slots := 0, locals := 0 } : Room) #[(.ref s), (.int d), (.int (own_b ob))] h0 n0 (fun v h' => v = none ∧ ((own_chg occ flt dn ob = false ∧ Sit Z h' n0 s occ flt req pb chg fls stp) ∨ (own_chg occ flt dn ob = true ∧ Sit Z h' n0 s (updN occ dn ob) (if flt dn = true then updN flt dn false else flt) (updN req dn (req dn || (ob && pb dn))) pb (updN chg dn stp) (if flt dn = true then fls - 1 else fls) stp))) := by
  refine Con.mk (tb := tables_1) (a0 := a0) (Ls := #[.val (.ref s), .val (.int d), .val (.int (own_b ob))]) pf_11 hw z0 (fun m => by first | (simp [entryFrame, mkF, argsToLocals, Value.category, maxLocals]; done) | rfl) ?_
  intro p e s0 m below meth c S0 C R
  obtain ⟨ao, af, ac, ap, ar, ⟨g_s, g_ao, g_af, g_ac, g_ap, g_ar⟩, ⟨n_s_ao, n_s_af, n_s_ac, n_s_ap, n_s_ar, n_ao_af, n_ao_ac, n_ao_ap, n_ao_ar, n_af_ac, n_af_ap, n_af_ar, n_ac_ap, n_ac_ar, n_ap_ar⟩, E, Fo, Ff, Fc, Fp, Fr, Fl, Fs, Ao, Af, Ac, Ap, Ar⟩ := B
  replace R := R.aloadN C (pc' := 1) d11_0 rfl rfl rfl
  replace R := R.getF C (C.w 37 rfl) Ff (pc' := 4) d11_1 rfl
  replace R := R.iloadN C (pc' := 5) d11_4 rfl rfl
  replace R := R.baload C (v := (.int (own_b (flt dn)))) Af hd hdn rfl (pc' := 6) d11_5 rfl
  by_cases hc : own_chg occ flt dn ob = true
  · skip
    replace R : Rch p l e ({ frames := 0, cells := 0, slots := 0, locals := 0 } : Room) s0 m #[(.ref s), (.int d), (.int (own_b ob))] below meth c S0 n0 0 0 h0 19 #[.val (.ref s), .val (.int d), .val (.int (own_b ob))] [] := by
      cases hf : flt dn with
      | true =>
        rw [hf] at R
        replace R := R.ifY C (pc' := 19) d11_6 rfl rfl
        exact R
      | false =>
        replace R := R.ifN C (pc' := 9) d11_6 (by rw [b_ne]; exact hf) rfl
        replace R := R.aloadN C (pc' := 10) d11_9 rfl rfl rfl
        replace R := R.getF C (C.w 35 rfl) Fo (pc' := 13) d11_10 rfl
        replace R := R.iloadN C (pc' := 14) d11_13 rfl rfl
        replace R := R.baload C (v := (.int (own_b (occ dn)))) Ao hd hdn rfl (pc' := 15) d11_14 rfl
        replace R := R.iloadN C (pc' := 16) d11_15 rfl rfl
        replace R := R.icmpN C (pc' := 19) d11_16 (by rw [bb_eq]; unfold own_chg at hc; rw [hf] at hc; revert hc; cases occ dn <;> cases ob <;> simp) rfl
        exact R
    replace R := R.aloadN C (pc' := 20) d11_19 rfl rfl rfl
    replace R := R.getF C (C.w 37 rfl) Ff (pc' := 23) d11_20 rfl
    replace R := R.iloadN C (pc' := 24) d11_23 rfl rfl
    replace R := R.baload C (v := (.int (own_b (flt dn)))) Af hd hdn rfl (pc' := 25) d11_24 rfl
    obtain ⟨h2, R', B⟩ : ∃ h2, Rch p l e ({ frames := 0, cells := 0, slots := 0, locals := 0 } : Room) s0 m #[(.ref s), (.int d), (.int (own_b ob))] below meth c S0 n0 0 0 h2 45 #[.val (.ref s), .val (.int d), .val (.int (own_b ob))] [] ∧ Sit Z h2 n0 s occ (if flt dn = true then updN flt dn false else flt) req pb chg (if flt dn = true then fls - 1 else fls) stp := by
      by_cases hf : flt dn = true
      · skip
        replace R := R.ifN C (pc' := 28) d11_25 (by rw [hf]; rfl) rfl
        replace R := R.aloadN C (pc' := 29) d11_28 rfl rfl rfl
        replace R := R.getF C (C.w 37 rfl) Ff (pc' := 32) d11_29 rfl
        replace R := R.iloadN C (pc' := 33) d11_32 rfl rfl
        replace R := R.iconst C (pc' := 34) d11_33 (v := (0 : Int32)) rfl rfl
        replace R := R.as (st' := [(.int (own_b false)), (.int d), (.ref af)]) rfl
        obtain ⟨h1, R', W1⟩ := R.zastore C Af (i := dn) hd hdn g_af (pc' := 35) d11_34 rfl
        replace R := R'
        clear R'
        replace E := E.wr W1
        replace Fo := Fo.other W1 (Or.inl n_s_af)
        replace Ao := Ao.other W1 n_ao_af
        replace Ff := Ff.other W1 (Or.inl n_s_af)
        replace Af := Af.set W1
        replace Fc := Fc.other W1 (Or.inl n_s_af)
        replace Ac := Ac.other W1 (Ne.symm n_af_ac)
        replace Fp := Fp.other W1 (Or.inl n_s_af)
        replace Ap := Ap.other W1 (Ne.symm n_af_ap)
        replace Fr := Fr.other W1 (Or.inl n_s_af)
        replace Ar := Ar.other W1 (Ne.symm n_af_ar)
        replace Fl := Fl.other W1 (Or.inl n_s_af)
        replace Fs := Fs.other W1 (Or.inl n_s_af)
        rw [upd_B] at Af
        replace R := R.aloadN C (pc' := 36) d11_35 rfl rfl rfl
        replace R := R.dup C (pc' := 37) d11_36 rfl rfl
        replace R := R.getF C (C.w 123 rfl) Fl (pc' := 40) d11_37 rfl
        replace R := R.iconst C (pc' := 41) d11_40 (v := (1 : Int32)) rfl rfl
        replace R := R.isub C (pc' := 42) d11_41 rfl
        obtain ⟨h2, R', W2⟩ := R.putFv C (C.w 123 rfl) Via.refl Fl E (Or.inl (C.w 124 rfl)) (C.w 28 rfl) (ty := .int) (v' := (.int (fls - (1 : Int32)))) (by decide) rfl rfl g_s (pc' := 45) d11_42 rfl
        replace R := R'
        clear R'
        replace E := E.wr W2
        replace Fo := Fo.other W2 (Or.inr (slot_ne (Or.inr (C.w 36 rfl)) (Or.inl (C.w 124 rfl)) (by decide) (t := (.array .boolean)) (t' := .int) (by decide) (by decide)))
        replace Ao := Ao.other W2 (Ne.symm n_s_ao)
        replace Ff := Ff.other W2 (Or.inr (slot_ne (Or.inr (C.w 38 rfl)) (Or.inl (C.w 124 rfl)) (by decide) (t := (.array .boolean)) (t' := .int) (by decide) (by decide)))
        replace Af := Af.other W2 (Ne.symm n_s_af)
        replace Fc := Fc.other W2 (Or.inr (slot_ne (Or.inr (C.w 41 rfl)) (Or.inl (C.w 124 rfl)) (by decide) (t := (.array .long)) (t' := .int) (by decide) (by decide)))
        replace Ac := Ac.other W2 (Ne.symm n_s_ac)
        replace Fp := Fp.other W2 (Or.inr (slot_ne (Or.inr (C.w 50 rfl)) (Or.inl (C.w 124 rfl)) (by decide) (t := (.array .boolean)) (t' := .int) (by decide) (by decide)))
        replace Ap := Ap.other W2 (Ne.symm n_s_ap)
        replace Fr := Fr.other W2 (Or.inr (slot_ne (Or.inr (C.w 90 rfl)) (Or.inl (C.w 124 rfl)) (by decide) (t := (.array .boolean)) (t' := .int) (by decide) (by decide)))
        replace Ar := Ar.other W2 (Ne.symm n_s_ar)
        replace Fl := Fl.same W2
        replace Fs := Fs.other W2 (Or.inr (slot_ne (Or.inl (C.w 97 rfl)) (Or.inl (C.w 124 rfl)) (by decide) (t := .long) (t' := .int) (by decide) (by decide)))
        rw [if_pos hf, if_pos hf]
        exact ⟨h2, R, ⟨ao, af, ac, ap, ar, ⟨g_s, g_ao, g_af, g_ac, g_ap, g_ar⟩, ⟨n_s_ao, n_s_af, n_s_ac, n_s_ap, n_s_ar, n_ao_af, n_ao_ac, n_ao_ap, n_ao_ar, n_af_ac, n_af_ap, n_af_ar, n_ac_ap, n_ac_ar, n_ap_ar⟩, E, Fo, Ff, Fc, Fp, Fr, Fl, Fs, Ao, Af, Ac, Ap, Ar⟩⟩
      · skip
        replace R := R.ifY C (pc' := 45) d11_25 (by rw [b_eq]; simpa using hf) rfl
        rw [if_neg hf, if_neg hf]
        exact ⟨h0, R, ⟨ao, af, ac, ap, ar, ⟨g_s, g_ao, g_af, g_ac, g_ap, g_ar⟩, ⟨n_s_ao, n_s_af, n_s_ac, n_s_ap, n_s_ar, n_ao_af, n_ao_ac, n_ao_ap, n_ao_ar, n_af_ac, n_af_ap, n_af_ar, n_ac_ap, n_ac_ar, n_ap_ar⟩, E, Fo, Ff, Fc, Fp, Fr, Fl, Fs, Ao, Af, Ac, Ap, Ar⟩⟩
    replace R := R'
    clear R'
    clear E Fo Ff Fc Fp Fr Fl Fs Ao Af Ac Ap Ar g_s g_ao g_af g_ac g_ap g_ar n_s_ao n_s_af n_s_ac n_s_ap n_s_ar n_ao_af n_ao_ac n_ao_ap n_ao_ar n_af_ac n_af_ap n_af_ar n_ac_ap n_ac_ar n_ap_ar
    skip
    obtain ⟨ao, af, ac, ap, ar, ⟨g_s, g_ao, g_af, g_ac, g_ap, g_ar⟩, ⟨n_s_ao, n_s_af, n_s_ac, n_s_ap, n_s_ar, n_ao_af, n_ao_ac, n_ao_ap, n_ao_ar, n_af_ac, n_af_ap, n_af_ar, n_ac_ap, n_ac_ar, n_ap_ar⟩, E, Fo, Ff, Fc, Fp, Fr, Fl, Fs, Ao, Af, Ac, Ap, Ar⟩ := B
    replace R := R.aloadN C (pc' := 46) d11_45 rfl rfl rfl
    replace R := R.getF C (C.w 35 rfl) Fo (pc' := 49) d11_46 rfl
    replace R := R.iloadN C (pc' := 50) d11_49 rfl rfl
    replace R := R.iloadN C (pc' := 51) d11_50 rfl rfl
    obtain ⟨h3, R', W3⟩ := R.zastore C Ao (i := dn) hd hdn g_ao (pc' := 52) d11_51 rfl
    replace R := R'
    clear R'
    replace E := E.wr W3
    replace Fo := Fo.other W3 (Or.inl n_s_ao)
    replace Ao := Ao.set W3
    replace Ff := Ff.other W3 (Or.inl n_s_ao)
    replace Af := Af.other W3 (Ne.symm n_ao_af)
    replace Fc := Fc.other W3 (Or.inl n_s_ao)
    replace Ac := Ac.other W3 (Ne.symm n_ao_ac)
    replace Fp := Fp.other W3 (Or.inl n_s_ao)
    replace Ap := Ap.other W3 (Ne.symm n_ao_ap)
    replace Fr := Fr.other W3 (Or.inl n_s_ao)
    replace Ar := Ar.other W3 (Ne.symm n_ao_ar)
    replace Fl := Fl.other W3 (Or.inl n_s_ao)
    replace Fs := Fs.other W3 (Or.inl n_s_ao)
    rw [upd_B] at Ao
    replace R := R.aloadN C (pc' := 53) d11_52 rfl rfl rfl
    replace R := R.getF C (C.w 40 rfl) Fc (pc' := 56) d11_53 rfl
    replace R := R.iloadN C (pc' := 57) d11_56 rfl rfl
    replace R := R.aloadN C (pc' := 58) d11_57 rfl rfl rfl
    replace R := R.getF C (C.w 96 rfl) Fs (pc' := 61) d11_58 rfl
    obtain ⟨h4, R', W4⟩ := R.lastore C Ac (i := dn) hd hdn g_ac (pc' := 62) d11_61 rfl
    replace R := R'
    clear R'
    replace E := E.wr W4
    replace Fo := Fo.other W4 (Or.inl n_s_ac)
    replace Ao := Ao.other W4 n_ao_ac
    replace Ff := Ff.other W4 (Or.inl n_s_ac)
    replace Af := Af.other W4 n_af_ac
    replace Fc := Fc.other W4 (Or.inl n_s_ac)
    replace Ac := Ac.set W4
    replace Fp := Fp.other W4 (Or.inl n_s_ac)
    replace Ap := Ap.other W4 (Ne.symm n_ac_ap)
    replace Fr := Fr.other W4 (Or.inl n_s_ac)
    replace Ar := Ar.other W4 (Ne.symm n_ac_ar)
    replace Fl := Fl.other W4 (Or.inl n_s_ac)
    replace Fs := Fs.other W4 (Or.inl n_s_ac)
    rw [upd_L] at Ac
    replace R := R.aloadN C (pc' := 63) d11_62 rfl rfl rfl
    replace R := R.getF C (C.w 89 rfl) Fr (pc' := 66) d11_63 rfl
    replace R := R.iloadN C (pc' := 67) d11_66 rfl rfl
    replace R := R.dup2 C (pc' := 68) d11_67 rfl rfl rfl
    replace R := R.baload C (v := (.int (own_b (req dn)))) Ar hd hdn rfl (pc' := 69) d11_68 rfl
    replace R := R.iloadN C (pc' := 70) d11_69 rfl rfl
    replace R : Rch p l e ({ frames := 0, cells := 0, slots := 0, locals := 0 } : Room) s0 m #[(.ref s), (.int d), (.int (own_b ob))] below meth c S0 n0 0 0 h4 87 #[.val (.ref s), .val (.int d), .val (.int (own_b ob))] [(.int (own_b (ob && pb dn))), (.int (own_b (req dn))), (.int d), (.ref ar)] := by
      clear hc
      cases ob with
      | false =>
        replace R := R.ifY C (pc' := 86) d11_70 rfl rfl
        replace R := R.iconst C (pc' := 87) d11_86 (v := (0 : Int32)) rfl rfl
        exact R
      | true =>
        replace R := R.ifN C (pc' := 73) d11_70 rfl rfl
        replace R := R.aloadN C (pc' := 74) d11_73 rfl rfl rfl
        replace R := R.getF C (C.w 49 rfl) Fp (pc' := 77) d11_74 rfl
        replace R := R.iloadN C (pc' := 78) d11_77 rfl rfl
        replace R := R.baload C (v := (.int (own_b (pb dn)))) Ap hd hdn rfl (pc' := 79) d11_78 rfl
        replace R := R.dia C (b := (pb dn)) (pc' := 87) d11_79 d11_82 d11_83 d11_86 (b_eq _) rfl
        exact R
    replace R := R.ior C (pc' := 88) d11_87 rfl
    rw [b_or] at R
    obtain ⟨h5, R', W5⟩ := R.zastore C Ar (i := dn) hd hdn g_ar (pc' := 89) d11_88 rfl
    replace R := R'
    clear R'
    replace E := E.wr W5
    replace Fo := Fo.other W5 (Or.inl n_s_ar)
    replace Ao := Ao.other W5 n_ao_ar
    replace Ff := Ff.other W5 (Or.inl n_s_ar)
    replace Af := Af.other W5 n_af_ar
    replace Fc := Fc.other W5 (Or.inl n_s_ar)
    replace Ac := Ac.other W5 n_ac_ar
    replace Fp := Fp.other W5 (Or.inl n_s_ar)
    replace Ap := Ap.other W5 n_ap_ar
    replace Fr := Fr.other W5 (Or.inl n_s_ar)
    replace Ar := Ar.set W5
    replace Fl := Fl.other W5 (Or.inl n_s_ar)
    replace Fs := Fs.other W5 (Or.inl n_s_ar)
    rw [upd_B] at Ar
    exact R.retV C d11_89 ⟨rfl, Or.inr ⟨hc, ⟨ao, af, ac, ap, ar, ⟨g_s, g_ao, g_af, g_ac, g_ap, g_ar⟩, ⟨n_s_ao, n_s_af, n_s_ac, n_s_ap, n_s_ar, n_ao_af, n_ao_ac, n_ao_ap, n_ao_ar, n_af_ac, n_af_ap, n_af_ar, n_ac_ap, n_ac_ar, n_ap_ar⟩, E, Fo, Ff, Fc, Fp, Fr, Fl, Fs, Ao, Af, Ac, Ap, Ar⟩⟩⟩ (by decide) (by decide)
  · skip
    have hf : flt dn = false := by unfold own_chg at hc; revert hc; cases flt dn <;> simp
    have ho : occ dn = ob := by unfold own_chg at hc; rw [hf] at hc; revert hc; cases occ dn <;> cases ob <;> simp
    replace R := R.ifN C (pc' := 9) d11_6 (by rw [b_ne]; exact hf) rfl
    replace R := R.aloadN C (pc' := 10) d11_9 rfl rfl rfl
    replace R := R.getF C (C.w 35 rfl) Fo (pc' := 13) d11_10 rfl
    replace R := R.iloadN C (pc' := 14) d11_13 rfl rfl
    replace R := R.baload C (v := (.int (own_b (occ dn)))) Ao hd hdn rfl (pc' := 15) d11_14 rfl
    replace R := R.iloadN C (pc' := 16) d11_15 rfl rfl
    replace R := R.icmpY C (pc' := 89) d11_16 (by rw [bb_eq, ho]; simp) rfl
    exact R.retV C d11_89 ⟨rfl, Or.inl ⟨by simpa using hc, ⟨ao, af, ac, ap, ar, ⟨g_s, g_ao, g_af, g_ac, g_ap, g_ar⟩, ⟨n_s_ao, n_s_af, n_s_ac, n_s_ap, n_s_ar, n_ao_af, n_ao_ac, n_ao_ap, n_ao_ar, n_af_ac, n_af_ap, n_af_ar, n_ac_ap, n_ac_ar, n_ap_ar⟩, E, Fo, Ff, Fc, Fp, Fr, Fl, Fs, Ao, Af, Ac, Ap, Ar⟩⟩⟩ (by decide) (by decide)
set_option maxRecDepth 65536 in
set_option maxHeartbeats 40000000 in
theorem con_next (l : Launch) (Z : State) (a0 : Array Value) (hw : ∀ d ∈ tables_1, d.before a0 Z = true) (s : Addr) (occ flt req pb : Nat → Bool) (chg : Nat → Int64) (fls : Int32) (stp : Int64) (h0 : Heap) (n0 : Nat) (z0 : n0 ≤ h0.size) (B : Sit Z h0 n0 s occ flt req pb chg fls stp) :
    Con l Z (⟨"com/example/ohjaus/ohjaus/signal/Situation", "next", "()V"⟩ : MethodName) prog_49_method_2_code 1 none ({ frames := 0, cells := 0, slots := 0, locals := 0 } : Room) #[(.ref s)] h0 n0 (fun v h' => v = none ∧ Sit Z h' n0 s occ flt req pb chg fls (stp + 1)) := by
  refine Con.mk (tb := tables_1) (a0 := a0) (Ls := #[.val (.ref s)]) pf_10 hw z0 (fun m => by first | (simp [entryFrame, mkF, argsToLocals, Value.category, maxLocals]; done) | rfl) ?_
  intro p e s0 m below meth c S0 C R
  obtain ⟨ao, af, ac, ap, ar, ⟨g_s, g_ao, g_af, g_ac, g_ap, g_ar⟩, ⟨n_s_ao, n_s_af, n_s_ac, n_s_ap, n_s_ar, n_ao_af, n_ao_ac, n_ao_ap, n_ao_ar, n_af_ac, n_af_ap, n_af_ar, n_ac_ap, n_ac_ar, n_ap_ar⟩, E, Fo, Ff, Fc, Fp, Fr, Fl, Fs, Ao, Af, Ac, Ap, Ar⟩ := B
  replace R := R.aloadN C (pc' := 1) d10_0 rfl rfl rfl
  replace R := R.dup C (pc' := 2) d10_1 rfl rfl
  replace R := R.getF C (C.w 96 rfl) Fs (pc' := 5) d10_2 rfl
  replace R := R.lconst C (pc' := 6) d10_5 (v := (1 : Int64)) rfl rfl
  replace R := R.ladd C (pc' := 7) d10_6 rfl
  obtain ⟨h1, R', W1⟩ := R.putFv C (C.w 96 rfl) Via.refl Fs E (Or.inl (C.w 97 rfl)) (C.w 28 rfl) (ty := .long) (v' := (.long (stp + (1 : Int64)))) (by decide) rfl rfl g_s (pc' := 10) d10_7 rfl
  replace R := R'
  clear R'
  replace E := E.wr W1
  replace Fo := Fo.other W1 (Or.inr (slot_ne (Or.inr (C.w 36 rfl)) (Or.inl (C.w 97 rfl)) (by decide) (t := (.array .boolean)) (t' := .long) (by decide) (by decide)))
  replace Ao := Ao.other W1 (Ne.symm n_s_ao)
  replace Ff := Ff.other W1 (Or.inr (slot_ne (Or.inr (C.w 38 rfl)) (Or.inl (C.w 97 rfl)) (by decide) (t := (.array .boolean)) (t' := .long) (by decide) (by decide)))
  replace Af := Af.other W1 (Ne.symm n_s_af)
  replace Fc := Fc.other W1 (Or.inr (slot_ne (Or.inr (C.w 41 rfl)) (Or.inl (C.w 97 rfl)) (by decide) (t := (.array .long)) (t' := .long) (by decide) (by decide)))
  replace Ac := Ac.other W1 (Ne.symm n_s_ac)
  replace Fp := Fp.other W1 (Or.inr (slot_ne (Or.inr (C.w 50 rfl)) (Or.inl (C.w 97 rfl)) (by decide) (t := (.array .boolean)) (t' := .long) (by decide) (by decide)))
  replace Ap := Ap.other W1 (Ne.symm n_s_ap)
  replace Fr := Fr.other W1 (Or.inr (slot_ne (Or.inr (C.w 90 rfl)) (Or.inl (C.w 97 rfl)) (by decide) (t := (.array .boolean)) (t' := .long) (by decide) (by decide)))
  replace Ar := Ar.other W1 (Ne.symm n_s_ar)
  replace Fl := Fl.other W1 (Or.inr (slot_ne (Or.inl (C.w 124 rfl)) (Or.inl (C.w 97 rfl)) (by decide) (t := .int) (t' := .long) (by decide) (by decide)))
  replace Fs := Fs.same W1
  exact R.retV C d10_10 ⟨rfl, ⟨ao, af, ac, ap, ar, ⟨g_s, g_ao, g_af, g_ac, g_ap, g_ar⟩, ⟨n_s_ao, n_s_af, n_s_ac, n_s_ap, n_s_ar, n_ao_af, n_ao_ac, n_ao_ap, n_ao_ar, n_af_ac, n_af_ap, n_af_ar, n_ac_ap, n_ac_ar, n_ap_ar⟩, E, Fo, Ff, Fc, Fp, Fr, Fl, Fs, Ao, Af, Ac, Ap, Ar⟩⟩ (by decide) (by decide)
set_option maxRecDepth 65536 in
set_option maxHeartbeats 40000000 in
theorem con_any (l : Launch) (Z : State) (a0 : Array Value) (hw : ∀ d ∈ tables_1, d.before a0 Z = true) (s : Addr) (occ flt req pb : Nat → Bool) (chg : Nat → Int64) (fls : Int32) (stp : Int64) (h0 : Heap) (n0 : Nat) (z0 : n0 ≤ h0.size) (B : Sit Z h0 n0 s occ flt req pb chg fls stp) :
    Con l Z (⟨"com/example/ohjaus/ohjaus/signal/Situation", "anyFaulty", "()Z"⟩ : MethodName) prog_49_method_5_code 1 (some .boolean) ({ frames := 0, cells := 0, slots := 0, locals := 0 } : Room) #[(.ref s)] h0 n0 (fun v h' => v = some (.int (own_b (decide (0 < fls)))) ∧ Sit Z h' n0 s occ flt req pb chg fls stp) := by
  refine Con.mk (tb := tables_1) (a0 := a0) (Ls := #[.val (.ref s)]) pf_15 hw z0 (fun m => by first | (simp [entryFrame, mkF, argsToLocals, Value.category, maxLocals]; done) | rfl) ?_
  intro p e s0 m below meth c S0 C R
  obtain ⟨ao, af, ac, ap, ar, ⟨g_s, g_ao, g_af, g_ac, g_ap, g_ar⟩, ⟨n_s_ao, n_s_af, n_s_ac, n_s_ap, n_s_ar, n_ao_af, n_ao_ac, n_ao_ap, n_ao_ar, n_af_ac, n_af_ap, n_af_ar, n_ac_ap, n_ac_ar, n_ap_ar⟩, E, Fo, Ff, Fc, Fp, Fr, Fl, Fs, Ao, Af, Ac, Ap, Ar⟩ := id B
  replace R := R.aloadN C (pc' := 1) d15_0 rfl rfl rfl
  replace R := R.getF C (C.w 123 rfl) Fl (pc' := 4) d15_1 rfl
  replace R := R.dia C (b := (decide (0 < fls))) (pc' := 12) d15_4 d15_7 d15_8 d15_11 (h_le _) rfl
  exact R.retZ C d15_12 ⟨rfl, B⟩ (by decide) (by decide)
theorem own_zero_arr {s : State} {args : Array Value} {t : Term} {a : Addr} {cl : Cell} {ty : FieldType} (A : Arr s s.heap a cl ty) (ev : t.eval args s none [] s = some (.ref a)) (hl : (Jvm.Cond.eq (Term.length t) (Term.int 0)).value args s none s [] = some true) : Ary s s.heap a ty 0 (fun _ => .null) := by
  obtain ⟨x, y, f1, f2, -, -⟩ := cmp_v (Or.inl hl)
  have ha : s.arrayAt? a = some cl := A.fin (Vm.Alike.refl _)
  have hz : cl.slots.size = 0 := by
    by_cases hs : cl.slots.size < 2 ^ 31
    · have e1 := len_f (o := none) (idx := []) (first := s) ev ha hs
      have e2 : cl.slots.size.toInt32 = (0 : Int32) := gotT (Cond.eq_ints e1 (Term.int_eval (0))) hl
      have e3 := len_toInt hs
      rw [e2] at e3
      have e4 : (0 : Int32).toInt = 0 := rfl
      omega
    · simp [Term.eval, ev, ha, hs] at f1
  exact ⟨cl, A, hz, by decide, fun i hi => absurd hi (by omega)⟩
def own_after (x y : Int64) : Int64 := if (9223372036854775807 : Int64) - y < x then 9223372036854775807 else x + y
theorem own_andn (x y : Int32) (hy : 0 ≤ y.toInt) : ∃ n : Nat, n ≤ y.toBitVec.toNat ∧ x &&& y = n.toInt32 := by
  refine ⟨(x &&& y).toBitVec.toNat, ?_, ?_⟩
  · have e : (x &&& y).toBitVec = x.toBitVec &&& y.toBitVec := rfl
    rw [e, BitVec.toNat_and]
    exact Nat.and_le_right
  · exact Int32.toBitVec_inj.mp (by
      show _ = BitVec.ofNat 32 _
      simp)
theorem own_and1 (x : Int32) : ∃ n : Nat, n < 2 ∧ x &&& 1 = n.toInt32 := by
  obtain ⟨n, h1, h2⟩ := own_andn x 1 (by decide)
  exact ⟨n, Nat.lt_of_le_of_lt h1 (by decide), h2⟩
theorem own_ti {i : Nat} (h : i < 2) : i.toInt32.toInt = (i : Int) := len_toInt (by omega)
theorem own_t1 : ∀ i : Nat, i < 2 → ((1 : Int32) - i.toInt32).toInt = ((1 - i : Nat) : Int) := by decide
theorem upd_s {α : Type} (f : Nat → α) (i : Nat) (v : α) : updN f i v i = v := by simp [updN]
theorem upd_o {α : Type} (f : Nat → α) (i j : Nat) (v : α) (h : j ≠ i) : updN f i v j = f j := by simp [updN, h]
section Nums
variable {k : Int64} (hk : 0 ≤ k.toInt)
theorem own_mk (hk : 0 ≤ k.toInt) : ((9223372036854775807 : Int64) - k).toInt = 9223372036854775807 - k.toInt := by
  have h1 := Int64.toInt_lt k
  have e0 : (9223372036854775807 : Int64).toInt = 9223372036854775807 := rfl
  rw [Int64.toInt_sub, e0]; exact Int.bmod_eq_of_le (by omega) (by omega)
theorem own_af (x : Int64) (hk : 0 ≤ k.toInt) : (own_after x k).toInt = if 9223372036854775807 - k.toInt < x.toInt then 9223372036854775807 else x.toInt + k.toInt := by
  have h1 := Int64.toInt_lt k
  have h2 := Int64.toInt_lt x
  have h3 := Int64.le_toInt x
  have e0 : (9223372036854775807 : Int64).toInt = 9223372036854775807 := rfl
  unfold own_after
  by_cases q : 9223372036854775807 - k.toInt < x.toInt
  · have q' : (9223372036854775807 : Int64) - k < x := by rw [Int64.lt_iff_toInt_lt, own_mk hk]; exact q
    rw [if_pos q', if_pos q]; rfl
  · have q' : ¬ (9223372036854775807 : Int64) - k < x := by rw [Int64.lt_iff_toInt_lt, own_mk hk]; exact q
    rw [if_neg q', if_neg q, Int64.toInt_add]; exact Int.bmod_eq_of_le (by omega) (by omega)
theorem own_A1 (hk : 0 ≤ k.toInt) : decide ((1 : Int64) < own_after 1 k) = decide (0 < k) := by
  have e1 : (1 : Int64).toInt = 1 := rfl
  have e0 : (0 : Int64).toInt = 0 := rfl
  have h1 := Int64.toInt_lt k
  refine decide_eq_decide.mpr ?_
  rw [Int64.lt_iff_toInt_lt, Int64.lt_iff_toInt_lt, own_af 1 hk, e1, e0]
  split <;> omega
theorem own_A2 (hk : 0 ≤ k.toInt) : decide (own_after 1 k < 1) = false := by
  have e1 : (1 : Int64).toInt = 1 := rfl
  refine decide_eq_false ?_
  rw [Int64.lt_iff_toInt_lt, own_af 1 hk, e1]
  split <;> omega
theorem own_A3 (hk : 0 ≤ k.toInt) : decide (own_after 0 k < 1) = decide (k = 0) := by
  have e1 : (1 : Int64).toInt = 1 := rfl
  have e0 : (0 : Int64).toInt = 0 := rfl
  have h1 := Int64.toInt_lt k
  refine decide_eq_decide.mpr ?_
  rw [Int64.lt_iff_toInt_lt, own_af 0 hk, e1, ← Int64.toInt_inj, e0]
  split <;> omega
theorem own_A4 (hk : 0 ≤ k.toInt) : decide ((1 : Int64) < own_after (-9223372036854775808) k) = false := by
  have e1 : (1 : Int64).toInt = 1 := rfl
  have e0 : (-9223372036854775808 : Int64).toInt = -9223372036854775808 := rfl
  have h1 := Int64.toInt_lt k
  refine decide_eq_false ?_
  rw [Int64.lt_iff_toInt_lt, own_af _ hk, e1, e0]
  split <;> omega
end Nums
theorem own_nlt (x y : Int64) : decide (y ≤ x) = !decide (x < y) := by
  by_cases q : x < y
  · rw [decide_eq_true q, decide_eq_false (Int64.not_le.mpr q)]; rfl
  · rw [decide_eq_false q, decide_eq_true (Int64.not_lt.mp q)]; rfl
def SiD (Z : State) (h : Heap) (n0 : Nat) (s : Addr) (dn : Nat) (pb o f r fo : Bool) (c : Int64) (fls : Int32) (stp : Int64) : Prop := ∃ occ flt req pbf chg, Sit Z h n0 s occ flt req pbf chg fls stp ∧ pbf dn = pb ∧ occ dn = o ∧ flt dn = f ∧ req dn = r ∧ chg dn = c ∧ flt (1 - dn) = fo
set_option maxRecDepth 65536 in
set_option maxHeartbeats 40000000 in
theorem con_after (l : Launch) (Z : State) (a0 : Array Value) (hw : ∀ d ∈ tables_1, d.before a0 Z = true) (q1 q2 : Int64) (h0 : Heap) (n0 : Nat) (z0 : n0 ≤ h0.size) :
    Con l Z (⟨"com/example/ohjaus/ohjaus/time/Steps", "after", "(JJ)J"⟩ : MethodName) prog_57_method_8_code 4 (some .long) ({ frames := 0, cells := 0, slots := 0, locals := 0 } : Room) #[(.long q1), (.long q2)] h0 n0 (fun v h' => v = some (.long (own_after q1 q2)) ∧ h0 = h') := by
  refine Con.mk (tb := tables_1) (a0 := a0) (Ls := #[.val (.long q1), .second, .val (.long q2), .second]) pf_13 hw z0 (fun m => by first | (simp [entryFrame, mkF, argsToLocals, Value.category, maxLocals]; done) | rfl) ?_
  intro p e s m below meth c S0 C R
  replace R := R.lloadN C (pc' := 1) d13_0 rfl rfl
  replace R := R.ldcJ C (v := (9223372036854775807 : Int64)) (C.w 112 rfl) (pc' := 4) d13_1 rfl
  replace R := R.lloadN C (pc' := 5) d13_4 rfl rfl
  replace R := R.lsub C (pc' := 6) d13_5 rfl
  replace R := R.lcmp C (pc' := 7) d13_6 rfl
  by_cases q : (9223372036854775807 : Int64) - q2 < q1
  · skip
    replace R := R.ifN C (pc' := 10) d13_7 (by rw [lcmp_le]; exact decide_eq_false (Int64.not_le.mpr q)) rfl
    replace R := R.ldcJ C (v := (9223372036854775807 : Int64)) (C.w 112 rfl) (pc' := 13) d13_10 rfl
    replace R := R.goto C (pc' := 19) d13_13 rfl
    exact R.retJ C d13_19 ⟨by rw [own_after, if_pos q], rfl⟩ (by decide) (by decide)
  · skip
    replace R := R.ifY C (pc' := 16) d13_7 (by rw [lcmp_le]; exact decide_eq_true (Int64.not_lt.mp q)) rfl
    replace R := R.lloadN C (pc' := 17) d13_16 rfl rfl
    replace R := R.lloadN C (pc' := 18) d13_17 rfl rfl
    replace R := R.ladd C (pc' := 19) d13_18 rfl
    exact R.retJ C d13_19 ⟨by rw [own_after, if_neg q], rfl⟩ (by decide) (by decide)
set_option maxRecDepth 65536 in
set_option maxHeartbeats 40000000 in
theorem con_gap (l : Launch) (Z : State) (a0 : Array Value) (hw : ∀ d ∈ tables_1, d.before a0 Z = true) (s : Addr) (occ flt req pb : Nat → Bool) (chg : Nat → Int64) (fls : Int32) (stp : Int64) (d : Int32) (dn : Nat) (hd : d.toInt = (dn : Int)) (hdn : dn < 2) (k : Int64) (h0 : Heap) (n0 : Nat) (z0 : n0 ≤ h0.size) (B : Sit Z h0 n0 s occ flt req pb chg fls stp) :
    Con l Z (⟨"com/example/ohjaus/ohjaus/signal/Situation", "gapUnder", "(IJ)Z"⟩ : MethodName) prog_49_method_8_code 4 (some .boolean) ({ frames := 1, cells := 0, slots := 0, locals := 17 } : Room) #[(.ref s), (.int d), (.long k)] h0 n0 (fun v h' => v = some (.int (own_b (req dn || flt dn || occ dn || decide (stp < own_after (chg dn) k)))) ∧ Sit Z h' n0 s occ flt req pb chg fls stp) := by
  refine Con.mk (tb := tables_1) (a0 := a0) (Ls := #[.val (.ref s), .val (.int d), .val (.long k), .second]) pf_12 hw z0 (fun m => by first | (simp [entryFrame, mkF, argsToLocals, Value.category, maxLocals]; done) | rfl) ?_
  intro p e s0 m below meth c S0 C R
  obtain ⟨ao, af, ac, ap, ar, ⟨g_s, g_ao, g_af, g_ac, g_ap, g_ar⟩, ⟨n_s_ao, n_s_af, n_s_ac, n_s_ap, n_s_ar, n_ao_af, n_ao_ac, n_ao_ap, n_ao_ar, n_af_ac, n_af_ap, n_af_ar, n_ac_ap, n_ac_ar, n_ap_ar⟩, E, Fo, Ff, Fc, Fp, Fr, Fl, Fs, Ao, Af, Ac, Ap, Ar⟩ := id B
  replace R := R.aloadN C (pc' := 1) d12_0 rfl rfl rfl
  replace R := R.getF C (C.w 89 rfl) Fr (pc' := 4) d12_1 rfl
  replace R := R.iloadN C (pc' := 5) d12_4 rfl rfl
  replace R := R.baload C (v := (.int (own_b (req dn)))) Ar hd hdn rfl (pc' := 6) d12_5 rfl
  cases hr : req dn with
  | true =>
    rw [hr] at R
    replace R := R.ifY C (pc' := 45) d12_6 rfl rfl
    replace R := R.iconst C (pc' := 46) d12_45 (v := (1 : Int32)) rfl rfl
    replace R := R.goto C (pc' := 50) d12_46 rfl
    exact R.retZ (b := true) C d12_50 ⟨rfl, B⟩ (by decide) (by decide)
  | false =>
    rw [hr] at R
    replace R := R.ifN C (pc' := 9) d12_6 rfl rfl
    replace R := R.aloadN C (pc' := 10) d12_9 rfl rfl rfl
    replace R := R.getF C (C.w 37 rfl) Ff (pc' := 13) d12_10 rfl
    replace R := R.iloadN C (pc' := 14) d12_13 rfl rfl
    replace R := R.baload C (v := (.int (own_b (flt dn)))) Af hd hdn rfl (pc' := 15) d12_14 rfl
    cases hf : flt dn with
    | true =>
      rw [hf] at R
      replace R := R.ifY C (pc' := 45) d12_15 rfl rfl
      replace R := R.iconst C (pc' := 46) d12_45 (v := (1 : Int32)) rfl rfl
      replace R := R.goto C (pc' := 50) d12_46 rfl
      exact R.retZ (b := true) C d12_50 ⟨rfl, B⟩ (by decide) (by decide)
    | false =>
      rw [hf] at R
      replace R := R.ifN C (pc' := 18) d12_15 rfl rfl
      replace R := R.aloadN C (pc' := 19) d12_18 rfl rfl rfl
      replace R := R.getF C (C.w 35 rfl) Fo (pc' := 22) d12_19 rfl
      replace R := R.iloadN C (pc' := 23) d12_22 rfl rfl
      replace R := R.baload C (v := (.int (own_b (occ dn)))) Ao hd hdn rfl (pc' := 24) d12_23 rfl
      cases ho : occ dn with
      | true =>
        rw [ho] at R
        replace R := R.ifY C (pc' := 45) d12_24 rfl rfl
        replace R := R.iconst C (pc' := 46) d12_45 (v := (1 : Int32)) rfl rfl
        replace R := R.goto C (pc' := 50) d12_46 rfl
        exact R.retZ (b := true) C d12_50 ⟨rfl, B⟩ (by decide) (by decide)
      | false =>
        rw [ho] at R
        replace R := R.ifN C (pc' := 27) d12_24 rfl rfl
        replace R := R.aloadN C (pc' := 28) d12_27 rfl rfl rfl
        replace R := R.getF C (C.w 96 rfl) Fs (pc' := 31) d12_28 rfl
        replace R := R.aloadN C (pc' := 32) d12_31 rfl rfl rfl
        replace R := R.getF C (C.w 40 rfl) Fc (pc' := 35) d12_32 rfl
        replace R := R.iloadN C (pc' := 36) d12_35 rfl rfl
        replace R := R.laload C (v := (.long (chg dn))) Ac hd hdn rfl (pc' := 37) d12_36 rfl
        replace R := R.lloadN C (pc' := 38) d12_37 rfl rfl
        obtain ⟨_, _, R', rfl, rfl⟩ := R.callS C (y := (⟨"com/example/ohjaus/ohjaus/time/Steps", "after", "(JJ)J"⟩ : MethodName)) (C.w 108 rfl) (C.w 109 rfl) (C.w 110 rfl) (C.w 111 rfl) (by decide) [(.long (chg dn)), (.long k)] [(.long stp)] rfl (con_after l Z a0 hw (chg dn) k h0 n0 z0) 2 (Nat.le_of_eq rfl) (by decide) (by decide) (by decide) (by decide) (lenOf pd_8 rfl) rfl (pc' := 41) d12_38 rfl
        clear R
        replace R := R'.as (st' := [(.long (own_after (chg dn) k)), (.long stp)]) rfl
        clear R'
        replace R := R.lcmp C (pc' := 42) d12_41 rfl
        replace R := R.dia C (b := (decide (stp < own_after (chg dn) k))) (pc' := 50) d12_42 d12_45 d12_46 d12_49 (by rw [lcmp_ge]; exact own_nlt _ _) rfl
        exact R.retZ C d12_50 ⟨rfl, B⟩ (by decide) (by decide)
set_option maxRecDepth 65536 in
set_option maxHeartbeats 40000000 in
theorem con_ovr (l : Launch) (Z : State) (a0 : Array Value) (hw : ∀ d ∈ tables_1, d.before a0 Z = true) (s : Addr) (occ flt req pb : Nat → Bool) (chg : Nat → Int64) (fls : Int32) (stp : Int64) (d : Int32) (dn : Nat) (hd : d.toInt = (dn : Int)) (hdn : dn < 2) (k : Int64) (h0 : Heap) (n0 : Nat) (z0 : n0 ≤ h0.size) (B : Sit Z h0 n0 s occ flt req pb chg fls stp) :
    Con l Z (⟨"com/example/ohjaus/ohjaus/signal/Situation", "occupiedOver", "(IJ)Z"⟩ : MethodName) prog_49_method_9_code 4 (some .boolean) ({ frames := 1, cells := 0, slots := 0, locals := 17 } : Room) #[(.ref s), (.int d), (.long k)] h0 n0 (fun v h' => v = some (.int (own_b (req dn || (!flt dn && occ dn && decide (own_after (chg dn) k < stp))))) ∧ Sit Z h' n0 s occ flt req pb chg fls stp) := by
  refine Con.mk (tb := tables_1) (a0 := a0) (Ls := #[.val (.ref s), .val (.int d), .val (.long k), .second]) pf_14 hw z0 (fun m => by first | (simp [entryFrame, mkF, argsToLocals, Value.category, maxLocals]; done) | rfl) ?_
  intro p e s0 m below meth c S0 C R
  obtain ⟨ao, af, ac, ap, ar, ⟨g_s, g_ao, g_af, g_ac, g_ap, g_ar⟩, ⟨n_s_ao, n_s_af, n_s_ac, n_s_ap, n_s_ar, n_ao_af, n_ao_ac, n_ao_ap, n_ao_ar, n_af_ac, n_af_ap, n_af_ar, n_ac_ap, n_ac_ar, n_ap_ar⟩, E, Fo, Ff, Fc, Fp, Fr, Fl, Fs, Ao, Af, Ac, Ap, Ar⟩ := id B
  replace R := R.aloadN C (pc' := 1) d14_0 rfl rfl rfl
  replace R := R.getF C (C.w 89 rfl) Fr (pc' := 4) d14_1 rfl
  replace R := R.iloadN C (pc' := 5) d14_4 rfl rfl
  replace R := R.baload C (v := (.int (own_b (req dn)))) Ar hd hdn rfl (pc' := 6) d14_5 rfl
  cases hr : req dn with
  | true =>
    rw [hr] at R
    replace R := R.ifY C (pc' := 45) d14_6 rfl rfl
    replace R := R.iconst C (pc' := 46) d14_45 (v := (1 : Int32)) rfl rfl
    replace R := R.goto C (pc' := 50) d14_46 rfl
    exact R.retZ (b := true) C d14_50 ⟨rfl, B⟩ (by decide) (by decide)
  | false =>
    rw [hr] at R
    replace R := R.ifN C (pc' := 9) d14_6 rfl rfl
    replace R := R.aloadN C (pc' := 10) d14_9 rfl rfl rfl
    replace R := R.getF C (C.w 37 rfl) Ff (pc' := 13) d14_10 rfl
    replace R := R.iloadN C (pc' := 14) d14_13 rfl rfl
    replace R := R.baload C (v := (.int (own_b (flt dn)))) Af hd hdn rfl (pc' := 15) d14_14 rfl
    cases hf : flt dn with
    | true =>
      rw [hf] at R
      replace R := R.ifY C (pc' := 49) d14_15 rfl rfl
      replace R := R.iconst C (pc' := 50) d14_49 (v := (0 : Int32)) rfl rfl
      exact R.retZ (b := false) C d14_50 ⟨rfl, B⟩ (by decide) (by decide)
    | false =>
      rw [hf] at R
      replace R := R.ifN C (pc' := 18) d14_15 rfl rfl
      replace R := R.aloadN C (pc' := 19) d14_18 rfl rfl rfl
      replace R := R.getF C (C.w 35 rfl) Fo (pc' := 22) d14_19 rfl
      replace R := R.iloadN C (pc' := 23) d14_22 rfl rfl
      replace R := R.baload C (v := (.int (own_b (occ dn)))) Ao hd hdn rfl (pc' := 24) d14_23 rfl
      cases ho : occ dn with
      | false =>
        rw [ho] at R
        replace R := R.ifY C (pc' := 49) d14_24 rfl rfl
        replace R := R.iconst C (pc' := 50) d14_49 (v := (0 : Int32)) rfl rfl
        exact R.retZ (b := false) C d14_50 ⟨rfl, B⟩ (by decide) (by decide)
      | true =>
        rw [ho] at R
        replace R := R.ifN C (pc' := 27) d14_24 rfl rfl
        replace R := R.aloadN C (pc' := 28) d14_27 rfl rfl rfl
        replace R := R.getF C (C.w 96 rfl) Fs (pc' := 31) d14_28 rfl
        replace R := R.aloadN C (pc' := 32) d14_31 rfl rfl rfl
        replace R := R.getF C (C.w 40 rfl) Fc (pc' := 35) d14_32 rfl
        replace R := R.iloadN C (pc' := 36) d14_35 rfl rfl
        replace R := R.laload C (v := (.long (chg dn))) Ac hd hdn rfl (pc' := 37) d14_36 rfl
        replace R := R.lloadN C (pc' := 38) d14_37 rfl rfl
        obtain ⟨_, _, R', rfl, rfl⟩ := R.callS C (y := (⟨"com/example/ohjaus/ohjaus/time/Steps", "after", "(JJ)J"⟩ : MethodName)) (C.w 108 rfl) (C.w 109 rfl) (C.w 110 rfl) (C.w 111 rfl) (by decide) [(.long (chg dn)), (.long k)] [(.long stp)] rfl (con_after l Z a0 hw (chg dn) k h0 n0 z0) 2 (Nat.le_of_eq rfl) (by decide) (by decide) (by decide) (by decide) (lenOf pd_8 rfl) rfl (pc' := 41) d14_38 rfl
        clear R
        replace R := R'.as (st' := [(.long (own_after (chg dn) k)), (.long stp)]) rfl
        clear R'
        replace R := R.lcmp C (pc' := 42) d14_41 rfl
        replace R := R.dia C (b := (decide (own_after (chg dn) k < stp))) (pc' := 50) d14_42 d14_45 d14_46 d14_49 (by rw [lcmp_le]; exact own_nlt _ _) rfl
        exact R.retZ C d14_50 ⟨rfl, B⟩ (by decide) (by decide)
theorem sid_detect {Z : State} {h : Heap} {n0 : Nat} {s : Addr} {dn : Nat} (hdn : dn < 2) {occ flt req pbf : Nat → Bool} {chg : Nat → Int64} {fls : Int32} {stp : Int64} {ob : Bool}
    (HB : (own_chg occ flt dn ob = false ∧ Sit Z h n0 s occ flt req pbf chg fls stp) ∨ (own_chg occ flt dn ob = true ∧ Sit Z h n0 s (updN occ dn ob) (if flt dn = true then updN flt dn false else flt) (updN req dn (req dn || (ob && pbf dn))) pbf (updN chg dn stp) (if flt dn = true then fls - 1 else fls) stp)) :
    SiD Z h n0 s dn (pbf dn) ob false (req dn || ((flt dn || (occ dn != ob)) && (ob && pbf dn))) (flt (1 - dn)) (if (flt dn || (occ dn != ob)) = true then stp else chg dn) (if flt dn = true then fls - 1 else fls) stp := by
  have hn : 1 - dn ≠ dn := by omega
  rcases HB with ⟨hc, B⟩ | ⟨hc, B⟩
  · unfold own_chg at hc
    have hf : flt dn = false := by revert hc; cases flt dn <;> simp
    have ho : occ dn = ob := by rw [hf] at hc; revert hc; cases occ dn <;> cases ob <;> simp
    rw [hc, hf]
    simp only [Bool.false_and, Bool.or_false, Bool.false_eq_true, if_false]
    exact ⟨occ, flt, req, pbf, chg, B, rfl, ho, hf, rfl, rfl, rfl⟩
  · unfold own_chg at hc
    rw [hc]
    simp only [Bool.true_and, if_true]
    refine ⟨_, _, _, _, _, B, rfl, upd_s _ _ _, ?_, upd_s _ _ _, upd_s _ _ _, ?_⟩
    · split
      · exact upd_s _ _ _
      · rename_i z; simpa using z
    · split
      · exact upd_o _ _ _ _ hn
      · rfl
set_option maxRecDepth 65536 in
set_option maxHeartbeats 40000000 in
theorem con0 (l : Launch) (Z : State) (a0 : Array Value) (hw : ∀ d ∈ tables_1, d.before a0 Z = true) (p1 : Int32) (p2 : Int64) (h0 : Heap) (n0 : Nat) (z0 : n0 ≤ h0.size) (dv : Addr) (S : Sta Z h0 "java/util/ArrayList" "DEFAULTCAPACITY_EMPTY_ELEMENTDATA" "[Ljava/lang/Object;" (.ref dv)) (A : Ary Z h0 dv (.object "java/lang/Object") 0 (fun _ => .null)) :
    Con l Z x code maxLocals ret room_1 #[(.int p1), (.long p2)] h0 n0 (fun v h' => v = some (.int 1)) := by
  refine Con.mk (tb := tables_1) (a0 := a0) (Ls := #[.val (.int p1), .val (.long p2), .second, .unset, .unset, .unset, .unset, .unset, .unset, .unset, .unset, .unset, .unset, .unset, .unset, .unset, .unset, .unset, .unset, .unset, .unset, .unset, .unset, .unset, .unset, .unset, .unset, .unset]) pf_0 hw z0 (fun m => by first | (simp [entryFrame, mkF, argsToLocals, Value.category, maxLocals]; done) | rfl) ?_
  intro p e s0 m below meth c S0 C R
  replace R := R.iloadN C (pc' := 1) at_0 rfl rfl
  replace R := R.iconst C (pc' := 2) at_1 (v := (1 : Int32)) rfl rfl
  replace R := R.iand C (pc' := 3) at_2 rfl
  obtain ⟨dn, hdn, e_t⟩ := own_and1 p1
  rw [e_t] at R
  replace R := R.istoreN C (Ls' := #[.val (.int p1), .val (.long p2), .second, .val (.int dn.toInt32), .unset, .unset, .unset, .unset, .unset, .unset, .unset, .unset, .unset, .unset, .unset, .unset, .unset, .unset, .unset, .unset, .unset, .unset, .unset, .unset, .unset, .unset, .unset, .unset]) (pc' := 4) at_3 rfl rfl
  replace R := R.iconst C (pc' := 5) at_4 (v := (1 : Int32)) rfl rfl
  replace R := R.iloadN C (pc' := 6) at_5 rfl rfl
  replace R := R.isub C (pc' := 7) at_6 rfl
  replace R := R.istore C (Ls' := #[.val (.int p1), .val (.long p2), .second, .val (.int dn.toInt32), .val (.int ((1 : Int32) - dn.toInt32)), .unset, .unset, .unset, .unset, .unset, .unset, .unset, .unset, .unset, .unset, .unset, .unset, .unset, .unset, .unset, .unset, .unset, .unset, .unset, .unset, .unset, .unset, .unset]) (pc' := 9) at_7 rfl rfl
  replace R := R.iloadN C (pc' := 10) at_9 rfl rfl
  replace R := R.iconst C (pc' := 11) at_10 (v := (2 : Int32)) rfl rfl
  replace R := R.iand C (pc' := 12) at_11 rfl
  have hd := own_ti hdn
  have hd1 := own_t1 dn hdn
  obtain ⟨pb, h_pb⟩ := own_bit (p1 &&& (2 : Int32))
  replace R := R.dia C (b := pb) (pc' := 20) at_12 at_15 at_16 at_19 h_pb rfl
  replace R := R.istore C (Ls' := #[.val (.int p1), .val (.long p2), .second, .val (.int dn.toInt32), .val (.int ((1 : Int32) - dn.toInt32)), .val (.int (own_b pb)), .unset, .unset, .unset, .unset, .unset, .unset, .unset, .unset, .unset, .unset, .unset, .unset, .unset, .unset, .unset, .unset, .unset, .unset, .unset, .unset, .unset, .unset]) (pc' := 22) at_20 rfl rfl
  replace R := R.iloadN C (pc' := 23) at_22 rfl rfl
  replace R := R.iconst C (pc' := 24) at_23 (v := (4 : Int32)) rfl rfl
  replace R := R.iand C (pc' := 25) at_24 rfl
  obtain ⟨pd, h_pd⟩ := own_bit (p1 &&& (4 : Int32))
  replace R := R.dia C (b := pd) (pc' := 33) at_25 at_28 at_29 at_32 h_pd rfl
  replace R := R.istore C (Ls' := #[.val (.int p1), .val (.long p2), .second, .val (.int dn.toInt32), .val (.int ((1 : Int32) - dn.toInt32)), .val (.int (own_b pb)), .val (.int (own_b pd)), .unset, .unset, .unset, .unset, .unset, .unset, .unset, .unset, .unset, .unset, .unset, .unset, .unset, .unset, .unset, .unset, .unset, .unset, .unset, .unset, .unset]) (pc' := 35) at_33 rfl rfl
  replace R := R.iloadN C (pc' := 36) at_35 rfl rfl
  replace R := R.bipush C (pc' := 38) at_36 (v := (8 : Int32)) rfl rfl
  replace R := R.iand C (pc' := 39) at_38 rfl
  obtain ⟨pv, h_pv⟩ := own_bit (p1 &&& (8 : Int32))
  replace R := R.dia C (b := pv) (pc' := 47) at_39 at_42 at_43 at_46 h_pv rfl
  replace R := R.istore C (Ls' := #[.val (.int p1), .val (.long p2), .second, .val (.int dn.toInt32), .val (.int ((1 : Int32) - dn.toInt32)), .val (.int (own_b pb)), .val (.int (own_b pd)), .val (.int (own_b pv)), .unset, .unset, .unset, .unset, .unset, .unset, .unset, .unset, .unset, .unset, .unset, .unset, .unset, .unset, .unset, .unset, .unset, .unset, .unset, .unset]) (pc' := 49) at_47 rfl rfl
  replace R := R.iloadN C (pc' := 50) at_49 rfl rfl
  replace R := R.bipush C (pc' := 52) at_50 (v := (16 : Int32)) rfl rfl
  replace R := R.iand C (pc' := 53) at_52 rfl
  obtain ⟨fs, h_fs⟩ := own_bit (p1 &&& (16 : Int32))
  replace R := R.dia C (b := fs) (pc' := 61) at_53 at_56 at_57 at_60 h_fs rfl
  replace R := R.istore C (Ls' := #[.val (.int p1), .val (.long p2), .second, .val (.int dn.toInt32), .val (.int ((1 : Int32) - dn.toInt32)), .val (.int (own_b pb)), .val (.int (own_b pd)), .val (.int (own_b pv)), .val (.int (own_b fs)), .unset, .unset, .unset, .unset, .unset, .unset, .unset, .unset, .unset, .unset, .unset, .unset, .unset, .unset, .unset, .unset, .unset, .unset, .unset]) (pc' := 63) at_61 rfl rfl
  replace R := R.iloadN C (pc' := 64) at_63 rfl rfl
  replace R := R.bipush C (pc' := 66) at_64 (v := (32 : Int32)) rfl rfl
  replace R := R.iand C (pc' := 67) at_66 rfl
  obtain ⟨fo, h_fo⟩ := own_bit (p1 &&& (32 : Int32))
  replace R := R.dia C (b := fo) (pc' := 75) at_67 at_70 at_71 at_74 h_fo rfl
  replace R := R.istore C (Ls' := #[.val (.int p1), .val (.long p2), .second, .val (.int dn.toInt32), .val (.int ((1 : Int32) - dn.toInt32)), .val (.int (own_b pb)), .val (.int (own_b pd)), .val (.int (own_b pv)), .val (.int (own_b fs)), .val (.int (own_b fo)), .unset, .unset, .unset, .unset, .unset, .unset, .unset, .unset, .unset, .unset, .unset, .unset, .unset, .unset, .unset, .unset, .unset, .unset]) (pc' := 77) at_75 rfl rfl
  replace R := R.iloadN C (pc' := 78) at_77 rfl rfl
  replace R := R.bipush C (pc' := 80) at_78 (v := (64 : Int32)) rfl rfl
  replace R := R.iand C (pc' := 81) at_80 rfl
  obtain ⟨sv, h_sv⟩ := own_bit (p1 &&& (64 : Int32))
  replace R := R.dia C (b := sv) (pc' := 89) at_81 at_84 at_85 at_88 h_sv rfl
  replace R := R.istore C (Ls' := #[.val (.int p1), .val (.long p2), .second, .val (.int dn.toInt32), .val (.int ((1 : Int32) - dn.toInt32)), .val (.int (own_b pb)), .val (.int (own_b pd)), .val (.int (own_b pv)), .val (.int (own_b fs)), .val (.int (own_b fo)), .val (.int (own_b sv)), .unset, .unset, .unset, .unset, .unset, .unset, .unset, .unset, .unset, .unset, .unset, .unset, .unset, .unset, .unset, .unset, .unset]) (pc' := 91) at_89 rfl rfl
  replace R := R.iloadN C (pc' := 92) at_91 rfl rfl
  replace R := R.sipush C (pc' := 95) at_92 (v := (128 : Int32)) rfl rfl
  replace R := R.iand C (pc' := 96) at_95 rfl
  obtain ⟨oc, h_oc⟩ := own_bit (p1 &&& (128 : Int32))
  replace R := R.dia C (b := oc) (pc' := 104) at_96 at_99 at_100 at_103 h_oc rfl
  replace R := R.istore C (Ls' := #[.val (.int p1), .val (.long p2), .second, .val (.int dn.toInt32), .val (.int ((1 : Int32) - dn.toInt32)), .val (.int (own_b pb)), .val (.int (own_b pd)), .val (.int (own_b pv)), .val (.int (own_b fs)), .val (.int (own_b fo)), .val (.int (own_b sv)), .val (.int (own_b oc)), .unset, .unset, .unset, .unset, .unset, .unset, .unset, .unset, .unset, .unset, .unset, .unset, .unset, .unset, .unset, .unset]) (pc' := 106) at_104 rfl rfl
  replace R := R.lloadN C (pc' := 107) at_106 rfl rfl
  replace R := R.ldcJ C (v := (9223372036854775807 : Int64)) (C.w 0 rfl) (pc' := 110) at_107 rfl
  replace R := R.land C (pc' := 111) at_110 rfl
  obtain ⟨k, e_k⟩ : ∃ z, z = (p2 &&& (9223372036854775807 : Int64)) := ⟨_, rfl⟩
  have hk : 0 ≤ k.toInt := by rw [e_k]; exact (c_andSL p2 _).2.2 (by decide)
  rw [← e_k] at R
  replace R := R.lstore C (Ls' := #[.val (.int p1), .val (.long p2), .second, .val (.int dn.toInt32), .val (.int ((1 : Int32) - dn.toInt32)), .val (.int (own_b pb)), .val (.int (own_b pd)), .val (.int (own_b pv)), .val (.int (own_b fs)), .val (.int (own_b fo)), .val (.int (own_b sv)), .val (.int (own_b oc)), .val (.long k), .second, .unset, .unset, .unset, .unset, .unset, .unset, .unset, .unset, .unset, .unset, .unset, .unset, .unset, .unset]) (pc' := 113) at_111 rfl rfl
  obtain ⟨h1, R', E1, Eq, D1⟩ := R.newO C (C.w 1 rfl) (C.w 2 rfl) (C.w 3 rfl) at_113 (by decide) (by decide) (pc' := 116) rfl
  replace R := R'
  clear R'
  obtain ⟨q, g_q⟩ : ∃ z, z = h0.size := ⟨_, rfl⟩
  rw [← g_q] at R Eq D1
  have ne_dv_q : dv ≠ q := by rw [g_q]; exact Nat.ne_of_lt A.lt
  replace S := S.ext E1
  replace A := A.ext E1
  have LQ : Lst Z h1 n0 q 0 0 .null := ⟨by rw [g_q]; exact z0, Eq, D1 (Or.inl (C.w 23 rfl)) (ty := .int) (by decide), D1 (Or.inl (C.w 26 rfl)) (ty := (.array (.object "java/lang/Object"))) (by decide), D1 (Or.inl (C.w 88 rfl)) (ty := .int) (by decide)⟩
  replace R := R.dup C (pc' := 117) at_116 rfl rfl
  obtain ⟨_, h2, R', rfl, K2, L2⟩ := R.callI C (y := (⟨"java/util/ArrayList", "<init>", "()V"⟩ : MethodName)) rfl (C.w 4 rfl) (C.w 5 rfl) (C.w 3 rfl) (C.w 6 rfl) (by decide) q [] [(.ref q)] rfl (con_ali l Z a0 hw q dv h1 n0 R.size LQ S) 1 (Nat.le_of_eq rfl) (by decide) (by decide) (by decide) (by decide) (lenOf pd_0 rfl) rfl (pc' := 120) at_117 rfl
  clear R
  replace R := R'.as (st' := [(.ref q)]) rfl
  clear R'
  replace S := sta_keep1 S Eq K2
  replace A := A.keep K2 (ninS ne_dv_q nin0)
  replace R := R.astore C (Ls' := #[.val (.int p1), .val (.long p2), .second, .val (.int dn.toInt32), .val (.int ((1 : Int32) - dn.toInt32)), .val (.int (own_b pb)), .val (.int (own_b pd)), .val (.int (own_b pv)), .val (.int (own_b fs)), .val (.int (own_b fo)), .val (.int (own_b sv)), .val (.int (own_b oc)), .val (.long k), .second, .val (.ref q), .unset, .unset, .unset, .unset, .unset, .unset, .unset, .unset, .unset, .unset, .unset, .unset, .unset]) (pc' := 122) at_120 rfl rfl rfl
  replace R := R.iload C (pc' := 124) at_122 rfl rfl
  have gq := L2.1
  replace R := R.more (k' := 1) (n' := 3) (by decide) (by decide)
  obtain ⟨h9, s, R', B⟩ : ∃ h9 s, Rch p l e room_1 s0 m #[(.int p1), (.long p2)] below meth c S0 n0 12 50 h9 153 #[.val (.int p1), .val (.long p2), .second, .val (.int dn.toInt32), .val (.int ((1 : Int32) - dn.toInt32)), .val (.int (own_b pb)), .val (.int (own_b pd)), .val (.int (own_b pv)), .val (.int (own_b fs)), .val (.int (own_b fo)), .val (.int (own_b sv)), .val (.int (own_b oc)), .val (.long k), .second, .val (.ref q), .unset, .unset, .unset, .unset, .unset, .unset, .unset, .unset, .unset, .unset, .unset, .unset, .unset] [.ref s] ∧ Sit Z h9 n0 s (fun _ => false) (fun _ => false) (fun _ => false) (fun i => pb && decide (i = dn)) (fun _ => -9223372036854775808) 0 0 := by
    cases pb with
    | false =>
      replace R := R.ifY C (pc' := 142) at_124 rfl rfl
      have Eq9 := L2.2.1
      obtain ⟨h7, R', E7, Es, D7⟩ := R.newO C (C.w 27 rfl) (C.w 28 rfl) (C.w 29 rfl) at_142 (by decide) (by decide) (pc' := 145) rfl
      replace R := R'
      clear R'
      obtain ⟨s, g_s⟩ : ∃ z, z = h2.size := ⟨_, rfl⟩
      rw [← g_s] at R Es D7
      have ne_q_s : q ≠ s := by rw [g_s]; exact Nat.ne_of_lt Eq9.lt
      have gs : n0 ≤ s := by rw [g_s]; exact Nat.le_trans L2.1 (Nat.le_of_lt Eq9.lt)
      replace Eq9 := Eq9.ext E7
      obtain ⟨gq9, Eq8, Fm, Fe, Fz⟩ := L2
      have L7 : Lst Z h7 n0 q _ _ _ := ⟨gq9, Eq8.ext E7, Fm.ext E7, Fe.ext E7, Fz.ext E7⟩
      have Fo := D7 (Or.inr (C.w 36 rfl)) (ty := (.array .boolean)) (by decide)
      have Ff := D7 (Or.inr (C.w 38 rfl)) (ty := (.array .boolean)) (by decide)
      have Fc := D7 (Or.inr (C.w 41 rfl)) (ty := (.array .long)) (by decide)
      have Fg := D7 (Or.inl (C.w 48 rfl)) (ty := (.array .boolean)) (by decide)
      have Fp := D7 (Or.inr (C.w 50 rfl)) (ty := (.array .boolean)) (by decide)
      have Fr := D7 (Or.inr (C.w 90 rfl)) (ty := (.array .boolean)) (by decide)
      have Fl := D7 (Or.inl (C.w 124 rfl)) (ty := .int) (by decide)
      have Fs := D7 (Or.inl (C.w 97 rfl)) (ty := .long) (by decide)
      replace R := R.dup C (pc' := 146) at_145 rfl rfl
      replace R := R.iconst C (pc' := 147) at_146 (v := (2 : Int32)) rfl rfl
      replace R := R.aload C (pc' := 149) at_147 rfl rfl rfl
      replace R := R.iconst C (pc' := 150) at_149 (v := (0 : Int32)) rfl rfl
      obtain ⟨_, h8, R', rfl, B⟩ := R.callI C (y := (⟨"com/example/ohjaus/ohjaus/signal/Situation", "<init>", "(ILjava/util/List;I)V"⟩ : MethodName)) rfl (C.w 30 rfl) (C.w 31 rfl) (C.w 29 rfl) (C.w 32 rfl) (by decide) s [(.int (2 : Int32)), (.ref q), (.int (0 : Int32))] [(.ref s)] rfl (con_si0 l Z a0 hw s q _ _ h7 n0 R.size gs ne_q_s Es Fo Ff Fc Fg Fp Fr Fl Fs L7) 1 (Nat.le_of_eq rfl) (by decide) (by decide) (by decide) (by decide) (lenOf pd_1 rfl) rfl (pc' := 153) at_150 rfl
      clear R
      replace R := R'.as (st' := [(.ref s)]) rfl
      clear R'
      replace R := R.more (k' := 12) (n' := 50) (by decide) (by decide)
      exact ⟨h8, s, R, B⟩
    | true =>
      replace R := R.ifN C (pc' := 127) at_124 rfl rfl
      replace R := R.aload C (pc' := 129) at_127 rfl rfl rfl
      have Eq3 := L2.2.1
      obtain ⟨h3, R', E3, Eb, D3⟩ := R.newO C (C.w 125 rfl) (C.w 126 rfl) (C.w 127 rfl) at_129 (by decide) (by decide) (pc' := 132) rfl
      replace R := R'
      clear R'
      obtain ⟨b, g_b⟩ : ∃ z, z = h2.size := ⟨_, rfl⟩
      rw [← g_b] at R Eb D3
      have ne_dv_b : dv ≠ b := by rw [g_b]; exact Nat.ne_of_lt A.lt
      have ne_q_b : q ≠ b := by rw [g_b]; exact Nat.ne_of_lt Eq3.lt
      have gb : n0 ≤ b := by rw [g_b]; exact Nat.le_trans gq (Nat.le_of_lt Eq3.lt)
      replace S := S.ext E3
      replace A := A.ext E3
      replace Eq3 := Eq3.ext E3
      obtain ⟨-, Eq4, Fm4, Fe4, Fz4⟩ := L2
      have L3 : Lst Z h3 n0 q 0 0 (.ref dv) := ⟨gq, Eq4.ext E3, Fm4.ext E3, Fe4.ext E3, Fz4.ext E3⟩
      have Fd := D3 (Or.inr (C.w 133 rfl)) (ty := .int) (by decide)
      have Fg := D3 (Or.inr (C.w 135 rfl)) (ty := .int) (by decide)
      replace R := R.dup C (pc' := 133) at_132 rfl rfl
      replace R := R.iloadN C (pc' := 134) at_133 rfl rfl
      replace R := R.iconst C (pc' := 135) at_134 (v := (0 : Int32)) rfl rfl
      obtain ⟨_, h4, R', rfl, K4, Eb4, Fd4⟩ := R.callI C (y := (⟨"com/example/ohjaus/ohjaus/signal/PushButton", "<init>", "(II)V"⟩ : MethodName)) rfl (C.w 128 rfl) (C.w 129 rfl) (C.w 127 rfl) (C.w 130 rfl) (by decide) b [(.int dn.toInt32), (.int (0 : Int32))] [(.ref b), (.ref q)] rfl (con_pbi l Z a0 hw b dn.toInt32 0 h3 n0 R.size gb Eb Fd Fg) 2 (Nat.le_of_eq rfl) (by decide) (by decide) (by decide) (by decide) (lenOf pd_9 rfl) rfl (pc' := 138) at_135 rfl
      clear R
      replace R := R'.as (st' := [(.ref b), (.ref q)]) rfl
      clear R'
      obtain ⟨-, Eq5, Fm5, Fe5, Fz5⟩ := L3
      have L4 : Lst Z h4 n0 q 0 0 (.ref dv) := ⟨gq, Eq5.keep K4, Fm5.keep K4 (ninS ne_q_b nin0), Fe5.keep K4 (ninS ne_q_b nin0), Fz5.keep K4 (ninS ne_q_b nin0)⟩
      replace S := sta_keep1 S Eb K4
      replace A := A.keep K4 (ninS ne_dv_b nin0)
      have Eq6 := L4.2.1
      obtain ⟨_, h5, R', rfl, K5, aa, z_aa, L5, Aa⟩ := R.callV C (y := (⟨"java/util/ArrayList", "add", "(Ljava/lang/Object;)Z"⟩ : MethodName)) Eq6 (C.w 136 rfl) (C.w 137 rfl) (C.w 139 rfl) (C.w 138 rfl) (C.w 3 rfl) (C.w 140 rfl) (by decide) [(.ref b)] [] rfl (con_a1 l Z a0 hw q dv _ b h4 n0 R.size L4 S A Eb4 ne_dv_q) 0 (Nat.le_of_eq rfl) (by decide) (by decide) (by decide) (by decide) (lenOf pd_10 rfl) rfl (pc' := 141) at_138 rfl
      clear R
      replace R := R'.as (st' := [(.int (own_b true))]) rfl
      clear R'
      have n_b_q : b ≠ q := (Ne.symm ne_q_b)
      replace Eb := Eb4.keep K5
      replace Fd := Fd4.keep K5 (ninS n_b_q nin0)
      replace R := R.pop C (pc' := 142) at_141 rfl rfl
      have Eq9 := L5.2.1
      obtain ⟨h7, R', E7, Es, D7⟩ := R.newO C (C.w 27 rfl) (C.w 28 rfl) (C.w 29 rfl) at_142 (by decide) (by decide) (pc' := 145) rfl
      replace R := R'
      clear R'
      obtain ⟨s, g_s⟩ : ∃ z, z = h5.size := ⟨_, rfl⟩
      rw [← g_s] at R Es D7
      have ne_aa_s : aa ≠ s := by rw [g_s]; exact Nat.ne_of_lt Aa.lt
      have ne_b_s : b ≠ s := by rw [g_s]; exact Nat.ne_of_lt Eb.lt
      have ne_q_s : q ≠ s := by rw [g_s]; exact Nat.ne_of_lt Eq9.lt
      have gs : n0 ≤ s := by rw [g_s]; exact Nat.le_trans L5.1 (Nat.le_of_lt Eq9.lt)
      replace Aa := Aa.ext E7
      replace Eb := Eb.ext E7
      replace Fd := Fd.ext E7
      replace Eq9 := Eq9.ext E7
      obtain ⟨gq9, Eq8, Fm, Fe, Fz⟩ := L5
      have L7 : Lst Z h7 n0 q _ _ _ := ⟨gq9, Eq8.ext E7, Fm.ext E7, Fe.ext E7, Fz.ext E7⟩
      have Fo := D7 (Or.inr (C.w 36 rfl)) (ty := (.array .boolean)) (by decide)
      have Ff := D7 (Or.inr (C.w 38 rfl)) (ty := (.array .boolean)) (by decide)
      have Fc := D7 (Or.inr (C.w 41 rfl)) (ty := (.array .long)) (by decide)
      have Fg := D7 (Or.inl (C.w 48 rfl)) (ty := (.array .boolean)) (by decide)
      have Fp := D7 (Or.inr (C.w 50 rfl)) (ty := (.array .boolean)) (by decide)
      have Fr := D7 (Or.inr (C.w 90 rfl)) (ty := (.array .boolean)) (by decide)
      have Fl := D7 (Or.inl (C.w 124 rfl)) (ty := .int) (by decide)
      have Fs := D7 (Or.inl (C.w 97 rfl)) (ty := .long) (by decide)
      replace R := R.dup C (pc' := 146) at_145 rfl rfl
      replace R := R.iconst C (pc' := 147) at_146 (v := (2 : Int32)) rfl rfl
      replace R := R.aload C (pc' := 149) at_147 rfl rfl rfl
      replace R := R.iconst C (pc' := 150) at_149 (v := (0 : Int32)) rfl rfl
      obtain ⟨_, h8, R', rfl, B⟩ := R.callI C (y := (⟨"com/example/ohjaus/ohjaus/signal/Situation", "<init>", "(ILjava/util/List;I)V"⟩ : MethodName)) rfl (C.w 30 rfl) (C.w 31 rfl) (C.w 29 rfl) (C.w 32 rfl) (by decide) s [(.int (2 : Int32)), (.ref q), (.int (0 : Int32))] [(.ref s)] rfl (con_si1 l Z a0 hw s q _ aa b _ dn.toInt32 dn h7 n0 R.size gs ne_q_s Es Fo Ff Fc Fg Fp Fr Fl Fs L7 ne_aa_s ne_b_s Aa rfl Eb Fd hd hdn) 1 (Nat.le_of_eq rfl) (by decide) (by decide) (by decide) (by decide) (lenOf pd_1 rfl) rfl (pc' := 153) at_150 rfl
      clear R
      replace R := R'.as (st' := [(.ref s)]) rfl
      clear R'
      replace R := R.more (k' := 12) (n' := 50) (by decide) (by decide)
      have e : updN (fun _ => false) dn true = fun i => true && decide (i = dn) := by funext i; simp only [updN, Bool.true_and]; by_cases z : i = dn <;> simp [z]
      rw [e] at B
      exact ⟨h8, s, R, B⟩
  replace R := R'
  clear R'
  have T : SiD Z h9 n0 s dn pb false false false false (-9223372036854775808) 0 0 := ⟨_, _, _, _, _, B, by simp, rfl, rfl, rfl, rfl, rfl⟩
  clear B
  replace R := R.astore C (Ls' := #[.val (.int p1), .val (.long p2), .second, .val (.int dn.toInt32), .val (.int ((1 : Int32) - dn.toInt32)), .val (.int (own_b pb)), .val (.int (own_b pd)), .val (.int (own_b pv)), .val (.int (own_b fs)), .val (.int (own_b fo)), .val (.int (own_b sv)), .val (.int (own_b oc)), .val (.long k), .second, .val (.ref q), .val (.ref s), .unset, .unset, .unset, .unset, .unset, .unset, .unset, .unset, .unset, .unset, .unset, .unset]) (pc' := 155) at_153 rfl rfl rfl
  replace R := R.iload C (pc' := 157) at_155 rfl rfl
  obtain ⟨hs1, R', T'⟩ : ∃ h', Rch p l e room_1 s0 m #[(.int p1), (.long p2)] below meth c S0 n0 12 50 h' 168 #[.val (.int p1), .val (.long p2), .second, .val (.int dn.toInt32), .val (.int ((1 : Int32) - dn.toInt32)), .val (.int (own_b pb)), .val (.int (own_b pd)), .val (.int (own_b pv)), .val (.int (own_b fs)), .val (.int (own_b fo)), .val (.int (own_b sv)), .val (.int (own_b oc)), .val (.long k), .second, .val (.ref q), .val (.ref s), .unset, .unset, .unset, .unset, .unset, .unset, .unset, .unset, .unset, .unset, .unset, .unset] [] ∧ SiD Z h' n0 s dn pb (pd && pv) false ((pd && pv) && pb) false (if (pd && pv) = true then 0 else -9223372036854775808) 0 0 := by
    cases pd with
    | false =>
      replace R := R.ifY C (pc' := 168) at_157 rfl rfl
      exact ⟨_, R, by simpa using T⟩
    | true =>
      replace R := R.ifN C (pc' := 160) at_157 rfl rfl
      replace R := R.aload C (pc' := 162) at_160 rfl rfl rfl
      replace R := R.iloadN C (pc' := 163) at_162 rfl rfl
      replace R := R.iload C (pc' := 165) at_163 rfl rfl
      obtain ⟨occ, flt, req, pbf, chg, B, y1, y2, y3, y4, y5, y6⟩ := T
      have E := B.choose_spec.choose_spec.choose_spec.choose_spec.choose_spec.2.2.1
      obtain ⟨_, h10, R', rfl, HB⟩ := R.callV C (y := (⟨"com/example/ohjaus/ohjaus/signal/Situation", "detect", "(IZ)V"⟩ : MethodName)) E (C.w 98 rfl) (C.w 99 rfl) (C.w 101 rfl) (C.w 100 rfl) (C.w 29 rfl) (C.w 102 rfl) (by decide) [(.int dn.toInt32), (.int (own_b pv))] [] rfl (con_detect l Z a0 hw s occ flt req pbf chg 0 0 dn.toInt32 dn hd hdn pv h9 n0 R.size B) 0 (Nat.le_of_eq rfl) (by decide) (by decide) (by decide) (by decide) (lenOf pd_6 rfl) rfl (pc' := 168) at_165 rfl
      clear R
      replace R := R'.as (st' := []) rfl
      clear R'
      have T1 := sid_detect hdn HB
      rw [y1, y2, y3, y4, y5, y6] at T1
      refine ⟨h10, R.more (by decide) (by decide), ?_⟩
      cases pv <;> simpa using T1
  replace R := R'
  replace T := T'
  clear R' T'
  obtain ⟨rb, h_rb⟩ : ∃ z, z = (pd && pv) := ⟨_, rfl⟩
  rw [← h_rb] at T
  replace R := R.iload C (pc' := 170) at_168 rfl rfl
  obtain ⟨hs2, R', T'⟩ : ∃ h', Rch p l e room_1 s0 m #[(.int p1), (.long p2)] below meth c S0 n0 12 50 h' 179 #[.val (.int p1), .val (.long p2), .second, .val (.int dn.toInt32), .val (.int ((1 : Int32) - dn.toInt32)), .val (.int (own_b pb)), .val (.int (own_b pd)), .val (.int (own_b pv)), .val (.int (own_b fs)), .val (.int (own_b fo)), .val (.int (own_b sv)), .val (.int (own_b oc)), .val (.long k), .second, .val (.ref q), .val (.ref s), .unset, .unset, .unset, .unset, .unset, .unset, .unset, .unset, .unset, .unset, .unset, .unset] [] ∧ SiD Z h' n0 s dn pb rb fs (rb && pb) false (if rb = true then 0 else -9223372036854775808) (if fs = true then 1 else 0) 0 := by
    cases fs with
    | false =>
      replace R := R.ifY C (pc' := 179) at_170 rfl rfl
      exact ⟨_, R, T⟩
    | true =>
      replace R := R.ifN C (pc' := 173) at_170 rfl rfl
      replace R := R.aload C (pc' := 175) at_173 rfl rfl rfl
      replace R := R.iloadN C (pc' := 176) at_175 rfl rfl
      obtain ⟨occ, flt, req, pbf, chg, B, y1, y2, y3, y4, y5, y6⟩ := T
      have E := B.choose_spec.choose_spec.choose_spec.choose_spec.choose_spec.2.2.1
      obtain ⟨_, h10, R', rfl, B1⟩ := R.callV C (y := (⟨"com/example/ohjaus/ohjaus/signal/Situation", "fault", "(I)V"⟩ : MethodName)) E (C.w 191 rfl) (C.w 192 rfl) (C.w 194 rfl) (C.w 193 rfl) (C.w 29 rfl) (C.w 195 rfl) (by decide) [(.int dn.toInt32)] [] rfl (con_fault l Z a0 hw s occ flt req pbf chg 0 0 dn.toInt32 dn hd hdn hs1 n0 R.size B) 0 (Nat.le_of_eq rfl) (by decide) (by decide) (by decide) (by decide) (lenOf pd_17 rfl) rfl (pc' := 179) at_176 rfl
      clear R
      replace R := R'.as (st' := []) rfl
      clear R'
      have hn : 1 - dn ≠ dn := by omega
      rw [if_neg (by rw [y3]; decide), if_neg (by rw [y3]; decide)] at B1
      exact ⟨h10, R.more (by decide) (by decide), _, _, _, _, _, B1, y1, y2, upd_s _ _ _, y4, y5, (upd_o _ _ _ _ hn).trans y6⟩
  replace R := R'
  replace T := T'
  clear R' T'
  replace R := R.iload C (pc' := 181) at_179 rfl rfl
  obtain ⟨hs3, R', T'⟩ : ∃ h', Rch p l e room_1 s0 m #[(.int p1), (.long p2)] below meth c S0 n0 12 50 h' 191 #[.val (.int p1), .val (.long p2), .second, .val (.int dn.toInt32), .val (.int ((1 : Int32) - dn.toInt32)), .val (.int (own_b pb)), .val (.int (own_b pd)), .val (.int (own_b pv)), .val (.int (own_b fs)), .val (.int (own_b fo)), .val (.int (own_b sv)), .val (.int (own_b oc)), .val (.long k), .second, .val (.ref q), .val (.ref s), .unset, .unset, .unset, .unset, .unset, .unset, .unset, .unset, .unset, .unset, .unset, .unset] [] ∧ SiD Z h' n0 s dn pb rb fs (rb && pb) fo (if rb = true then 0 else -9223372036854775808) ((if fs = true then 1 else 0) + (if fo = true then 1 else 0)) 0 := by
    cases fo with
    | false =>
      replace R := R.ifY C (pc' := 191) at_181 rfl rfl
      exact ⟨_, R, by cases fs <;> exact T⟩
    | true =>
      replace R := R.ifN C (pc' := 184) at_181 rfl rfl
      replace R := R.aload C (pc' := 186) at_184 rfl rfl rfl
      replace R := R.iload C (pc' := 188) at_186 rfl rfl
      obtain ⟨occ, flt, req, pbf, chg, B, y1, y2, y3, y4, y5, y6⟩ := T
      have E := B.choose_spec.choose_spec.choose_spec.choose_spec.choose_spec.2.2.1
      obtain ⟨_, h10, R', rfl, B1⟩ := R.callV C (y := (⟨"com/example/ohjaus/ohjaus/signal/Situation", "fault", "(I)V"⟩ : MethodName)) E (C.w 191 rfl) (C.w 192 rfl) (C.w 194 rfl) (C.w 193 rfl) (C.w 29 rfl) (C.w 195 rfl) (by decide) [(.int ((1 : Int32) - dn.toInt32))] [] rfl (con_fault l Z a0 hw s occ flt req pbf chg _ 0 ((1 : Int32) - dn.toInt32) (1 - dn) hd1 (by omega) hs2 n0 R.size B) 0 (Nat.le_of_eq rfl) (by decide) (by decide) (by decide) (by decide) (lenOf pd_17 rfl) rfl (pc' := 191) at_188 rfl
      clear R
      replace R := R'.as (st' := []) rfl
      clear R'
      have hn : dn ≠ 1 - dn := by omega
      rw [if_neg (by rw [y6]; decide), if_neg (by rw [y6]; decide)] at B1
      refine ⟨h10, R.more (by decide) (by decide), _, _, _, _, _, ?_, y1, y2, (upd_o _ _ _ _ hn).trans y3, y4, y5, upd_s _ _ _⟩
      cases fs <;> exact B1
  replace R := R'
  replace T := T'
  clear R' T'
  replace R := R.iload C (pc' := 193) at_191 rfl rfl
  obtain ⟨hs4, R', T'⟩ : ∃ h', Rch p l e room_1 s0 m #[(.int p1), (.long p2)] below meth c S0 n0 12 50 h' 202 #[.val (.int p1), .val (.long p2), .second, .val (.int dn.toInt32), .val (.int ((1 : Int32) - dn.toInt32)), .val (.int (own_b pb)), .val (.int (own_b pd)), .val (.int (own_b pv)), .val (.int (own_b fs)), .val (.int (own_b fo)), .val (.int (own_b sv)), .val (.int (own_b oc)), .val (.long k), .second, .val (.ref q), .val (.ref s), .unset, .unset, .unset, .unset, .unset, .unset, .unset, .unset, .unset, .unset, .unset, .unset] [] ∧ SiD Z h' n0 s dn pb rb fs ((rb && pb) && !sv) fo (if rb = true then 0 else -9223372036854775808) ((if fs = true then 1 else 0) + (if fo = true then 1 else 0)) 0 := by
    cases sv with
    | false =>
      replace R := R.ifY C (pc' := 202) at_193 rfl rfl
      exact ⟨_, R, by simpa using T⟩
    | true =>
      replace R := R.ifN C (pc' := 196) at_193 rfl rfl
      replace R := R.aload C (pc' := 198) at_196 rfl rfl rfl
      replace R := R.iloadN C (pc' := 199) at_198 rfl rfl
      obtain ⟨occ, flt, req, pbf, chg, B, y1, y2, y3, y4, y5, y6⟩ := T
      have E := B.choose_spec.choose_spec.choose_spec.choose_spec.choose_spec.2.2.1
      obtain ⟨_, h10, R', rfl, B1⟩ := R.callV C (y := (⟨"com/example/ohjaus/ohjaus/signal/Situation", "serve", "(I)V"⟩ : MethodName)) E (C.w 186 rfl) (C.w 187 rfl) (C.w 189 rfl) (C.w 188 rfl) (C.w 29 rfl) (C.w 190 rfl) (by decide) [(.int dn.toInt32)] [] rfl (con_serve l Z a0 hw s occ flt req pbf chg _ 0 dn.toInt32 dn hd hdn hs3 n0 R.size B) 0 (Nat.le_of_eq rfl) (by decide) (by decide) (by decide) (by decide) (lenOf pd_17 rfl) rfl (pc' := 202) at_199 rfl
      clear R
      replace R := R'.as (st' := []) rfl
      clear R'
      exact ⟨h10, R.more (by decide) (by decide), _, _, _, _, _, B1, y1, y2, y3, by rw [upd_s]; simp, y5, y6⟩
  replace R := R'
  replace T := T'
  clear R' T'
  obtain ⟨occ, flt, req, pbf, chg, B, y1, y2, y3, y4, y5, y6⟩ := T
  have E := B.choose_spec.choose_spec.choose_spec.choose_spec.choose_spec.2.2.1
  replace R := R.aload C (pc' := 204) at_202 rfl rfl rfl
  obtain ⟨_, hs5, R', rfl, B5⟩ := R.callV C (y := (⟨"com/example/ohjaus/ohjaus/signal/Situation", "next", "()V"⟩ : MethodName)) E (C.w 91 rfl) (C.w 92 rfl) (C.w 94 rfl) (C.w 93 rfl) (C.w 29 rfl) (C.w 95 rfl) (by decide) [] [] rfl (con_next l Z a0 hw s occ flt req pbf chg _ 0 hs4 n0 R.size B) 0 (Nat.le_of_eq rfl) (by decide) (by decide) (by decide) (by decide) (lenOf pd_0 rfl) rfl (pc' := 207) at_204 rfl
  clear R
  replace R := R'.as (st' := []) rfl
  clear R'
  clear B E
  have E := B5.choose_spec.choose_spec.choose_spec.choose_spec.choose_spec.2.2.1
  replace R := R.aload C (pc' := 209) at_207 rfl rfl rfl
  replace R := R.iloadN C (pc' := 210) at_209 rfl rfl
  replace R := R.iload C (pc' := 212) at_210 rfl rfl
  obtain ⟨_, hs6, R', rfl, HB⟩ := R.callV C (y := (⟨"com/example/ohjaus/ohjaus/signal/Situation", "detect", "(IZ)V"⟩ : MethodName)) E (C.w 98 rfl) (C.w 99 rfl) (C.w 101 rfl) (C.w 100 rfl) (C.w 29 rfl) (C.w 102 rfl) (by decide) [(.int dn.toInt32), (.int (own_b oc))] [] rfl (con_detect l Z a0 hw s occ flt req pbf chg _ (0 + 1) dn.toInt32 dn hd hdn oc hs5 n0 R.size B5) 0 (Nat.le_of_eq rfl) (by decide) (by decide) (by decide) (by decide) (lenOf pd_6 rfl) rfl (pc' := 215) at_212 rfl
  clear R
  replace R := R'.as (st' := []) rfl
  clear R'
  have T6 := sid_detect hdn HB
  rw [y1, y2, y3, y4, y5, y6] at T6
  clear HB B5 E y1 y2 y3 y4 y5 y6 occ flt req pbf chg
  obtain ⟨ch, h_ch⟩ : ∃ z, z = (fs || (rb != oc)) := ⟨_, rfl⟩
  rw [← h_ch] at T6
  have T7 : SiD Z hs6 n0 s dn pb oc false (((rb && pb) && !sv) || (ch && (oc && pb))) fo (if ch = true then 1 else (if rb = true then 0 else -9223372036854775808)) (if fo = true then 1 else 0) 1 := by cases fs <;> cases fo <;> exact T6
  replace T := T7
  clear T6 T7
  obtain ⟨rA, h_rA⟩ : ∃ z, z = (((rb && pb) && !sv) || (ch && (oc && pb))) := ⟨_, rfl⟩
  obtain ⟨cc, h_cc⟩ : ∃ z : Int64, z = (if ch = true then 1 else (if rb = true then 0 else -9223372036854775808)) := ⟨_, rfl⟩
  rw [← h_rA, ← h_cc] at T
  obtain ⟨occ, flt, req, pbf, chg, B, y1, y2, y3, y4, y5, y6⟩ := T
  have E := B.choose_spec.choose_spec.choose_spec.choose_spec.choose_spec.2.2.1
  replace R := R.aload C (pc' := 217) at_215 rfl rfl rfl
  replace R := R.iloadN C (pc' := 218) at_217 rfl rfl
  replace R := R.lload C (pc' := 220) at_218 rfl rfl
  obtain ⟨_, hs7, R', e_v, B'⟩ := R.callV C (y := (⟨"com/example/ohjaus/ohjaus/signal/Situation", "gapUnder", "(IJ)Z"⟩ : MethodName)) E (C.w 103 rfl) (C.w 104 rfl) (C.w 106 rfl) (C.w 105 rfl) (C.w 29 rfl) (C.w 107 rfl) (by decide) [(.int dn.toInt32), (.long k)] [] rfl (con_gap l Z a0 hw s occ flt req pbf chg _ 1 dn.toInt32 dn hd hdn k hs6 n0 R.size B) 0 (Nat.le_of_eq rfl) (by decide) (by decide) (by decide) (by decide) (lenOf pd_7 rfl) rfl (pc' := 223) at_220 rfl
  rw [e_v, y2, y3, y4, y5] at R'
  clear R
  replace R := R'.as (st' := [(.int (own_b (rA || false || oc || decide (1 < own_after cc k))))]) rfl
  clear R'
  have T : SiD Z hs7 n0 s dn pb oc false rA fo cc (if fo = true then 1 else 0) 1 := ⟨_, _, _, _, _, B', y1, y2, y3, y4, y5, y6⟩
  clear E B B' y1 y2 y3 y4 y5 y6 e_v
  clear occ flt req pbf chg
  replace R := R.istore C (Ls' := #[.val (.int p1), .val (.long p2), .second, .val (.int dn.toInt32), .val (.int ((1 : Int32) - dn.toInt32)), .val (.int (own_b pb)), .val (.int (own_b pd)), .val (.int (own_b pv)), .val (.int (own_b fs)), .val (.int (own_b fo)), .val (.int (own_b sv)), .val (.int (own_b oc)), .val (.long k), .second, .val (.ref q), .val (.ref s), .val (.int (own_b (rA || false || oc || decide (1 < own_after cc k)))), .unset, .unset, .unset, .unset, .unset, .unset, .unset, .unset, .unset, .unset, .unset]) (pc' := 225) at_223 rfl rfl
  replace R := R.aload C (pc' := 227) at_225 rfl rfl rfl
  replace R := R.iloadN C (pc' := 228) at_227 rfl rfl
  replace R := R.lload C (pc' := 230) at_228 rfl rfl
  obtain ⟨occ, flt, req, pbf, chg, B, y1, y2, y3, y4, y5, y6⟩ := T
  have E := B.choose_spec.choose_spec.choose_spec.choose_spec.choose_spec.2.2.1
  obtain ⟨_, hs8, R', e_v, B'⟩ := R.callV C (y := (⟨"com/example/ohjaus/ohjaus/signal/Situation", "occupiedOver", "(IJ)Z"⟩ : MethodName)) E (C.w 113 rfl) (C.w 114 rfl) (C.w 116 rfl) (C.w 115 rfl) (C.w 29 rfl) (C.w 117 rfl) (by decide) [(.int dn.toInt32), (.long k)] [] rfl (con_ovr l Z a0 hw s occ flt req pbf chg _ 1 dn.toInt32 dn hd hdn k hs7 n0 R.size B) 0 (Nat.le_of_eq rfl) (by decide) (by decide) (by decide) (by decide) (lenOf pd_7 rfl) rfl (pc' := 233) at_230 rfl
  rw [e_v, y2, y3, y4, y5] at R'
  clear R
  replace R := R'.as (st' := [(.int (own_b (rA || (!false && oc && decide (own_after cc k < 1)))))]) rfl
  clear R'
  have T : SiD Z hs8 n0 s dn pb oc false rA fo cc (if fo = true then 1 else 0) 1 := ⟨_, _, _, _, _, B', y1, y2, y3, y4, y5, y6⟩
  clear E B B' y1 y2 y3 y4 y5 y6 e_v
  clear occ flt req pbf chg
  replace R := R.istore C (Ls' := #[.val (.int p1), .val (.long p2), .second, .val (.int dn.toInt32), .val (.int ((1 : Int32) - dn.toInt32)), .val (.int (own_b pb)), .val (.int (own_b pd)), .val (.int (own_b pv)), .val (.int (own_b fs)), .val (.int (own_b fo)), .val (.int (own_b sv)), .val (.int (own_b oc)), .val (.long k), .second, .val (.ref q), .val (.ref s), .val (.int (own_b (rA || false || oc || decide (1 < own_after cc k)))), .val (.int (own_b (rA || (!false && oc && decide (own_after cc k < 1))))), .unset, .unset, .unset, .unset, .unset, .unset, .unset, .unset, .unset, .unset]) (pc' := 235) at_233 rfl rfl
  replace R := R.aload C (pc' := 237) at_235 rfl rfl rfl
  obtain ⟨occ, flt, req, pbf, chg, B, y1, y2, y3, y4, y5, y6⟩ := T
  have E := B.choose_spec.choose_spec.choose_spec.choose_spec.choose_spec.2.2.1
  obtain ⟨_, hs9, R', e_v, B'⟩ := R.callV C (y := (⟨"com/example/ohjaus/ohjaus/signal/Situation", "anyFaulty", "()Z"⟩ : MethodName)) E (C.w 118 rfl) (C.w 119 rfl) (C.w 121 rfl) (C.w 120 rfl) (C.w 29 rfl) (C.w 122 rfl) (by decide) [] [] rfl (con_any l Z a0 hw s occ flt req pbf chg _ 1 hs8 n0 R.size B) 0 (Nat.le_of_eq rfl) (by decide) (by decide) (by decide) (by decide) (lenOf pd_5 rfl) rfl (pc' := 240) at_237 rfl
  rw [e_v] at R'
  clear R
  replace R := R'.as (st' := [(.int (own_b (decide (0 < (if fo = true then 1 else 0 : Int32)))))]) rfl
  clear R'
  have T : SiD Z hs9 n0 s dn pb oc false rA fo cc (if fo = true then 1 else 0) 1 := ⟨_, _, _, _, _, B', y1, y2, y3, y4, y5, y6⟩
  clear E B B' y1 y2 y3 y4 y5 y6 e_v
  clear occ flt req pbf chg
  replace R := R.istore C (Ls' := #[.val (.int p1), .val (.long p2), .second, .val (.int dn.toInt32), .val (.int ((1 : Int32) - dn.toInt32)), .val (.int (own_b pb)), .val (.int (own_b pd)), .val (.int (own_b pv)), .val (.int (own_b fs)), .val (.int (own_b fo)), .val (.int (own_b sv)), .val (.int (own_b oc)), .val (.long k), .second, .val (.ref q), .val (.ref s), .val (.int (own_b (rA || false || oc || decide (1 < own_after cc k)))), .val (.int (own_b (rA || (!false && oc && decide (own_after cc k < 1))))), .val (.int (own_b (decide (0 < (if fo = true then 1 else 0 : Int32))))), .unset, .unset, .unset, .unset, .unset, .unset, .unset, .unset, .unset]) (pc' := 242) at_240 rfl rfl
  replace R := R.iload C (pc' := 244) at_242 rfl rfl
  replace R := R.more (k' := 12) (n' := 50) (by decide) (by decide)
  clear T
  obtain ⟨gA, h_gA⟩ : ∃ z, z = (rA || false || oc || decide (1 < own_after cc k)) := ⟨_, rfl⟩
  obtain ⟨oA, h_oA⟩ : ∃ z, z = (rA || (!false && oc && decide (own_after cc k < 1))) := ⟨_, rfl⟩
  obtain ⟨aA, h_aA⟩ : ∃ z, z = decide (0 < (if fo = true then 1 else 0 : Int32)) := ⟨_, rfl⟩
  rw [← h_gA, ← h_oA, ← h_aA] at R
  replace R : Rch p l e room_1 s0 m #[(.int p1), (.long p2)] below meth c S0 n0 12 50 hs9 257 #[.val (.int p1), .val (.long p2), .second, .val (.int dn.toInt32), .val (.int ((1 : Int32) - dn.toInt32)), .val (.int (own_b pb)), .val (.int (own_b pd)), .val (.int (own_b pv)), .val (.int (own_b fs)), .val (.int (own_b fo)), .val (.int (own_b sv)), .val (.int (own_b oc)), .val (.long k), .second, .val (.ref q), .val (.ref s), .val (.int (own_b gA)), .val (.int (own_b oA)), .val (.int (own_b aA)), .unset, .unset, .unset, .unset, .unset, .unset, .unset, .unset, .unset] [.int (own_b (pd && pv))] := by
    clear h_gA h_oA h_aA h_rA h_cc h_ch h_rb h_pb h_pd h_pv h_fs h_fo h_sv h_oc
    cases pd with
    | false =>
      replace R := R.ifY C (pc' := 256) at_244 rfl rfl
      replace R := R.iconst C (pc' := 257) at_256 (v := (0 : Int32)) rfl rfl
      exact R
    | true =>
      replace R := R.ifN C (pc' := 247) at_244 rfl rfl
      replace R := R.iload C (pc' := 249) at_247 rfl rfl
      replace R := R.dia C (b := pv) (pc' := 257) at_249 at_252 at_253 at_256 (b_eq _) rfl
      exact R
  obtain ⟨rb2, h_rb2⟩ : ∃ z, z = (pd && pv) := ⟨_, rfl⟩
  rw [← h_rb2] at R
  replace R := R.istore C (Ls' := #[.val (.int p1), .val (.long p2), .second, .val (.int dn.toInt32), .val (.int ((1 : Int32) - dn.toInt32)), .val (.int (own_b pb)), .val (.int (own_b pd)), .val (.int (own_b pv)), .val (.int (own_b fs)), .val (.int (own_b fo)), .val (.int (own_b sv)), .val (.int (own_b oc)), .val (.long k), .second, .val (.ref q), .val (.ref s), .val (.int (own_b gA)), .val (.int (own_b oA)), .val (.int (own_b aA)), .val (.int (own_b rb2)), .unset, .unset, .unset, .unset, .unset, .unset, .unset, .unset]) (pc' := 259) at_257 rfl rfl
  replace R := R.iload C (pc' := 261) at_259 rfl rfl
  replace R : Rch p l e room_1 s0 m #[(.int p1), (.long p2)] below meth c S0 n0 12 50 hs9 276 #[.val (.int p1), .val (.long p2), .second, .val (.int dn.toInt32), .val (.int ((1 : Int32) - dn.toInt32)), .val (.int (own_b pb)), .val (.int (own_b pd)), .val (.int (own_b pv)), .val (.int (own_b fs)), .val (.int (own_b fo)), .val (.int (own_b sv)), .val (.int (own_b oc)), .val (.long k), .second, .val (.ref q), .val (.ref s), .val (.int (own_b gA)), .val (.int (own_b oA)), .val (.int (own_b aA)), .val (.int (own_b rb2)), .unset, .unset, .unset, .unset, .unset, .unset, .unset, .unset] [.int (own_b (fs || (rb2 != oc)))] := by
    clear h_gA h_oA h_aA h_rA h_cc h_ch h_rb h_pb h_pd h_pv h_fs h_fo h_sv h_oc h_rb2
    cases fs with
    | false =>
      replace R := R.ifN C (pc' := 264) at_261 rfl rfl
      replace R := R.iload C (pc' := 266) at_264 rfl rfl
      replace R := R.iload C (pc' := 268) at_266 rfl rfl
      replace R := R.diac C (b := (rb2 != oc)) (pc' := 276) at_268 at_271 at_272 at_275 (by rw [bb_eq]; cases rb2 <;> cases oc <;> rfl) rfl
      exact R
    | true =>
      replace R := R.ifY C (pc' := 271) at_261 rfl rfl
      replace R := R.iconst C (pc' := 272) at_271 (v := (1 : Int32)) rfl rfl
      replace R := R.goto C (pc' := 276) at_272 rfl
      exact R
  obtain ⟨ch2, h_ch2⟩ : ∃ z, z = (fs || (rb2 != oc)) := ⟨_, rfl⟩
  rw [← h_ch2] at R
  replace R := R.istore C (Ls' := #[.val (.int p1), .val (.long p2), .second, .val (.int dn.toInt32), .val (.int ((1 : Int32) - dn.toInt32)), .val (.int (own_b pb)), .val (.int (own_b pd)), .val (.int (own_b pv)), .val (.int (own_b fs)), .val (.int (own_b fo)), .val (.int (own_b sv)), .val (.int (own_b oc)), .val (.long k), .second, .val (.ref q), .val (.ref s), .val (.int (own_b gA)), .val (.int (own_b oA)), .val (.int (own_b aA)), .val (.int (own_b rb2)), .val (.int (own_b ch2)), .unset, .unset, .unset, .unset, .unset, .unset, .unset]) (pc' := 278) at_276 rfl rfl
  replace R := R.iload C (pc' := 280) at_278 rfl rfl
  replace R : Rch p l e room_1 s0 m #[(.int p1), (.long p2)] below meth c S0 n0 12 50 hs9 298 #[.val (.int p1), .val (.long p2), .second, .val (.int dn.toInt32), .val (.int ((1 : Int32) - dn.toInt32)), .val (.int (own_b pb)), .val (.int (own_b pd)), .val (.int (own_b pv)), .val (.int (own_b fs)), .val (.int (own_b fo)), .val (.int (own_b sv)), .val (.int (own_b oc)), .val (.long k), .second, .val (.ref q), .val (.ref s), .val (.int (own_b gA)), .val (.int (own_b oA)), .val (.int (own_b aA)), .val (.int (own_b rb2)), .val (.int (own_b ch2)), .unset, .unset, .unset, .unset, .unset, .unset, .unset] [.int (own_b (pb && rb2 && !sv))] := by
    clear h_gA h_oA h_aA h_rA h_cc h_ch h_rb h_pb h_pd h_pv h_fs h_fo h_sv h_oc h_rb2 h_ch2
    cases pb with
    | false =>
      replace R := R.ifY C (pc' := 297) at_280 rfl rfl
      replace R := R.iconst C (pc' := 298) at_297 (v := (0 : Int32)) rfl rfl
      exact R
    | true =>
      replace R := R.ifN C (pc' := 283) at_280 rfl rfl
      replace R := R.iload C (pc' := 285) at_283 rfl rfl
      cases rb2 with
      | false =>
        replace R := R.ifY C (pc' := 297) at_285 rfl rfl
        replace R := R.iconst C (pc' := 298) at_297 (v := (0 : Int32)) rfl rfl
        exact R
      | true =>
        replace R := R.ifN C (pc' := 288) at_285 rfl rfl
        replace R := R.iload C (pc' := 290) at_288 rfl rfl
        replace R := R.dia C (b := (!sv)) (pc' := 298) at_290 at_293 at_294 at_297 (by rw [b_ne]; simp) rfl
        exact R
  obtain ⟨rq2, h_rq2⟩ : ∃ z, z = (pb && rb2 && !sv) := ⟨_, rfl⟩
  rw [← h_rq2] at R
  replace R := R.istore C (Ls' := #[.val (.int p1), .val (.long p2), .second, .val (.int dn.toInt32), .val (.int ((1 : Int32) - dn.toInt32)), .val (.int (own_b pb)), .val (.int (own_b pd)), .val (.int (own_b pv)), .val (.int (own_b fs)), .val (.int (own_b fo)), .val (.int (own_b sv)), .val (.int (own_b oc)), .val (.long k), .second, .val (.ref q), .val (.ref s), .val (.int (own_b gA)), .val (.int (own_b oA)), .val (.int (own_b aA)), .val (.int (own_b rb2)), .val (.int (own_b ch2)), .val (.int (own_b rq2)), .unset, .unset, .unset, .unset, .unset, .unset]) (pc' := 300) at_298 rfl rfl
  replace R := R.iload C (pc' := 302) at_300 rfl rfl
  replace R : Rch p l e room_1 s0 m #[(.int p1), (.long p2)] below meth c S0 n0 12 50 hs9 325 #[.val (.int p1), .val (.long p2), .second, .val (.int dn.toInt32), .val (.int ((1 : Int32) - dn.toInt32)), .val (.int (own_b pb)), .val (.int (own_b pd)), .val (.int (own_b pv)), .val (.int (own_b fs)), .val (.int (own_b fo)), .val (.int (own_b sv)), .val (.int (own_b oc)), .val (.long k), .second, .val (.ref q), .val (.ref s), .val (.int (own_b gA)), .val (.int (own_b oA)), .val (.int (own_b aA)), .val (.int (own_b rb2)), .val (.int (own_b ch2)), .val (.int (own_b rq2)), .unset, .unset, .unset, .unset, .unset, .unset] [.int (own_b (rq2 || (pb && oc && ch2)))] := by
    clear h_gA h_oA h_aA h_rA h_cc h_ch h_rb h_pb h_pd h_pv h_fs h_fo h_sv h_oc h_rb2 h_ch2 h_rq2
    cases rq2 with
    | false =>
      replace R := R.ifN C (pc' := 305) at_302 rfl rfl
      replace R := R.iload C (pc' := 307) at_305 rfl rfl
      cases pb with
      | false =>
        replace R := R.ifY C (pc' := 324) at_307 rfl rfl
        replace R := R.iconst C (pc' := 325) at_324 (v := (0 : Int32)) rfl rfl
        exact R
      | true =>
        replace R := R.ifN C (pc' := 310) at_307 rfl rfl
        replace R := R.iload C (pc' := 312) at_310 rfl rfl
        cases oc with
        | false =>
          replace R := R.ifY C (pc' := 324) at_312 rfl rfl
          replace R := R.iconst C (pc' := 325) at_324 (v := (0 : Int32)) rfl rfl
          exact R
        | true =>
          replace R := R.ifN C (pc' := 315) at_312 rfl rfl
          replace R := R.iload C (pc' := 317) at_315 rfl rfl
          replace R := R.dia C (b := ch2) (pc' := 325) at_317 at_320 at_321 at_324 (b_eq _) rfl
          exact R
    | true =>
      replace R := R.ifY C (pc' := 320) at_302 rfl rfl
      replace R := R.iconst C (pc' := 321) at_320 (v := (1 : Int32)) rfl rfl
      replace R := R.goto C (pc' := 325) at_321 rfl
      exact R
  obtain ⟨rA2, h_rA2⟩ : ∃ z, z = (rq2 || (pb && oc && ch2)) := ⟨_, rfl⟩
  rw [← h_rA2] at R
  replace R := R.istore C (Ls' := #[.val (.int p1), .val (.long p2), .second, .val (.int dn.toInt32), .val (.int ((1 : Int32) - dn.toInt32)), .val (.int (own_b pb)), .val (.int (own_b pd)), .val (.int (own_b pv)), .val (.int (own_b fs)), .val (.int (own_b fo)), .val (.int (own_b sv)), .val (.int (own_b oc)), .val (.long k), .second, .val (.ref q), .val (.ref s), .val (.int (own_b gA)), .val (.int (own_b oA)), .val (.int (own_b aA)), .val (.int (own_b rb2)), .val (.int (own_b ch2)), .val (.int (own_b rq2)), .val (.int (own_b rA2)), .unset, .unset, .unset, .unset, .unset]) (pc' := 327) at_325 rfl rfl
  replace R := R.iload C (pc' := 329) at_327 rfl rfl
  replace R : Rch p l e room_1 s0 m #[(.int p1), (.long p2)] below meth c S0 n0 12 50 hs9 394 #[.val (.int p1), .val (.long p2), .second, .val (.int dn.toInt32), .val (.int ((1 : Int32) - dn.toInt32)), .val (.int (own_b pb)), .val (.int (own_b pd)), .val (.int (own_b pv)), .val (.int (own_b fs)), .val (.int (own_b fo)), .val (.int (own_b sv)), .val (.int (own_b oc)), .val (.long k), .second, .val (.ref q), .val (.ref s), .val (.int (own_b gA)), .val (.int (own_b oA)), .val (.int (own_b aA)), .val (.int (own_b rb2)), .val (.int (own_b ch2)), .val (.int (own_b rq2)), .val (.int (own_b rA2)), .val (.int (own_b (if ch2 = true then decide (0 < k) else if rb2 = true then decide (1 < k) else false))), .val (.int (own_b (if ch2 = true then false else if rb2 = true then decide (k = 0) else false))), .unset, .unset, .unset] [] := by
    clear h_gA h_oA h_aA h_rA h_cc h_ch h_rb h_pb h_pd h_pv h_fs h_fo h_sv h_oc h_rb2 h_ch2 h_rq2 h_rA2
    cases ch2 with
    | true =>
      replace R := R.ifN C (pc' := 332) at_329 rfl rfl
      replace R := R.lload C (pc' := 334) at_332 rfl rfl
      replace R := R.lconst C (pc' := 335) at_334 (v := (0 : Int64)) rfl rfl
      replace R := R.lcmp C (pc' := 336) at_335 rfl
      replace R := R.dia C (b := (decide (0 < k))) (pc' := 344) at_336 at_339 at_340 at_343 (by rw [lcmp_le]; exact own_nlt 0 k) rfl
      replace R := R.istore C (Ls' := #[.val (.int p1), .val (.long p2), .second, .val (.int dn.toInt32), .val (.int ((1 : Int32) - dn.toInt32)), .val (.int (own_b pb)), .val (.int (own_b pd)), .val (.int (own_b pv)), .val (.int (own_b fs)), .val (.int (own_b fo)), .val (.int (own_b sv)), .val (.int (own_b oc)), .val (.long k), .second, .val (.ref q), .val (.ref s), .val (.int (own_b gA)), .val (.int (own_b oA)), .val (.int (own_b aA)), .val (.int (own_b rb2)), .val (.int (own_b true)), .val (.int (own_b rq2)), .val (.int (own_b rA2)), .val (.int (own_b (decide (0 < k)))), .unset, .unset, .unset, .unset]) (pc' := 346) at_344 rfl rfl
      replace R := R.iconst C (pc' := 347) at_346 (v := (0 : Int32)) rfl rfl
      replace R := R.istore C (Ls' := #[.val (.int p1), .val (.long p2), .second, .val (.int dn.toInt32), .val (.int ((1 : Int32) - dn.toInt32)), .val (.int (own_b pb)), .val (.int (own_b pd)), .val (.int (own_b pv)), .val (.int (own_b fs)), .val (.int (own_b fo)), .val (.int (own_b sv)), .val (.int (own_b oc)), .val (.long k), .second, .val (.ref q), .val (.ref s), .val (.int (own_b gA)), .val (.int (own_b oA)), .val (.int (own_b aA)), .val (.int (own_b rb2)), .val (.int (own_b true)), .val (.int (own_b rq2)), .val (.int (own_b rA2)), .val (.int (own_b (decide (0 < k)))), .val (.int (0 : Int32)), .unset, .unset, .unset]) (pc' := 349) at_347 rfl rfl
      replace R := R.goto C (pc' := 394) at_349 rfl
      exact R
    | false =>
      replace R := R.ifY C (pc' := 352) at_329 rfl rfl
      replace R := R.iload C (pc' := 354) at_352 rfl rfl
      cases rb2 with
      | true =>
        replace R := R.ifN C (pc' := 357) at_354 rfl rfl
        replace R := R.lconst C (pc' := 358) at_357 (v := (1 : Int64)) rfl rfl
        replace R := R.lload C (pc' := 360) at_358 rfl rfl
        replace R := R.lcmp C (pc' := 361) at_360 rfl
        replace R := R.dia C (b := (decide (1 < k))) (pc' := 369) at_361 at_364 at_365 at_368 (by rw [lcmp_ge]; exact own_nlt 1 k) rfl
        replace R := R.istore C (Ls' := #[.val (.int p1), .val (.long p2), .second, .val (.int dn.toInt32), .val (.int ((1 : Int32) - dn.toInt32)), .val (.int (own_b pb)), .val (.int (own_b pd)), .val (.int (own_b pv)), .val (.int (own_b fs)), .val (.int (own_b fo)), .val (.int (own_b sv)), .val (.int (own_b oc)), .val (.long k), .second, .val (.ref q), .val (.ref s), .val (.int (own_b gA)), .val (.int (own_b oA)), .val (.int (own_b aA)), .val (.int (own_b true)), .val (.int (own_b false)), .val (.int (own_b rq2)), .val (.int (own_b rA2)), .val (.int (own_b (decide (1 < k)))), .unset, .unset, .unset, .unset]) (pc' := 371) at_369 rfl rfl
        replace R := R.lload C (pc' := 373) at_371 rfl rfl
        replace R := R.lconst C (pc' := 374) at_373 (v := (0 : Int64)) rfl rfl
        replace R := R.lcmp C (pc' := 375) at_374 rfl
        replace R := R.dia C (b := (decide (k = 0))) (pc' := 383) at_375 at_378 at_379 at_382 (by rw [lcmp_ne]; by_cases z : k = 0 <;> simp [z]) rfl
        replace R := R.istore C (Ls' := #[.val (.int p1), .val (.long p2), .second, .val (.int dn.toInt32), .val (.int ((1 : Int32) - dn.toInt32)), .val (.int (own_b pb)), .val (.int (own_b pd)), .val (.int (own_b pv)), .val (.int (own_b fs)), .val (.int (own_b fo)), .val (.int (own_b sv)), .val (.int (own_b oc)), .val (.long k), .second, .val (.ref q), .val (.ref s), .val (.int (own_b gA)), .val (.int (own_b oA)), .val (.int (own_b aA)), .val (.int (own_b true)), .val (.int (own_b false)), .val (.int (own_b rq2)), .val (.int (own_b rA2)), .val (.int (own_b (decide (1 < k)))), .val (.int (own_b (decide (k = 0)))), .unset, .unset, .unset]) (pc' := 385) at_383 rfl rfl
        replace R := R.goto C (pc' := 394) at_385 rfl
        exact R
      | false =>
        replace R := R.ifY C (pc' := 388) at_354 rfl rfl
        replace R := R.iconst C (pc' := 389) at_388 (v := (0 : Int32)) rfl rfl
        replace R := R.istore C (Ls' := #[.val (.int p1), .val (.long p2), .second, .val (.int dn.toInt32), .val (.int ((1 : Int32) - dn.toInt32)), .val (.int (own_b pb)), .val (.int (own_b pd)), .val (.int (own_b pv)), .val (.int (own_b fs)), .val (.int (own_b fo)), .val (.int (own_b sv)), .val (.int (own_b oc)), .val (.long k), .second, .val (.ref q), .val (.ref s), .val (.int (own_b gA)), .val (.int (own_b oA)), .val (.int (own_b aA)), .val (.int (own_b false)), .val (.int (own_b false)), .val (.int (own_b rq2)), .val (.int (own_b rA2)), .val (.int (0 : Int32)), .unset, .unset, .unset, .unset]) (pc' := 391) at_389 rfl rfl
        replace R := R.iconst C (pc' := 392) at_391 (v := (0 : Int32)) rfl rfl
        replace R := R.istore C (Ls' := #[.val (.int p1), .val (.long p2), .second, .val (.int dn.toInt32), .val (.int ((1 : Int32) - dn.toInt32)), .val (.int (own_b pb)), .val (.int (own_b pd)), .val (.int (own_b pv)), .val (.int (own_b fs)), .val (.int (own_b fo)), .val (.int (own_b sv)), .val (.int (own_b oc)), .val (.long k), .second, .val (.ref q), .val (.ref s), .val (.int (own_b gA)), .val (.int (own_b oA)), .val (.int (own_b aA)), .val (.int (own_b false)), .val (.int (own_b false)), .val (.int (own_b rq2)), .val (.int (own_b rA2)), .val (.int (0 : Int32)), .val (.int (0 : Int32)), .unset, .unset, .unset]) (pc' := 394) at_392 rfl rfl
        exact R
  obtain ⟨gT, h_gT⟩ : ∃ z : Bool, z = (if ch2 = true then decide (0 < k) else if rb2 = true then decide (1 < k) else false) := ⟨_, rfl⟩
  obtain ⟨oT, h_oT⟩ : ∃ z : Bool, z = (if ch2 = true then false else if rb2 = true then decide (k = 0) else false) := ⟨_, rfl⟩
  rw [← h_gT, ← h_oT] at R
  replace R := R.iload C (pc' := 396) at_394 rfl rfl
  replace R : Rch p l e room_1 s0 m #[(.int p1), (.long p2)] below meth c S0 n0 12 50 hs9 414 #[.val (.int p1), .val (.long p2), .second, .val (.int dn.toInt32), .val (.int ((1 : Int32) - dn.toInt32)), .val (.int (own_b pb)), .val (.int (own_b pd)), .val (.int (own_b pv)), .val (.int (own_b fs)), .val (.int (own_b fo)), .val (.int (own_b sv)), .val (.int (own_b oc)), .val (.long k), .second, .val (.ref q), .val (.ref s), .val (.int (own_b gA)), .val (.int (own_b oA)), .val (.int (own_b aA)), .val (.int (own_b rb2)), .val (.int (own_b ch2)), .val (.int (own_b rq2)), .val (.int (own_b rA2)), .val (.int (own_b gT)), .val (.int (own_b oT)), .unset, .unset, .unset] [.int (own_b (rA2 || oc || gT))] := by
    clear h_gA h_oA h_aA h_rA h_cc h_ch h_rb h_pb h_pd h_pv h_fs h_fo h_sv h_oc h_rb2 h_ch2 h_rq2 h_rA2 h_gT h_oT
    cases rA2 with
    | false =>
      replace R := R.ifN C (pc' := 399) at_396 rfl rfl
      replace R := R.iload C (pc' := 401) at_399 rfl rfl
      cases oc with
      | false =>
        replace R := R.ifN C (pc' := 404) at_401 rfl rfl
        replace R := R.iload C (pc' := 406) at_404 rfl rfl
        replace R := R.dia C (b := gT) (pc' := 414) at_406 at_409 at_410 at_413 (b_eq _) rfl
        exact R
      | true =>
        replace R := R.ifY C (pc' := 409) at_401 rfl rfl
        replace R := R.iconst C (pc' := 410) at_409 (v := (1 : Int32)) rfl rfl
        replace R := R.goto C (pc' := 414) at_410 rfl
        exact R
    | true =>
      replace R := R.ifY C (pc' := 409) at_396 rfl rfl
      replace R := R.iconst C (pc' := 410) at_409 (v := (1 : Int32)) rfl rfl
      replace R := R.goto C (pc' := 414) at_410 rfl
      exact R
  obtain ⟨eG, h_eG⟩ : ∃ z, z = (rA2 || oc || gT) := ⟨_, rfl⟩
  rw [← h_eG] at R
  replace R := R.istore C (Ls' := #[.val (.int p1), .val (.long p2), .second, .val (.int dn.toInt32), .val (.int ((1 : Int32) - dn.toInt32)), .val (.int (own_b pb)), .val (.int (own_b pd)), .val (.int (own_b pv)), .val (.int (own_b fs)), .val (.int (own_b fo)), .val (.int (own_b sv)), .val (.int (own_b oc)), .val (.long k), .second, .val (.ref q), .val (.ref s), .val (.int (own_b gA)), .val (.int (own_b oA)), .val (.int (own_b aA)), .val (.int (own_b rb2)), .val (.int (own_b ch2)), .val (.int (own_b rq2)), .val (.int (own_b rA2)), .val (.int (own_b gT)), .val (.int (own_b oT)), .val (.int (own_b eG)), .unset, .unset]) (pc' := 416) at_414 rfl rfl
  replace R := R.iload C (pc' := 418) at_416 rfl rfl
  replace R : Rch p l e room_1 s0 m #[(.int p1), (.long p2)] below meth c S0 n0 12 50 hs9 436 #[.val (.int p1), .val (.long p2), .second, .val (.int dn.toInt32), .val (.int ((1 : Int32) - dn.toInt32)), .val (.int (own_b pb)), .val (.int (own_b pd)), .val (.int (own_b pv)), .val (.int (own_b fs)), .val (.int (own_b fo)), .val (.int (own_b sv)), .val (.int (own_b oc)), .val (.long k), .second, .val (.ref q), .val (.ref s), .val (.int (own_b gA)), .val (.int (own_b oA)), .val (.int (own_b aA)), .val (.int (own_b rb2)), .val (.int (own_b ch2)), .val (.int (own_b rq2)), .val (.int (own_b rA2)), .val (.int (own_b gT)), .val (.int (own_b oT)), .val (.int (own_b eG)), .unset, .unset] [.int (own_b (rA2 || (oc && oT)))] := by
    clear h_gA h_oA h_aA h_rA h_cc h_ch h_rb h_pb h_pd h_pv h_fs h_fo h_sv h_oc h_rb2 h_ch2 h_rq2 h_rA2 h_gT h_oT h_eG
    cases rA2 with
    | false =>
      replace R := R.ifN C (pc' := 421) at_418 rfl rfl
      replace R := R.iload C (pc' := 423) at_421 rfl rfl
      cases oc with
      | false =>
        replace R := R.ifY C (pc' := 435) at_423 rfl rfl
        replace R := R.iconst C (pc' := 436) at_435 (v := (0 : Int32)) rfl rfl
        exact R
      | true =>
        replace R := R.ifN C (pc' := 426) at_423 rfl rfl
        replace R := R.iload C (pc' := 428) at_426 rfl rfl
        replace R := R.dia C (b := oT) (pc' := 436) at_428 at_431 at_432 at_435 (b_eq _) rfl
        exact R
    | true =>
      replace R := R.ifY C (pc' := 431) at_418 rfl rfl
      replace R := R.iconst C (pc' := 432) at_431 (v := (1 : Int32)) rfl rfl
      replace R := R.goto C (pc' := 436) at_432 rfl
      exact R
  obtain ⟨eO, h_eO⟩ : ∃ z, z = (rA2 || (oc && oT)) := ⟨_, rfl⟩
  rw [← h_eO] at R
  have c1 : rb2 = rb := by rw [h_rb2, h_rb]
  have c2 : ch2 = ch := by rw [h_ch2, h_ch, c1]
  have c3 : rA2 = rA := by rw [h_rA2, h_rq2, h_rA, c1, c2]; cases pb <;> cases rb <;> cases sv <;> cases oc <;> cases ch <;> rfl
  have c4 : gA = eG := by
    rw [h_gA, h_eG, c3, h_gT, c1, c2, h_cc]
    cases hch : ch with
    | true => simp only [if_true]; rw [own_A1 hk]; cases rA <;> cases oc <;> rfl
    | false =>
      have ho : rb = oc := by rw [hch] at h_ch; revert h_ch; cases fs <;> cases rb <;> cases oc <;> simp
      cases hrb : rb with
      | true => rw [← ho, hrb]; simp
      | false => simp only [Bool.false_eq_true, if_false]; rw [own_A4 hk, ← ho, hrb]; cases rA <;> rfl
  have c5 : oA = eO := by
    rw [h_oA, h_eO, c3, h_oT, c1, c2, h_cc]
    cases hch : ch with
    | true => simp only [if_true]; rw [own_A2 hk]; cases rA <;> cases oc <;> rfl
    | false =>
      have ho : rb = oc := by rw [hch] at h_ch; revert h_ch; cases fs <;> cases rb <;> cases oc <;> simp
      cases hrb : rb with
      | true => simp only [Bool.false_eq_true, if_false, if_true]; rw [own_A3 hk, ← ho, hrb]; cases rA <;> rfl
      | false => rw [← ho, hrb]; simp
  have c6 : aA = fo := by rw [h_aA]; cases fo <;> decide
  replace R := R.istore C (Ls' := #[.val (.int p1), .val (.long p2), .second, .val (.int dn.toInt32), .val (.int ((1 : Int32) - dn.toInt32)), .val (.int (own_b pb)), .val (.int (own_b pd)), .val (.int (own_b pv)), .val (.int (own_b fs)), .val (.int (own_b fo)), .val (.int (own_b sv)), .val (.int (own_b oc)), .val (.long k), .second, .val (.ref q), .val (.ref s), .val (.int (own_b gA)), .val (.int (own_b oA)), .val (.int (own_b aA)), .val (.int (own_b rb2)), .val (.int (own_b ch2)), .val (.int (own_b rq2)), .val (.int (own_b rA2)), .val (.int (own_b gT)), .val (.int (own_b oT)), .val (.int (own_b eG)), .val (.int (own_b eO)), .unset]) (pc' := 438) at_436 rfl rfl
  replace R := R.iload C (pc' := 440) at_438 rfl rfl
  replace R := R.istore C (Ls' := #[.val (.int p1), .val (.long p2), .second, .val (.int dn.toInt32), .val (.int ((1 : Int32) - dn.toInt32)), .val (.int (own_b pb)), .val (.int (own_b pd)), .val (.int (own_b pv)), .val (.int (own_b fs)), .val (.int (own_b fo)), .val (.int (own_b sv)), .val (.int (own_b oc)), .val (.long k), .second, .val (.ref q), .val (.ref s), .val (.int (own_b gA)), .val (.int (own_b oA)), .val (.int (own_b aA)), .val (.int (own_b rb2)), .val (.int (own_b ch2)), .val (.int (own_b rq2)), .val (.int (own_b rA2)), .val (.int (own_b gT)), .val (.int (own_b oT)), .val (.int (own_b eG)), .val (.int (own_b eO)), .val (.int (own_b fo))]) (pc' := 442) at_440 rfl rfl
  replace R := R.iload C (pc' := 444) at_442 rfl rfl
  replace R := R.iload C (pc' := 446) at_444 rfl rfl
  replace R := R.icmpN C (pc' := 449) at_446 (by rw [bb_ne, c4]; simp) rfl
  replace R := R.iload C (pc' := 451) at_449 rfl rfl
  replace R := R.iload C (pc' := 453) at_451 rfl rfl
  replace R := R.icmpN C (pc' := 456) at_453 (by rw [bb_ne, c5]; simp) rfl
  replace R := R.iload C (pc' := 458) at_456 rfl rfl
  replace R := R.iload C (pc' := 460) at_458 rfl rfl
  replace R := R.diac C (b := true) (pc' := 468) at_460 at_463 at_464 at_467 (by rw [bb_ne, c6]; simp) rfl
  exact R.retZ (b := true) C at_468 rfl (by decide) (by decide)
set_option maxRecDepth 65536 in
set_option maxHeartbeats 40000000 in
theorem comes_1 {Post : Tables → Env → Array Value → State → Outcome → State → Prop} (hpost : ∀ tb e args s v u, (limb_1_1.after args s (.returned v) u = true ∧ limb_1_2.after args s (.returned v) u = true ∧ True) → FrameEnd s (.returned v) u (Jvm.fieldLocs frame_1_writes args s ++ Jvm.arrayLocs frame_1_arrays args s ++ Jvm.staticLocs frame_1_statics s) 32 192 → Post tb e args s (.returned v) u) :
    ArmFor flags0 classFile x code maxLocals ret World_1 tables_1 room_1 Calls_1 rest_1 Pre_1 Post := by
  intro l hfl _ _ p e ha hc hk s m args below hf hA hF happ hP
  obtain ⟨hcalls, hrest, hpre⟩ := hP
  obtain ⟨-, -, -, hnamed, -, -, -, hat⟩ := (Spec.applies_iff hf).mp happ
  obtain ⟨hg, hn⟩ := and_e (Cond.before_iff.mp (show (Jvm.Cond.and given_1 narrow_1).before args s = true from hpre))
  obtain ⟨h1, q0⟩ := and_e hg
  obtain ⟨k0, q1⟩ := and_e q0
  have k1 := q1
  obtain ⟨w0, w1, rfl⟩ : ∃ w0 w1 : Value, args = #[w0, w1] := by
    have hs : args.size = 2 := by simpa [Cond.value, given_1] using h1
    obtain ⟨L⟩ := args
    match L, hs with
    | [w0, w1], _ => exact ⟨w0, w1, rfl⟩
  have hw := fun d (hd : d ∈ tables_1) => atoms_spec (ws := Jvm.Cond.code x code maxLocals ret :: tables_1) hat d (List.mem_cons_of_mem _ hd)
  obtain ⟨i0, e0⟩ := is_v k0
  obtain rfl : w0 = (.int i0) := Option.some.inj e0
  obtain ⟨i1, e1⟩ := isL_v k1
  obtain rfl : w1 = (.long i1) := Option.some.inj e1
  obtain ⟨hsets, hown0⟩ := atoms_of _ (rest_1_c_eq ▸ (show rest_1_c.before _ s = true from hrest))
  obtain ⟨dv, ed⟩ := arr_v (Cond.before_iff.mp (hsets _ (List.mem_of_getElem? (i := 6) rfl)))
  have S1 : Sta s s.heap "java/util/ArrayList" "DEFAULTCAPACITY_EMPTY_ELEMENTDATA" "[Ljava/lang/Object;" (.ref dv) := Sta.start ed (Or.inr ⟨hw _ (List.mem_of_getElem? (i := 3) rfl), hsets _ (List.mem_of_getElem? (i := 2) rfl)⟩)
  obtain ⟨cd, Ad⟩ := Arr.start ed (Cond.before_iff.mp (hsets _ (List.mem_of_getElem? (i := 6) rfl)))
  have A1 : Ary s s.heap dv (.object "java/lang/Object") 0 (fun _ => .null) := own_zero_arr Ad ed (Cond.before_iff.mp (hsets _ (List.mem_of_getElem? (i := 8) rfl)))
  obtain ⟨n, o, h1, h2, h3, _, L, rfl, ⟨rfl, N⟩, hq⟩ := con0 l s _ hw i0 i1 s.heap s.heap.size (Nat.le_refl _) dv S1 A1 tables_1 p e ha hc hk s m _ below hf ((Spec.applies_iff_loose hf).mp happ).1 ⟨rfl, State.Warmed39.refl s, rfl⟩ trivial
  refine ⟨n, _, h1, h2, h3, hpost _ _ _ _ _ _ ⟨Cond.after_iff.mpr rfl, Cond.after_iff.mpr (eq_i res_at (Term.int_eval (1)) rfl), trivial⟩ ⟨hq.1, hq.2.1, (hq.2.2.sift fun y hy => Or.inr (N y hy)).mono (by decide) (by decide)⟩⟩
theorem main_1_1 : Claimed_1_1 := comes_1 fun _ _ _ _ _ _ h hF => ⟨h.1, hF⟩
theorem main_1_2 : Claimed_1_2 := comes_1 fun _ _ _ _ _ _ h hF => ⟨h.2.1, hF⟩
end Jvm.Pilot.@@N@@
namespace Jvm.Pilot.@@N@@
open Jvm Jvm.ClassFile Sem Op Lib Jvm.Free Jvm.Stand Jvm.Pilot.@@N@@.Jvm.D
/-! MADE BY PROGRAM (witnessworld.py) out of the Statement's table words and the real class files: 28 classes; the members and pool entries that the words name. The judged class is class 1, her method 1. -/
namespace start1
open Jvm.ClassFile
def u (s : String) : CpInfo := .utf8 (stringToUtf16 s)
/-- a pool by its gaps: so many unusable entries, then the entry; so many at the end -/
def gap : Nat → List CpInfo → List CpInfo
  | 0, r => r
  | n + 1, r => .unusable :: gap n r
def poolList (es : List (Nat × CpInfo)) (last : Nat) : List CpInfo := es.foldr (fun e r => gap e.1 (e.2 :: r)) (gap last [])
def pool (es : List (Nat × CpInfo)) (last : Nat) : Array CpInfo := ⟨poolList es last⟩
def fileOf (pool : Array CpInfo) (this : Nat) (attrs : Array Attribute := #[]) (ms : Array MethodInfo := #[]) (fl : Nat := 33) (sup : Nat := 0) (ifs : Array Nat := #[]) (fds : Array FieldInfo := #[]) : ClassFile where
  minorVersion := 0
  majorVersion := 65
  constantPool := pool
  accessFlags := fl
  thisClass := this
  superClass := sup
  interfaces := ifs
  fields := fds
  methods := ms
  attributes := attrs
def plain (name : String) (sup : Option ClassId) : Class where
  name := name
  kind := .ordinary
  loader := none
  accessFlags := 33
  super := sup
  interfaces := #[]
  cf := none
  fields := #[]
  methods := #[]
  instanceTypes := #[]
  staticTypes := #[]
  resolved := #[]
  callSites := []
  init := .initialized
  statics := none
  mirror := none

def pool0 : Array CpInfo := pool [(5, u "<init>"), (0, u "()V"), (1, .class_ 10), (1, u "java/lang/Object")] 113

def k0c0 : Code := { maxStack := 0, maxLocals := 1, code := object_method_1_code, exceptionTable := #[], attributes := #[] }
def k0m0 : Method := { name := "<init>", desc := "()V", sig := { parameters := [], returnType := none }, accessFlags := 1, code := some k0c0 }
/-- java/lang/Object -/
def k0 : Class := { plain "java/lang/Object" none with
  accessFlags := 33
  interfaces := #[]
  cf := some (fileOf pool0 8 #[] #[{ accessFlags := 1, nameIndex := 5, descriptorIndex := 6, attributes := #[] }] 33 0 #[] #[])
  fields := #[]
  methods := #[k0m0]
  instanceTypes := #[]
  staticTypes := #[]
  resolved := Array.replicate 124 none
  statics := none }

def pool1 : Array CpInfo := pool [(2, .class_ 4), (0, .nameAndType 5 6), (0, u "java/lang/Object"), (0, u "<init>"), (0, u "()V"), (2, .long 9223372036854775807), (1, .class_ 12), (0, u "java/util/ArrayList"), (0, .methodref 11 3), (0, .class_ 15), (0, u "com/example/ohjaus/ohjaus/signal/PushButton"), (0, .methodref 14 17), (0, .nameAndType 5 18), (0, u "(II)V"), (0, .methodref 11 20), (0, .nameAndType 21 22), (0, u "add"), (0, u "(Ljava/lang/Object;)Z"), (0, .class_ 24), (0, u "com/example/ohjaus/ohjaus/signal/Situation"), (0, .methodref 23 26), (0, .nameAndType 5 27), (0, u "(ILjava/util/List;I)V"), (0, .methodref 23 29), (0, .nameAndType 30 31), (0, u "detect"), (0, u "(IZ)V"), (0, .methodref 23 33), (0, .nameAndType 34 35), (0, u "fault"), (0, u "(I)V"), (0, .methodref 23 37), (0, .nameAndType 38 35), (0, u "serve"), (0, .methodref 23 40), (0, .nameAndType 41 6), (0, u "next"), (0, .methodref 23 43), (0, .nameAndType 44 45), (0, u "gapUnder"), (0, u "(IJ)Z"), (0, .methodref 23 47), (0, .nameAndType 48 45), (0, u "occupiedOver"), (0, .methodref 23 50), (0, .nameAndType 51 52), (0, u "anyFaulty"), (0, u "()Z"), (0, .class_ 54), (0, u "com/example/ohjaus/ohjaus/signal/SituationDetectPinLaw"), (2, u "law")] 3

def k1m0 : Method := { name := "<init>", desc := "()V", sig := { parameters := [], returnType := none }, accessFlags := 1, code := none }
def k1c1 : Code := { maxStack := 5, maxLocals := 28, code := code, exceptionTable := #[], attributes := #[] }
def k1m1 : Method := { name := "law", desc := "(IJ)Z", sig := { parameters := [.int, .long], returnType := some .boolean }, accessFlags := 9, code := some k1c1 }
/-- com/example/ohjaus/ohjaus/signal/SituationDetectPinLaw -/
def k1 : Class := { plain "com/example/ohjaus/ohjaus/signal/SituationDetectPinLaw" (some 0) with
  accessFlags := 49
  interfaces := #[]
  cf := some (fileOf pool1 53 #[] #[{ accessFlags := 1, nameIndex := 5, descriptorIndex := 6, attributes := #[] }, { accessFlags := 9, nameIndex := 57, descriptorIndex := 45, attributes := #[] }] 49 2 #[] #[])
  fields := #[]
  methods := #[k1m0, k1m1]
  instanceTypes := #[]
  staticTypes := #[]
  resolved := Array.replicate 61 none
  statics := none }

def pool2 : Array CpInfo := pool [(8, .class_ 10), (1, u "java/lang/Iterable"), (24, .class_ 36), (0, u "java/lang/Object")] 25

/-- java/lang/Iterable -/
def k2 : Class := { plain "java/lang/Iterable" (some 0) with
  accessFlags := 1537
  interfaces := #[]
  cf := some (fileOf pool2 8 #[] #[] 1537 35 #[] #[])
  fields := #[]
  methods := #[]
  instanceTypes := #[]
  staticTypes := #[]
  resolved := Array.replicate 62 none
  statics := none }

def pool3 : Array CpInfo := pool [(10, .class_ 12), (1, u "java/util/Collection"), (47, .class_ 61), (0, u "java/lang/Object"), (0, .class_ 63), (0, u "java/lang/Iterable")] 51

/-- java/util/Collection -/
def k3 : Class := { plain "java/util/Collection" (some 0) with
  accessFlags := 1537
  interfaces := #[2]
  cf := some (fileOf pool3 10 #[] #[] 1537 60 #[62] #[])
  fields := #[]
  methods := #[]
  instanceTypes := #[]
  staticTypes := #[]
  resolved := Array.replicate 115 none
  statics := none }

def pool4 : Array CpInfo := pool [(1, .methodref 2 3), (0, .class_ 4), (0, .nameAndType 5 6), (0, u "java/lang/Object"), (0, u "<init>"), (0, u "()V"), (1, .class_ 10), (1, u "java/util/AbstractCollection"), (66, .class_ 78), (0, u "java/util/Collection")] 81

def k4c0 : Code := { maxStack := 1, maxLocals := 1, code := jdk_22_method_1_code, exceptionTable := #[], attributes := #[] }
def k4m0 : Method := { name := "<init>", desc := "()V", sig := { parameters := [], returnType := none }, accessFlags := 4, code := some k4c0 }
/-- java/util/AbstractCollection -/
def k4 : Class := { plain "java/util/AbstractCollection" (some 0) with
  accessFlags := 1057
  interfaces := #[3]
  cf := some (fileOf pool4 8 #[] #[{ accessFlags := 4, nameIndex := 5, descriptorIndex := 6, attributes := #[] }] 1057 2 #[77] #[])
  fields := #[]
  methods := #[k4m0]
  instanceTypes := #[]
  staticTypes := #[]
  resolved := Array.replicate 160 none
  statics := none }

def pool5 : Array CpInfo := pool [(8, .class_ 10), (1, u "java/util/SequencedCollection"), (15, .class_ 27), (0, u "java/lang/Object"), (0, .class_ 29), (0, u "java/util/Collection")] 27

/-- java/util/SequencedCollection -/
def k5 : Class := { plain "java/util/SequencedCollection" (some 0) with
  accessFlags := 1537
  interfaces := #[3]
  cf := some (fileOf pool5 8 #[] #[] 1537 26 #[28] #[])
  fields := #[]
  methods := #[]
  instanceTypes := #[]
  staticTypes := #[]
  resolved := Array.replicate 57 none
  statics := none }

def pool6 : Array CpInfo := pool [(8, .class_ 10), (1, u "java/util/List"), (92, .class_ 104), (0, u "java/lang/Object"), (15, .class_ 121), (0, u "java/util/SequencedCollection"), (1, u "iterator"), (0, u "()Ljava/util/Iterator;")] 126

def k6m0 : Method := { name := "iterator", desc := "()Ljava/util/Iterator;", sig := { parameters := [], returnType := some (.object "java/util/Iterator") }, accessFlags := 1025, code := none }
/-- java/util/List -/
def k6 : Class := { plain "java/util/List" (some 0) with
  accessFlags := 1537
  interfaces := #[5]
  cf := some (fileOf pool6 8 #[] #[{ accessFlags := 1025, nameIndex := 123, descriptorIndex := 124, attributes := #[] }] 1537 103 #[120] #[])
  fields := #[]
  methods := #[k6m0]
  instanceTypes := #[]
  staticTypes := #[]
  resolved := Array.replicate 251 none
  statics := none }

def pool7 : Array CpInfo := pool [(1, .methodref 2 3), (0, .class_ 4), (0, .nameAndType 5 6), (0, u "java/util/AbstractCollection"), (0, u "<init>"), (0, u "()V"), (0, .fieldref 8 9), (0, .class_ 10), (0, .nameAndType 11 12), (0, u "java/util/AbstractList"), (0, u "modCount"), (0, u "I"), (64, .class_ 78), (0, u "java/util/AbstractList$Itr"), (3, .class_ 83), (0, u "java/util/AbstractList$ListItr"), (9, .class_ 94), (0, u "java/util/AbstractList$RandomAccessSubList"), (3, .class_ 99), (0, u "java/util/AbstractList$SubList"), (33, .class_ 134), (0, u "java/util/List"), (73, .class_ 209), (0, u "java/util/AbstractList$SubList$1"), (0, .class_ 211), (0, u "java/util/AbstractList$RandomAccessSpliterator")] 6

def k7c0 : Code := { maxStack := 2, maxLocals := 1, code := jdk_39_method_1_code, exceptionTable := #[], attributes := #[] }
def k7m0 : Method := { name := "<init>", desc := "()V", sig := { parameters := [], returnType := none }, accessFlags := 4, code := some k7c0 }
/-- java/util/AbstractList -/
def k7 : Class := { plain "java/util/AbstractList" (some 4) with
  accessFlags := 1057
  interfaces := #[6]
  cf := some (fileOf pool7 8 #[.nestMembers #[93, 98, 208, 210, 82, 77]] #[{ accessFlags := 4, nameIndex := 5, descriptorIndex := 6, attributes := #[] }] 1057 2 #[133] #[{ accessFlags := 132, nameIndex := 11, descriptorIndex := 12, attributes := #[] }])
  fields := #[{ name := "modCount", type := .int, accessFlags := 132, slot := 0, constantValue := 0 }]
  methods := #[k7m0]
  instanceTypes := #[.int]
  staticTypes := #[]
  resolved := Array.replicate 218 none
  statics := none }

def pool8 : Array CpInfo := pool [(1, .class_ 2), (0, u "java/util/RandomAccess"), (0, .class_ 4), (0, u "java/lang/Object")] 2

/-- java/util/RandomAccess -/
def k8 : Class := { plain "java/util/RandomAccess" (some 0) with
  accessFlags := 1537
  interfaces := #[]
  cf := some (fileOf pool8 1 #[] #[] 1537 3 #[] #[])
  fields := #[]
  methods := #[]
  instanceTypes := #[]
  staticTypes := #[]
  resolved := Array.replicate 7 none
  statics := none }

def pool9 : Array CpInfo := pool [(1, .class_ 2), (0, u "java/lang/Cloneable"), (0, .class_ 4), (0, u "java/lang/Object")] 2

/-- java/lang/Cloneable -/
def k9 : Class := { plain "java/lang/Cloneable" (some 0) with
  accessFlags := 1537
  interfaces := #[]
  cf := some (fileOf pool9 1 #[] #[] 1537 3 #[] #[])
  fields := #[]
  methods := #[]
  instanceTypes := #[]
  staticTypes := #[]
  resolved := Array.replicate 7 none
  statics := none }

def pool10 : Array CpInfo := pool [(1, .class_ 2), (0, u "java/io/Serializable"), (0, .class_ 4), (0, u "java/lang/Object")] 2

/-- java/io/Serializable -/
def k10 : Class := { plain "java/io/Serializable" (some 0) with
  accessFlags := 1537
  interfaces := #[]
  cf := some (fileOf pool10 1 #[] #[] 1537 3 #[] #[])
  fields := #[]
  methods := #[]
  instanceTypes := #[]
  staticTypes := #[]
  resolved := Array.replicate 7 none
  statics := none }

def pool11 : Array CpInfo := pool [(1, .methodref 2 3), (0, .class_ 4), (0, .nameAndType 5 6), (0, u "java/util/AbstractList"), (0, u "<init>"), (0, u "()V"), (0, .class_ 8), (0, u "java/lang/Object"), (0, .fieldref 10 11), (0, .class_ 12), (0, .nameAndType 13 14), (0, u "java/util/ArrayList"), (0, u "elementData"), (0, u "[Ljava/lang/Object;"), (2, u "EMPTY_ELEMENTDATA"), (21, .fieldref 10 40), (0, .nameAndType 41 14), (0, u "DEFAULTCAPACITY_EMPTY_ELEMENTDATA"), (5, u "()[Ljava/lang/Object;"), (0, .fieldref 10 49), (0, .nameAndType 50 51), (0, u "size"), (0, u "I"), (11, .fieldref 10 64), (0, .nameAndType 65 51), (0, u "modCount"), (3, .methodref 10 70), (0, .nameAndType 71 72), (0, u "grow"), (0, u "(I)[Ljava/lang/Object;"), (6, .methodref 80 81), (0, .class_ 82), (0, .nameAndType 83 84), (0, u "java/lang/Math"), (0, u "max"), (0, u "(II)I"), (11, u "(Ljava/lang/Object;)Z"), (32, .methodref 10 130), (0, .nameAndType 71 47), (0, .methodref 10 132), (0, .nameAndType 133 134), (0, u "add"), (0, u "(Ljava/lang/Object;[Ljava/lang/Object;I)V"), (13, .class_ 149), (0, u "java/util/List"), (16, u "iterator"), (0, u "()Ljava/util/Iterator;"), (94, .class_ 263), (0, u "java/util/ArrayList$ListItr"), (3, .class_ 268), (0, u "java/util/ArrayList$Itr"), (0, .methodref 267 270), (0, .nameAndType 5 271), (0, u "(Ljava/util/ArrayList;)V"), (4, .class_ 277), (0, u "java/util/ArrayList$SubList"), (12, .class_ 291), (0, u "java/util/ArrayList$ArrayListSpliterator"), (37, .class_ 330), (0, u "java/util/RandomAccess"), (0, .class_ 332), (0, u "java/lang/Cloneable"), (0, .class_ 334), (0, u "java/io/Serializable"), (0, u "serialVersionUID"), (0, u "J"), (3, u "DEFAULT_CAPACITY"), (159, .class_ 501), (0, u "java/util/ArrayList$SubList$2"), (0, .class_ 503), (0, u "java/util/ArrayList$SubList$1")] 5

def k11c0 : Code := { maxStack := 2, maxLocals := 1, code := jdk_38_method_2_code, exceptionTable := #[], attributes := #[] }
def k11m0 : Method := { name := "<init>", desc := "()V", sig := { parameters := [], returnType := none }, accessFlags := 1, code := some k11c0 }
def k11c1 : Code := { maxStack := 4, maxLocals := 4, code := jdk_38_method_6_code, exceptionTable := #[], attributes := #[] }
def k11m1 : Method := { name := "grow", desc := "(I)[Ljava/lang/Object;", sig := { parameters := [.int], returnType := some (.array (.object "java/lang/Object")) }, accessFlags := 2, code := some k11c1 }
def k11c2 : Code := { maxStack := 3, maxLocals := 1, code := jdk_38_method_7_code, exceptionTable := #[], attributes := #[] }
def k11m2 : Method := { name := "grow", desc := "()[Ljava/lang/Object;", sig := { parameters := [], returnType := some (.array (.object "java/lang/Object")) }, accessFlags := 2, code := some k11c2 }
def k11c3 : Code := { maxStack := 3, maxLocals := 4, code := jdk_38_method_24_code, exceptionTable := #[], attributes := #[] }
def k11m3 : Method := { name := "add", desc := "(Ljava/lang/Object;[Ljava/lang/Object;I)V", sig := { parameters := [(.object "java/lang/Object"), (.array (.object "java/lang/Object")), .int], returnType := none }, accessFlags := 2, code := some k11c3 }
def k11c4 : Code := { maxStack := 4, maxLocals := 2, code := jdk_38_method_25_code, exceptionTable := #[], attributes := #[] }
def k11m4 : Method := { name := "add", desc := "(Ljava/lang/Object;)Z", sig := { parameters := [(.object "java/lang/Object")], returnType := some .boolean }, accessFlags := 1, code := some k11c4 }
def k11c5 : Code := { maxStack := 3, maxLocals := 1, code := jdk_38_method_55_code, exceptionTable := #[], attributes := #[] }
def k11m5 : Method := { name := "iterator", desc := "()Ljava/util/Iterator;", sig := { parameters := [], returnType := some (.object "java/util/Iterator") }, accessFlags := 1, code := some k11c5 }
/-- java/util/ArrayList -/
def k11 : Class := { plain "java/util/ArrayList" (some 7) with
  accessFlags := 33
  interfaces := #[6, 8, 9, 10]
  cf := some (fileOf pool11 10 #[.nestMembers #[290, 276, 500, 502, 262, 267]] #[{ accessFlags := 1, nameIndex := 5, descriptorIndex := 6, attributes := #[] }, { accessFlags := 2, nameIndex := 71, descriptorIndex := 72, attributes := #[] }, { accessFlags := 2, nameIndex := 71, descriptorIndex := 47, attributes := #[] }, { accessFlags := 2, nameIndex := 133, descriptorIndex := 134, attributes := #[] }, { accessFlags := 1, nameIndex := 133, descriptorIndex := 96, attributes := #[] }, { accessFlags := 1, nameIndex := 166, descriptorIndex := 167, attributes := #[] }] 33 2 #[148, 329, 331, 333] #[{ accessFlags := 26, nameIndex := 335, descriptorIndex := 336, attributes := #[] }, { accessFlags := 26, nameIndex := 340, descriptorIndex := 51, attributes := #[] }, { accessFlags := 26, nameIndex := 17, descriptorIndex := 14, attributes := #[] }, { accessFlags := 26, nameIndex := 41, descriptorIndex := 14, attributes := #[] }, { accessFlags := 128, nameIndex := 13, descriptorIndex := 14, attributes := #[] }, { accessFlags := 2, nameIndex := 50, descriptorIndex := 51, attributes := #[] }])
  fields := #[{ name := "serialVersionUID", type := .long, accessFlags := 26, slot := 0, constantValue := 0 }, { name := "DEFAULT_CAPACITY", type := .int, accessFlags := 26, slot := 1, constantValue := 0 }, { name := "EMPTY_ELEMENTDATA", type := (.array (.object "java/lang/Object")), accessFlags := 26, slot := 2, constantValue := 0 }, { name := "DEFAULTCAPACITY_EMPTY_ELEMENTDATA", type := (.array (.object "java/lang/Object")), accessFlags := 26, slot := 3, constantValue := 0 }, { name := "elementData", type := (.array (.object "java/lang/Object")), accessFlags := 128, slot := 1, constantValue := 0 }, { name := "size", type := .int, accessFlags := 2, slot := 2, constantValue := 0 }]
  methods := #[k11m0, k11m1, k11m2, k11m3, k11m4, k11m5]
  instanceTypes := #[.int, (.array (.object "java/lang/Object")), .int]
  staticTypes := #[.long, .int, (.array (.object "java/lang/Object")), (.array (.object "java/lang/Object"))]
  resolved := Array.replicate 509 none
  statics := some 0 }

def pool12 : Array CpInfo := pool [(3, .methodref 4 5), (0, .class_ 6), (0, .nameAndType 7 8), (0, u "java/lang/Object"), (0, u "<init>"), (0, u "()V"), (0, .fieldref 10 11), (0, .class_ 12), (0, .nameAndType 13 14), (0, u "com/example/ohjaus/ohjaus/signal/Situation"), (0, u "occupied"), (0, u "[Z"), (0, .fieldref 10 16), (0, .nameAndType 17 14), (0, u "faulty"), (0, .fieldref 10 19), (0, .nameAndType 20 21), (0, u "changed"), (0, u "[J"), (0, .long 9223372036854775808), (1, .methodref 25 26), (0, .class_ 27), (0, .nameAndType 28 29), (0, u "java/util/Arrays"), (0, u "fill"), (0, u "([JJ)V"), (0, .fieldref 10 31), (0, .nameAndType 32 14), (0, u "flags"), (0, .fieldref 10 34), (0, .nameAndType 35 14), (0, u "pushButton"), (0, .interfaceMethodref 37 38), (0, .class_ 39), (0, .nameAndType 40 41), (0, u "java/util/List"), (0, u "iterator"), (0, u "()Ljava/util/Iterator;"), (0, .interfaceMethodref 43 44), (0, .class_ 45), (0, .nameAndType 46 47), (0, u "java/util/Iterator"), (0, u "hasNext"), (0, u "()Z"), (0, .interfaceMethodref 43 49), (0, .nameAndType 50 51), (0, u "next"), (0, u "()Ljava/lang/Object;"), (0, .class_ 53), (0, u "com/example/ohjaus/ohjaus/signal/PushButton"), (0, .methodref 52 55), (0, .nameAndType 56 57), (0, u "detector"), (0, u "()I"), (0, .fieldref 10 59), (0, .nameAndType 60 14), (0, u "requested"), (0, .fieldref 10 62), (0, .nameAndType 63 64), (0, u "step"), (0, u "J"), (0, .fieldref 10 66), (0, .nameAndType 67 68), (0, u "faults"), (0, u "I"), (0, .methodref 70 71), (0, .class_ 72), (0, .nameAndType 73 74), (0, u "com/example/ohjaus/ohjaus/time/Steps"), (0, u "after"), (0, u "(JJ)J"), (0, u "NEVER"), (1, u "(ILjava/util/List;I)V"), (5, u "detect"), (0, u "(IZ)V"), (1, u "fault"), (0, u "(I)V"), (0, u "anyFaulty"), (0, u "serve"), (1, u "gapUnder"), (0, u "(IJ)Z"), (0, u "occupiedOver")] 5

def k12c0 : Code := { maxStack := 3, maxLocals := 6, code := prog_49_method_1_code, exceptionTable := #[], attributes := #[] }
def k12m0 : Method := { name := "<init>", desc := "(ILjava/util/List;I)V", sig := { parameters := [.int, (.object "java/util/List"), .int], returnType := none }, accessFlags := 0, code := some k12c0 }
def k12c1 : Code := { maxStack := 5, maxLocals := 1, code := prog_49_method_2_code, exceptionTable := #[], attributes := #[] }
def k12m1 : Method := { name := "next", desc := "()V", sig := { parameters := [], returnType := none }, accessFlags := 0, code := some k12c1 }
def k12c2 : Code := { maxStack := 5, maxLocals := 3, code := prog_49_method_3_code, exceptionTable := #[], attributes := #[] }
def k12m2 : Method := { name := "detect", desc := "(IZ)V", sig := { parameters := [.int, .boolean], returnType := none }, accessFlags := 0, code := some k12c2 }
def k12c3 : Code := { maxStack := 3, maxLocals := 2, code := prog_49_method_4_code, exceptionTable := #[], attributes := #[] }
def k12m3 : Method := { name := "fault", desc := "(I)V", sig := { parameters := [.int], returnType := none }, accessFlags := 0, code := some k12c3 }
def k12c4 : Code := { maxStack := 1, maxLocals := 1, code := prog_49_method_5_code, exceptionTable := #[], attributes := #[] }
def k12m4 : Method := { name := "anyFaulty", desc := "()Z", sig := { parameters := [], returnType := some .boolean }, accessFlags := 0, code := some k12c4 }
def k12c5 : Code := { maxStack := 3, maxLocals := 2, code := prog_49_method_6_code, exceptionTable := #[], attributes := #[] }
def k12m5 : Method := { name := "serve", desc := "(I)V", sig := { parameters := [.int], returnType := none }, accessFlags := 0, code := some k12c5 }
def k12c6 : Code := { maxStack := 6, maxLocals := 4, code := prog_49_method_8_code, exceptionTable := #[], attributes := #[] }
def k12m6 : Method := { name := "gapUnder", desc := "(IJ)Z", sig := { parameters := [.int, .long], returnType := some .boolean }, accessFlags := 0, code := some k12c6 }
def k12c7 : Code := { maxStack := 6, maxLocals := 4, code := prog_49_method_9_code, exceptionTable := #[], attributes := #[] }
def k12m7 : Method := { name := "occupiedOver", desc := "(IJ)Z", sig := { parameters := [.int, .long], returnType := some .boolean }, accessFlags := 0, code := some k12c7 }
/-- com/example/ohjaus/ohjaus/signal/Situation -/
def k12 : Class := { plain "com/example/ohjaus/ohjaus/signal/Situation" (some 0) with
  accessFlags := 32
  interfaces := #[]
  cf := some (fileOf pool12 10 #[] #[{ accessFlags := 0, nameIndex := 7, descriptorIndex := 77, attributes := #[] }, { accessFlags := 0, nameIndex := 50, descriptorIndex := 8, attributes := #[] }, { accessFlags := 0, nameIndex := 83, descriptorIndex := 84, attributes := #[] }, { accessFlags := 0, nameIndex := 86, descriptorIndex := 87, attributes := #[] }, { accessFlags := 0, nameIndex := 88, descriptorIndex := 47, attributes := #[] }, { accessFlags := 0, nameIndex := 89, descriptorIndex := 87, attributes := #[] }, { accessFlags := 0, nameIndex := 91, descriptorIndex := 92, attributes := #[] }, { accessFlags := 0, nameIndex := 93, descriptorIndex := 92, attributes := #[] }] 32 4 #[] #[{ accessFlags := 26, nameIndex := 75, descriptorIndex := 64, attributes := #[] }, { accessFlags := 18, nameIndex := 13, descriptorIndex := 14, attributes := #[] }, { accessFlags := 18, nameIndex := 17, descriptorIndex := 14, attributes := #[] }, { accessFlags := 2, nameIndex := 67, descriptorIndex := 68, attributes := #[] }, { accessFlags := 18, nameIndex := 20, descriptorIndex := 21, attributes := #[] }, { accessFlags := 18, nameIndex := 35, descriptorIndex := 14, attributes := #[] }, { accessFlags := 18, nameIndex := 60, descriptorIndex := 14, attributes := #[] }, { accessFlags := 2, nameIndex := 32, descriptorIndex := 14, attributes := #[] }, { accessFlags := 2, nameIndex := 63, descriptorIndex := 64, attributes := #[] }])
  fields := #[{ name := "NEVER", type := .long, accessFlags := 26, slot := 0, constantValue := 0 }, { name := "occupied", type := (.array .boolean), accessFlags := 18, slot := 0, constantValue := 0 }, { name := "faulty", type := (.array .boolean), accessFlags := 18, slot := 1, constantValue := 0 }, { name := "faults", type := .int, accessFlags := 2, slot := 2, constantValue := 0 }, { name := "changed", type := (.array .long), accessFlags := 18, slot := 3, constantValue := 0 }, { name := "pushButton", type := (.array .boolean), accessFlags := 18, slot := 4, constantValue := 0 }, { name := "requested", type := (.array .boolean), accessFlags := 18, slot := 5, constantValue := 0 }, { name := "flags", type := (.array .boolean), accessFlags := 2, slot := 6, constantValue := 0 }, { name := "step", type := .long, accessFlags := 2, slot := 7, constantValue := 0 }]
  methods := #[k12m0, k12m1, k12m2, k12m3, k12m4, k12m5, k12m6, k12m7]
  instanceTypes := #[(.array .boolean), (.array .boolean), .int, (.array .long), (.array .boolean), (.array .boolean), (.array .boolean), .long]
  staticTypes := #[.long]
  resolved := Array.replicate 99 none
  statics := none }

def pool13 : Array CpInfo := pool [(2, .class_ 4), (1, u "java/lang/Object"), (0, u "<init>"), (0, u "()V"), (7, .class_ 16), (1, u "java/util/Arrays"), (57, .class_ 76), (1, u "java/util/Arrays$NaturalOrder"), (36, .class_ 115), (1, u "java/util/Arrays$LegacyMergeSort"), (1, u "Z"), (257, .class_ 376), (0, u "java/util/Arrays$ArrayList"), (68, u "$assertionsDisabled"), (269, u "MIN_ARRAY_SORT_GRAN"), (0, u "I"), (2, u "INSERTIONSORT_THRESHOLD"), (120, u "fill"), (0, u "([JJ)V"), (133, .class_ 976), (0, u "java/util/Arrays$ArrayItr")] 52

def k13m0 : Method := { name := "<init>", desc := "()V", sig := { parameters := [], returnType := none }, accessFlags := 2, code := none }
def k13c1 : Code := { maxStack := 4, maxLocals := 5, code := jdk_65_method_101_code, exceptionTable := #[], attributes := #[] }
def k13m1 : Method := { name := "fill", desc := "([JJ)V", sig := { parameters := [(.array .long), .long], returnType := none }, accessFlags := 9, code := some k13c1 }
/-- java/util/Arrays -/
def k13 : Class := { plain "java/util/Arrays" (some 0) with
  accessFlags := 49
  interfaces := #[]
  cf := some (fileOf pool13 14 #[.nestMembers #[975, 375, 113, 74]] #[{ accessFlags := 2, nameIndex := 5, descriptorIndex := 6, attributes := #[] }, { accessFlags := 9, nameIndex := 840, descriptorIndex := 841, attributes := #[] }] 49 2 #[] #[{ accessFlags := 26, nameIndex := 715, descriptorIndex := 716, attributes := #[] }, { accessFlags := 26, nameIndex := 719, descriptorIndex := 716, attributes := #[] }, { accessFlags := 4120, nameIndex := 445, descriptorIndex := 117, attributes := #[] }])
  fields := #[{ name := "MIN_ARRAY_SORT_GRAN", type := .int, accessFlags := 26, slot := 0, constantValue := 0 }, { name := "INSERTIONSORT_THRESHOLD", type := .int, accessFlags := 26, slot := 1, constantValue := 0 }, { name := "$assertionsDisabled", type := .boolean, accessFlags := 4120, slot := 2, constantValue := 0 }]
  methods := #[k13m0, k13m1]
  instanceTypes := #[]
  staticTypes := #[.int, .int, .boolean]
  resolved := Array.replicate 1029 none
  statics := none }

def pool14 : Array CpInfo := pool [(16, .class_ 18), (1, u "java/util/Iterator"), (0, u "hasNext"), (0, u "()Z"), (2, u "next"), (0, u "()Ljava/lang/Object;"), (6, .class_ 32), (0, u "java/lang/Object")] 20

def k14m0 : Method := { name := "hasNext", desc := "()Z", sig := { parameters := [], returnType := some .boolean }, accessFlags := 1025, code := none }
def k14m1 : Method := { name := "next", desc := "()Ljava/lang/Object;", sig := { parameters := [], returnType := some (.object "java/lang/Object") }, accessFlags := 1025, code := none }
/-- java/util/Iterator -/
def k14 : Class := { plain "java/util/Iterator" (some 0) with
  accessFlags := 1537
  interfaces := #[]
  cf := some (fileOf pool14 16 #[] #[{ accessFlags := 1025, nameIndex := 19, descriptorIndex := 20, attributes := #[] }, { accessFlags := 1025, nameIndex := 23, descriptorIndex := 24, attributes := #[] }] 1537 31 #[] #[])
  fields := #[]
  methods := #[k14m0, k14m1]
  instanceTypes := #[]
  staticTypes := #[]
  resolved := Array.replicate 53 none
  statics := none }

def pool15 : Array CpInfo := pool [(1, .fieldref 2 3), (0, .class_ 4), (0, .nameAndType 5 6), (0, u "java/util/ArrayList$Itr"), (0, u "this$0"), (0, u "Ljava/util/ArrayList;"), (0, .methodref 8 9), (0, .class_ 10), (0, .nameAndType 11 12), (0, u "java/lang/Object"), (0, u "<init>"), (0, u "()V"), (0, .fieldref 2 14), (0, .nameAndType 15 16), (0, u "lastRet"), (0, u "I"), (0, .fieldref 18 19), (0, .class_ 20), (0, .nameAndType 21 16), (0, u "java/util/ArrayList"), (0, u "modCount"), (0, .fieldref 2 23), (0, .nameAndType 24 16), (0, u "expectedModCount"), (0, .fieldref 2 26), (0, .nameAndType 27 16), (0, u "cursor"), (0, .fieldref 18 29), (0, .nameAndType 30 16), (0, u "size"), (0, .methodref 2 32), (0, .nameAndType 33 12), (0, u "checkForComodification"), (3, .fieldref 18 38), (0, .nameAndType 39 40), (0, u "elementData"), (0, u "[Ljava/lang/Object;"), (28, .class_ 70), (0, u "java/util/Iterator"), (0, u "(Ljava/util/ArrayList;)V"), (8, u "hasNext"), (0, u "()Z"), (1, u "next"), (0, u "()Ljava/lang/Object;")] 19

def k15c0 : Code := { maxStack := 2, maxLocals := 2, code := jdk_49_method_1_code, exceptionTable := #[], attributes := #[] }
def k15m0 : Method := { name := "<init>", desc := "(Ljava/util/ArrayList;)V", sig := { parameters := [(.object "java/util/ArrayList")], returnType := none }, accessFlags := 0, code := some k15c0 }
def k15c1 : Code := { maxStack := 2, maxLocals := 1, code := jdk_49_method_2_code, exceptionTable := #[], attributes := #[] }
def k15m1 : Method := { name := "hasNext", desc := "()Z", sig := { parameters := [], returnType := some .boolean }, accessFlags := 1, code := some k15c1 }
def k15c2 : Code := { maxStack := 4, maxLocals := 3, code := jdk_49_method_3_code, exceptionTable := #[], attributes := #[] }
def k15m2 : Method := { name := "next", desc := "()Ljava/lang/Object;", sig := { parameters := [], returnType := some (.object "java/lang/Object") }, accessFlags := 1, code := some k15c2 }
def k15c3 : Code := { maxStack := 2, maxLocals := 1, code := jdk_49_method_6_code, exceptionTable := #[], attributes := #[] }
def k15m3 : Method := { name := "checkForComodification", desc := "()V", sig := { parameters := [], returnType := none }, accessFlags := 16, code := some k15c3 }
/-- java/util/ArrayList$Itr -/
def k15 : Class := { plain "java/util/ArrayList$Itr" (some 0) with
  accessFlags := 32
  interfaces := #[14]
  cf := some (fileOf pool15 2 #[.nestHost 18] #[{ accessFlags := 0, nameIndex := 11, descriptorIndex := 71, attributes := #[] }, { accessFlags := 1, nameIndex := 80, descriptorIndex := 81, attributes := #[] }, { accessFlags := 1, nameIndex := 83, descriptorIndex := 84, attributes := #[] }, { accessFlags := 16, nameIndex := 33, descriptorIndex := 12, attributes := #[] }] 32 8 #[69] #[{ accessFlags := 0, nameIndex := 27, descriptorIndex := 16, attributes := #[] }, { accessFlags := 0, nameIndex := 15, descriptorIndex := 16, attributes := #[] }, { accessFlags := 0, nameIndex := 24, descriptorIndex := 16, attributes := #[] }, { accessFlags := 4112, nameIndex := 5, descriptorIndex := 6, attributes := #[] }])
  fields := #[{ name := "cursor", type := .int, accessFlags := 0, slot := 0, constantValue := 0 }, { name := "lastRet", type := .int, accessFlags := 0, slot := 1, constantValue := 0 }, { name := "expectedModCount", type := .int, accessFlags := 0, slot := 2, constantValue := 0 }, { name := "this$0", type := (.object "java/util/ArrayList"), accessFlags := 4112, slot := 3, constantValue := 0 }]
  methods := #[k15m0, k15m1, k15m2, k15m3]
  instanceTypes := #[.int, .int, .int, (.object "java/util/ArrayList")]
  staticTypes := #[]
  resolved := Array.replicate 104 none
  statics := none }

def pool16 : Array CpInfo := pool [(1, .class_ 2), (0, u "com/example/ohjaus/ohjaus/time/Steps"), (1, .class_ 6), (1, u "java/lang/Object"), (0, u "<init>"), (0, u "()V"), (46, u "LAST_TIME"), (0, u "Ljava/math/BigDecimal;"), (36, .long 9223372036854775807), (31, u "STEPS_PER_SECOND"), (0, u "I"), (2, u "NANOS_PER_STEP"), (0, u "J"), (2, u "MAX_TIME_CHARACTERS"), (8, u "after"), (0, u "(JJ)J")] 31

def k16m0 : Method := { name := "<init>", desc := "()V", sig := { parameters := [], returnType := none }, accessFlags := 2, code := none }
def k16c1 : Code := { maxStack := 6, maxLocals := 4, code := prog_57_method_8_code, exceptionTable := #[], attributes := #[] }
def k16m1 : Method := { name := "after", desc := "(JJ)J", sig := { parameters := [.long, .long], returnType := some .long }, accessFlags := 9, code := some k16c1 }
/-- com/example/ohjaus/ohjaus/time/Steps -/
def k16 : Class := { plain "com/example/ohjaus/ohjaus/time/Steps" (some 0) with
  accessFlags := 33
  interfaces := #[]
  cf := some (fileOf pool16 1 #[] #[{ accessFlags := 2, nameIndex := 7, descriptorIndex := 8, attributes := #[] }, { accessFlags := 9, nameIndex := 142, descriptorIndex := 143, attributes := #[] }] 33 4 #[] #[{ accessFlags := 26, nameIndex := 125, descriptorIndex := 126, attributes := #[] }, { accessFlags := 25, nameIndex := 129, descriptorIndex := 130, attributes := #[] }, { accessFlags := 26, nameIndex := 55, descriptorIndex := 56, attributes := #[] }, { accessFlags := 25, nameIndex := 133, descriptorIndex := 126, attributes := #[] }])
  fields := #[{ name := "STEPS_PER_SECOND", type := .int, accessFlags := 26, slot := 0, constantValue := 0 }, { name := "NANOS_PER_STEP", type := .long, accessFlags := 25, slot := 1, constantValue := 0 }, { name := "LAST_TIME", type := (.object "java/math/BigDecimal"), accessFlags := 26, slot := 2, constantValue := 0 }, { name := "MAX_TIME_CHARACTERS", type := .int, accessFlags := 25, slot := 3, constantValue := 0 }]
  methods := #[k16m0, k16m1]
  instanceTypes := #[]
  staticTypes := #[.int, .long, (.object "java/math/BigDecimal"), .int]
  resolved := Array.replicate 175 none
  statics := none }

def pool17 : Array CpInfo := pool [(1, .methodref 2 3), (0, .class_ 4), (0, .nameAndType 5 6), (0, u "java/lang/Object"), (0, u "<init>"), (0, u "()V"), (0, .fieldref 8 9), (0, .class_ 10), (0, .nameAndType 11 12), (0, u "com/example/ohjaus/ohjaus/signal/PushButton"), (0, u "detector"), (0, u "I"), (0, .fieldref 8 14), (0, .nameAndType 15 12), (0, u "group"), (0, u "(II)V"), (2, u "()I")] 2

def k17c0 : Code := { maxStack := 2, maxLocals := 3, code := prog_43_method_1_code, exceptionTable := #[], attributes := #[] }
def k17m0 : Method := { name := "<init>", desc := "(II)V", sig := { parameters := [.int, .int], returnType := none }, accessFlags := 1, code := some k17c0 }
def k17c1 : Code := { maxStack := 1, maxLocals := 1, code := prog_43_method_2_code, exceptionTable := #[], attributes := #[] }
def k17m1 : Method := { name := "detector", desc := "()I", sig := { parameters := [], returnType := some .int }, accessFlags := 1, code := some k17c1 }
/-- com/example/ohjaus/ohjaus/signal/PushButton -/
def k17 : Class := { plain "com/example/ohjaus/ohjaus/signal/PushButton" (some 0) with
  accessFlags := 33
  interfaces := #[]
  cf := some (fileOf pool17 8 #[] #[{ accessFlags := 1, nameIndex := 5, descriptorIndex := 16, attributes := #[] }, { accessFlags := 1, nameIndex := 11, descriptorIndex := 19, attributes := #[] }] 33 2 #[] #[{ accessFlags := 18, nameIndex := 11, descriptorIndex := 12, attributes := #[] }, { accessFlags := 18, nameIndex := 15, descriptorIndex := 12, attributes := #[] }])
  fields := #[{ name := "detector", type := .int, accessFlags := 18, slot := 0, constantValue := 0 }, { name := "group", type := .int, accessFlags := 18, slot := 1, constantValue := 0 }]
  methods := #[k17m0, k17m1]
  instanceTypes := #[.int, .int]
  staticTypes := #[]
  resolved := Array.replicate 22 none
  statics := none }

def pool18 : Array CpInfo := pool [(1, .class_ 2), (0, u "java/lang/Math"), (1, .class_ 6), (1, u "java/lang/Object"), (0, u "<init>"), (0, u "()V"), (89, .class_ 100), (1, u "java/lang/Math$RandomNumberGeneratorHolder"), (71, u "negativeZeroFloatBits"), (0, u "J"), (2, u "negativeZeroDoubleBits"), (21, u "max"), (46, u "$assertionsDisabled"), (0, u "Z"), (88, u "(II)I"), (2, u "twoToTheDoubleScaleDown"), (0, u "D"), (4, u "twoToTheDoubleScaleUp"), (9, u "E"), (3, u "PI"), (2, u "TAU"), (2, u "DEGREES_TO_RADIANS"), (0, u "RADIANS_TO_DEGREES")] 94

def k18m0 : Method := { name := "<init>", desc := "()V", sig := { parameters := [], returnType := none }, accessFlags := 2, code := none }
def k18c1 : Code := { maxStack := 2, maxLocals := 2, code := jdk_29_method_65_code, exceptionTable := #[], attributes := #[] }
def k18m1 : Method := { name := "max", desc := "(II)I", sig := { parameters := [.int, .int], returnType := some .int }, accessFlags := 9, code := some k18c1 }
/-- java/lang/Math -/
def k18 : Class := { plain "java/lang/Math" (some 0) with
  accessFlags := 49
  interfaces := #[]
  cf := some (fileOf pool18 1 #[.nestMembers #[98]] #[{ accessFlags := 2, nameIndex := 7, descriptorIndex := 8, attributes := #[] }, { accessFlags := 9, nameIndex := 198, descriptorIndex := 335, attributes := #[] }] 49 4 #[] #[{ accessFlags := 25, nameIndex := 354, descriptorIndex := 339, attributes := #[] }, { accessFlags := 25, nameIndex := 358, descriptorIndex := 339, attributes := #[] }, { accessFlags := 25, nameIndex := 361, descriptorIndex := 339, attributes := #[] }, { accessFlags := 26, nameIndex := 364, descriptorIndex := 339, attributes := #[] }, { accessFlags := 26, nameIndex := 365, descriptorIndex := 339, attributes := #[] }, { accessFlags := 26, nameIndex := 172, descriptorIndex := 173, attributes := #[] }, { accessFlags := 26, nameIndex := 176, descriptorIndex := 173, attributes := #[] }, { accessFlags := 8, nameIndex := 344, descriptorIndex := 339, attributes := #[] }, { accessFlags := 8, nameIndex := 338, descriptorIndex := 339, attributes := #[] }, { accessFlags := 4120, nameIndex := 245, descriptorIndex := 246, attributes := #[] }])
  fields := #[{ name := "E", type := .double, accessFlags := 25, slot := 0, constantValue := 0 }, { name := "PI", type := .double, accessFlags := 25, slot := 1, constantValue := 0 }, { name := "TAU", type := .double, accessFlags := 25, slot := 2, constantValue := 0 }, { name := "DEGREES_TO_RADIANS", type := .double, accessFlags := 26, slot := 3, constantValue := 0 }, { name := "RADIANS_TO_DEGREES", type := .double, accessFlags := 26, slot := 4, constantValue := 0 }, { name := "negativeZeroFloatBits", type := .long, accessFlags := 26, slot := 5, constantValue := 0 }, { name := "negativeZeroDoubleBits", type := .long, accessFlags := 26, slot := 6, constantValue := 0 }, { name := "twoToTheDoubleScaleUp", type := .double, accessFlags := 8, slot := 7, constantValue := 0 }, { name := "twoToTheDoubleScaleDown", type := .double, accessFlags := 8, slot := 8, constantValue := 0 }, { name := "$assertionsDisabled", type := .boolean, accessFlags := 4120, slot := 9, constantValue := 0 }]
  methods := #[k18m0, k18m1]
  instanceTypes := #[]
  staticTypes := #[.double, .double, .double, .double, .double, .long, .long, .double, .double, .boolean]
  resolved := Array.replicate 460 none
  statics := none }

/-- the primitive boolean -/
def k19 : Class := { plain "boolean" none with kind := .primitive 'Z', accessFlags := 0x411 }
/-- [Z -/
def k20 : Class := { plain "[Z" (some 0) with kind := .array 19 .boolean, interfaces := #[9, 10], accessFlags := 1041 }

/-- the primitive byte -/
def k21 : Class := { plain "byte" none with kind := .primitive 'B', accessFlags := 0x411 }
/-- [B -/
def k22 : Class := { plain "[B" (some 0) with kind := .array 21 .byte, interfaces := #[9, 10], accessFlags := 1041 }

/-- the primitive int -/
def k23 : Class := { plain "int" none with kind := .primitive 'I', accessFlags := 0x411 }
/-- [I -/
def k24 : Class := { plain "[I" (some 0) with kind := .array 23 .int, interfaces := #[9, 10], accessFlags := 1041 }

/-- the primitive long -/
def k25 : Class := { plain "long" none with kind := .primitive 'J', accessFlags := 0x411 }
/-- [J -/
def k26 : Class := { plain "[J" (some 0) with kind := .array 25 .long, interfaces := #[9, 10], accessFlags := 1041 }

/-- [Ljava/lang/Object; -/
def k27 : Class := { plain "[Ljava/lang/Object;" (some 0) with kind := .array 0 (.object "java/lang/Object"), interfaces := #[9, 10], accessFlags := 1041 }

def heap : Heap := #[{ cls := 11, slots := #[.long 0, .int 0, .ref 1, .ref 2], vm := .statics 11 },
  { cls := 27, slots := #[], vm := .none },
  { cls := 27, slots := #[], vm := .none }]
def classes : Array Class := #[k0, k1, k2, k3, k4, k5, k6, k7, k8, k9, k10, k11, k12, k13, k14, k15, k16, k17, k18, k19, k20, k21, k22, k23, k24, k25, k26, k27]
def interned : List (Array UInt16 × Addr) := []
def slotsUsed : Nat := 4
def theMethod : MethodId := ⟨1, 1⟩
def args0 : Array Value := #[.int 75, .long 3]
def aboutOver (below : List Frame) : State where
  vm := { classes := classes, interned := interned.toArray }
  heap := heap
  slotsUsed := slotsUsed
  threads := #[{ frames := .invoking theMethod args0 :: below }]
def below0 : List Frame := [.native { method := ⟨0, 0⟩, args := #[] }]
def about1 : State := aboutOver below0
def p0 : Program := .bare "" "" ""
def e0 : Env := launch0.env 0 0 0
theorem w_frames : about1.frames = Frame.invoking theMethod args0 :: below0 := rfl
set_option maxRecDepth 65536 in
theorem w_args : argsFit about1.vm theMethod args0 = true := by decide +kernel
set_option maxRecDepth 65536 in
theorem w_heap : heapFits about1 = true := by decide +kernel
set_option maxRecDepth 65536 in
theorem w_runnable : about1.curStatus? = some .runnable := by decide +kernel
set_option maxRecDepth 65536 in
theorem w_alone : about1.alone = true := by decide +kernel
set_option maxRecDepth 65536 in
theorem w_named : about1.methodNamed? x = some theMethod := by decide +kernel
set_option maxRecDepth 65536 in
theorem w_hears : about1.hears theMethod below0 = true := by decide +kernel
set_option maxRecDepth 65536 in
theorem w_ripe : about1.ripe theMethod args0 below0 = true := by decide +kernel
theorem w_running : about1.status = .running := rfl
set_option maxRecDepth 65536 in
theorem w_room : about1.hasRoom e0.platform room_1 = true :=
  launch0.hasRoom_least _ room_1 (by decide +kernel) (by decide +kernel) (by decide +kernel) (by decide +kernel) (by decide +kernel) (by decide +kernel)
theorem allAtoms_all (ts : List Jvm.Cond) (a : Array Jvm.Value) (st : Jvm.State) : (allAtoms ts).before a st = ts.all (fun c => c.before a st) := by
  induction ts with
  | nil => rfl
  | cons c t ih =>
    show (Jvm.Cond.and c (allAtoms t)).before a st = _
    rw [Jvm.Cond.before_and, ih, List.all_cons]
def words1 : List Jvm.Cond := Jvm.Cond.code x code maxLocals ret :: tables_1
/-- a 'code' word, met by the world's own term for the bytes: nothing is compared byte by byte -/
theorem code_word {y : MethodName} {bytes : ByteArray} {mx : Nat} {rt : Option FieldType} {a : Array Value} {s : State} {m : MethodId} {meth : Method} {c : Code} (h1 : s.methodNamed? y = some m) (h2 : s.vm.method? m = some meth) (h3 : meth.code = some c) (h4 : c.code = bytes)
    (h5 : (c.maxLocals == mx && c.exceptionTable.isEmpty && decide (c.maxStack ≤ mostOperands) && decide (meth.sig.returnType = rt) && !meth.locks && decide (parseMethodDescriptor y.desc = some meth.sig)) = true) : (Jvm.Cond.code y bytes mx rt).before a s = true := by
  simp only [Bool.and_eq_true, beq_iff_eq, Bool.not_eq_true', decide_eq_true_eq] at h5
  obtain ⟨⟨⟨⟨⟨g1, g2⟩, g3⟩, g4⟩, g5⟩, g6⟩ := h5
  simp [Cond.before, Cond.holds, Cond.value, h1, h2, h3, h4, g1, g2, g3, g4, g5, g6]
def isCode : Jvm.Cond → Bool
  | .code _ _ _ _ => true
  | _ => false
theorem all_split {L : List Jvm.Cond} {P : Jvm.Cond → Bool} (h1 : L.all (fun c => isCode c || P c) = true) (h2 : ∀ c ∈ L.filter isCode, P c = true) : L.all P = true := by
  refine List.all_eq_true.mpr fun c hc => ?_
  have h := List.all_eq_true.mp h1 c hc
  rcases Bool.eq_false_or_eq_true (isCode c) with hi | hi
  · exact h2 c (List.mem_filter.mpr ⟨hc, hi⟩)
  · simpa [hi] using h
set_option maxRecDepth 65536 in
theorem w_c0 : (Jvm.Cond.code x code maxLocals ret).before args0 about1 = true := code_word (m := ⟨1, 1⟩) (meth := k1m1) (c := k1c1) (by decide +kernel) rfl rfl rfl (by decide +kernel)
set_option maxRecDepth 65536 in
theorem w_c1 : (Jvm.Cond.code ({ cls := "java/util/ArrayList", name := "<init>", desc := "()V" } : Jvm.MethodName) jdk_38_method_2_code (1 : Nat) (Option.none : Option Jvm.ClassFile.FieldType)).before args0 about1 = true := code_word (m := ⟨11, 0⟩) (meth := k11m0) (c := k11c0) (by decide +kernel) rfl rfl rfl (by decide +kernel)
set_option maxRecDepth 65536 in
theorem w_c2 : (Jvm.Cond.code ({ cls := "java/util/AbstractList", name := "<init>", desc := "()V" } : Jvm.MethodName) jdk_39_method_1_code (1 : Nat) (Option.none : Option Jvm.ClassFile.FieldType)).before args0 about1 = true := code_word (m := ⟨7, 0⟩) (meth := k7m0) (c := k7c0) (by decide +kernel) rfl rfl rfl (by decide +kernel)
set_option maxRecDepth 65536 in
theorem w_c3 : (Jvm.Cond.code ({ cls := "java/util/AbstractCollection", name := "<init>", desc := "()V" } : Jvm.MethodName) jdk_22_method_1_code (1 : Nat) (Option.none : Option Jvm.ClassFile.FieldType)).before args0 about1 = true := code_word (m := ⟨4, 0⟩) (meth := k4m0) (c := k4c0) (by decide +kernel) rfl rfl rfl (by decide +kernel)
set_option maxRecDepth 65536 in
theorem w_c4 : (Jvm.Cond.code ({ cls := "java/lang/Object", name := "<init>", desc := "()V" } : Jvm.MethodName) object_method_1_code (1 : Nat) (Option.none : Option Jvm.ClassFile.FieldType)).before args0 about1 = true := code_word (m := ⟨0, 0⟩) (meth := k0m0) (c := k0c0) (by decide +kernel) rfl rfl rfl (by decide +kernel)
set_option maxRecDepth 65536 in
theorem w_c5 : (Jvm.Cond.code ({ cls := "com/example/ohjaus/ohjaus/signal/Situation", name := "<init>", desc := "(ILjava/util/List;I)V" } : Jvm.MethodName) prog_49_method_1_code (6 : Nat) (Option.none : Option Jvm.ClassFile.FieldType)).before args0 about1 = true := code_word (m := ⟨12, 0⟩) (meth := k12m0) (c := k12c0) (by decide +kernel) rfl rfl rfl (by decide +kernel)
set_option maxRecDepth 65536 in
theorem w_c6 : (Jvm.Cond.code ({ cls := "java/util/Arrays", name := "fill", desc := "([JJ)V" } : Jvm.MethodName) jdk_65_method_101_code (5 : Nat) (Option.none : Option Jvm.ClassFile.FieldType)).before args0 about1 = true := code_word (m := ⟨13, 1⟩) (meth := k13m1) (c := k13c1) (by decide +kernel) rfl rfl rfl (by decide +kernel)
set_option maxRecDepth 65536 in
theorem w_c7 : (Jvm.Cond.code ({ cls := "java/util/ArrayList", name := "iterator", desc := "()Ljava/util/Iterator;" } : Jvm.MethodName) jdk_38_method_55_code (1 : Nat) (Option.some (Jvm.ClassFile.FieldType.object "java/util/Iterator"))).before args0 about1 = true := code_word (m := ⟨11, 5⟩) (meth := k11m5) (c := k11c5) (by decide +kernel) rfl rfl rfl (by decide +kernel)
set_option maxRecDepth 65536 in
theorem w_c8 : (Jvm.Cond.code ({ cls := "java/util/ArrayList$Itr", name := "<init>", desc := "(Ljava/util/ArrayList;)V" } : Jvm.MethodName) jdk_49_method_1_code (2 : Nat) (Option.none : Option Jvm.ClassFile.FieldType)).before args0 about1 = true := code_word (m := ⟨15, 0⟩) (meth := k15m0) (c := k15c0) (by decide +kernel) rfl rfl rfl (by decide +kernel)
set_option maxRecDepth 65536 in
theorem w_c9 : (Jvm.Cond.code ({ cls := "java/util/ArrayList$Itr", name := "hasNext", desc := "()Z" } : Jvm.MethodName) jdk_49_method_2_code (1 : Nat) (Option.some Jvm.ClassFile.FieldType.boolean)).before args0 about1 = true := code_word (m := ⟨15, 1⟩) (meth := k15m1) (c := k15c1) (by decide +kernel) rfl rfl rfl (by decide +kernel)
set_option maxRecDepth 65536 in
theorem w_c10 : (Jvm.Cond.code ({ cls := "com/example/ohjaus/ohjaus/signal/Situation", name := "next", desc := "()V" } : Jvm.MethodName) prog_49_method_2_code (1 : Nat) (Option.none : Option Jvm.ClassFile.FieldType)).before args0 about1 = true := code_word (m := ⟨12, 1⟩) (meth := k12m1) (c := k12c1) (by decide +kernel) rfl rfl rfl (by decide +kernel)
set_option maxRecDepth 65536 in
theorem w_c11 : (Jvm.Cond.code ({ cls := "com/example/ohjaus/ohjaus/signal/Situation", name := "detect", desc := "(IZ)V" } : Jvm.MethodName) prog_49_method_3_code (3 : Nat) (Option.none : Option Jvm.ClassFile.FieldType)).before args0 about1 = true := code_word (m := ⟨12, 2⟩) (meth := k12m2) (c := k12c2) (by decide +kernel) rfl rfl rfl (by decide +kernel)
set_option maxRecDepth 65536 in
theorem w_c12 : (Jvm.Cond.code ({ cls := "com/example/ohjaus/ohjaus/signal/Situation", name := "gapUnder", desc := "(IJ)Z" } : Jvm.MethodName) prog_49_method_8_code (4 : Nat) (Option.some Jvm.ClassFile.FieldType.boolean)).before args0 about1 = true := code_word (m := ⟨12, 6⟩) (meth := k12m6) (c := k12c6) (by decide +kernel) rfl rfl rfl (by decide +kernel)
set_option maxRecDepth 65536 in
theorem w_c13 : (Jvm.Cond.code ({ cls := "com/example/ohjaus/ohjaus/time/Steps", name := "after", desc := "(JJ)J" } : Jvm.MethodName) prog_57_method_8_code (4 : Nat) (Option.some Jvm.ClassFile.FieldType.long)).before args0 about1 = true := code_word (m := ⟨16, 1⟩) (meth := k16m1) (c := k16c1) (by decide +kernel) rfl rfl rfl (by decide +kernel)
set_option maxRecDepth 65536 in
theorem w_c14 : (Jvm.Cond.code ({ cls := "com/example/ohjaus/ohjaus/signal/Situation", name := "occupiedOver", desc := "(IJ)Z" } : Jvm.MethodName) prog_49_method_9_code (4 : Nat) (Option.some Jvm.ClassFile.FieldType.boolean)).before args0 about1 = true := code_word (m := ⟨12, 7⟩) (meth := k12m7) (c := k12c7) (by decide +kernel) rfl rfl rfl (by decide +kernel)
set_option maxRecDepth 65536 in
theorem w_c15 : (Jvm.Cond.code ({ cls := "com/example/ohjaus/ohjaus/signal/Situation", name := "anyFaulty", desc := "()Z" } : Jvm.MethodName) prog_49_method_5_code (1 : Nat) (Option.some Jvm.ClassFile.FieldType.boolean)).before args0 about1 = true := code_word (m := ⟨12, 4⟩) (meth := k12m4) (c := k12c4) (by decide +kernel) rfl rfl rfl (by decide +kernel)
set_option maxRecDepth 65536 in
theorem w_c16 : (Jvm.Cond.code ({ cls := "com/example/ohjaus/ohjaus/signal/PushButton", name := "<init>", desc := "(II)V" } : Jvm.MethodName) prog_43_method_1_code (3 : Nat) (Option.none : Option Jvm.ClassFile.FieldType)).before args0 about1 = true := code_word (m := ⟨17, 0⟩) (meth := k17m0) (c := k17c0) (by decide +kernel) rfl rfl rfl (by decide +kernel)
set_option maxRecDepth 65536 in
theorem w_c17 : (Jvm.Cond.code ({ cls := "java/util/ArrayList", name := "add", desc := "(Ljava/lang/Object;)Z" } : Jvm.MethodName) jdk_38_method_25_code (2 : Nat) (Option.some Jvm.ClassFile.FieldType.boolean)).before args0 about1 = true := code_word (m := ⟨11, 4⟩) (meth := k11m4) (c := k11c4) (by decide +kernel) rfl rfl rfl (by decide +kernel)
set_option maxRecDepth 65536 in
theorem w_c18 : (Jvm.Cond.code ({ cls := "java/util/ArrayList", name := "add", desc := "(Ljava/lang/Object;[Ljava/lang/Object;I)V" } : Jvm.MethodName) jdk_38_method_24_code (4 : Nat) (Option.none : Option Jvm.ClassFile.FieldType)).before args0 about1 = true := code_word (m := ⟨11, 3⟩) (meth := k11m3) (c := k11c3) (by decide +kernel) rfl rfl rfl (by decide +kernel)
set_option maxRecDepth 65536 in
theorem w_c19 : (Jvm.Cond.code ({ cls := "java/util/ArrayList", name := "grow", desc := "()[Ljava/lang/Object;" } : Jvm.MethodName) jdk_38_method_7_code (1 : Nat) (Option.some (Jvm.ClassFile.FieldType.array (Jvm.ClassFile.FieldType.object "java/lang/Object")))).before args0 about1 = true := code_word (m := ⟨11, 2⟩) (meth := k11m2) (c := k11c2) (by decide +kernel) rfl rfl rfl (by decide +kernel)
set_option maxRecDepth 65536 in
theorem w_c20 : (Jvm.Cond.code ({ cls := "java/util/ArrayList", name := "grow", desc := "(I)[Ljava/lang/Object;" } : Jvm.MethodName) jdk_38_method_6_code (4 : Nat) (Option.some (Jvm.ClassFile.FieldType.array (Jvm.ClassFile.FieldType.object "java/lang/Object")))).before args0 about1 = true := code_word (m := ⟨11, 1⟩) (meth := k11m1) (c := k11c1) (by decide +kernel) rfl rfl rfl (by decide +kernel)
set_option maxRecDepth 65536 in
theorem w_c21 : (Jvm.Cond.code ({ cls := "java/lang/Math", name := "max", desc := "(II)I" } : Jvm.MethodName) jdk_29_method_65_code (2 : Nat) (Option.some Jvm.ClassFile.FieldType.int)).before args0 about1 = true := code_word (m := ⟨18, 1⟩) (meth := k18m1) (c := k18c1) (by decide +kernel) rfl rfl rfl (by decide +kernel)
set_option maxRecDepth 65536 in
theorem w_c22 : (Jvm.Cond.code ({ cls := "java/util/ArrayList$Itr", name := "next", desc := "()Ljava/lang/Object;" } : Jvm.MethodName) jdk_49_method_3_code (3 : Nat) (Option.some (Jvm.ClassFile.FieldType.object "java/lang/Object"))).before args0 about1 = true := code_word (m := ⟨15, 2⟩) (meth := k15m2) (c := k15c2) (by decide +kernel) rfl rfl rfl (by decide +kernel)
set_option maxRecDepth 65536 in
theorem w_c23 : (Jvm.Cond.code ({ cls := "java/util/ArrayList$Itr", name := "checkForComodification", desc := "()V" } : Jvm.MethodName) jdk_49_method_6_code (1 : Nat) (Option.none : Option Jvm.ClassFile.FieldType)).before args0 about1 = true := code_word (m := ⟨15, 3⟩) (meth := k15m3) (c := k15c3) (by decide +kernel) rfl rfl rfl (by decide +kernel)
set_option maxRecDepth 65536 in
theorem w_c24 : (Jvm.Cond.code ({ cls := "com/example/ohjaus/ohjaus/signal/PushButton", name := "detector", desc := "()I" } : Jvm.MethodName) prog_43_method_2_code (1 : Nat) (Option.some Jvm.ClassFile.FieldType.int)).before args0 about1 = true := code_word (m := ⟨17, 1⟩) (meth := k17m1) (c := k17c1) (by decide +kernel) rfl rfl rfl (by decide +kernel)
set_option maxRecDepth 65536 in
theorem w_c25 : (Jvm.Cond.code ({ cls := "com/example/ohjaus/ohjaus/signal/Situation", name := "serve", desc := "(I)V" } : Jvm.MethodName) prog_49_method_6_code (2 : Nat) (Option.none : Option Jvm.ClassFile.FieldType)).before args0 about1 = true := code_word (m := ⟨12, 5⟩) (meth := k12m5) (c := k12c5) (by decide +kernel) rfl rfl rfl (by decide +kernel)
set_option maxRecDepth 65536 in
theorem w_c26 : (Jvm.Cond.code ({ cls := "com/example/ohjaus/ohjaus/signal/Situation", name := "fault", desc := "(I)V" } : Jvm.MethodName) prog_49_method_4_code (2 : Nat) (Option.none : Option Jvm.ClassFile.FieldType)).before args0 about1 = true := code_word (m := ⟨12, 3⟩) (meth := k12m3) (c := k12c3) (by decide +kernel) rfl rfl rfl (by decide +kernel)
def codes1 : List Jvm.Cond := [Jvm.Cond.code x code maxLocals ret, Jvm.Cond.code ({ cls := "java/util/ArrayList", name := "<init>", desc := "()V" } : Jvm.MethodName) jdk_38_method_2_code (1 : Nat) (Option.none : Option Jvm.ClassFile.FieldType), Jvm.Cond.code ({ cls := "java/util/AbstractList", name := "<init>", desc := "()V" } : Jvm.MethodName) jdk_39_method_1_code (1 : Nat) (Option.none : Option Jvm.ClassFile.FieldType), Jvm.Cond.code ({ cls := "java/util/AbstractCollection", name := "<init>", desc := "()V" } : Jvm.MethodName) jdk_22_method_1_code (1 : Nat) (Option.none : Option Jvm.ClassFile.FieldType), Jvm.Cond.code ({ cls := "java/lang/Object", name := "<init>", desc := "()V" } : Jvm.MethodName) object_method_1_code (1 : Nat) (Option.none : Option Jvm.ClassFile.FieldType), Jvm.Cond.code ({ cls := "com/example/ohjaus/ohjaus/signal/Situation", name := "<init>", desc := "(ILjava/util/List;I)V" } : Jvm.MethodName) prog_49_method_1_code (6 : Nat) (Option.none : Option Jvm.ClassFile.FieldType), Jvm.Cond.code ({ cls := "java/util/Arrays", name := "fill", desc := "([JJ)V" } : Jvm.MethodName) jdk_65_method_101_code (5 : Nat) (Option.none : Option Jvm.ClassFile.FieldType), Jvm.Cond.code ({ cls := "java/util/ArrayList", name := "iterator", desc := "()Ljava/util/Iterator;" } : Jvm.MethodName) jdk_38_method_55_code (1 : Nat) (Option.some (Jvm.ClassFile.FieldType.object "java/util/Iterator")), Jvm.Cond.code ({ cls := "java/util/ArrayList$Itr", name := "<init>", desc := "(Ljava/util/ArrayList;)V" } : Jvm.MethodName) jdk_49_method_1_code (2 : Nat) (Option.none : Option Jvm.ClassFile.FieldType), Jvm.Cond.code ({ cls := "java/util/ArrayList$Itr", name := "hasNext", desc := "()Z" } : Jvm.MethodName) jdk_49_method_2_code (1 : Nat) (Option.some Jvm.ClassFile.FieldType.boolean), Jvm.Cond.code ({ cls := "com/example/ohjaus/ohjaus/signal/Situation", name := "next", desc := "()V" } : Jvm.MethodName) prog_49_method_2_code (1 : Nat) (Option.none : Option Jvm.ClassFile.FieldType), Jvm.Cond.code ({ cls := "com/example/ohjaus/ohjaus/signal/Situation", name := "detect", desc := "(IZ)V" } : Jvm.MethodName) prog_49_method_3_code (3 : Nat) (Option.none : Option Jvm.ClassFile.FieldType), Jvm.Cond.code ({ cls := "com/example/ohjaus/ohjaus/signal/Situation", name := "gapUnder", desc := "(IJ)Z" } : Jvm.MethodName) prog_49_method_8_code (4 : Nat) (Option.some Jvm.ClassFile.FieldType.boolean), Jvm.Cond.code ({ cls := "com/example/ohjaus/ohjaus/time/Steps", name := "after", desc := "(JJ)J" } : Jvm.MethodName) prog_57_method_8_code (4 : Nat) (Option.some Jvm.ClassFile.FieldType.long), Jvm.Cond.code ({ cls := "com/example/ohjaus/ohjaus/signal/Situation", name := "occupiedOver", desc := "(IJ)Z" } : Jvm.MethodName) prog_49_method_9_code (4 : Nat) (Option.some Jvm.ClassFile.FieldType.boolean), Jvm.Cond.code ({ cls := "com/example/ohjaus/ohjaus/signal/Situation", name := "anyFaulty", desc := "()Z" } : Jvm.MethodName) prog_49_method_5_code (1 : Nat) (Option.some Jvm.ClassFile.FieldType.boolean), Jvm.Cond.code ({ cls := "com/example/ohjaus/ohjaus/signal/PushButton", name := "<init>", desc := "(II)V" } : Jvm.MethodName) prog_43_method_1_code (3 : Nat) (Option.none : Option Jvm.ClassFile.FieldType), Jvm.Cond.code ({ cls := "java/util/ArrayList", name := "add", desc := "(Ljava/lang/Object;)Z" } : Jvm.MethodName) jdk_38_method_25_code (2 : Nat) (Option.some Jvm.ClassFile.FieldType.boolean), Jvm.Cond.code ({ cls := "java/util/ArrayList", name := "add", desc := "(Ljava/lang/Object;[Ljava/lang/Object;I)V" } : Jvm.MethodName) jdk_38_method_24_code (4 : Nat) (Option.none : Option Jvm.ClassFile.FieldType), Jvm.Cond.code ({ cls := "java/util/ArrayList", name := "grow", desc := "()[Ljava/lang/Object;" } : Jvm.MethodName) jdk_38_method_7_code (1 : Nat) (Option.some (Jvm.ClassFile.FieldType.array (Jvm.ClassFile.FieldType.object "java/lang/Object"))), Jvm.Cond.code ({ cls := "java/util/ArrayList", name := "grow", desc := "(I)[Ljava/lang/Object;" } : Jvm.MethodName) jdk_38_method_6_code (4 : Nat) (Option.some (Jvm.ClassFile.FieldType.array (Jvm.ClassFile.FieldType.object "java/lang/Object"))), Jvm.Cond.code ({ cls := "java/lang/Math", name := "max", desc := "(II)I" } : Jvm.MethodName) jdk_29_method_65_code (2 : Nat) (Option.some Jvm.ClassFile.FieldType.int), Jvm.Cond.code ({ cls := "java/util/ArrayList$Itr", name := "next", desc := "()Ljava/lang/Object;" } : Jvm.MethodName) jdk_49_method_3_code (3 : Nat) (Option.some (Jvm.ClassFile.FieldType.object "java/lang/Object")), Jvm.Cond.code ({ cls := "java/util/ArrayList$Itr", name := "checkForComodification", desc := "()V" } : Jvm.MethodName) jdk_49_method_6_code (1 : Nat) (Option.none : Option Jvm.ClassFile.FieldType), Jvm.Cond.code ({ cls := "com/example/ohjaus/ohjaus/signal/PushButton", name := "detector", desc := "()I" } : Jvm.MethodName) prog_43_method_2_code (1 : Nat) (Option.some Jvm.ClassFile.FieldType.int), Jvm.Cond.code ({ cls := "com/example/ohjaus/ohjaus/signal/Situation", name := "serve", desc := "(I)V" } : Jvm.MethodName) prog_49_method_6_code (2 : Nat) (Option.none : Option Jvm.ClassFile.FieldType), Jvm.Cond.code ({ cls := "com/example/ohjaus/ohjaus/signal/Situation", name := "fault", desc := "(I)V" } : Jvm.MethodName) prog_49_method_4_code (2 : Nat) (Option.none : Option Jvm.ClassFile.FieldType)]
set_option maxRecDepth 65536 in
theorem codes_eq : words1.filter isCode = codes1 := rfl
theorem w_codes : ∀ c ∈ words1.filter isCode, c.before args0 about1 = true := by
  rw [codes_eq]
  intro c hc
  simp only [codes1, List.mem_cons, List.not_mem_nil, or_false] at hc
  rcases hc with rfl | rfl | rfl | rfl | rfl | rfl | rfl | rfl | rfl | rfl | rfl | rfl | rfl | rfl | rfl | rfl | rfl | rfl | rfl | rfl | rfl | rfl | rfl | rfl | rfl | rfl | rfl
  · exact w_c0
  · exact w_c1
  · exact w_c2
  · exact w_c3
  · exact w_c4
  · exact w_c5
  · exact w_c6
  · exact w_c7
  · exact w_c8
  · exact w_c9
  · exact w_c10
  · exact w_c11
  · exact w_c12
  · exact w_c13
  · exact w_c14
  · exact w_c15
  · exact w_c16
  · exact w_c17
  · exact w_c18
  · exact w_c19
  · exact w_c20
  · exact w_c21
  · exact w_c22
  · exact w_c23
  · exact w_c24
  · exact w_c25
  · exact w_c26
set_option maxRecDepth 65536 in
theorem w_t1 : (words1.take 24).all (fun c => isCode c || c.before args0 about1) = true := by decide +kernel
set_option maxRecDepth 65536 in
theorem w_t2 : ((words1.drop 24).take 24).all (fun c => isCode c || c.before args0 about1) = true := by decide +kernel
set_option maxRecDepth 65536 in
theorem w_t3 : (((words1.drop 24).drop 24).take 24).all (fun c => isCode c || c.before args0 about1) = true := by decide +kernel
set_option maxRecDepth 65536 in
theorem w_t4 : ((((words1.drop 24).drop 24).drop 24).take 24).all (fun c => isCode c || c.before args0 about1) = true := by decide +kernel
set_option maxRecDepth 65536 in
theorem w_t5 : (((((words1.drop 24).drop 24).drop 24).drop 24).take 24).all (fun c => isCode c || c.before args0 about1) = true := by decide +kernel
set_option maxRecDepth 65536 in
theorem w_t6 : ((((((words1.drop 24).drop 24).drop 24).drop 24).drop 24).take 24).all (fun c => isCode c || c.before args0 about1) = true := by decide +kernel
set_option maxRecDepth 65536 in
theorem w_t7 : (((((((words1.drop 24).drop 24).drop 24).drop 24).drop 24).drop 24).take 24).all (fun c => isCode c || c.before args0 about1) = true := by decide +kernel
set_option maxRecDepth 65536 in
theorem w_t8 : ((((((((words1.drop 24).drop 24).drop 24).drop 24).drop 24).drop 24).drop 24).take 24).all (fun c => isCode c || c.before args0 about1) = true := by decide +kernel
set_option maxRecDepth 65536 in
theorem w_t9 : ((((((((words1.drop 24).drop 24).drop 24).drop 24).drop 24).drop 24).drop 24).drop 24).all (fun c => isCode c || c.before args0 about1) = true := by decide +kernel
theorem w_tables : (allAtoms (Jvm.Cond.code x code maxLocals ret :: tables_1)).before args0 about1 = true := by
  rw [allAtoms_all]
  show words1.all (fun c => c.before args0 about1) = true
  refine all_split ?_ w_codes
  rw [← List.take_append_drop 24 words1, List.all_append, w_t1, ← List.take_append_drop 24 (words1.drop 24), List.all_append, w_t2, ← List.take_append_drop 24 ((words1.drop 24).drop 24), List.all_append, w_t3, ← List.take_append_drop 24 (((words1.drop 24).drop 24).drop 24), List.all_append, w_t4, ← List.take_append_drop 24 ((((words1.drop 24).drop 24).drop 24).drop 24), List.all_append, w_t5, ← List.take_append_drop 24 (((((words1.drop 24).drop 24).drop 24).drop 24).drop 24), List.all_append, w_t6, ← List.take_append_drop 24 ((((((words1.drop 24).drop 24).drop 24).drop 24).drop 24).drop 24), List.all_append, w_t7, ← List.take_append_drop 24 (((((((words1.drop 24).drop 24).drop 24).drop 24).drop 24).drop 24).drop 24), List.all_append, w_t8, w_t9]
  rfl
set_option maxRecDepth 65536 in
theorem w_rest : rest_1_c.before args0 about1 = true := by decide +kernel
set_option maxRecDepth 65536 in
theorem w_case : (Jvm.Cond.and given_1 narrow_1).before args0 about1 = true := by decide +kernel
theorem w_applies : (headSpec (Jvm.Cond.code x code maxLocals ret :: tables_1) room_1).applies x e0.platform about1 = true :=
  (Spec.applies_iff w_frames).mpr ⟨w_running, w_runnable, w_alone, w_named, w_hears, w_ripe, w_room, w_tables⟩
theorem atStart : AtStart classFile x code maxLocals ret World_1 tables_1 room_1 Calls_1 rest_1 Pre_1 launch0 p0 e0 about1 theMethod args0 below0 :=
  ⟨lists_1, trivial, launch0.admits_env _ _ _, launch0.least_env, fairChoices_fair.cas, fairChoices_fair.clock, w_frames, w_args, w_heap, w_applies, trivial, w_rest, w_case⟩
end start1
theorem witness_1 : WitnessClaimed_1 := ⟨start1.p0, start1.e0, start1.about1, start1.theMethod, start1.args0, start1.below0, start1.atStart⟩
end Jvm.Pilot.@@N@@

import JvmDerived
import JvmDerived.Pilot.@@N@@Statement
import JvmDerived.Pilot.@@N@@Code
set_option linter.unusedVariables false
set_option linter.unusedSimpArgs false
namespace Jvm.OwnKit
open Sem ClassFile Op Lib Jvm.Stand Jvm.Free Jvm.LawKit Jvm.RoadKit
/-- a boolean as an int -/
def own_b (b : Bool) : Int32 := if b then 1 else 0
/-- what stands fast in a body -/
def Ctx (p : Program) (s : State) (m : MethodId) (meth : Method) (c : Code) (Z : State) (a0 : Array Value) (tb : List Jvm.Cond) (own : String) (bytes : ByteArray) (ml : Nat) (nm : String) (ret : Option FieldType) : Prop :=
  p.tables.exec = Jvm.exec ∧ Z.Warmed39 s.vm ∧ (∀ d ∈ tb, d.before a0 Z = true) ∧ c.code = bytes ∧ c.maxLocals = ml ∧ s.vm.findClass own = some m.cls ∧ meth.name = nm ∧ meth.sig.returnType = ret ∧ meth.locks = false
/-- the run comes from S0 to pc, with these locals and this stack, over the heap h -/
def Rch (p : Program) (l : Launch) (e : Env) (R : Room) (s : State) (m : MethodId) (args : Array Value) (below : List Frame) (meth : Method) (c : Code) (S0 : State) (n0 k n : Nat) (h : Heap) (pc : Nat) (Ls : Array Slot) (st : List Value) : Prop :=
  ∃ (T : State) (locs : List Loc), Stand p l e R s m args below meth c T locs k n ∧ T.heap = h ∧ Fr n0 locs ∧ n0 ≤ s.heap.size ∧ ∀ t, Steps p.tables e below (T.setTop (mkF m pc Ls st)) t → Steps p.tables e below S0 t
section Walk
variable {p : Program} {l : Launch} {e : Env} {R : Room} {s : State} {m : MethodId} {args : Array Value} {below : List Frame} {meth : Method} {c : Code} {S0 : State} {n0 k n : Nat} {h : Heap} {Z : State} {a0 : Array Value} {tb : List Jvm.Cond} {own : String} {bytes : ByteArray} {ml : Nat} {nm : String} {ret : Option FieldType} {pc pc' : Nat} {Ls Ls' : Array Slot} {st st' : List Value}
theorem Ctx.w (C : Ctx p s m meth c Z a0 tb own bytes ml nm ret) (i : Nat) {d : Jvm.Cond} (q : tb[i]? = some d) : d.before a0 Z = true := C.2.2.1 d (List.mem_of_getElem? q)
theorem Rch.pure (X : Rch p l e R s m args below meth c S0 n0 k n h pc Ls st) (f : ∀ T, At T m c below → ∀ t, Steps p.tables e below (T.setTop (mkF m pc' Ls' st')) t → Steps p.tables e below (T.setTop (mkF m pc Ls st)) t) : Rch p l e R s m args below meth c S0 n0 k n h pc' Ls' st' := by
  obtain ⟨T, locs, Y, eT, N, z, q⟩ := X
  exact ⟨T, locs, Y, eT, N, z, fun t kk => q t (f T Y.here t kk)⟩
theorem Rch.as (X : Rch p l e R s m args below meth c S0 n0 k n h pc Ls st) (q : st = st') : Rch p l e R s m args below meth c S0 n0 k n h pc Ls st' := q ▸ X
theorem Rch.asL (X : Rch p l e R s m args below meth c S0 n0 k n h pc Ls st) (q : Ls = Ls') : Rch p l e R s m args below meth c S0 n0 k n h pc Ls' st := q ▸ X
theorem Rch.more {k' n' : Nat} (X : Rch p l e R s m args below meth c S0 n0 k n h pc Ls st) (hk : k ≤ k') (hn : n ≤ n') : Rch p l e R s m args below meth c S0 n0 k' n' h pc Ls st := by
  obtain ⟨T, locs, Y, eT, N, z, q⟩ := X
  exact ⟨T, locs, Y.more hk hn, eT, N, z, q⟩
theorem Rch.size (X : Rch p l e R s m args below meth c S0 n0 k n h pc Ls st) : n0 ≤ h.size := by
  obtain ⟨T, locs, Y, rfl, N, z, q⟩ := X
  have q2 : s.heap.size ≤ T.heap.size := Y.same.2.1
  exact Nat.le_trans z q2
theorem Rch.iload {i : Nat} {v : Int32} (X : Rch p l e R s m args below meth c S0 n0 k n h pc Ls st) (C : Ctx p s m meth c Z a0 tb own bytes ml nm ret) (hd : decode bytes pc = .ok (.iload i, 2)) (hl : Ls[i]? = some (.val (.int v))) (hp : pc + 2 = pc') : Rch p l e R s m args below meth c S0 n0 k n h pc' Ls (.int v :: st) := by
  subst hp; exact X.pure fun T A t kk => XS.iload (g := mkF m pc Ls _) A C.1 rfl (hb C.2.2.2.1 hd) hl kk
theorem Rch.iloadN {i : Fin 4} {v : Int32} (X : Rch p l e R s m args below meth c S0 n0 k n h pc Ls st) (C : Ctx p s m meth c Z a0 tb own bytes ml nm ret) (hd : decode bytes pc = .ok (.iload_n i, 1)) (hl : Ls[i.val]? = some (.val (.int v))) (hp : pc + 1 = pc') : Rch p l e R s m args below meth c S0 n0 k n h pc' Ls (.int v :: st) := by
  subst hp; exact X.pure fun T A t kk => XS.iloadN (g := mkF m pc Ls _) A C.1 rfl (hb C.2.2.2.1 hd) hl kk
theorem Rch.istore {i : Nat} {v : Int32} (X : Rch p l e R s m args below meth c S0 n0 k n h pc Ls (.int v :: st)) (C : Ctx p s m meth c Z a0 tb own bytes ml nm ret) (hd : decode bytes pc = .ok (.istore i, 2)) (hl : storeLocals Ls i (.int v) = some Ls') (hp : pc + 2 = pc') : Rch p l e R s m args below meth c S0 n0 k n h pc' Ls' st := by
  subst hp; exact X.pure fun T A t kk => XS.istore (g := mkF m pc Ls _) A C.1 rfl (hb C.2.2.2.1 hd) rfl hl kk
theorem Rch.istoreN {i : Fin 4} {v : Int32} (X : Rch p l e R s m args below meth c S0 n0 k n h pc Ls (.int v :: st)) (C : Ctx p s m meth c Z a0 tb own bytes ml nm ret) (hd : decode bytes pc = .ok (.istore_n i, 1)) (hl : storeLocals Ls i.val (.int v) = some Ls') (hp : pc + 1 = pc') : Rch p l e R s m args below meth c S0 n0 k n h pc' Ls' st := by
  subst hp; exact X.pure fun T A t kk => XS.istoreN (g := mkF m pc Ls _) A C.1 rfl (hb C.2.2.2.1 hd) rfl hl kk
theorem Rch.lload {i : Nat} {v : Int64} (X : Rch p l e R s m args below meth c S0 n0 k n h pc Ls st) (C : Ctx p s m meth c Z a0 tb own bytes ml nm ret) (hd : decode bytes pc = .ok (.lload i, 2)) (hl : Ls[i]? = some (.val (.long v))) (hp : pc + 2 = pc') : Rch p l e R s m args below meth c S0 n0 k n h pc' Ls (.long v :: st) := by
  subst hp; exact X.pure fun T A t kk => XS.lload (g := mkF m pc Ls _) A C.1 rfl (hb C.2.2.2.1 hd) hl kk
theorem Rch.lloadN {i : Fin 4} {v : Int64} (X : Rch p l e R s m args below meth c S0 n0 k n h pc Ls st) (C : Ctx p s m meth c Z a0 tb own bytes ml nm ret) (hd : decode bytes pc = .ok (.lload_n i, 1)) (hl : Ls[i.val]? = some (.val (.long v))) (hp : pc + 1 = pc') : Rch p l e R s m args below meth c S0 n0 k n h pc' Ls (.long v :: st) := by
  subst hp; exact X.pure fun T A t kk => XS.lloadN (g := mkF m pc Ls _) A C.1 rfl (hb C.2.2.2.1 hd) hl kk
theorem Rch.lstore {i : Nat} {v : Int64} (X : Rch p l e R s m args below meth c S0 n0 k n h pc Ls (.long v :: st)) (C : Ctx p s m meth c Z a0 tb own bytes ml nm ret) (hd : decode bytes pc = .ok (.lstore i, 2)) (hl : storeLocals Ls i (.long v) = some Ls') (hp : pc + 2 = pc') : Rch p l e R s m args below meth c S0 n0 k n h pc' Ls' st := by
  subst hp; exact X.pure fun T A t kk => XS.lstore (g := mkF m pc Ls _) A C.1 rfl (hb C.2.2.2.1 hd) rfl hl kk
theorem Rch.lstoreN {i : Fin 4} {v : Int64} (X : Rch p l e R s m args below meth c S0 n0 k n h pc Ls (.long v :: st)) (C : Ctx p s m meth c Z a0 tb own bytes ml nm ret) (hd : decode bytes pc = .ok (.lstore_n i, 1)) (hl : storeLocals Ls i.val (.long v) = some Ls') (hp : pc + 1 = pc') : Rch p l e R s m args below meth c S0 n0 k n h pc' Ls' st := by
  subst hp; exact X.pure fun T A t kk => XS.lstoreN (g := mkF m pc Ls _) A C.1 rfl (hb C.2.2.2.1 hd) rfl hl kk
theorem Rch.aload {i : Nat} {v : Value} (X : Rch p l e R s m args below meth c S0 n0 k n h pc Ls st) (C : Ctx p s m meth c Z a0 tb own bytes ml nm ret) (hd : decode bytes pc = .ok (.aload i, 2)) (hl : Ls[i]? = some (.val v)) (hv : v.isRef = true) (hp : pc + 2 = pc') : Rch p l e R s m args below meth c S0 n0 k n h pc' Ls (v :: st) := by
  subst hp; exact X.pure fun T A t kk => XS.aload (g := mkF m pc Ls _) A C.1 rfl (hb C.2.2.2.1 hd) hl hv kk
theorem Rch.aloadN {i : Fin 4} {v : Value} (X : Rch p l e R s m args below meth c S0 n0 k n h pc Ls st) (C : Ctx p s m meth c Z a0 tb own bytes ml nm ret) (hd : decode bytes pc = .ok (.aload_n i, 1)) (hl : Ls[i.val]? = some (.val v)) (hv : v.isRef = true) (hp : pc + 1 = pc') : Rch p l e R s m args below meth c S0 n0 k n h pc' Ls (v :: st) := by
  subst hp; exact X.pure fun T A t kk => XS.aloadN (g := mkF m pc Ls _) A C.1 rfl (hb C.2.2.2.1 hd) hl hv kk
theorem Rch.astore {i : Nat} {v : Value} (X : Rch p l e R s m args below meth c S0 n0 k n h pc Ls (v :: st)) (C : Ctx p s m meth c Z a0 tb own bytes ml nm ret) (hd : decode bytes pc = .ok (.astore i, 2)) (hv : v.isRef = true) (hl : storeLocals Ls i v = some Ls') (hp : pc + 2 = pc') : Rch p l e R s m args below meth c S0 n0 k n h pc' Ls' st := by
  subst hp; exact X.pure fun T A t kk => XS.astore (g := mkF m pc Ls _) A C.1 rfl (hb C.2.2.2.1 hd) rfl hv hl kk
theorem Rch.astoreN {i : Fin 4} {v : Value} (X : Rch p l e R s m args below meth c S0 n0 k n h pc Ls (v :: st)) (C : Ctx p s m meth c Z a0 tb own bytes ml nm ret) (hd : decode bytes pc = .ok (.astore_n i, 1)) (hv : v.isRef = true) (hl : storeLocals Ls i.val v = some Ls') (hp : pc + 1 = pc') : Rch p l e R s m args below meth c S0 n0 k n h pc' Ls' st := by
  subst hp; exact X.pure fun T A t kk => XS.astoreN (g := mkF m pc Ls _) A C.1 rfl (hb C.2.2.2.1 hd) rfl hv hl kk
theorem Rch.iconst {i : Int} {v : Int32} (X : Rch p l e R s m args below meth c S0 n0 k n h pc Ls st) (C : Ctx p s m meth c Z a0 tb own bytes ml nm ret) (hd : decode bytes pc = .ok (.iconst i, 1)) (hv : Int32.ofInt i = v) (hp : pc + 1 = pc') : Rch p l e R s m args below meth c S0 n0 k n h pc' Ls (.int v :: st) := by
  subst hp; exact X.pure fun T A t kk => by subst hv; exact XS.iconst (g := mkF m pc Ls _) A C.1 rfl (hb C.2.2.2.1 hd)  kk
theorem Rch.bipush {i : Int} {v : Int32} (X : Rch p l e R s m args below meth c S0 n0 k n h pc Ls st) (C : Ctx p s m meth c Z a0 tb own bytes ml nm ret) (hd : decode bytes pc = .ok (.bipush i, 2)) (hv : (Int8.ofInt i).toInt32 = v) (hp : pc + 2 = pc') : Rch p l e R s m args below meth c S0 n0 k n h pc' Ls (.int v :: st) := by
  subst hp; exact X.pure fun T A t kk => by subst hv; exact XS.bipush (g := mkF m pc Ls _) A C.1 rfl (hb C.2.2.2.1 hd)  kk
theorem Rch.sipush {i : Int} {v : Int32} (X : Rch p l e R s m args below meth c S0 n0 k n h pc Ls st) (C : Ctx p s m meth c Z a0 tb own bytes ml nm ret) (hd : decode bytes pc = .ok (.sipush i, 3)) (hv : (Int16.ofInt i).toInt32 = v) (hp : pc + 3 = pc') : Rch p l e R s m args below meth c S0 n0 k n h pc' Ls (.int v :: st) := by
  subst hp; exact X.pure fun T A t kk => by subst hv; exact XS.sipush (g := mkF m pc Ls _) A C.1 rfl (hb C.2.2.2.1 hd)  kk
theorem Rch.lconst {i : Fin 2} {v : Int64} (X : Rch p l e R s m args below meth c S0 n0 k n h pc Ls st) (C : Ctx p s m meth c Z a0 tb own bytes ml nm ret) (hd : decode bytes pc = .ok (.lconst i, 1)) (hv : Int64.ofNat i = v) (hp : pc + 1 = pc') : Rch p l e R s m args below meth c S0 n0 k n h pc' Ls (.long v :: st) := by
  subst hp; exact X.pure fun T A t kk => by subst hv; exact XS.lconst (g := mkF m pc Ls _) A C.1 rfl (hb C.2.2.2.1 hd)  kk
theorem Rch.aconstNull (X : Rch p l e R s m args below meth c S0 n0 k n h pc Ls st) (C : Ctx p s m meth c Z a0 tb own bytes ml nm ret) (hd : decode bytes pc = .ok (.aconst_null, 1)) (hp : pc + 1 = pc') : Rch p l e R s m args below meth c S0 n0 k n h pc' Ls (.null :: st) := by
  subst hp; exact X.pure fun T A t kk => XS.aconstNull (g := mkF m pc Ls _) A C.1 rfl (hb C.2.2.2.1 hd)  kk
theorem Rch.iadd {x y : Int32} (X : Rch p l e R s m args below meth c S0 n0 k n h pc Ls (.int y :: .int x :: st)) (C : Ctx p s m meth c Z a0 tb own bytes ml nm ret) (hd : decode bytes pc = .ok (.iadd, 1)) (hp : pc + 1 = pc') : Rch p l e R s m args below meth c S0 n0 k n h pc' Ls (.int (x + y) :: st) := by
  subst hp; exact X.pure fun T A t kk => XS.iadd (g := mkF m pc Ls _) A C.1 rfl (hb C.2.2.2.1 hd) rfl kk
theorem Rch.ladd {x y : Int64} (X : Rch p l e R s m args below meth c S0 n0 k n h pc Ls (.long y :: .long x :: st)) (C : Ctx p s m meth c Z a0 tb own bytes ml nm ret) (hd : decode bytes pc = .ok (.ladd, 1)) (hp : pc + 1 = pc') : Rch p l e R s m args below meth c S0 n0 k n h pc' Ls (.long (x + y) :: st) := by
  subst hp; exact X.pure fun T A t kk => XS.ladd (g := mkF m pc Ls _) A C.1 rfl (hb C.2.2.2.1 hd) rfl kk
theorem Rch.isub {x y : Int32} (X : Rch p l e R s m args below meth c S0 n0 k n h pc Ls (.int y :: .int x :: st)) (C : Ctx p s m meth c Z a0 tb own bytes ml nm ret) (hd : decode bytes pc = .ok (.isub, 1)) (hp : pc + 1 = pc') : Rch p l e R s m args below meth c S0 n0 k n h pc' Ls (.int (x - y) :: st) := by
  subst hp; exact X.pure fun T A t kk => XS.isub (g := mkF m pc Ls _) A C.1 rfl (hb C.2.2.2.1 hd) rfl kk
theorem Rch.lsub {x y : Int64} (X : Rch p l e R s m args below meth c S0 n0 k n h pc Ls (.long y :: .long x :: st)) (C : Ctx p s m meth c Z a0 tb own bytes ml nm ret) (hd : decode bytes pc = .ok (.lsub, 1)) (hp : pc + 1 = pc') : Rch p l e R s m args below meth c S0 n0 k n h pc' Ls (.long (x - y) :: st) := by
  subst hp; exact X.pure fun T A t kk => XS.lsub (g := mkF m pc Ls _) A C.1 rfl (hb C.2.2.2.1 hd) rfl kk
theorem Rch.imul {x y : Int32} (X : Rch p l e R s m args below meth c S0 n0 k n h pc Ls (.int y :: .int x :: st)) (C : Ctx p s m meth c Z a0 tb own bytes ml nm ret) (hd : decode bytes pc = .ok (.imul, 1)) (hp : pc + 1 = pc') : Rch p l e R s m args below meth c S0 n0 k n h pc' Ls (.int (x * y) :: st) := by
  subst hp; exact X.pure fun T A t kk => XS.imul (g := mkF m pc Ls _) A C.1 rfl (hb C.2.2.2.1 hd) rfl kk
theorem Rch.lmul {x y : Int64} (X : Rch p l e R s m args below meth c S0 n0 k n h pc Ls (.long y :: .long x :: st)) (C : Ctx p s m meth c Z a0 tb own bytes ml nm ret) (hd : decode bytes pc = .ok (.lmul, 1)) (hp : pc + 1 = pc') : Rch p l e R s m args below meth c S0 n0 k n h pc' Ls (.long (x * y) :: st) := by
  subst hp; exact X.pure fun T A t kk => XS.lmul (g := mkF m pc Ls _) A C.1 rfl (hb C.2.2.2.1 hd) rfl kk
theorem Rch.iand {x y : Int32} (X : Rch p l e R s m args below meth c S0 n0 k n h pc Ls (.int y :: .int x :: st)) (C : Ctx p s m meth c Z a0 tb own bytes ml nm ret) (hd : decode bytes pc = .ok (.iand, 1)) (hp : pc + 1 = pc') : Rch p l e R s m args below meth c S0 n0 k n h pc' Ls (.int (x &&& y) :: st) := by
  subst hp; exact X.pure fun T A t kk => XS.iand (g := mkF m pc Ls _) A C.1 rfl (hb C.2.2.2.1 hd) rfl kk
theorem Rch.land {x y : Int64} (X : Rch p l e R s m args below meth c S0 n0 k n h pc Ls (.long y :: .long x :: st)) (C : Ctx p s m meth c Z a0 tb own bytes ml nm ret) (hd : decode bytes pc = .ok (.land, 1)) (hp : pc + 1 = pc') : Rch p l e R s m args below meth c S0 n0 k n h pc' Ls (.long (x &&& y) :: st) := by
  subst hp; exact X.pure fun T A t kk => XS.land (g := mkF m pc Ls _) A C.1 rfl (hb C.2.2.2.1 hd) rfl kk
theorem Rch.ior {x y : Int32} (X : Rch p l e R s m args below meth c S0 n0 k n h pc Ls (.int y :: .int x :: st)) (C : Ctx p s m meth c Z a0 tb own bytes ml nm ret) (hd : decode bytes pc = .ok (.ior, 1)) (hp : pc + 1 = pc') : Rch p l e R s m args below meth c S0 n0 k n h pc' Ls (.int (x ||| y) :: st) := by
  subst hp; exact X.pure fun T A t kk => XS.ior (g := mkF m pc Ls _) A C.1 rfl (hb C.2.2.2.1 hd) rfl kk
theorem Rch.lor {x y : Int64} (X : Rch p l e R s m args below meth c S0 n0 k n h pc Ls (.long y :: .long x :: st)) (C : Ctx p s m meth c Z a0 tb own bytes ml nm ret) (hd : decode bytes pc = .ok (.lor, 1)) (hp : pc + 1 = pc') : Rch p l e R s m args below meth c S0 n0 k n h pc' Ls (.long (x ||| y) :: st) := by
  subst hp; exact X.pure fun T A t kk => XS.lor (g := mkF m pc Ls _) A C.1 rfl (hb C.2.2.2.1 hd) rfl kk
theorem Rch.ixor {x y : Int32} (X : Rch p l e R s m args below meth c S0 n0 k n h pc Ls (.int y :: .int x :: st)) (C : Ctx p s m meth c Z a0 tb own bytes ml nm ret) (hd : decode bytes pc = .ok (.ixor, 1)) (hp : pc + 1 = pc') : Rch p l e R s m args below meth c S0 n0 k n h pc' Ls (.int (x ^^^ y) :: st) := by
  subst hp; exact X.pure fun T A t kk => XS.ixor (g := mkF m pc Ls _) A C.1 rfl (hb C.2.2.2.1 hd) rfl kk
theorem Rch.lxor {x y : Int64} (X : Rch p l e R s m args below meth c S0 n0 k n h pc Ls (.long y :: .long x :: st)) (C : Ctx p s m meth c Z a0 tb own bytes ml nm ret) (hd : decode bytes pc = .ok (.lxor, 1)) (hp : pc + 1 = pc') : Rch p l e R s m args below meth c S0 n0 k n h pc' Ls (.long (x ^^^ y) :: st) := by
  subst hp; exact X.pure fun T A t kk => XS.lxor (g := mkF m pc Ls _) A C.1 rfl (hb C.2.2.2.1 hd) rfl kk
theorem Rch.ishl {x y : Int32} (X : Rch p l e R s m args below meth c S0 n0 k n h pc Ls (.int y :: .int x :: st)) (C : Ctx p s m meth c Z a0 tb own bytes ml nm ret) (hd : decode bytes pc = .ok (.ishl, 1)) (hp : pc + 1 = pc') : Rch p l e R s m args below meth c S0 n0 k n h pc' Ls (.int (x <<< (y &&& 31)) :: st) := by
  subst hp; exact X.pure fun T A t kk => XS.ishl (g := mkF m pc Ls _) A C.1 rfl (hb C.2.2.2.1 hd) rfl kk
theorem Rch.ishr {x y : Int32} (X : Rch p l e R s m args below meth c S0 n0 k n h pc Ls (.int y :: .int x :: st)) (C : Ctx p s m meth c Z a0 tb own bytes ml nm ret) (hd : decode bytes pc = .ok (.ishr, 1)) (hp : pc + 1 = pc') : Rch p l e R s m args below meth c S0 n0 k n h pc' Ls (.int (x >>> (y &&& 31)) :: st) := by
  subst hp; exact X.pure fun T A t kk => XS.ishr (g := mkF m pc Ls _) A C.1 rfl (hb C.2.2.2.1 hd) rfl kk
theorem Rch.iushr {x y : Int32} (X : Rch p l e R s m args below meth c S0 n0 k n h pc Ls (.int y :: .int x :: st)) (C : Ctx p s m meth c Z a0 tb own bytes ml nm ret) (hd : decode bytes pc = .ok (.iushr, 1)) (hp : pc + 1 = pc') : Rch p l e R s m args below meth c S0 n0 k n h pc' Ls (.int ((x.toUInt32 >>> (y &&& 31).toUInt32).toInt32) :: st) := by
  subst hp; exact X.pure fun T A t kk => XS.iushr (g := mkF m pc Ls _) A C.1 rfl (hb C.2.2.2.1 hd) rfl kk
theorem Rch.lshl {x : Int64} {y : Int32} (X : Rch p l e R s m args below meth c S0 n0 k n h pc Ls (.int y :: .long x :: st)) (C : Ctx p s m meth c Z a0 tb own bytes ml nm ret) (hd : decode bytes pc = .ok (.lshl, 1)) (hp : pc + 1 = pc') : Rch p l e R s m args below meth c S0 n0 k n h pc' Ls (.long (x <<< (y &&& 0x3f).toInt64) :: st) := by
  subst hp; exact X.pure fun T A t kk => XS.lshl (g := mkF m pc Ls _) A C.1 rfl (hb C.2.2.2.1 hd) rfl kk
theorem Rch.lshr {x : Int64} {y : Int32} (X : Rch p l e R s m args below meth c S0 n0 k n h pc Ls (.int y :: .long x :: st)) (C : Ctx p s m meth c Z a0 tb own bytes ml nm ret) (hd : decode bytes pc = .ok (.lshr, 1)) (hp : pc + 1 = pc') : Rch p l e R s m args below meth c S0 n0 k n h pc' Ls (.long (x >>> (y &&& 0x3f).toInt64) :: st) := by
  subst hp; exact X.pure fun T A t kk => XS.lshr (g := mkF m pc Ls _) A C.1 rfl (hb C.2.2.2.1 hd) rfl kk
theorem Rch.lushr {x : Int64} {y : Int32} (X : Rch p l e R s m args below meth c S0 n0 k n h pc Ls (.int y :: .long x :: st)) (C : Ctx p s m meth c Z a0 tb own bytes ml nm ret) (hd : decode bytes pc = .ok (.lushr, 1)) (hp : pc + 1 = pc') : Rch p l e R s m args below meth c S0 n0 k n h pc' Ls (.long ((x.toUInt64 >>> (y &&& 0x3f).toInt64.toUInt64).toInt64) :: st) := by
  subst hp; exact X.pure fun T A t kk => XS.lushr (g := mkF m pc Ls _) A C.1 rfl (hb C.2.2.2.1 hd) rfl kk
theorem Rch.idiv {x y : Int32} (X : Rch p l e R s m args below meth c S0 n0 k n h pc Ls (.int y :: .int x :: st)) (C : Ctx p s m meth c Z a0 tb own bytes ml nm ret) (hd : decode bytes pc = .ok (.idiv, 1)) (hy : y ≠ 0) (hp : pc + 1 = pc') : Rch p l e R s m args below meth c S0 n0 k n h pc' Ls (.int (x / y) :: st) := by
  subst hp; exact X.pure fun T A t kk => XS.idiv (g := mkF m pc Ls _) A C.1 rfl (hb C.2.2.2.1 hd) rfl hy kk
theorem Rch.ldiv {x y : Int64} (X : Rch p l e R s m args below meth c S0 n0 k n h pc Ls (.long y :: .long x :: st)) (C : Ctx p s m meth c Z a0 tb own bytes ml nm ret) (hd : decode bytes pc = .ok (.ldiv, 1)) (hy : y ≠ 0) (hp : pc + 1 = pc') : Rch p l e R s m args below meth c S0 n0 k n h pc' Ls (.long (x / y) :: st) := by
  subst hp; exact X.pure fun T A t kk => XS.ldiv (g := mkF m pc Ls _) A C.1 rfl (hb C.2.2.2.1 hd) rfl hy kk
theorem Rch.irem {x y : Int32} (X : Rch p l e R s m args below meth c S0 n0 k n h pc Ls (.int y :: .int x :: st)) (C : Ctx p s m meth c Z a0 tb own bytes ml nm ret) (hd : decode bytes pc = .ok (.irem, 1)) (hy : y ≠ 0) (hp : pc + 1 = pc') : Rch p l e R s m args below meth c S0 n0 k n h pc' Ls (.int (x % y) :: st) := by
  subst hp; exact X.pure fun T A t kk => by rw [← irem_eq_mod x y] at kk; exact XS.irem (g := mkF m pc Ls _) A C.1 rfl (hb C.2.2.2.1 hd) rfl hy kk
theorem Rch.lrem {x y : Int64} (X : Rch p l e R s m args below meth c S0 n0 k n h pc Ls (.long y :: .long x :: st)) (C : Ctx p s m meth c Z a0 tb own bytes ml nm ret) (hd : decode bytes pc = .ok (.lrem, 1)) (hy : y ≠ 0) (hp : pc + 1 = pc') : Rch p l e R s m args below meth c S0 n0 k n h pc' Ls (.long (x % y) :: st) := by
  subst hp; exact X.pure fun T A t kk => by rw [← lrem_mod x y] at kk; exact XS.lrem (g := mkF m pc Ls _) A C.1 rfl (hb C.2.2.2.1 hd) rfl hy kk
theorem Rch.ineg {x : Int32} (X : Rch p l e R s m args below meth c S0 n0 k n h pc Ls (.int x :: st)) (C : Ctx p s m meth c Z a0 tb own bytes ml nm ret) (hd : decode bytes pc = .ok (.ineg, 1)) (hp : pc + 1 = pc') : Rch p l e R s m args below meth c S0 n0 k n h pc' Ls (.int (-x) :: st) := by
  subst hp; exact X.pure fun T A t kk => XS.ineg (g := mkF m pc Ls _) A C.1 rfl (hb C.2.2.2.1 hd) rfl kk
theorem Rch.lneg {x : Int64} (X : Rch p l e R s m args below meth c S0 n0 k n h pc Ls (.long x :: st)) (C : Ctx p s m meth c Z a0 tb own bytes ml nm ret) (hd : decode bytes pc = .ok (.lneg, 1)) (hp : pc + 1 = pc') : Rch p l e R s m args below meth c S0 n0 k n h pc' Ls (.long (-x) :: st) := by
  subst hp; exact X.pure fun T A t kk => XS.lneg (g := mkF m pc Ls _) A C.1 rfl (hb C.2.2.2.1 hd) rfl kk
theorem Rch.i2l {x : Int32} (X : Rch p l e R s m args below meth c S0 n0 k n h pc Ls (.int x :: st)) (C : Ctx p s m meth c Z a0 tb own bytes ml nm ret) (hd : decode bytes pc = .ok (.i2l, 1)) (hp : pc + 1 = pc') : Rch p l e R s m args below meth c S0 n0 k n h pc' Ls (.long x.toInt64 :: st) := by
  subst hp; exact X.pure fun T A t kk => XS.i2l (g := mkF m pc Ls _) A C.1 rfl (hb C.2.2.2.1 hd) rfl kk
theorem Rch.l2i {x : Int64} (X : Rch p l e R s m args below meth c S0 n0 k n h pc Ls (.long x :: st)) (C : Ctx p s m meth c Z a0 tb own bytes ml nm ret) (hd : decode bytes pc = .ok (.l2i, 1)) (hp : pc + 1 = pc') : Rch p l e R s m args below meth c S0 n0 k n h pc' Ls (.int x.toInt32 :: st) := by
  subst hp; exact X.pure fun T A t kk => XS.l2i (g := mkF m pc Ls _) A C.1 rfl (hb C.2.2.2.1 hd) rfl kk
theorem Rch.lcmp {x y : Int64} (X : Rch p l e R s m args below meth c S0 n0 k n h pc Ls (.long y :: .long x :: st)) (C : Ctx p s m meth c Z a0 tb own bytes ml nm ret) (hd : decode bytes pc = .ok (.lcmp, 1)) (hp : pc + 1 = pc') : Rch p l e R s m args below meth c S0 n0 k n h pc' Ls (.int (lcmpW x y) :: st) := by
  subst hp; exact X.pure fun T A t kk => XS.lcmp (g := mkF m pc Ls _) A C.1 rfl (hb C.2.2.2.1 hd) rfl kk
theorem Rch.iinc {i : Nat} {d : Int} {x v : Int32} (X : Rch p l e R s m args below meth c S0 n0 k n h pc Ls st) (C : Ctx p s m meth c Z a0 tb own bytes ml nm ret) (hd : decode bytes pc = .ok (.iinc i d, 3)) (hl : Ls[i]? = some (.val (.int x))) (hv : x + Int32.ofInt d = v) (hl' : storeLocals Ls i (.int v) = some Ls') (hp : pc + 3 = pc') : Rch p l e R s m args below meth c S0 n0 k n h pc' Ls' st := by
  subst hp; exact X.pure fun T A t kk => by subst hv; exact XS.iinc (g := mkF m pc Ls _) A C.1 rfl (hb C.2.2.2.1 hd) hl hl' kk
theorem Rch.dup {v : Value} (X : Rch p l e R s m args below meth c S0 n0 k n h pc Ls (v :: st)) (C : Ctx p s m meth c Z a0 tb own bytes ml nm ret) (hd : decode bytes pc = .ok (.dup, 1)) (hv : v.category = 1) (hp : pc + 1 = pc') : Rch p l e R s m args below meth c S0 n0 k n h pc' Ls (v :: v :: st) := by
  subst hp; exact X.pure fun T A t kk => XS.dup (g := mkF m pc Ls _) A C.1 rfl (hb C.2.2.2.1 hd) rfl hv kk
theorem Rch.pop {v : Value} (X : Rch p l e R s m args below meth c S0 n0 k n h pc Ls (v :: st)) (C : Ctx p s m meth c Z a0 tb own bytes ml nm ret) (hd : decode bytes pc = .ok (.pop, 1)) (hv : v.category = 1) (hp : pc + 1 = pc') : Rch p l e R s m args below meth c S0 n0 k n h pc' Ls st := by
  subst hp; exact X.pure fun T A t kk => XS.pop (g := mkF m pc Ls _) A C.1 rfl (hb C.2.2.2.1 hd) rfl hv kk
theorem Rch.dupX1 {v u : Value} (X : Rch p l e R s m args below meth c S0 n0 k n h pc Ls (v :: u :: st)) (C : Ctx p s m meth c Z a0 tb own bytes ml nm ret) (hd : decode bytes pc = .ok (.dup_x1, 1)) (hv : v.category = 1) (hu : u.category = 1) (hp : pc + 1 = pc') : Rch p l e R s m args below meth c S0 n0 k n h pc' Ls (v :: u :: v :: st) := by
  subst hp; exact X.pure fun T A t kk => XS.dupX1 (g := mkF m pc Ls _) A C.1 rfl (hb C.2.2.2.1 hd) rfl hv hu kk
theorem Rch.dup2 {v u : Value} (X : Rch p l e R s m args below meth c S0 n0 k n h pc Ls (v :: u :: st)) (C : Ctx p s m meth c Z a0 tb own bytes ml nm ret) (hd : decode bytes pc = .ok (.dup2, 1)) (hv : v.category = 1) (hu : u.category = 1) (hp : pc + 1 = pc') : Rch p l e R s m args below meth c S0 n0 k n h pc' Ls (v :: u :: v :: u :: st) := by
  subst hp; exact X.pure fun T A t kk => XT.dup2 (g := mkF m pc Ls _) A C.1 rfl (hb C.2.2.2.1 hd) rfl hv hu kk
theorem toNat_of {pc pc' : Nat} {o : Int} (hq : (pc : Int) + o = (pc' : Int)) : 0 ≤ (pc : Int) + o ∧ ((pc : Int) + o).toNat = pc' := by rw [hq]; exact ⟨Int.natCast_nonneg _, Int.toNat_natCast _⟩
theorem Rch.goto (X : Rch p l e R s m args below meth c S0 n0 k n h pc Ls st) (C : Ctx p s m meth c Z a0 tb own bytes ml nm ret) {o : Int} (hd : decode bytes pc = .ok (.goto o, 3)) (hq : (pc : Int) + o = (pc' : Int)) : Rch p l e R s m args below meth c S0 n0 k n h pc' Ls st :=
  X.pure fun T A t kk => XS.goto (g := mkF m pc Ls _) A C.1 rfl rfl (hb C.2.2.2.1 hd) (toNat_of hq).1 (toNat_of hq).2 kk
theorem Rch.ifY {cd : ClassFile.Cond} {x : Int32} (X : Rch p l e R s m args below meth c S0 n0 k n h pc Ls (.int x :: st)) (C : Ctx p s m meth c Z a0 tb own bytes ml nm ret) {o : Int} (hd : decode bytes pc = .ok (.ifCond cd o, 3)) (hc : ifCond.holds cd x = true) (hq : (pc : Int) + o = (pc' : Int)) : Rch p l e R s m args below meth c S0 n0 k n h pc' Ls st :=
  X.pure fun T A t kk => XS.ifYes (g := mkF m pc Ls _) A C.1 rfl rfl (hb C.2.2.2.1 hd) rfl hc (toNat_of hq).1 (toNat_of hq).2 kk
theorem Rch.ifN {cd : ClassFile.Cond} {x : Int32} (X : Rch p l e R s m args below meth c S0 n0 k n h pc Ls (.int x :: st)) (C : Ctx p s m meth c Z a0 tb own bytes ml nm ret) {o : Int} (hd : decode bytes pc = .ok (.ifCond cd o, 3)) (hc : ifCond.holds cd x = false) (hp : pc + 3 = pc') : Rch p l e R s m args below meth c S0 n0 k n h pc' Ls st := by
  subst hp; exact X.pure fun T A t kk => XS.ifNo (g := mkF m pc Ls _) A C.1 rfl (hb C.2.2.2.1 hd) rfl hc kk
theorem Rch.icmpY {cd : ClassFile.Cond} {x y : Int32} (X : Rch p l e R s m args below meth c S0 n0 k n h pc Ls (.int y :: .int x :: st)) (C : Ctx p s m meth c Z a0 tb own bytes ml nm ret) {o : Int} (hd : decode bytes pc = .ok (.if_icmp cd o, 3)) (hc : if_icmp.holds cd x y = true) (hq : (pc : Int) + o = (pc' : Int)) : Rch p l e R s m args below meth c S0 n0 k n h pc' Ls st :=
  X.pure fun T A t kk => XS.icmpYes (g := mkF m pc Ls _) A C.1 rfl rfl (hb C.2.2.2.1 hd) rfl hc (toNat_of hq).1 (toNat_of hq).2 kk
theorem Rch.icmpN {cd : ClassFile.Cond} {x y : Int32} (X : Rch p l e R s m args below meth c S0 n0 k n h pc Ls (.int y :: .int x :: st)) (C : Ctx p s m meth c Z a0 tb own bytes ml nm ret) {o : Int} (hd : decode bytes pc = .ok (.if_icmp cd o, 3)) (hc : if_icmp.holds cd x y = false) (hp : pc + 3 = pc') : Rch p l e R s m args below meth c S0 n0 k n h pc' Ls st := by
  subst hp; exact X.pure fun T A t kk => XS.icmpNo (g := mkF m pc Ls _) A C.1 rfl (hb C.2.2.2.1 hd) rfl hc kk
theorem Rch.acmpY {cd : ClassFile.ACond} {x y : Addr} (X : Rch p l e R s m args below meth c S0 n0 k n h pc Ls (.ref y :: .ref x :: st)) (C : Ctx p s m meth c Z a0 tb own bytes ml nm ret) {o : Int} (hd : decode bytes pc = .ok (.if_acmp cd o, 3)) (hc : if_acmp.holds cd (some x) (some y) = true) (hq : (pc : Int) + o = (pc' : Int)) : Rch p l e R s m args below meth c S0 n0 k n h pc' Ls st :=
  X.pure fun T A t kk => XS.acmpYes (g := mkF m pc Ls _) A C.1 rfl rfl (hb C.2.2.2.1 hd) rfl hc (toNat_of hq).1 (toNat_of hq).2 kk
/-- 'if.. else 1 : 0' -/
theorem Rch.dia {cd : ClassFile.Cond} {x : Int32} {b : Bool} (X : Rch p l e R s m args below meth c S0 n0 k n h pc Ls (.int x :: st)) (C : Ctx p s m meth c Z a0 tb own bytes ml nm ret) (hd : decode bytes pc = .ok (.ifCond cd 7, 3)) (hd1 : decode bytes (pc + 3) = .ok (.iconst 1, 1)) (hd2 : decode bytes (pc + 4) = .ok (.goto 4, 3)) (hd3 : decode bytes (pc + 7) = .ok (.iconst 0, 1)) (hc : ifCond.holds cd x = !b) (hp : pc + 8 = pc') : Rch p l e R s m args below meth c S0 n0 k n h pc' Ls (.int (own_b b) :: st) := by
  subst hp
  cases b with
  | false => exact ((X.ifY C hd hc (pc' := pc + 7) (by omega)).iconst C hd3 (v := 0) rfl rfl)
  | true => exact (((X.ifN C hd hc rfl).iconst C hd1 (v := 1) rfl rfl).goto C hd2 (by omega))
theorem Rch.diac {cd : ClassFile.Cond} {x y : Int32} {b : Bool} (X : Rch p l e R s m args below meth c S0 n0 k n h pc Ls (.int y :: .int x :: st)) (C : Ctx p s m meth c Z a0 tb own bytes ml nm ret) (hd : decode bytes pc = .ok (.if_icmp cd 7, 3)) (hd1 : decode bytes (pc + 3) = .ok (.iconst 1, 1)) (hd2 : decode bytes (pc + 4) = .ok (.goto 4, 3)) (hd3 : decode bytes (pc + 7) = .ok (.iconst 0, 1)) (hc : if_icmp.holds cd x y = !b) (hp : pc + 8 = pc') : Rch p l e R s m args below meth c S0 n0 k n h pc' Ls (.int (own_b b) :: st) := by
  subst hp
  cases b with
  | false => exact ((X.icmpY C hd hc (pc' := pc + 7) (by omega)).iconst C hd3 (v := 0) rfl rfl)
  | true => exact (((X.icmpN C hd hc rfl).iconst C hd1 (v := 1) rfl rfl).goto C hd2 (by omega))
theorem Rch.ldcI (X : Rch p l e R s m args below meth c S0 n0 k n h pc Ls st) (C : Ctx p s m meth c Z a0 tb own bytes ml nm ret) {i : Nat} {v : Int32} (wc : (Jvm.Cond.constant own i v).before a0 Z = true) (hd : decode bytes pc = .ok (.ldc i, 2)) (hp : pc + 2 = pc') : Rch p l e R s m args below meth c S0 n0 k n h pc' Ls (.int v :: st) := by
  subst hp
  obtain ⟨T, locs, Y, eT, N, z, q⟩ := X
  exact ⟨T, locs, Y, eT, N, z, fun t kk => q t (Y.ldcInt C.1 C.2.2.2.2.2.1 (mvT C.2.1 wc) (g := mkF m pc Ls st) rfl (hb C.2.2.2.1 hd) t kk)⟩
theorem Rch.ldcJ (X : Rch p l e R s m args below meth c S0 n0 k n h pc Ls st) (C : Ctx p s m meth c Z a0 tb own bytes ml nm ret) {i : Nat} {v : Int64} (wc : (Jvm.Cond.constantLong own i v).before a0 Z = true) (hd : decode bytes pc = .ok (.ldc2_w i, 3)) (hp : pc + 3 = pc') : Rch p l e R s m args below meth c S0 n0 k n h pc' Ls (.long v :: st) := by
  subst hp
  obtain ⟨T, locs, Y, eT, N, z, q⟩ := X
  exact ⟨T, locs, Y, eT, N, z, fun t kk => q t (Y.ldc2Long C.1 C.2.2.2.2.2.1 (mvT C.2.1 wc) (g := mkF m pc Ls st) rfl (hb C.2.2.2.1 hd) t kk)⟩
theorem Rch.getF {O f d : String} {i : Nat} {a : Addr} {v : Value} (X : Rch p l e R s m args below meth c S0 n0 k n h pc Ls (.ref a :: st)) (C : Ctx p s m meth c Z a0 tb own bytes ml nm ret) (wl : (Jvm.Cond.fieldLink own i O f d).before a0 Z = true) (F : Fld Z h a O f d v) (hd : decode bytes pc = .ok (.getfield i, 3)) (hp : pc + 3 = pc') : Rch p l e R s m args below meth c S0 n0 k n h pc' Ls (v :: st) := by
  subst hp
  obtain ⟨T, locs, Y, eT, N, z, q⟩ := X
  obtain ⟨T', Y', e', st'⟩ := Jvm.RoadKit.getF Y C.1 C.2.1 C.2.2.2.2.2.1 (host := "") (Or.inl wl) Via.refl eT F (g := mkF m pc Ls (.ref a :: st)) rfl rfl (hb C.2.2.2.1 hd)
  exact ⟨T', locs, Y', e', N, z, fun t kk => q t (st' t kk)⟩
theorem Rch.getFv {R0 O f d host : String} {i : Nat} {a : Addr} {v : Value} (X : Rch p l e R s m args below meth c S0 n0 k n h pc Ls (.ref a :: st)) (C : Ctx p s m meth c Z a0 tb own bytes ml nm ret) (wl : (Jvm.Cond.fieldLink own i R0 f d).before a0 Z = true ∨ (Jvm.Cond.fieldLinkNest own i R0 f d host).before a0 Z = true) (via : Via Z R0 O f d) (F : Fld Z h a O f d v) (hd : decode bytes pc = .ok (.getfield i, 3)) (hp : pc + 3 = pc') : Rch p l e R s m args below meth c S0 n0 k n h pc' Ls (v :: st) := by
  subst hp
  obtain ⟨T, locs, Y, eT, N, z, q⟩ := X
  obtain ⟨T', Y', e', st'⟩ := Jvm.RoadKit.getF Y C.1 C.2.1 C.2.2.2.2.2.1 (host := host) wl via eT F (g := mkF m pc Ls (.ref a :: st)) rfl rfl (hb C.2.2.2.1 hd)
  exact ⟨T', locs, Y', e', N, z, fun t kk => q t (st' t kk)⟩
theorem Rch.getS {O f d : String} {i : Nat} {v : Value} (X : Rch p l e R s m args below meth c S0 n0 k n h pc Ls st) (C : Ctx p s m meth c Z a0 tb own bytes ml nm ret) (wl : (Jvm.Cond.fieldLink own i O f d).before a0 Z = true) (F : Sta Z h O f d v) (hd : decode bytes pc = .ok (.getstatic i, 3)) (hp : pc + 3 = pc') : Rch p l e R s m args below meth c S0 n0 k n h pc' Ls (v :: st) := by
  subst hp
  obtain ⟨T, locs, Y, eT, N, z, q⟩ := X
  obtain ⟨T', Y', e', st'⟩ := Jvm.RoadKit.getS Y C.1 C.2.1 C.2.2.2.2.2.1 (host := "") wl Via.refl eT F (g := mkF m pc Ls st) rfl (hb C.2.2.2.1 hd)
  exact ⟨T', locs, Y', e', N, z, fun t kk => q t (st' t kk)⟩
theorem Rch.putFv {R0 O f d K : String} {i kk : Nat} {a : Addr} {v v' old : Value} {ty : FieldType} (X : Rch p l e R s m args below meth c S0 n0 k n h pc Ls (v :: .ref a :: st)) (C : Ctx p s m meth c Z a0 tb own bytes ml nm ret) (wl : (Jvm.Cond.fieldLink own i R0 f d).before a0 Z = true) (via : Via Z R0 O f d) (F : Fld Z h a O f d old) (E : Exa Z h a K) (L : (Jvm.Cond.lays K O f d).before a0 Z = true ∨ ((Jvm.Cond.laysFinal K O f d).before a0 Z = true ∧ own = O ∧ nm = "<init>")) (wi : (Jvm.Cond.instantiable K kk).before a0 Z = true) (hty : parseFieldDescriptor d = some ty) (hn : narrow ty v = v') (hf : fits ty v' = true) (ga : n0 ≤ a) (hd : decode bytes pc = .ok (.putfield i, 3)) (hp : pc + 3 = pc') :
    ∃ h', Rch p l e R s m args below meth c S0 n0 k n h' pc' Ls st ∧ Wr h h' a (Jvm.RoadKit.slotOf Z O f d) v' := by
  subst hp
  obtain ⟨T, locs, Y, eT, N, z, q⟩ := X
  obtain ⟨T', h', Y', e', W, st'⟩ := Jvm.RoadKit.putFN Y C.1 C.2.1 C.2.2.2.2.2.1 wl via eT F E (L.imp id fun x => ⟨x.1, x.2.1, C.2.2.2.2.2.2.1.trans x.2.2⟩) wi hty hn hf (g := mkF m pc Ls (v :: .ref a :: st)) rfl rfl (hb C.2.2.2.1 hd)
  exact ⟨h', ⟨T', _, Y', e', Fr.snoc Y' N ga, z, fun t kk => q t (st' t kk)⟩, W⟩
theorem Rch.newO {K : String} {i sl : Nat} (X : Rch p l e R s m args below meth c S0 n0 k n h pc Ls st) (C : Ctx p s m meth c Z a0 tb own bytes ml nm ret) (wl : (Jvm.Cond.classLink own i K).before a0 Z = true) (wi : (Jvm.Cond.instantiable K sl).before a0 Z = true) (wz : (Jvm.Cond.initialized K).before a0 Z = true) (hd : decode bytes pc = .ok (.new i, 3)) (hk : k + 1 ≤ R.cells) (hn : n + sl ≤ R.slots) (hp : pc + 3 = pc') :
    ∃ h', Rch p l e R s m args below meth c S0 n0 (k + 1) (n + sl) h' pc' Ls (.ref h.size :: st) ∧ Ext h h' ∧ Exa Z h' h.size K ∧ (∀ {O f d : String} {ty : FieldType}, Laid Z a0 K O f d → parseFieldDescriptor d = some ty → Fld Z h' h.size O f d (defaultValue ty)) := by
  subst hp
  obtain ⟨T, locs, Y, eT, N, z, q⟩ := X
  obtain ⟨T', h', Y', e', E, A, D, -, st'⟩ := Jvm.RoadKit.newO Y C.1 C.2.1 C.2.2.2.2.2.1 wl wi wz eT (g := mkF m pc Ls st) rfl (hb C.2.2.2.1 hd) hk hn
  exact ⟨h', ⟨T', _, Y', e', N, z, fun t kk => q t (st' t kk)⟩, E, A, D⟩
theorem Rch.initO {i W : Nat} {a : Addr} (X : Rch p l e R s m args below meth c S0 n0 k n h pc Ls (.ref a :: st)) (C : Ctx p s m meth c Z a0 tb own bytes ml nm ret) (w1 : (Jvm.Cond.methodLink own i Lib.objectInit).before a0 Z = true) (w2 : (Jvm.Cond.instanceMethod Lib.objectInit).before a0 Z = true) (w3 : (Jvm.Cond.code Lib.objectInit ⟨#[0xb1]⟩ 1 none).before a0 Z = true) (hsz : Ls.size = ml) (hd : decode bytes pc = .ok (.invokespecial i, 3)) (hf : 1 ≤ R.frames) (hW : (st.map fun v => v.category).sum ≤ W) (hl : W + 12 ≤ R.locals) (hp : pc + 3 = pc') : Rch p l e R s m args below meth c S0 n0 k n h pc' Ls st := by
  subst hp
  obtain ⟨T, locs, Y, eT, N, z, q⟩ := X
  obtain ⟨T', Y', e', st'⟩ := Jvm.RoadKit.initO Y C.1 C.2.1 C.2.2.2.2.2.1 w1 w2 w3 eT (g := mkF m pc Ls (.ref a :: st)) rfl (hsz.trans C.2.2.2.2.1.symm) rfl (hb C.2.2.2.1 hd) hf (W := W) (by show 2 * 0 + _ ≤ _; omega) hl
  exact ⟨T', _, Y', e', N, z, fun t kk => q t (st' t kk)⟩
/-- an array: its kind, its length, what its places hold -/
def Ary (Z : State) (h : Heap) (a : Addr) (ty : FieldType) (N : Nat) (f : Nat → Value) : Prop := ∃ cl : Cell, Arr Z h a cl ty ∧ cl.slots.size = N ∧ N < 2 ^ 31 ∧ ∀ i, i < N → cl.slots[i]? = some (f i)
def updN {α : Type} (f : Nat → α) (i : Nat) (v : α) : Nat → α := fun j => if j = i then v else f j
section Arrays
variable {h' : Heap} {a b : Addr} {ty : FieldType} {N i sl : Nat} {f g : Nat → Value} {v w : Value} {ws : List Addr}
theorem Ary.lt (A : Ary Z h a ty N f) : a < h.size := by obtain ⟨_, A, -⟩ := A; exact A.lt
theorem Ary.ext (A : Ary Z h a ty N f) (E : Ext h h') : Ary Z h' a ty N f := by obtain ⟨cl, A, r⟩ := A; exact ⟨cl, A.ext E, r⟩
theorem Ary.other (A : Ary Z h b ty N f) (W : Wr h h' a sl v) (q : b ≠ a) : Ary Z h' b ty N f := by obtain ⟨cl, A, r⟩ := A; exact ⟨cl, A.other W q, r⟩
theorem Ary.keep (A : Ary Z h a ty N f) (K : Keep h h' ws) (q : a ∉ ws) : Ary Z h' a ty N f := by obtain ⟨cl, A, r⟩ := A; exact ⟨cl, ⟨K.2.1 a cl A.1 q, A.2⟩, r⟩
theorem Ary.set (A : Ary Z h a ty N f) (W : Wr h h' a i v) : Ary Z h' a ty N (updN f i v) := by
  obtain ⟨cl, A, S, L, H⟩ := A
  refine ⟨_, A.same W, by rw [sz_set]; exact S, L, fun j hj => ?_⟩
  unfold updN
  by_cases q : j = i
  · subst q; simp [Cell.setSlot, S, hj]
  · simp only [Cell.setSlot, q, if_false]; rw [Array.getElem?_setIfInBounds_ne (Ne.symm q)]; exact H j hj
theorem Ary.of (A : Ary Z h a ty N f) (q : ∀ i, i < N → f i = g i) : Ary Z h a ty N g := by obtain ⟨cl, A, S, L, H⟩ := A; exact ⟨cl, A, S, L, fun i hi => by rw [← q i hi]; exact H i hi⟩
theorem idx_nat {j : Int32} {i : Nat} (hj : j.toInt = (i : Int)) : j.toNatClampNeg = i := by simp only [Int32.toNatClampNeg, hj]; rfl
theorem idx_ok {j : Int32} {i : Nat} {cl : Cell} (hj : j.toInt = (i : Int)) (hi : i < N) (S : cl.slots.size = N) : ¬ (j < 0 ∨ cl.slots.size ≤ j.toNatClampNeg) := by
  rw [idx_nat hj, S, Int32.lt_iff_toInt_lt, hj]
  have : (0 : Int32).toInt = 0 := rfl
  omega
theorem Rch.alen (X : Rch p l e R s m args below meth c S0 n0 k n h pc Ls (.ref a :: st)) (C : Ctx p s m meth c Z a0 tb own bytes ml nm ret) (A : Ary Z h a ty N f) {v : Int32} (hv : N.toInt32 = v) (hd : decode bytes pc = .ok (.arraylength, 1)) (hp : pc + 1 = pc') : Rch p l e R s m args below meth c S0 n0 k n h pc' Ls (.int v :: st) := by
  subst hp hv
  obtain ⟨T, locs, Y, eT, N, z, q⟩ := X
  obtain ⟨cl, A, rfl, L, H⟩ := A
  exact ⟨T, locs, Y, eT, N, z, fun t kk => q t (Y.arraylength C.1 (by rw [eT]; exact A.1) (State.isArrayOf_alike C.2.1.alike A.2.1) (g := mkF m pc Ls (.ref a :: st)) rfl rfl (hb C.2.2.2.1 hd) t kk)⟩
theorem Rch.laload {j : Int32} (X : Rch p l e R s m args below meth c S0 n0 k n h pc Ls (.int j :: .ref a :: st)) (C : Ctx p s m meth c Z a0 tb own bytes ml nm ret) (A : Ary Z h a .long N f) (hj : j.toInt = (i : Int)) (hi : i < N) (hv : f i = v) (hd : decode bytes pc = .ok (.laload, 1)) (hp : pc + 1 = pc') : Rch p l e R s m args below meth c S0 n0 k n h pc' Ls (v :: st) := by
  subst hp hv
  obtain ⟨T, locs, Y, eT, N, z, q⟩ := X
  obtain ⟨cl, A, S, L, H⟩ := A
  exact ⟨T, locs, Y, eT, N, z, fun t kk => q t (Y.laload C.1 (by rw [eT]; exact A.1) (State.isArrayOf_alike C.2.1.alike A.2.1) A.2.2 (idx_ok hj hi S) (by rw [idx_nat hj]; exact H i hi) (g := mkF m pc Ls (.int j :: .ref a :: st)) rfl rfl (hb C.2.2.2.1 hd) t kk)⟩
theorem Rch.iaload {j : Int32} (X : Rch p l e R s m args below meth c S0 n0 k n h pc Ls (.int j :: .ref a :: st)) (C : Ctx p s m meth c Z a0 tb own bytes ml nm ret) (A : Ary Z h a .int N f) (hj : j.toInt = (i : Int)) (hi : i < N) (hv : f i = v) (hd : decode bytes pc = .ok (.iaload, 1)) (hp : pc + 1 = pc') : Rch p l e R s m args below meth c S0 n0 k n h pc' Ls (v :: st) := by
  subst hp hv
  obtain ⟨T, locs, Y, eT, N, z, q⟩ := X
  obtain ⟨cl, A, S, L, H⟩ := A
  exact ⟨T, locs, Y, eT, N, z, fun t kk => q t (Y.iaload C.1 (by rw [eT]; exact A.1) (State.isArrayOf_alike C.2.1.alike A.2.1) A.2.2 (idx_ok hj hi S) (by rw [idx_nat hj]; exact H i hi) (g := mkF m pc Ls (.int j :: .ref a :: st)) rfl rfl (hb C.2.2.2.1 hd) t kk)⟩
theorem Rch.baload {j : Int32} (X : Rch p l e R s m args below meth c S0 n0 k n h pc Ls (.int j :: .ref a :: st)) (C : Ctx p s m meth c Z a0 tb own bytes ml nm ret) (A : Ary Z h a .boolean N f) (hj : j.toInt = (i : Int)) (hi : i < N) (hv : f i = v) (hd : decode bytes pc = .ok (.baload, 1)) (hp : pc + 1 = pc') : Rch p l e R s m args below meth c S0 n0 k n h pc' Ls (v :: st) := by
  subst hp hv
  obtain ⟨T, locs, Y, eT, N, z, q⟩ := X
  obtain ⟨cl, A, S, L, H⟩ := A
  exact ⟨T, locs, Y, eT, N, z, fun t kk => q t (Y.baloadBooleans C.1 (by rw [eT]; exact A.1) (State.isArrayOf_alike C.2.1.alike A.2.1) A.2.2 (idx_ok hj hi S) (by rw [idx_nat hj]; exact H i hi) (g := mkF m pc Ls (.int j :: .ref a :: st)) rfl rfl (hb C.2.2.2.1 hd) t kk)⟩
theorem Rch.daload {j : Int32} (X : Rch p l e R s m args below meth c S0 n0 k n h pc Ls (.int j :: .ref a :: st)) (C : Ctx p s m meth c Z a0 tb own bytes ml nm ret) (A : Ary Z h a .double N f) (hj : j.toInt = (i : Int)) (hi : i < N) (hv : f i = v) (hd : decode bytes pc = .ok (.daload, 1)) (hp : pc + 1 = pc') : Rch p l e R s m args below meth c S0 n0 k n h pc' Ls (v :: st) := by
  subst hp hv
  obtain ⟨T, locs, Y, eT, N, z, q⟩ := X
  obtain ⟨cl, A, S, L, H⟩ := A
  exact ⟨T, locs, Y, eT, N, z, fun t kk => q t (Y.daload C.1 (by rw [eT]; exact A.1) (State.isArrayOf_alike C.2.1.alike A.2.1) A.2.2 (idx_ok hj hi S) (by rw [idx_nat hj]; exact H i hi) (g := mkF m pc Ls (.int j :: .ref a :: st)) rfl rfl (hb C.2.2.2.1 hd) t kk)⟩
theorem Rch.aaload {j : Int32} (X : Rch p l e R s m args below meth c S0 n0 k n h pc Ls (.int j :: .ref a :: st)) (C : Ctx p s m meth c Z a0 tb own bytes ml nm ret) (A : Ary Z h a ty N f) (hty : ty.isReference = true) (hj : j.toInt = (i : Int)) (hi : i < N) (hv : f i = v) (hd : decode bytes pc = .ok (.aaload, 1)) (hp : pc + 1 = pc') : Rch p l e R s m args below meth c S0 n0 k n h pc' Ls (v :: st) := by
  subst hp hv
  obtain ⟨T, locs, Y, eT, N, z, q⟩ := X
  obtain ⟨cl, A, S, L, H⟩ := A
  exact ⟨T, locs, Y, eT, N, z, fun t kk => q t (Y.aaload C.1 (by rw [eT]; exact A.1) (State.isArrayOf_alike C.2.1.alike A.2.1) hty A.2.2 (idx_ok hj hi S) (by rw [idx_nat hj]; exact H i hi) (g := mkF m pc Ls (.int j :: .ref a :: st)) rfl rfl (hb C.2.2.2.1 hd) t kk)⟩
theorem Rch.lastore {j : Int32} {x : Int64} (X : Rch p l e R s m args below meth c S0 n0 k n h pc Ls (.long x :: .int j :: .ref a :: st)) (C : Ctx p s m meth c Z a0 tb own bytes ml nm ret) (A : Ary Z h a .long N f) (hj : j.toInt = (i : Int)) (hi : i < N) (ga : n0 ≤ a) (hd : decode bytes pc = .ok (.lastore, 1)) (hp : pc + 1 = pc') :
    ∃ h', Rch p l e R s m args below meth c S0 n0 k n h' pc' Ls st ∧ Wr h h' a i (.long x) := by
  subst hp
  obtain ⟨T, locs, Y, eT, N, z, q⟩ := X
  obtain ⟨cl, A, S, L, H⟩ := A
  obtain ⟨T', h', Y', e', W, st'⟩ := stJ Y C.1 C.2.1 eT A (idx_ok hj hi S) (g := mkF m pc Ls (.long x :: .int j :: .ref a :: st)) rfl rfl (hb C.2.2.2.1 hd)
  rw [idx_nat hj] at W
  exact ⟨h', ⟨T', _, Y', e', Fr.snoc Y' N ga, z, fun t kk => q t (st' t kk)⟩, W⟩
theorem Rch.iastore {j : Int32} {x : Int32} (X : Rch p l e R s m args below meth c S0 n0 k n h pc Ls (.int x :: .int j :: .ref a :: st)) (C : Ctx p s m meth c Z a0 tb own bytes ml nm ret) (A : Ary Z h a .int N f) (hj : j.toInt = (i : Int)) (hi : i < N) (ga : n0 ≤ a) (hd : decode bytes pc = .ok (.iastore, 1)) (hp : pc + 1 = pc') :
    ∃ h', Rch p l e R s m args below meth c S0 n0 k n h' pc' Ls st ∧ Wr h h' a i (.int x) := by
  subst hp
  obtain ⟨T, locs, Y, eT, N, z, q⟩ := X
  obtain ⟨cl, A, S, L, H⟩ := A
  obtain ⟨T', h', Y', e', W, st'⟩ := stI Y C.1 C.2.1 eT A (idx_ok hj hi S) (g := mkF m pc Ls (.int x :: .int j :: .ref a :: st)) rfl rfl (hb C.2.2.2.1 hd)
  rw [idx_nat hj] at W
  exact ⟨h', ⟨T', _, Y', e', Fr.snoc Y' N ga, z, fun t kk => q t (st' t kk)⟩, W⟩
theorem Rch.dastore {j : Int32} {x : UInt64} (X : Rch p l e R s m args below meth c S0 n0 k n h pc Ls (.double x :: .int j :: .ref a :: st)) (C : Ctx p s m meth c Z a0 tb own bytes ml nm ret) (A : Ary Z h a .double N f) (hj : j.toInt = (i : Int)) (hi : i < N) (ga : n0 ≤ a) (hd : decode bytes pc = .ok (.dastore, 1)) (hp : pc + 1 = pc') :
    ∃ h', Rch p l e R s m args below meth c S0 n0 k n h' pc' Ls st ∧ Wr h h' a i (.double x) := by
  subst hp
  obtain ⟨T, locs, Y, eT, N, z, q⟩ := X
  obtain ⟨cl, A, S, L, H⟩ := A
  obtain ⟨T', h', Y', e', W, st'⟩ := stD Y C.1 C.2.1 eT A (idx_ok hj hi S) (g := mkF m pc Ls (.double x :: .int j :: .ref a :: st)) rfl rfl (hb C.2.2.2.1 hd)
  rw [idx_nat hj] at W
  exact ⟨h', ⟨T', _, Y', e', Fr.snoc Y' N ga, z, fun t kk => q t (st' t kk)⟩, W⟩
theorem nar_b (b : Bool) : nar .boolean (own_b b) = own_b b := by cases b <;> decide
theorem Rch.zastore {j : Int32} {b : Bool} (X : Rch p l e R s m args below meth c S0 n0 k n h pc Ls (.int (own_b b) :: .int j :: .ref a :: st)) (C : Ctx p s m meth c Z a0 tb own bytes ml nm ret) (A : Ary Z h a .boolean N f) (hj : j.toInt = (i : Int)) (hi : i < N) (ga : n0 ≤ a) (hd : decode bytes pc = .ok (.bastore, 1)) (hp : pc + 1 = pc') :
    ∃ h', Rch p l e R s m args below meth c S0 n0 k n h' pc' Ls st ∧ Wr h h' a i (.int (own_b b)) := by
  subst hp
  obtain ⟨T, locs, Y, eT, N, z, q⟩ := X
  obtain ⟨cl, A, S, L, H⟩ := A
  obtain ⟨T', h', Y', e', W, st'⟩ := stZ Y C.1 C.2.1 eT A (idx_ok hj hi S) (g := mkF m pc Ls (.int (own_b b) :: .int j :: .ref a :: st)) rfl rfl (hb C.2.2.2.1 hd)
  rw [idx_nat hj, nar_b] at W
  exact ⟨h', ⟨T', _, Y', e', Fr.snoc Y' N ga, z, fun t kk => q t (st' t kk)⟩, W⟩
theorem Rch.newA {aty : ArrayType} {j : Int32} {cap : Nat} {ad : String} (X : Rch p l e R s m args below meth c S0 n0 k n h pc Ls (.int j :: st)) (C : Ctx p s m meth c Z a0 tb own bytes ml nm ret) (wa : (Jvm.Cond.arrayClass (newarray.typeOf aty)).before a0 Z = true) (hj : j.toInt = (N : Int)) (hcap : N ≤ cap) (hcb : cap * 8 ≤ 536870912) (had : "[" ++ (newarray.typeOf aty).toString = ad) (hd : decode bytes pc = .ok (.newarray aty, 2)) (hk : k + 1 ≤ R.cells) (hn : n + cap ≤ R.slots) (hp : pc + 2 = pc') :
    ∃ h', Rch p l e R s m args below meth c S0 n0 (k + 1) (n + cap) h' pc' Ls (.ref h.size :: st) ∧ Ext h h' ∧ Ary Z h' h.size (newarray.typeOf aty) N (fun _ => defaultValue (newarray.typeOf aty)) ∧ Exa Z h' h.size ad := by
  subst hp
  obtain ⟨T, locs, Y, eT, N1, z, q⟩ := X
  have hn0 : ¬ j < 0 := by rw [Int32.lt_iff_toInt_lt, hj]; have : (0 : Int32).toInt = 0 := rfl; omega
  obtain ⟨T', h', cA, Y', e', E, A, Ex, st'⟩ := newPE Y C.1 C.2.1 wa eT (g := mkF m pc Ls (.int j :: st)) rfl (hb C.2.2.2.1 hd) rfl hn0 (by rw [idx_nat hj]; exact hcap) hcb hk hn had
  have hN : N < 2 ^ 31 := by have := Int32.toInt_lt j; omega
  refine ⟨h', ⟨T', _, Y', e', N1, z, fun t kk => q t (st' t kk)⟩, E, ⟨_, A, by rw [sz_new, idx_nat hj], hN, fun i hi => ?_⟩, Ex⟩
  simp [Jvm.RoadKit.newA, idx_nat hj, hi]
theorem Rch.cloneA {i W cap : Nat} {ad : String} (X : Rch p l e R s m args below meth c S0 n0 k n h pc Ls (.ref a :: st)) (C : Ctx p s m meth c Z a0 tb own bytes ml nm ret) (w1 : (Jvm.Cond.methodLink own i ⟨ad, "clone", "()Ljava/lang/Object;"⟩).before a0 Z = true) (w2 : (Jvm.Cond.sameMethod ad "java/lang/Object" "clone" "()Ljava/lang/Object;").before a0 Z = true) (w3 : (Jvm.Cond.native ⟨"java/lang/Object", "clone", "()Ljava/lang/Object;"⟩).before a0 Z = true) (w4 : (Jvm.Cond.instanceMethod ⟨"java/lang/Object", "clone", "()Ljava/lang/Object;"⟩).before a0 Z = true) (w5 : (Jvm.Cond.selects ad ⟨ad, "clone", "()Ljava/lang/Object;"⟩ ⟨"java/lang/Object", "clone", "()Ljava/lang/Object;"⟩).before a0 Z = true) (w6 : (Jvm.Cond.castable ad "java/lang/Cloneable").before a0 Z = true)
    (A : Ary Z h a ty N f) (E : Exa Z h a ad) (hfit : ∀ i, i < N → fits ty (f i) = true) (hsz : Ls.size = ml) (hd : decode bytes pc = .ok (.invokevirtual i, 3)) (hf : 1 ≤ R.frames) (hW : (st.map fun v => v.category).sum ≤ W) (hl : W + 14 ≤ R.locals) (hcap : N ≤ cap) (hk : k + 1 ≤ R.cells) (hn : n + cap ≤ R.slots) (hp : pc + 3 = pc') :
    ∃ h', Rch p l e R s m args below meth c S0 n0 (k + 1) (n + cap) h' pc' Ls (.ref h.size :: st) ∧ Ext h h' ∧ Ary Z h' h.size ty N f ∧ Exa Z h' h.size ad := by
  subst hp
  obtain ⟨T, locs, Y, eT, N1, z, q⟩ := X
  obtain ⟨cl, A, S, L, H⟩ := A
  have FC : FitC Z cl := fitC_of A fun j hj v hv => by rw [S] at hj; rw [H j hj] at hv; cases hv; exact hfit j hj
  obtain ⟨T', h', Y', e', Ex, A', E', st'⟩ := Jvm.RoadKit.cloneA Y C.1 C.2.1 C.2.2.2.2.2.1 w1 w2 w3 w4 w5 w6 eT A E FC (g := mkF m pc Ls (.ref a :: st)) rfl (hsz.trans C.2.2.2.2.1.symm) rfl (hb C.2.2.2.1 hd) hf (W := W) (by show 2 * 0 + _ ≤ _; omega) hl (by rw [S]; exact hcap) hk hn
  exact ⟨h', ⟨T', _, Y', e', N1, z, fun t kk => q t (st' t kk)⟩, Ex, ⟨_, A', S, L, H⟩, E'⟩
/-- what may lie in an array of objects -/
def Orr (Z : State) (h : Heap) (a : Addr) (K : String) : Prop := ∃ cl : Cell, h[a]? = some cl ∧ Ovr Z cl.cls K
theorem Orr.ext {K : String} (O : Orr Z h a K) (E : Ext h h') : Orr Z h' a K := by obtain ⟨cl, q, r⟩ := O; exact ⟨cl, E.2 _ _ q, r⟩
theorem Orr.wr {K : String} (O : Orr Z h a K) (W : Wr h h' b sl v) : Orr Z h' a K := by obtain ⟨cl, q, r⟩ := O; obtain ⟨c', e1, e2, -⟩ := wr_at W q; exact ⟨c', e1, by rw [e2]; exact r⟩
theorem Orr.lt {K : String} (O : Orr Z h a K) : a < h.size := by obtain ⟨cl, q, r⟩ := O; exact (Array.getElem?_eq_some_iff.mp q).1
theorem Orr.sto {K : String} {y : Addr} (O : Orr Z h a K) (A : Ary Z h a ty N f) (I : Ins Z h y K true) : Sto Z h a (.ref y) := by
  obtain ⟨cl, q, r⟩ := O; obtain ⟨cl', A, -⟩ := A; cases q.symm.trans A.1; exact Sto.of A r I
theorem Rch.newR {K : String} {j : Int32} {i cap : Nat} {ad : String} (X : Rch p l e R s m args below meth c S0 n0 k n h pc Ls (.int j :: st)) (C : Ctx p s m meth c Z a0 tb own bytes ml nm ret) (wl : (Jvm.Cond.classLink own i K).before a0 Z = true) (wa : (Jvm.Cond.arrayOver (.object K)).before a0 Z = true) (hj : j.toInt = (N : Int)) (hcap : N ≤ cap) (hcb : cap * 8 ≤ 536870912) (had : "[" ++ (FieldType.object K).toString = ad) (hd : decode bytes pc = .ok (.anewarray i, 3)) (hk : k + 1 ≤ R.cells) (hn : n + cap ≤ R.slots) (hp : pc + 3 = pc') :
    ∃ h', Rch p l e R s m args below meth c S0 n0 (k + 1) (n + cap) h' pc' Ls (.ref h.size :: st) ∧ Ext h h' ∧ Ary Z h' h.size (.object K) N (fun _ => .null) ∧ Exa Z h' h.size ad ∧ Orr Z h' h.size K := by
  subst hp
  obtain ⟨T, locs, Y, eT, N1, z, q⟩ := X
  have hn0 : ¬ j < 0 := by rw [Int32.lt_iff_toInt_lt, hj]; have : (0 : Int32).toInt = 0 := rfl; omega
  obtain ⟨T', h', cA, Y', e', E, A, Ex, O, st'⟩ := newRE Y C.1 C.2.1 C.2.2.2.2.2.1 wl wa eT (g := mkF m pc Ls (.int j :: st)) rfl (hb C.2.2.2.1 hd) rfl hn0 (by rw [idx_nat hj]; exact hcap) hcb hk hn had
  have hN : N < 2 ^ 31 := by have := Int32.toInt_lt j; omega
  refine ⟨h', ⟨T', _, Y', e', N1, z, fun t kk => q t (st' t kk)⟩, E, ⟨_, A, by rw [sz_new, idx_nat hj], hN, fun i hi => ?_⟩, Ex, ⟨_, A.1, O⟩⟩
  simp [Jvm.RoadKit.newA, idx_nat hj, hi, defaultValue]
theorem Rch.aastore {j : Int32} (X : Rch p l e R s m args below meth c S0 n0 k n h pc Ls (v :: .int j :: .ref a :: st)) (C : Ctx p s m meth c Z a0 tb own bytes ml nm ret) (A : Ary Z h a ty N f) (hty : ty.isReference = true) (F : Sto Z h a v) (hj : j.toInt = (i : Int)) (hi : i < N) (ga : n0 ≤ a) (hd : decode bytes pc = .ok (.aastore, 1)) (hp : pc + 1 = pc') :
    ∃ h', Rch p l e R s m args below meth c S0 n0 k n h' pc' Ls st ∧ Wr h h' a i v := by
  subst hp
  obtain ⟨T, locs, Y, eT, N, z, q⟩ := X
  obtain ⟨cl, A, S, L, H⟩ := A
  obtain ⟨T', h', Y', e', W, st'⟩ := stR Y C.1 C.2.1 eT A (idx_ok hj hi S) hty F (g := mkF m pc Ls (v :: .int j :: .ref a :: st)) rfl rfl (hb C.2.2.2.1 hd)
  rw [idx_nat hj] at W
  exact ⟨h', ⟨T', _, Y', e', Fr.snoc Y' N ga, z, fun t kk => q t (st' t kk)⟩, W⟩
end Arrays
/-- the run comes to the method's end, as P says -/
def OwnEnds (p : Program) (e : Env) (below : List Frame) (s S0 : State) (n0 : Nat) (P : Option Value → Heap → Prop) (K M : Nat) : Prop := ∃ s₂ o, Steps p.tables e below S0 s₂ ∧ s₂.status = .running ∧ Ended s₂ below o ∧ ∃ v L, o = .returned v ∧ (P v s₂.heap ∧ Fr n0 L) ∧ FrameEnd s o s₂ L K M
theorem Rch.end (X : Rch p l e R s m args below meth c S0 n0 k n h pc Ls st) {v : Option Value} (hv : meth.sig.returnType = none → v = none) (hlk : meth.locks = false) {P : Option Value → Heap → Prop} {K M : Nat} (hP : P v h) (hK : k ≤ K) (hM : n ≤ M)
    (f : ∀ T locs, Stand p l e R s m args below meth c T locs k n → ∀ fs : List Frame, (∀ (f : JFrame) (acts : List Action), f.method = m → f.locked = none → f.entered = [] → (doReturn e (T.setTop f) acts v).1 = T.setFrames fs) → Steps p.tables e below (T.setTop (mkF m pc Ls st)) (T.setFrames fs)) :
    OwnEnds p e below s S0 n0 P K M := by
  obtain ⟨T, locs, Y, eT, N, z, q⟩ := X
  obtain ⟨fs, hr, hrun, hended, hW, hsame⟩ := Y.leave (v := v) hv hlk
  exact ⟨_, _, q _ (f T locs Y fs hr), hrun, hended, v, locs, rfl, ⟨by rw [show (T.setFrames fs).heap = T.heap from rfl, eT]; exact hP, N⟩, ⟨_, rfl⟩, hW, hsame.mono hK hM⟩
theorem Rch.retV (X : Rch p l e R s m args below meth c S0 n0 k n h pc Ls []) (C : Ctx p s m meth c Z a0 tb own bytes ml nm none) (hd : decode bytes pc = .ok (.return_, 1)) {P : Option Value → Heap → Prop} {K M : Nat} (hP : P none h) (hK : k ≤ K) (hM : n ≤ M) :
    OwnEnds p e below s S0 n0 P K M :=
  X.end (fun _ => rfl) C.2.2.2.2.2.2.2.2 hP hK hM fun T locs Y fs hr => Y.returnOut C.1 C.2.2.2.2.2.2.2.1 (hb C.2.2.2.1 hd) hr
theorem Rch.retJ {x : Int64} (X : Rch p l e R s m args below meth c S0 n0 k n h pc Ls [.long x]) (C : Ctx p s m meth c Z a0 tb own bytes ml nm (some .long)) (hd : decode bytes pc = .ok (.lreturn, 1)) {P : Option Value → Heap → Prop} {K M : Nat} (hP : P (some (.long x)) h) (hK : k ≤ K) (hM : n ≤ M) :
    OwnEnds p e below s S0 n0 P K M :=
  X.end (fun q => by rw [C.2.2.2.2.2.2.2.1] at q; cases q) C.2.2.2.2.2.2.2.2 hP hK hM fun T locs Y fs hr => Y.lreturnOut C.1 C.2.2.2.2.2.2.2.1 (hb C.2.2.2.1 hd) hr
theorem Rch.retI {x : Int32} (X : Rch p l e R s m args below meth c S0 n0 k n h pc Ls [.int x]) (C : Ctx p s m meth c Z a0 tb own bytes ml nm (some .int)) (hd : decode bytes pc = .ok (.ireturn, 1)) {P : Option Value → Heap → Prop} {K M : Nat} (hP : P (some (.int x)) h) (hK : k ≤ K) (hM : n ≤ M) :
    OwnEnds p e below s S0 n0 P K M :=
  X.end (fun q => by rw [C.2.2.2.2.2.2.2.1] at q; cases q) C.2.2.2.2.2.2.2.2 hP hK hM fun T locs Y fs hr => Y.ireturnOut C.1 C.2.2.2.2.2.2.2.1 rfl (Or.inl rfl) (hb C.2.2.2.1 hd) hr
theorem Rch.retZ {b : Bool} (X : Rch p l e R s m args below meth c S0 n0 k n h pc Ls [.int (own_b b)]) (C : Ctx p s m meth c Z a0 tb own bytes ml nm (some .boolean)) (hd : decode bytes pc = .ok (.ireturn, 1)) {P : Option Value → Heap → Prop} {K M : Nat} (hP : P (some (.int (own_b b))) h) (hK : k ≤ K) (hM : n ≤ M) :
    OwnEnds p e below s S0 n0 P K M :=
  X.end (fun q => by rw [C.2.2.2.2.2.2.2.1] at q; cases q) C.2.2.2.2.2.2.2.2 hP hK hM fun T locs Y fs hr => Y.ireturnOut C.1 C.2.2.2.2.2.2.2.1 (by cases b <;> rfl) (Or.inr (Or.inl rfl)) (hb C.2.2.2.1 hd) hr
theorem Rch.retA {a : Addr} {t : FieldType} (X : Rch p l e R s m args below meth c S0 n0 k n h pc Ls [.ref a]) (C : Ctx p s m meth c Z a0 tb own bytes ml nm (some t)) (ht : t.isReference = true) (hd : decode bytes pc = .ok (.areturn, 1)) {P : Option Value → Heap → Prop} {K M : Nat} (hP : P (some (.ref a)) h) (hK : k ≤ K) (hM : n ≤ M) :
    OwnEnds p e below s S0 n0 P K M :=
  X.end (fun q => by rw [C.2.2.2.2.2.2.2.1] at q; cases q) C.2.2.2.2.2.2.2.2 hP hK hM fun T locs Y fs hr => retOut Y C.1 C.2.2.2.2.2.2.2.1 (by cases t <;> first | rfl | (simp [FieldType.isReference] at ht)) (Or.inr (Or.inr (Or.inr (Or.inr ⟨rfl, ht, rfl⟩)))) (hb C.2.2.2.1 hd) hr
/-- a contract: from the heap h0 with these arguments the body returns, as P says -/
def Con (l : Launch) (Z : State) (y : MethodName) (bytes : ByteArray) (ml : Nat) (ret : Option FieldType) (rm : Room) (as' : Array Value) (h0 : Heap) (n0 : Nat) (P : Option Value → Heap → Prop) : Prop :=
  ∀ ws : List Jvm.Cond, MetFree l y (head1 (Jvm.Cond.code y bytes ml ret :: ws) rm) (fun a U => a = as' ∧ Z.Warmed39 U.vm ∧ U.heap = h0) (fun _ _ _ _ _ => True) (fun _ U o U' => ∃ v L, o = .returned v ∧ (P v U'.heap ∧ Fr n0 L) ∧ FrameEnd U o U' L rm.cells rm.slots)
theorem Con.mk {y : MethodName} {rm : Room} {as' : Array Value} {h0 : Heap} {P : Option Value → Heap → Prop} (hpn : plainFor y = true) (hw : ∀ d ∈ tb, d.before a0 Z = true) (z0 : n0 ≤ h0.size) (he : ∀ m, entryFrame m as' ml = mkF m 0 Ls [])
    (body : ∀ (p : Program) (e : Env) (s : State) (m : MethodId) (below : List Frame) (meth : Method) (c : Code) (S0 : State), Ctx p s m meth c Z a0 tb y.cls bytes ml y.name ret → Rch p l e rm s m as' below meth c S0 n0 0 0 h0 0 Ls [] →
      OwnEnds p e below s S0 n0 P rm.cells rm.slots) :
    Con l Z y bytes ml ret rm as' h0 n0 P := by
  intro ws
  refine MetFree.of_bodySF hpn hisR ?_
  intro p e s m args below meth c s₁ Bd hml0 hP hK
  obtain ⟨rfl, hZ, hh⟩ := hP
  have hown : s.vm.findClass y.cls = some m.cls := findClass_of_methodNamed Bd.named
  have hnm := (name_of_methodNamed Bd.named Bd.method).1
  have X0 := Stand.of_body Bd
  have e0 : s₁.heap = h0 := by rw [← hh, Bd.state]; rfl
  exact body p e s m below meth c _ ⟨Bd.exec, hZ, hw, Bd.bytes, hml0, hown, hnm, Bd.returns, Bd.notSynchronized⟩ ⟨s₁, [], X0, e0, Fr.nil n0, by rw [hh]; exact z0, fun t kk => castTop (he m) kk⟩
section Calls
variable {y z : MethodName} {bytes' : ByteArray} {ml' W i : Nat} {ret' : Option FieldType} {rm : Room} {P : Option Value → Heap → Prop} {argsL rest : List Value} {a : Addr} {K : String}
theorem Rch.callS (X : Rch p l e R s m args below meth c S0 n0 k n h pc Ls st) (C : Ctx p s m meth c Z a0 tb own bytes ml nm ret) (w1 : (Jvm.Cond.methodLink own i y).before a0 Z = true) (w2 : (Jvm.Cond.static y).before a0 Z = true) (w3 : (Jvm.Cond.initialized y.cls).before a0 Z = true) (w4 : (Jvm.Cond.code y bytes' ml' ret').before a0 Z = true) (hy : y.cls ≠ "java/lang/invoke/MethodHandle" ∧ y.cls ≠ "java/lang/invoke/VarHandle")
    (argsL rest : List Value) (hst : st = argsL.reverse ++ rest) (hcon : Con l Z y bytes' ml' ret' rm argsL.toArray h n0 P) (W : Nat) (hW : (rest.map fun v => v.category).sum ≤ W) (hf : rm.frames + 1 ≤ R.frames) (hl : W + (ml' + 11) + rm.locals ≤ R.locals) (hk : k + rm.cells ≤ R.cells) (hn : n + rm.slots ≤ R.slots) (hlen : ∀ sig, parseMethodDescriptor y.desc = some sig → argsL.length = sig.parameters.length) (hsz : Ls.size = ml)
    (hd : decode bytes pc = .ok (.invokestatic i, 3)) (hp : pc + 3 = pc') : ∃ v h', Rch p l e R s m args below meth c S0 n0 (k + rm.cells) (n + rm.slots) h' pc' Ls (v.toList ++ rest) ∧ P v h' := by
  subst hp hst
  obtain ⟨T, locs, Y, eT, N, z, q⟩ := X
  obtain ⟨v, _, ⟨T', L', k', n'⟩, -, Y', ⟨Lc, hQ, l1, y1, z1⟩, st'⟩ := Jvm.LawKit.callS Y C.1 (y := y) C.2.2.2.2.2.1 (mvT C.2.1 w1) (mvT C.2.1 w2) (mvT C.2.1 w3) (mvT C.2.1 w4) hy (backOf (W := W) (Q := fun v h L => P v h ∧ Fr n0 L) (hcon []) C.2.1 w4 w3 hf hl) (g := mkF m pc Ls _) rfl (hsz.trans C.2.2.2.2.1.symm) (argsL := argsL) (rest := rest) hlen rfl (by show 2 * 0 + _ ≤ _; omega) (hb C.2.2.2.1 hd) (fun _ _ => ⟨rfl, eT, hk, hn⟩)
  dsimp only [Pt.U, Pt.locs, Pt.cells, Pt.slots] at Y' l1 y1 z1 st' hQ
  subst l1 y1 z1
  exact ⟨v, T'.heap, ⟨T', _, Y', rfl, Fr.app N hQ.2, z, fun t kk => q t (st' t kk)⟩, hQ.1⟩
theorem Rch.callI (X : Rch p l e R s m args below meth c S0 n0 k n h pc Ls st) (C : Ctx p s m meth c Z a0 tb own bytes ml nm ret) (hy1 : y.name = "<init>") (w1 : (Jvm.Cond.methodLink own i y).before a0 Z = true) (w2 : (Jvm.Cond.instanceMethod y).before a0 Z = true) (w3 : (Jvm.Cond.initialized y.cls).before a0 Z = true) (w4 : (Jvm.Cond.code y bytes' ml' none).before a0 Z = true) (hy : y.cls ≠ "java/lang/invoke/MethodHandle" ∧ y.cls ≠ "java/lang/invoke/VarHandle")
    (a : Addr) (argsL rest : List Value) (hst : st = argsL.reverse ++ .ref a :: rest) (hcon : Con l Z y bytes' ml' none rm (.ref a :: argsL).toArray h n0 P) (W : Nat) (hW : (rest.map fun v => v.category).sum ≤ W) (hf : rm.frames + 1 ≤ R.frames) (hl : W + (ml' + 11) + rm.locals ≤ R.locals) (hk : k + rm.cells ≤ R.cells) (hn : n + rm.slots ≤ R.slots) (hlen : ∀ sig, parseMethodDescriptor y.desc = some sig → argsL.length = sig.parameters.length) (hsz : Ls.size = ml)
    (hd : decode bytes pc = .ok (.invokespecial i, 3)) (hp : pc + 3 = pc') : ∃ v h', Rch p l e R s m args below meth c S0 n0 (k + rm.cells) (n + rm.slots) h' pc' Ls (v.toList ++ rest) ∧ P v h' := by
  subst hp hst
  obtain ⟨T, locs, Y, eT, N, z, q⟩ := X
  obtain ⟨v, _, ⟨T', L', k', n'⟩, -, Y', ⟨Lc, hQ, l1, y1, z1⟩, st'⟩ := Y.specialBack C.1 (y := y) hy1 C.2.2.2.2.2.1 (mvT C.2.1 w1) (mvT C.2.1 w2) (mvT C.2.1 w4) hy (backOf (W := W) (Q := fun v h L => P v h ∧ Fr n0 L) (hcon []) C.2.1 w4 w3 hf hl) (g := mkF m pc Ls _) rfl (hsz.trans C.2.2.2.2.1.symm) (Steps.refl _) (a := a) (argsL := argsL) (rest := rest) hlen rfl (by show 2 * 0 + _ ≤ _; omega) (hb C.2.2.2.1 hd) (fun _ _ => ⟨rfl, eT, hk, hn⟩)
  dsimp only [Pt.U, Pt.locs, Pt.cells, Pt.slots] at Y' l1 y1 z1 st' hQ
  subst l1 y1 z1
  exact ⟨v, T'.heap, ⟨T', _, Y', rfl, Fr.app N hQ.2, z, fun t kk => q t (st'.trans kk)⟩, hQ.1⟩
theorem Rch.callV (X : Rch p l e R s m args below meth c S0 n0 k n h pc Ls st) (C : Ctx p s m meth c Z a0 tb own bytes ml nm ret) (E : Exa Z h a K) (w1 : (Jvm.Cond.methodLink own i y).before a0 Z = true) (w2 : (Jvm.Cond.declares y).before a0 Z = true) (w5 : (Jvm.Cond.selects K y y).before a0 Z = true) (w6 : (Jvm.Cond.instanceMethod y).before a0 Z = true) (w3 : (Jvm.Cond.initialized y.cls).before a0 Z = true) (w4 : (Jvm.Cond.code y bytes' ml' ret').before a0 Z = true) (hy : y.cls ≠ "java/lang/invoke/MethodHandle" ∧ y.cls ≠ "java/lang/invoke/VarHandle")
    (argsL rest : List Value) (hst : st = argsL.reverse ++ .ref a :: rest) (hcon : Con l Z y bytes' ml' ret' rm (.ref a :: argsL).toArray h n0 P) (W : Nat) (hW : (rest.map fun v => v.category).sum ≤ W) (hf : rm.frames + 1 ≤ R.frames) (hl : W + (ml' + 11) + rm.locals ≤ R.locals) (hk : k + rm.cells ≤ R.cells) (hn : n + rm.slots ≤ R.slots) (hlen : ∀ sig, parseMethodDescriptor y.desc = some sig → argsL.length = sig.parameters.length) (hsz : Ls.size = ml)
    (hd : decode bytes pc = .ok (.invokevirtual i, 3)) (hp : pc + 3 = pc') : ∃ v h', Rch p l e R s m args below meth c S0 n0 (k + rm.cells) (n + rm.slots) h' pc' Ls (v.toList ++ rest) ∧ P v h' := by
  subst hp hst
  obtain ⟨T, locs, Y, eT, N, z, q⟩ := X
  obtain ⟨cq, kq, qa, qb, qc⟩ := isOf C.2.1 eT E
  obtain ⟨v, _, ⟨T', L', k', n'⟩, -, Y', ⟨Lc, hQ, l1, y1, z1⟩, st'⟩ := Y.virtualBack C.1 (y := y) (z := y) C.2.2.2.2.2.1 (mvT C.2.1 w1) (mvT C.2.1 w2) (notFace_of_selects (args := #[]) (mvT C.2.1 w5)) (mvT C.2.1 w5) (mvT C.2.1 w6) hy (backOf (W := W) (Q := fun v h L => P v h ∧ Fr n0 L) (hcon []) C.2.1 w4 w3 hf hl) qa qc (g := mkF m pc Ls _) rfl (hsz.trans C.2.2.2.2.1.symm) (Steps.refl _) (argsL := argsL) (rest := rest) hlen rfl (by show 2 * 0 + _ ≤ _; omega) (hb C.2.2.2.1 hd) (fun _ _ => ⟨rfl, eT, hk, hn⟩)
  dsimp only [Pt.U, Pt.locs, Pt.cells, Pt.slots] at Y' l1 y1 z1 st' hQ
  subst l1 y1 z1
  exact ⟨v, T'.heap, ⟨T', _, Y', rfl, Fr.app N hQ.2, z, fun t kk => q t (st'.trans kk)⟩, hQ.1⟩
theorem Rch.callP (X : Rch p l e R s m args below meth c S0 n0 k n h pc Ls st) (C : Ctx p s m meth c Z a0 tb own bytes ml nm ret) (E : Exa Z h a K) (w1 : (Jvm.Cond.methodLink own i y).before a0 Z = true) (w6 : (Jvm.Cond.instanceMethod y).before a0 Z = true) {kk : Nat} (w5 : (Jvm.Cond.instantiable y.cls kk).before a0 Z = true) (w7 : (Jvm.Cond.privateMethod y).before a0 Z = true) (w3 : (Jvm.Cond.initialized y.cls).before a0 Z = true) (w4 : (Jvm.Cond.code y bytes' ml' ret').before a0 Z = true) (hy : y.cls ≠ "java/lang/invoke/MethodHandle" ∧ y.cls ≠ "java/lang/invoke/VarHandle")
    (argsL rest : List Value) (hst : st = argsL.reverse ++ .ref a :: rest) (hcon : Con l Z y bytes' ml' ret' rm (.ref a :: argsL).toArray h n0 P) (W : Nat) (hW : (rest.map fun v => v.category).sum ≤ W) (hf : rm.frames + 1 ≤ R.frames) (hl : W + (ml' + 11) + rm.locals ≤ R.locals) (hk : k + rm.cells ≤ R.cells) (hn : n + rm.slots ≤ R.slots) (hlen : ∀ sig, parseMethodDescriptor y.desc = some sig → argsL.length = sig.parameters.length) (hsz : Ls.size = ml)
    (hd : decode bytes pc = .ok (.invokevirtual i, 3)) (hp : pc + 3 = pc') : ∃ v h', Rch p l e R s m args below meth c S0 n0 (k + rm.cells) (n + rm.slots) h' pc' Ls (v.toList ++ rest) ∧ P v h' := by
  subst hp hst
  obtain ⟨T, locs, Y, eT, N, z, q⟩ := X
  obtain ⟨cq, qa, qb⟩ := E.cell
  have wi : (Jvm.Cond.instantiable y.cls kk).before args s = true := mvT C.2.1 w5
  obtain ⟨ci, ki, i1, i2, -, i4, -⟩ := Cond.instantiable_spec wi
  have hpv := Cond.privateMethod_at (mvP C.2.1 w7 (args := #[]))
  have hsl : (Jvm.Cond.selects y.cls y y).before args s = true := selects_self_of_private i1 i2 (Bool.or_eq_false_iff.mp i4).1 hpv (mvT C.2.1 w6) hy
  obtain ⟨v, _, ⟨T', L', k', n'⟩, -, Y', ⟨Lc, hQ, l1, y1, z1⟩, st'⟩ := Y.privateBack C.1 (y := y) C.2.2.2.2.2.1 (mvT C.2.1 w1) (mvT C.2.1 w6) hsl hpv (mvT C.2.1 w4) hy (backOf (W := W) (Q := fun v h L => P v h ∧ Fr n0 L) (hcon []) C.2.1 w4 w3 hf hl) (g := mkF m pc Ls _) rfl (hsz.trans C.2.2.2.2.1.symm) (Steps.refl _) (a := a) (by rw [eT]; exact qa) qb (argsL := argsL) (rest := rest) hlen rfl (by show 2 * 0 + _ ≤ _; omega) (hb C.2.2.2.1 hd) (fun _ _ => ⟨rfl, eT, hk, hn⟩)
  dsimp only [Pt.U, Pt.locs, Pt.cells, Pt.slots] at Y' l1 y1 z1 st' hQ
  subst l1 y1 z1
  exact ⟨v, T'.heap, ⟨T', _, Y', rfl, Fr.app N hQ.2, z, fun t kk => q t (st'.trans kk)⟩, hQ.1⟩
theorem Rch.callF {cnt : Nat} (X : Rch p l e R s m args below meth c S0 n0 k n h pc Ls st) (C : Ctx p s m meth c Z a0 tb own bytes ml nm ret) (E : Exa Z h a K) (w1 : (Jvm.Cond.methodLink own i z).before a0 Z = true) (w2 : (Jvm.Cond.declares z).before a0 Z = true) (w8 : (Jvm.Cond.interfaceMethod z.cls z.cls z.name z.desc).before a0 Z = true) (w5 : (Jvm.Cond.selects K z y).before a0 Z = true) (w6 : (Jvm.Cond.instanceMethod y).before a0 Z = true) (w9 : (Jvm.Cond.publicMethod y).before a0 Z = true) (w10 : (Jvm.Cond.unhidden K z.name z.desc).before a0 Z = true) (w11 : (Jvm.Cond.castable K z.cls).before a0 Z = true) (w3 : (Jvm.Cond.initialized y.cls).before a0 Z = true) (w4 : (Jvm.Cond.code y bytes' ml' ret').before a0 Z = true) (hy : z.cls ≠ "java/lang/invoke/MethodHandle" ∧ z.cls ≠ "java/lang/invoke/VarHandle")
    (argsL rest : List Value) (hst : st = argsL.reverse ++ .ref a :: rest) (hcon : Con l Z y bytes' ml' ret' rm (.ref a :: argsL).toArray h n0 P) (W : Nat) (hW : (rest.map fun v => v.category).sum ≤ W) (hf : rm.frames + 1 ≤ R.frames) (hl : W + (ml' + 11) + rm.locals ≤ R.locals) (hk : k + rm.cells ≤ R.cells) (hn : n + rm.slots ≤ R.slots) (hlen : ∀ sig, parseMethodDescriptor z.desc = some sig → argsL.length = sig.parameters.length) (hsz : Ls.size = ml)
    (hd : decode bytes pc = .ok (.invokeinterface i cnt, 5)) (hp : pc + 5 = pc') : ∃ v h', Rch p l e R s m args below meth c S0 n0 (k + rm.cells) (n + rm.slots) h' pc' Ls (v.toList ++ rest) ∧ P v h' := by
  subst hp hst
  obtain ⟨T, locs, Y, eT, N, zz, q⟩ := X
  obtain ⟨cq, kq, qa, qb, qc⟩ := isOf C.2.1 eT E
  obtain ⟨v, _, ⟨T', L', k', n'⟩, -, Y', ⟨Lc, hQ, l1, y1, z1⟩, st'⟩ := Y.interfaceBack C.1 (xi := z) (y := y) C.2.2.2.2.2.1 (mvT C.2.1 w1) (mvT C.2.1 w2) (mvT C.2.1 w8 (by simp [Cond.onTables, Cond.keepsFace, Cond.keeps, Cond.steady, Cond.faceAtom, hy.1, hy.2])) (mvT C.2.1 w5) (mvT C.2.1 w6) (mvT C.2.1 w9) (mvT C.2.1 w10) (mvT C.2.1 w11) hy (backOf (W := W) (Q := fun v h L => P v h ∧ Fr n0 L) (hcon []) C.2.1 w4 w3 hf hl) qa qb qc (g := mkF m pc Ls _) rfl (hsz.trans C.2.2.2.2.1.symm) (Steps.refl _) (argsL := argsL) (rest := rest) hlen rfl (by show 2 * 0 + _ ≤ _; omega) (hb C.2.2.2.1 hd) (fun _ _ => ⟨rfl, eT, hk, hn⟩)
  dsimp only [Pt.U, Pt.locs, Pt.cells, Pt.slots] at Y' l1 y1 z1 st' hQ
  subst l1 y1 z1
  exact ⟨v, T'.heap, ⟨T', _, Y', rfl, Fr.app N hQ.2, zz, fun t kk => q t (st'.trans kk)⟩, hQ.1⟩
theorem Rch.castY {K' : String} (X : Rch p l e R s m args below meth c S0 n0 k n h pc Ls (.ref a :: st)) (C : Ctx p s m meth c Z a0 tb own bytes ml nm ret) (I : Ins Z h a K' true) (wl : (Jvm.Cond.classLink own i K').before a0 Z = true) (hd : decode bytes pc = .ok (.checkcast i, 3)) (hp : pc + 3 = pc') : Rch p l e R s m args below meth c S0 n0 k n h pc' Ls (.ref a :: st) := by
  subst hp
  obtain ⟨T, locs, Y, eT, N, z, q⟩ := X
  obtain ⟨T', Y', e', st'⟩ := Jvm.RoadKit.castY Y C.1 C.2.1 C.2.2.2.2.2.1 wl eT I (g := mkF m pc Ls (.ref a :: st)) rfl rfl (hb C.2.2.2.1 hd)
  exact ⟨T', _, Y', e', N, z, fun t kk => q t (st' t kk)⟩
end Calls
end Walk
end Jvm.OwnKit

namespace Jvm.Pilot.@@N@@
open Jvm Jvm.ClassFile Sem Op Lib Jvm.Free Jvm.Stand Jvm.LawKit Jvm.RoadKit Bundle Jvm.OwnKit Jvm.Pilot.@@N@@.Jvm.D
/-! small facts on booleans and comparisons -/
def own_max (x y : Int64) : Int64 := if x < y then y else x
theorem own_max_pos (x : Int64) : 1 ≤ (own_max 1 x).toInt := by
  unfold own_max
  split
  · rename_i q; rw [Int64.lt_iff_toInt_lt] at q; have : (1 : Int64).toInt = 1 := rfl; omega
  · decide
theorem lcmp_lt (x y : Int64) : ifCond.holds .lt (lcmpW x y) = decide (x < y) := by rw [lcW]; simp only [ifCond.holds]; exact decide_eq_decide.mpr (lc_lt x y)
theorem lcmp_ge (x y : Int64) : ifCond.holds .ge (lcmpW x y) = decide (y ≤ x) := by rw [lcW]; simp only [ifCond.holds]; exact decide_eq_decide.mpr (lc_ge x y)
theorem lcmp_le (x y : Int64) : ifCond.holds .le (lcmpW x y) = decide (x ≤ y) := by rw [lcW]; simp only [ifCond.holds]; exact decide_eq_decide.mpr (lc_le x y)
theorem lcmp_ne (x y : Int64) : ifCond.holds .ne (lcmpW x y) = decide (¬ x = y) := by
  rw [lcW]
  by_cases q : x = y
  · subst q; simp [ifCond.holds, (lc_eq x x).mpr rfl]
  · simp [ifCond.holds, mt (lc_eq x y).mp q, q]
theorem lcmp_eq (x y : Int64) : ifCond.holds .eq (lcmpW x y) = decide (x = y) := by
  rw [lcW]
  by_cases q : x = y
  · subst q; simp [ifCond.holds, (lc_eq x x).mpr rfl]
  · simp [ifCond.holds, mt (lc_eq x y).mp q, q]
theorem h_ge (x : Int32) : ifCond.holds .ge x = decide (0 ≤ x.toInt) := by simp only [ifCond.holds]; exact decide_eq_decide.mpr (Int32.le_iff_toInt_le)
theorem h_lt (x : Int32) : ifCond.holds .lt x = decide (x.toInt < 0) := by simp only [ifCond.holds]; exact decide_eq_decide.mpr (Int32.lt_iff_toInt_lt)
theorem own_nle (x y : Int64) : decide (y < x) = !decide (x ≤ y) := by
  by_cases q : x ≤ y
  · rw [decide_eq_true q, decide_eq_false (Int64.not_lt.mpr q)]; rfl
  · rw [decide_eq_false q, decide_eq_true (Int64.not_le.mp q)]; rfl
theorem b_eq (b : Bool) : ifCond.holds .eq (own_b b) = !b := by cases b <;> decide
theorem b_ne (b : Bool) : ifCond.holds .ne (own_b b) = b := by cases b <;> decide
theorem bb_eq (a b : Bool) : if_icmp.holds .eq (own_b a) (own_b b) = (a == b) := by cases a <;> cases b <;> decide
theorem bb_ne (a b : Bool) : if_icmp.holds .ne (own_b a) (own_b b) = (a != b) := by cases a <;> cases b <;> decide
theorem b_and (a b : Bool) : own_b a &&& own_b b = own_b (a && b) := by cases a <;> cases b <;> decide
theorem b_or (a b : Bool) : own_b a ||| own_b b = own_b (a || b) := by cases a <;> cases b <;> decide
theorem nar_bz (b : Bool) : narrow .boolean (.int (own_b b)) = .int (own_b b) := by cases b <;> rfl
theorem fit_bz (b : Bool) : fits .boolean (.int (own_b b)) = true := by cases b <;> rfl
theorem own_bit (x : Int32) : ∃ t : Bool, ifCond.holds .eq x = !t := ⟨!ifCond.holds .eq x, by simp⟩

theorem pd_0 : parseMethodDescriptor "(JJ)J" = some ⟨[.long, .long], some .long⟩ := by decide +kernel
theorem pd_1 : parseMethodDescriptor "(JJZ)V" = some ⟨[.long, .long, .boolean], none⟩ := by decide +kernel
theorem pd_2 : parseMethodDescriptor "()V" = some ⟨[], none⟩ := by decide +kernel
theorem pd_3 : parseMethodDescriptor "(J)Z" = some ⟨[.long], some .boolean⟩ := by decide +kernel
theorem pd_4 : parseMethodDescriptor "()Z" = some ⟨[], some .boolean⟩ := by decide +kernel
theorem pd_5 : parseMethodDescriptor "()J" = some ⟨[], some .long⟩ := by decide +kernel
theorem pd_6 : parseMethodDescriptor "(ZJJ)Z" = some ⟨[.boolean, .long, .long], some .boolean⟩ := by decide +kernel
theorem pf_1 : plainFor (⟨"java/lang/Math", "max", "(JJ)J"⟩ : MethodName) = true := by decide +kernel
theorem d1_0 : decode jdk_29_method_66_code 0 = .ok (.lload_n 0, 1) := by decide +kernel
theorem d1_1 : decode jdk_29_method_66_code 1 = .ok (.lload_n 2, 1) := by decide +kernel
theorem d1_2 : decode jdk_29_method_66_code 2 = .ok (.lcmp, 1) := by decide +kernel
theorem d1_3 : decode jdk_29_method_66_code 3 = .ok (.ifCond .lt 7, 3) := by decide +kernel
theorem d1_6 : decode jdk_29_method_66_code 6 = .ok (.lload_n 0, 1) := by decide +kernel
theorem d1_7 : decode jdk_29_method_66_code 7 = .ok (.goto 4, 3) := by decide +kernel
theorem d1_10 : decode jdk_29_method_66_code 10 = .ok (.lload_n 2, 1) := by decide +kernel
theorem d1_11 : decode jdk_29_method_66_code 11 = .ok (.lreturn, 1) := by decide +kernel
theorem pf_2 : plainFor (⟨"com/example/ohjaus/ohjaus/device/Barrier", "<init>", "(JJZ)V"⟩ : MethodName) = true := by decide +kernel
theorem d2_0 : decode prog_1_method_1_code 0 = .ok (.aload_n 0, 1) := by decide +kernel
theorem d2_1 : decode prog_1_method_1_code 1 = .ok (.invokespecial 1, 3) := by decide +kernel
theorem d2_4 : decode prog_1_method_1_code 4 = .ok (.aload_n 0, 1) := by decide +kernel
theorem d2_5 : decode prog_1_method_1_code 5 = .ok (.lload_n 1, 1) := by decide +kernel
theorem d2_6 : decode prog_1_method_1_code 6 = .ok (.putfield 7, 3) := by decide +kernel
theorem d2_9 : decode prog_1_method_1_code 9 = .ok (.aload_n 0, 1) := by decide +kernel
theorem d2_10 : decode prog_1_method_1_code 10 = .ok (.lload_n 3, 1) := by decide +kernel
theorem d2_11 : decode prog_1_method_1_code 11 = .ok (.putfield 13, 3) := by decide +kernel
theorem d2_14 : decode prog_1_method_1_code 14 = .ok (.aload_n 0, 1) := by decide +kernel
theorem d2_15 : decode prog_1_method_1_code 15 = .ok (.iload 5, 2) := by decide +kernel
theorem d2_17 : decode prog_1_method_1_code 17 = .ok (.putfield 16, 3) := by decide +kernel
theorem d2_20 : decode prog_1_method_1_code 20 = .ok (.return_, 1) := by decide +kernel
theorem pf_4 : plainFor (⟨"com/example/ohjaus/ohjaus/device/Barrier", "arrives", "(J)Z"⟩ : MethodName) = true := by decide +kernel
theorem d4_0 : decode prog_1_method_9_code 0 = .ok (.aload_n 0, 1) := by decide +kernel
theorem d4_1 : decode prog_1_method_9_code 1 = .ok (.getfield 20, 3) := by decide +kernel
theorem d4_4 : decode prog_1_method_9_code 4 = .ok (.ifCond .eq 16, 3) := by decide +kernel
theorem d4_7 : decode prog_1_method_9_code 7 = .ok (.lload_n 1, 1) := by decide +kernel
theorem d4_8 : decode prog_1_method_9_code 8 = .ok (.aload_n 0, 1) := by decide +kernel
theorem d4_9 : decode prog_1_method_9_code 9 = .ok (.getfield 23, 3) := by decide +kernel
theorem d4_12 : decode prog_1_method_9_code 12 = .ok (.lcmp, 1) := by decide +kernel
theorem d4_13 : decode prog_1_method_9_code 13 = .ok (.ifCond .lt 7, 3) := by decide +kernel
theorem d4_16 : decode prog_1_method_9_code 16 = .ok (.iconst 1, 1) := by decide +kernel
theorem d4_17 : decode prog_1_method_9_code 17 = .ok (.goto 4, 3) := by decide +kernel
theorem d4_20 : decode prog_1_method_9_code 20 = .ok (.iconst 0, 1) := by decide +kernel
theorem d4_21 : decode prog_1_method_9_code 21 = .ok (.istore_n 3, 1) := by decide +kernel
theorem d4_22 : decode prog_1_method_9_code 22 = .ok (.aload_n 0, 1) := by decide +kernel
theorem d4_23 : decode prog_1_method_9_code 23 = .ok (.dup, 1) := by decide +kernel
theorem d4_24 : decode prog_1_method_9_code 24 = .ok (.getfield 20, 3) := by decide +kernel
theorem d4_27 : decode prog_1_method_9_code 27 = .ok (.iload_n 3, 1) := by decide +kernel
theorem d4_28 : decode prog_1_method_9_code 28 = .ok (.ifCond .ne 7, 3) := by decide +kernel
theorem d4_31 : decode prog_1_method_9_code 31 = .ok (.iconst 1, 1) := by decide +kernel
theorem d4_32 : decode prog_1_method_9_code 32 = .ok (.goto 4, 3) := by decide +kernel
theorem d4_35 : decode prog_1_method_9_code 35 = .ok (.iconst 0, 1) := by decide +kernel
theorem d4_36 : decode prog_1_method_9_code 36 = .ok (.iand, 1) := by decide +kernel
theorem d4_37 : decode prog_1_method_9_code 37 = .ok (.putfield 20, 3) := by decide +kernel
theorem d4_40 : decode prog_1_method_9_code 40 = .ok (.iload_n 3, 1) := by decide +kernel
theorem d4_41 : decode prog_1_method_9_code 41 = .ok (.ireturn, 1) := by decide +kernel
theorem pf_5 : plainFor (⟨"com/example/ohjaus/ohjaus/device/Barrier", "moving", "()Z"⟩ : MethodName) = true := by decide +kernel
theorem d5_0 : decode prog_1_method_3_code 0 = .ok (.aload_n 0, 1) := by decide +kernel
theorem d5_1 : decode prog_1_method_3_code 1 = .ok (.getfield 20, 3) := by decide +kernel
theorem d5_4 : decode prog_1_method_3_code 4 = .ok (.ireturn, 1) := by decide +kernel
theorem pf_6 : plainFor (⟨"com/example/ohjaus/ohjaus/device/Barrier", "up", "()Z"⟩ : MethodName) = true := by decide +kernel
theorem d6_0 : decode prog_1_method_2_code 0 = .ok (.aload_n 0, 1) := by decide +kernel
theorem d6_1 : decode prog_1_method_2_code 1 = .ok (.getfield 16, 3) := by decide +kernel
theorem d6_4 : decode prog_1_method_2_code 4 = .ok (.ireturn, 1) := by decide +kernel
theorem pf_7 : plainFor (⟨"com/example/ohjaus/ohjaus/device/Barrier", "since", "()J"⟩ : MethodName) = true := by decide +kernel
theorem d7_0 : decode prog_1_method_5_code 0 = .ok (.aload_n 0, 1) := by decide +kernel
theorem d7_1 : decode prog_1_method_5_code 1 = .ok (.getfield 23, 3) := by decide +kernel
theorem d7_4 : decode prog_1_method_5_code 4 = .ok (.lreturn, 1) := by decide +kernel
theorem pf_8 : plainFor (⟨"com/example/ohjaus/ohjaus/device/Barrier", "lower", "(J)Z"⟩ : MethodName) = true := by decide +kernel
theorem d8_0 : decode prog_1_method_7_code 0 = .ok (.aload_n 0, 1) := by decide +kernel
theorem d8_1 : decode prog_1_method_7_code 1 = .ok (.iconst 0, 1) := by decide +kernel
theorem d8_2 : decode prog_1_method_7_code 2 = .ok (.aload_n 0, 1) := by decide +kernel
theorem d8_3 : decode prog_1_method_7_code 3 = .ok (.getfield 13, 3) := by decide +kernel
theorem d8_6 : decode prog_1_method_7_code 6 = .ok (.lload_n 1, 1) := by decide +kernel
theorem d8_7 : decode prog_1_method_7_code 7 = .ok (.invokevirtual 26, 3) := by decide +kernel
theorem d8_10 : decode prog_1_method_7_code 10 = .ok (.ireturn, 1) := by decide +kernel
theorem pf_9 : plainFor (⟨"com/example/ohjaus/ohjaus/device/Barrier", "move", "(ZJJ)Z"⟩ : MethodName) = true := by decide +kernel
theorem d9_0 : decode prog_1_method_8_code 0 = .ok (.aload_n 0, 1) := by decide +kernel
theorem d9_1 : decode prog_1_method_8_code 1 = .ok (.getfield 16, 3) := by decide +kernel
theorem d9_4 : decode prog_1_method_8_code 4 = .ok (.iload_n 1, 1) := by decide +kernel
theorem d9_5 : decode prog_1_method_8_code 5 = .ok (.if_icmp .eq 7, 3) := by decide +kernel
theorem d9_8 : decode prog_1_method_8_code 8 = .ok (.iconst 1, 1) := by decide +kernel
theorem d9_9 : decode prog_1_method_8_code 9 = .ok (.goto 4, 3) := by decide +kernel
theorem d9_12 : decode prog_1_method_8_code 12 = .ok (.iconst 0, 1) := by decide +kernel
theorem d9_13 : decode prog_1_method_8_code 13 = .ok (.istore 6, 2) := by decide +kernel
theorem d9_15 : decode prog_1_method_8_code 15 = .ok (.iload 6, 2) := by decide +kernel
theorem d9_17 : decode prog_1_method_8_code 17 = .ok (.ifCond .eq 23, 3) := by decide +kernel
theorem d9_20 : decode prog_1_method_8_code 20 = .ok (.aload_n 0, 1) := by decide +kernel
theorem d9_21 : decode prog_1_method_8_code 21 = .ok (.iload_n 1, 1) := by decide +kernel
theorem d9_22 : decode prog_1_method_8_code 22 = .ok (.putfield 16, 3) := by decide +kernel
theorem d9_25 : decode prog_1_method_8_code 25 = .ok (.aload_n 0, 1) := by decide +kernel
theorem d9_26 : decode prog_1_method_8_code 26 = .ok (.iconst 1, 1) := by decide +kernel
theorem d9_27 : decode prog_1_method_8_code 27 = .ok (.putfield 20, 3) := by decide +kernel
theorem d9_30 : decode prog_1_method_8_code 30 = .ok (.aload_n 0, 1) := by decide +kernel
theorem d9_31 : decode prog_1_method_8_code 31 = .ok (.lload 4, 2) := by decide +kernel
theorem d9_33 : decode prog_1_method_8_code 33 = .ok (.lload_n 2, 1) := by decide +kernel
theorem d9_34 : decode prog_1_method_8_code 34 = .ok (.invokestatic 30, 3) := by decide +kernel
theorem d9_37 : decode prog_1_method_8_code 37 = .ok (.putfield 23, 3) := by decide +kernel
theorem d9_40 : decode prog_1_method_8_code 40 = .ok (.iload 6, 2) := by decide +kernel
theorem d9_42 : decode prog_1_method_8_code 42 = .ok (.ireturn, 1) := by decide +kernel
theorem pf_10 : plainFor (⟨"com/example/ohjaus/ohjaus/time/Steps", "after", "(JJ)J"⟩ : MethodName) = true := by decide +kernel
theorem d10_0 : decode prog_57_method_8_code 0 = .ok (.lload_n 0, 1) := by decide +kernel
theorem d10_1 : decode prog_57_method_8_code 1 = .ok (.ldc2_w 93, 3) := by decide +kernel
theorem d10_4 : decode prog_57_method_8_code 4 = .ok (.lload_n 2, 1) := by decide +kernel
theorem d10_5 : decode prog_57_method_8_code 5 = .ok (.lsub, 1) := by decide +kernel
theorem d10_6 : decode prog_57_method_8_code 6 = .ok (.lcmp, 1) := by decide +kernel
theorem d10_7 : decode prog_57_method_8_code 7 = .ok (.ifCond .le 9, 3) := by decide +kernel
theorem d10_10 : decode prog_57_method_8_code 10 = .ok (.ldc2_w 93, 3) := by decide +kernel
theorem d10_13 : decode prog_57_method_8_code 13 = .ok (.goto 6, 3) := by decide +kernel
theorem d10_16 : decode prog_57_method_8_code 16 = .ok (.lload_n 0, 1) := by decide +kernel
theorem d10_17 : decode prog_57_method_8_code 17 = .ok (.lload_n 2, 1) := by decide +kernel
theorem d10_18 : decode prog_57_method_8_code 18 = .ok (.ladd, 1) := by decide +kernel
theorem d10_19 : decode prog_57_method_8_code 19 = .ok (.lreturn, 1) := by decide +kernel
theorem pf_11 : plainFor (⟨"com/example/ohjaus/ohjaus/device/BarrierArrivesPinLaw", "sat", "(JJ)J"⟩ : MethodName) = true := by decide +kernel
theorem d11_0 : decode method_2_code 0 = .ok (.lload_n 0, 1) := by decide +kernel
theorem d11_1 : decode method_2_code 1 = .ok (.lload_n 2, 1) := by decide +kernel
theorem d11_2 : decode method_2_code 2 = .ok (.ladd, 1) := by decide +kernel
theorem d11_3 : decode method_2_code 3 = .ok (.lstore 4, 2) := by decide +kernel
theorem d11_5 : decode method_2_code 5 = .ok (.lload 4, 2) := by decide +kernel
theorem d11_7 : decode method_2_code 7 = .ok (.lload_n 0, 1) := by decide +kernel
theorem d11_8 : decode method_2_code 8 = .ok (.lcmp, 1) := by decide +kernel
theorem d11_9 : decode method_2_code 9 = .ok (.ifCond .ge 7, 3) := by decide +kernel
theorem d11_12 : decode method_2_code 12 = .ok (.ldc2_w 9, 3) := by decide +kernel
theorem d11_15 : decode method_2_code 15 = .ok (.lreturn, 1) := by decide +kernel
theorem d11_16 : decode method_2_code 16 = .ok (.lload 4, 2) := by decide +kernel
theorem d11_18 : decode method_2_code 18 = .ok (.lreturn, 1) := by decide +kernel
theorem pf_12 : plainFor (⟨"com/example/ohjaus/ohjaus/device/Barrier", "raise", "(J)Z"⟩ : MethodName) = true := by decide +kernel
theorem d12_0 : decode prog_1_method_6_code 0 = .ok (.aload_n 0, 1) := by decide +kernel
theorem d12_1 : decode prog_1_method_6_code 1 = .ok (.iconst 1, 1) := by decide +kernel
theorem d12_2 : decode prog_1_method_6_code 2 = .ok (.aload_n 0, 1) := by decide +kernel
theorem d12_3 : decode prog_1_method_6_code 3 = .ok (.getfield 7, 3) := by decide +kernel
theorem d12_6 : decode prog_1_method_6_code 6 = .ok (.lload_n 1, 1) := by decide +kernel
theorem d12_7 : decode prog_1_method_6_code 7 = .ok (.invokevirtual 26, 3) := by decide +kernel
theorem d12_10 : decode prog_1_method_6_code 10 = .ok (.ireturn, 1) := by decide +kernel
theorem pf_0 : plainFor x = true := plainFor_of_name (by show plainName "com/example/ohjaus/ohjaus/device/BarrierArrivesPinLaw" = true; simp [plainName, overriddenIn])
/-- a barrier as it stands -/
def Bar (Z : State) (h : Heap) (n0 : Nat) (a : Addr) (op cl ar : Int64) (up mv : Bool) : Prop := n0 ≤ a ∧ Exa Z h a "com/example/ohjaus/ohjaus/device/Barrier" ∧ Fld Z h a "com/example/ohjaus/ohjaus/device/Barrier" "opening" "J" (.long op) ∧ Fld Z h a "com/example/ohjaus/ohjaus/device/Barrier" "closing" "J" (.long cl) ∧ Fld Z h a "com/example/ohjaus/ohjaus/device/Barrier" "up" "Z" (.int (own_b up)) ∧ Fld Z h a "com/example/ohjaus/ohjaus/device/Barrier" "moving" "Z" (.int (own_b mv)) ∧ Fld Z h a "com/example/ohjaus/ohjaus/device/Barrier" "arrival" "J" (.long ar)
def own_after (x y : Int64) : Int64 := if (9223372036854775807 : Int64) - y < x then 9223372036854775807 else x + y
def own_sat (x y : Int64) : Int64 := if x + y < x then 9223372036854775807 else x + y
theorem own_after_sat {x y : Int64} (hy : 1 ≤ y.toInt) : own_after x y = own_sat x y := by
  unfold own_after own_sat
  have hx1 := Int64.toInt_lt x
  have hx2 := Int64.le_toInt x
  have hy1 := Int64.toInt_lt y
  have e0 : (9223372036854775807 : Int64).toInt = 9223372036854775807 := rfl
  have e1 : ((9223372036854775807 : Int64) - y).toInt = 9223372036854775807 - y.toInt := by
    rw [Int64.toInt_sub, e0]; exact Int.bmod_eq_of_le (by omega) (by omega)
  have e2 : (x + y).toInt = (x.toInt + y.toInt).bmod (2 ^ 64) := Int64.toInt_add x y
  have c : ((9223372036854775807 : Int64) - y < x) ↔ (x + y < x) := by
    rw [Int64.lt_iff_toInt_lt, Int64.lt_iff_toInt_lt, e1, e2]
    by_cases q : x.toInt + y.toInt < 9223372036854775808
    · rw [Int.bmod_eq_of_le (by omega) (by omega)]; omega
    · have : (x.toInt + y.toInt).bmod (2 ^ 64) = x.toInt + y.toInt - 18446744073709551616 := by
        rw [Int.bmod_def]; omega
      rw [this]; omega
  by_cases q : x + y < x
  · rw [if_pos q, if_pos (c.mpr q)]
  · rw [if_neg q, if_neg (fun z => q (c.mp z))]
set_option maxRecDepth 65536 in
set_option maxHeartbeats 40000000 in
theorem con_max (l : Launch) (Z : State) (a0 : Array Value) (hw : ∀ d ∈ tables_1, d.before a0 Z = true) (q1 q2 : Int64) (h0 : Heap) (n0 : Nat) (z0 : n0 ≤ h0.size) :
    Con l Z (⟨"java/lang/Math", "max", "(JJ)J"⟩ : MethodName) jdk_29_method_66_code 4 (some .long) ({ frames := 0, cells := 0, slots := 0, locals := 0 } : Room) #[(.long q1), (.long q2)] h0 n0 (fun v h' => v = some (.long (own_max q1 q2)) ∧ h0 = h') := by
  refine Con.mk (tb := tables_1) (a0 := a0) (Ls := #[.val (.long q1), .second, .val (.long q2), .second]) pf_1 hw z0 (fun m => by first | (simp [entryFrame, mkF, argsToLocals, Value.category, maxLocals]; done) | rfl) ?_
  intro p e s m below meth c S0 C R
  replace R := R.lloadN C (pc' := 1) d1_0 rfl rfl
  replace R := R.lloadN C (pc' := 2) d1_1 rfl rfl
  replace R := R.lcmp C (pc' := 3) d1_2 rfl
  by_cases q : q1 < q2
  · skip
    replace R := R.ifY C (pc' := 10) d1_3 (by rw [lcmp_lt]; exact decide_eq_true q) rfl
    replace R := R.lloadN C (pc' := 11) d1_10 rfl rfl
    exact R.retJ C d1_11 ⟨by rw [own_max, if_pos q], rfl⟩ (by decide) (by decide)
  · skip
    replace R := R.ifN C (pc' := 6) d1_3 (by rw [lcmp_lt]; exact decide_eq_false q) rfl
    replace R := R.lloadN C (pc' := 7) d1_6 rfl rfl
    replace R := R.goto C (pc' := 11) d1_7 rfl
    exact R.retJ C d1_11 ⟨by rw [own_max, if_neg q], rfl⟩ (by decide) (by decide)
set_option maxRecDepth 65536 in
set_option maxHeartbeats 40000000 in
theorem con_after (l : Launch) (Z : State) (a0 : Array Value) (hw : ∀ d ∈ tables_1, d.before a0 Z = true) (q1 q2 : Int64) (h0 : Heap) (n0 : Nat) (z0 : n0 ≤ h0.size) :
    Con l Z (⟨"com/example/ohjaus/ohjaus/time/Steps", "after", "(JJ)J"⟩ : MethodName) prog_57_method_8_code 4 (some .long) ({ frames := 0, cells := 0, slots := 0, locals := 0 } : Room) #[(.long q1), (.long q2)] h0 n0 (fun v h' => v = some (.long (own_after q1 q2)) ∧ h0 = h') := by
  refine Con.mk (tb := tables_1) (a0 := a0) (Ls := #[.val (.long q1), .second, .val (.long q2), .second]) pf_10 hw z0 (fun m => by first | (simp [entryFrame, mkF, argsToLocals, Value.category, maxLocals]; done) | rfl) ?_
  intro p e s m below meth c S0 C R
  replace R := R.lloadN C (pc' := 1) d10_0 rfl rfl
  replace R := R.ldcJ C (v := (9223372036854775807 : Int64)) (C.w 57 rfl) (pc' := 4) d10_1 rfl
  replace R := R.lloadN C (pc' := 5) d10_4 rfl rfl
  replace R := R.lsub C (pc' := 6) d10_5 rfl
  replace R := R.lcmp C (pc' := 7) d10_6 rfl
  by_cases q : (9223372036854775807 : Int64) - q2 < q1
  · skip
    replace R := R.ifN C (pc' := 10) d10_7 (by rw [lcmp_le]; exact decide_eq_false (Int64.not_le.mpr q)) rfl
    replace R := R.ldcJ C (v := (9223372036854775807 : Int64)) (C.w 57 rfl) (pc' := 13) d10_10 rfl
    replace R := R.goto C (pc' := 19) d10_13 rfl
    exact R.retJ C d10_19 ⟨by rw [own_after, if_pos q], rfl⟩ (by decide) (by decide)
  · skip
    replace R := R.ifY C (pc' := 16) d10_7 (by rw [lcmp_le]; exact decide_eq_true (Int64.not_lt.mp q)) rfl
    replace R := R.lloadN C (pc' := 17) d10_16 rfl rfl
    replace R := R.lloadN C (pc' := 18) d10_17 rfl rfl
    replace R := R.ladd C (pc' := 19) d10_18 rfl
    exact R.retJ C d10_19 ⟨by rw [own_after, if_neg q], rfl⟩ (by decide) (by decide)
set_option maxRecDepth 65536 in
set_option maxHeartbeats 40000000 in
theorem con_sat (l : Launch) (Z : State) (a0 : Array Value) (hw : ∀ d ∈ tables_1, d.before a0 Z = true) (q1 q2 : Int64) (h0 : Heap) (n0 : Nat) (z0 : n0 ≤ h0.size) :
    Con l Z (⟨"com/example/ohjaus/ohjaus/device/BarrierArrivesPinLaw", "sat", "(JJ)J"⟩ : MethodName) method_2_code 6 (some .long) ({ frames := 0, cells := 0, slots := 0, locals := 0 } : Room) #[(.long q1), (.long q2)] h0 n0 (fun v h' => v = some (.long (own_sat q1 q2)) ∧ h0 = h') := by
  refine Con.mk (tb := tables_1) (a0 := a0) (Ls := #[.val (.long q1), .second, .val (.long q2), .second, .unset, .unset]) pf_11 hw z0 (fun m => by first | (simp [entryFrame, mkF, argsToLocals, Value.category, maxLocals]; done) | rfl) ?_
  intro p e s m below meth c S0 C R
  replace R := R.lloadN C (pc' := 1) d11_0 rfl rfl
  replace R := R.lloadN C (pc' := 2) d11_1 rfl rfl
  replace R := R.ladd C (pc' := 3) d11_2 rfl
  replace R := R.lstore C (Ls' := #[.val (.long q1), .second, .val (.long q2), .second, .val (.long (q1 + q2)), .second]) (pc' := 5) d11_3 rfl rfl
  replace R := R.lload C (pc' := 7) d11_5 rfl rfl
  replace R := R.lloadN C (pc' := 8) d11_7 rfl rfl
  replace R := R.lcmp C (pc' := 9) d11_8 rfl
  by_cases q : q1 + q2 < q1
  · skip
    replace R := R.ifN C (pc' := 12) d11_9 (by rw [lcmp_ge]; exact decide_eq_false (Int64.not_le.mpr q)) rfl
    replace R := R.ldcJ C (v := (9223372036854775807 : Int64)) (C.w 0 rfl) (pc' := 15) d11_12 rfl
    exact R.retJ C d11_15 ⟨by rw [own_sat, if_pos q], rfl⟩ (by decide) (by decide)
  · skip
    replace R := R.ifY C (pc' := 16) d11_9 (by rw [lcmp_ge]; exact decide_eq_true (Int64.not_lt.mp q)) rfl
    replace R := R.lload C (pc' := 18) d11_16 rfl rfl
    exact R.retJ C d11_18 ⟨by rw [own_sat, if_neg q], rfl⟩ (by decide) (by decide)
set_option maxRecDepth 65536 in
set_option maxHeartbeats 40000000 in
theorem con_init (l : Launch) (Z : State) (a0 : Array Value) (hw : ∀ d ∈ tables_1, d.before a0 Z = true) (a : Addr) (op cl : Int64) (up : Bool) (h0 : Heap) (n0 : Nat) (z0 : n0 ≤ h0.size) (B : Bar Z h0 n0 a 0 0 0 false false) :
    Con l Z (⟨"com/example/ohjaus/ohjaus/device/Barrier", "<init>", "(JJZ)V"⟩ : MethodName) prog_1_method_1_code 6 none ({ frames := 1, cells := 0, slots := 0, locals := 12 } : Room) #[(.ref a), (.long op), (.long cl), (.int (own_b up))] h0 n0 (fun v h' => v = none ∧ Bar Z h' n0 a op cl 0 up false) := by
  refine Con.mk (tb := tables_1) (a0 := a0) (Ls := #[.val (.ref a), .val (.long op), .second, .val (.long cl), .second, .val (.int (own_b up))]) pf_2 hw z0 (fun m => by first | (simp [entryFrame, mkF, argsToLocals, Value.category, maxLocals]; done) | rfl) ?_
  intro p e s m below meth c S0 C R
  replace R := R.aloadN C (pc' := 1) d2_0 rfl rfl rfl
  replace R := R.initO C (C.w 11 rfl) (C.w 12 rfl) (C.w 13 rfl) rfl (pc' := 4) d2_1 (by decide) (W := 0) (Nat.le_of_eq rfl) (by decide) rfl
  replace R := R.aloadN C (pc' := 5) d2_4 rfl rfl rfl
  replace R := R.lloadN C (pc' := 6) d2_5 rfl rfl
  obtain ⟨ga, E, Fo, Fc, Fu, Fm, Fa⟩ := B
  obtain ⟨h1, R', W1⟩ := R.putFv C (C.w 14 rfl) Via.refl Fo E (Or.inr ⟨(C.w 15 rfl), rfl, rfl⟩) (C.w 6 rfl) (ty := .long) (v' := (.long op)) (by decide) rfl rfl ga (pc' := 9) d2_6 rfl
  replace R := R'
  clear R'
  replace Fo := Fo.same W1
  replace Fc := Fc.other W1 (Or.inr (slot_ne (Or.inr (C.w 17 rfl)) (Or.inr (C.w 15 rfl)) (by decide) (t := .long) (t' := .long) (by decide) (by decide)))
  replace Fu := Fu.other W1 (Or.inr (slot_ne (Or.inl (C.w 19 rfl)) (Or.inr (C.w 15 rfl)) (by decide) (t := .boolean) (t' := .long) (by decide) (by decide)))
  replace Fm := Fm.other W1 (Or.inr (slot_ne (Or.inl (C.w 26 rfl)) (Or.inr (C.w 15 rfl)) (by decide) (t := .boolean) (t' := .long) (by decide) (by decide)))
  replace Fa := Fa.other W1 (Or.inr (slot_ne (Or.inl (C.w 43 rfl)) (Or.inr (C.w 15 rfl)) (by decide) (t := .long) (t' := .long) (by decide) (by decide)))
  replace E := E.wr W1
  replace R := R.aloadN C (pc' := 10) d2_9 rfl rfl rfl
  replace R := R.lloadN C (pc' := 11) d2_10 rfl rfl
  obtain ⟨h2, R', W2⟩ := R.putFv C (C.w 16 rfl) Via.refl Fc E (Or.inr ⟨(C.w 17 rfl), rfl, rfl⟩) (C.w 6 rfl) (ty := .long) (v' := (.long cl)) (by decide) rfl rfl ga (pc' := 14) d2_11 rfl
  replace R := R'
  clear R'
  replace Fo := Fo.other W2 (Or.inr (slot_ne (Or.inr (C.w 15 rfl)) (Or.inr (C.w 17 rfl)) (by decide) (t := .long) (t' := .long) (by decide) (by decide)))
  replace Fc := Fc.same W2
  replace Fu := Fu.other W2 (Or.inr (slot_ne (Or.inl (C.w 19 rfl)) (Or.inr (C.w 17 rfl)) (by decide) (t := .boolean) (t' := .long) (by decide) (by decide)))
  replace Fm := Fm.other W2 (Or.inr (slot_ne (Or.inl (C.w 26 rfl)) (Or.inr (C.w 17 rfl)) (by decide) (t := .boolean) (t' := .long) (by decide) (by decide)))
  replace Fa := Fa.other W2 (Or.inr (slot_ne (Or.inl (C.w 43 rfl)) (Or.inr (C.w 17 rfl)) (by decide) (t := .long) (t' := .long) (by decide) (by decide)))
  replace E := E.wr W2
  replace R := R.aloadN C (pc' := 15) d2_14 rfl rfl rfl
  replace R := R.iload C (pc' := 17) d2_15 rfl rfl
  obtain ⟨h3, R', W3⟩ := R.putFv C (C.w 18 rfl) Via.refl Fu E (Or.inl (C.w 19 rfl)) (C.w 6 rfl) (ty := .boolean) (v' := (.int (own_b up))) (by decide) (nar_bz _) (fit_bz _) ga (pc' := 20) d2_17 rfl
  replace R := R'
  clear R'
  replace Fo := Fo.other W3 (Or.inr (slot_ne (Or.inr (C.w 15 rfl)) (Or.inl (C.w 19 rfl)) (by decide) (t := .long) (t' := .boolean) (by decide) (by decide)))
  replace Fc := Fc.other W3 (Or.inr (slot_ne (Or.inr (C.w 17 rfl)) (Or.inl (C.w 19 rfl)) (by decide) (t := .long) (t' := .boolean) (by decide) (by decide)))
  replace Fu := Fu.same W3
  replace Fm := Fm.other W3 (Or.inr (slot_ne (Or.inl (C.w 26 rfl)) (Or.inl (C.w 19 rfl)) (by decide) (t := .boolean) (t' := .boolean) (by decide) (by decide)))
  replace Fa := Fa.other W3 (Or.inr (slot_ne (Or.inl (C.w 43 rfl)) (Or.inl (C.w 19 rfl)) (by decide) (t := .long) (t' := .boolean) (by decide) (by decide)))
  replace E := E.wr W3
  exact R.retV C d2_20 ⟨rfl, ga, E, Fo, Fc, Fu, Fm, Fa⟩ (by decide) (by decide)
set_option maxRecDepth 65536 in
set_option maxHeartbeats 40000000 in
theorem con_moving (l : Launch) (Z : State) (a0 : Array Value) (hw : ∀ d ∈ tables_1, d.before a0 Z = true) (a : Addr) (op cl ar : Int64) (up mv : Bool) (h0 : Heap) (n0 : Nat) (z0 : n0 ≤ h0.size) (B : Bar Z h0 n0 a op cl ar up mv) :
    Con l Z (⟨"com/example/ohjaus/ohjaus/device/Barrier", "moving", "()Z"⟩ : MethodName) prog_1_method_3_code 1 (some .boolean) ({ frames := 0, cells := 0, slots := 0, locals := 0 } : Room) #[(.ref a)] h0 n0 (fun v h' => v = some (.int (own_b mv)) ∧ Bar Z h' n0 a op cl ar up mv) := by
  refine Con.mk (tb := tables_1) (a0 := a0) (Ls := #[.val (.ref a)]) pf_5 hw z0 (fun m => by first | (simp [entryFrame, mkF, argsToLocals, Value.category, maxLocals]; done) | rfl) ?_
  intro p e s m below meth c S0 C R
  obtain ⟨ga, E, Fo, Fc, Fu, Fm, Fa⟩ := id B
  replace R := R.aloadN C (pc' := 1) d5_0 rfl rfl rfl
  replace R := R.getF C (C.w 25 rfl) Fm (pc' := 4) d5_1 rfl
  exact R.retZ C d5_4 ⟨rfl, B⟩ (by decide) (by decide)
set_option maxRecDepth 65536 in
set_option maxHeartbeats 40000000 in
theorem con_up (l : Launch) (Z : State) (a0 : Array Value) (hw : ∀ d ∈ tables_1, d.before a0 Z = true) (a : Addr) (op cl ar : Int64) (up mv : Bool) (h0 : Heap) (n0 : Nat) (z0 : n0 ≤ h0.size) (B : Bar Z h0 n0 a op cl ar up mv) :
    Con l Z (⟨"com/example/ohjaus/ohjaus/device/Barrier", "up", "()Z"⟩ : MethodName) prog_1_method_2_code 1 (some .boolean) ({ frames := 0, cells := 0, slots := 0, locals := 0 } : Room) #[(.ref a)] h0 n0 (fun v h' => v = some (.int (own_b up)) ∧ Bar Z h' n0 a op cl ar up mv) := by
  refine Con.mk (tb := tables_1) (a0 := a0) (Ls := #[.val (.ref a)]) pf_6 hw z0 (fun m => by first | (simp [entryFrame, mkF, argsToLocals, Value.category, maxLocals]; done) | rfl) ?_
  intro p e s m below meth c S0 C R
  obtain ⟨ga, E, Fo, Fc, Fu, Fm, Fa⟩ := id B
  replace R := R.aloadN C (pc' := 1) d6_0 rfl rfl rfl
  replace R := R.getF C (C.w 18 rfl) Fu (pc' := 4) d6_1 rfl
  exact R.retZ C d6_4 ⟨rfl, B⟩ (by decide) (by decide)
set_option maxRecDepth 65536 in
set_option maxHeartbeats 40000000 in
theorem con_since (l : Launch) (Z : State) (a0 : Array Value) (hw : ∀ d ∈ tables_1, d.before a0 Z = true) (a : Addr) (op cl ar : Int64) (up mv : Bool) (h0 : Heap) (n0 : Nat) (z0 : n0 ≤ h0.size) (B : Bar Z h0 n0 a op cl ar up mv) :
    Con l Z (⟨"com/example/ohjaus/ohjaus/device/Barrier", "since", "()J"⟩ : MethodName) prog_1_method_5_code 1 (some .long) ({ frames := 0, cells := 0, slots := 0, locals := 0 } : Room) #[(.ref a)] h0 n0 (fun v h' => v = some (.long ar) ∧ Bar Z h' n0 a op cl ar up mv) := by
  refine Con.mk (tb := tables_1) (a0 := a0) (Ls := #[.val (.ref a)]) pf_7 hw z0 (fun m => by first | (simp [entryFrame, mkF, argsToLocals, Value.category, maxLocals]; done) | rfl) ?_
  intro p e s m below meth c S0 C R
  obtain ⟨ga, E, Fo, Fc, Fu, Fm, Fa⟩ := id B
  replace R := R.aloadN C (pc' := 1) d7_0 rfl rfl rfl
  replace R := R.getF C (C.w 42 rfl) Fa (pc' := 4) d7_1 rfl
  exact R.retJ C d7_4 ⟨rfl, B⟩ (by decide) (by decide)
set_option maxRecDepth 65536 in
set_option maxHeartbeats 40000000 in
theorem con_arrives (l : Launch) (Z : State) (a0 : Array Value) (hw : ∀ d ∈ tables_1, d.before a0 Z = true) (a : Addr) (op cl ar : Int64) (up mv : Bool) (q : Int64) (h0 : Heap) (n0 : Nat) (z0 : n0 ≤ h0.size) (B : Bar Z h0 n0 a op cl ar up mv) :
    Con l Z (⟨"com/example/ohjaus/ohjaus/device/Barrier", "arrives", "(J)Z"⟩ : MethodName) prog_1_method_9_code 4 (some .boolean) ({ frames := 0, cells := 0, slots := 0, locals := 0 } : Room) #[(.ref a), (.long q)] h0 n0 (fun v h' => v = some (.int (own_b (mv && decide (ar ≤ q)))) ∧ Bar Z h' n0 a op cl ar up (mv && !(mv && decide (ar ≤ q)))) := by
  refine Con.mk (tb := tables_1) (a0 := a0) (Ls := #[.val (.ref a), .val (.long q), .second, .unset]) pf_4 hw z0 (fun m => by first | (simp [entryFrame, mkF, argsToLocals, Value.category, maxLocals]; done) | rfl) ?_
  intro p e s m below meth c S0 C R
  obtain ⟨ga, E, Fo, Fc, Fu, Fm, Fa⟩ := B
  replace R := R.aloadN C (pc' := 1) d4_0 rfl rfl rfl
  replace R := R.getF C (C.w 25 rfl) Fm (pc' := 4) d4_1 rfl
  replace R : Rch p l e ({ frames := 0, cells := 0, slots := 0, locals := 0 } : Room) s m #[(.ref a), (.long q)] below meth c S0 n0 0 0 h0 21 #[.val (.ref a), .val (.long q), .second, .unset] [.int (own_b (mv && decide (ar ≤ q)))] := by
    cases mv with
    | false =>
      replace R := R.ifY C (pc' := 20) d4_4 rfl rfl
      replace R := R.iconst C (pc' := 21) d4_20 (v := (0 : Int32)) rfl rfl
      exact R
    | true =>
      replace R := R.ifN C (pc' := 7) d4_4 rfl rfl
      replace R := R.lloadN C (pc' := 8) d4_7 rfl rfl
      replace R := R.aloadN C (pc' := 9) d4_8 rfl rfl rfl
      replace R := R.getF C (C.w 42 rfl) Fa (pc' := 12) d4_9 rfl
      replace R := R.lcmp C (pc' := 13) d4_12 rfl
      replace R := R.dia C (b := (decide (ar ≤ q))) (pc' := 21) d4_13 d4_16 d4_17 d4_20 (by rw [lcmp_lt]; exact own_nle ar q) rfl
      exact R
  obtain ⟨r, hr⟩ : ∃ r, r = (mv && decide (ar ≤ q)) := ⟨_, rfl⟩
  rw [← hr] at R
  rw [← hr]
  replace R := R.istoreN C (Ls' := #[.val (.ref a), .val (.long q), .second, .val (.int (own_b r))]) (pc' := 22) d4_21 rfl rfl
  replace R := R.aloadN C (pc' := 23) d4_22 rfl rfl rfl
  replace R := R.dup C (pc' := 24) d4_23 rfl rfl
  replace R := R.getF C (C.w 25 rfl) Fm (pc' := 27) d4_24 rfl
  replace R := R.iloadN C (pc' := 28) d4_27 rfl rfl
  replace R := R.dia C (b := (!r)) (pc' := 36) d4_28 d4_31 d4_32 d4_35 (by rw [b_ne]; simp) rfl
  replace R := R.iand C (pc' := 37) d4_36 rfl
  rw [b_and] at R
  obtain ⟨h1, R', W1⟩ := R.putFv C (C.w 25 rfl) Via.refl Fm E (Or.inl (C.w 26 rfl)) (C.w 6 rfl) (ty := .boolean) (v' := (.int (own_b (mv && !r)))) (by decide) (nar_bz _) (fit_bz _) ga (pc' := 40) d4_37 rfl
  replace R := R'
  clear R'
  replace Fo := Fo.other W1 (Or.inr (slot_ne (Or.inr (C.w 15 rfl)) (Or.inl (C.w 26 rfl)) (by decide) (t := .long) (t' := .boolean) (by decide) (by decide)))
  replace Fc := Fc.other W1 (Or.inr (slot_ne (Or.inr (C.w 17 rfl)) (Or.inl (C.w 26 rfl)) (by decide) (t := .long) (t' := .boolean) (by decide) (by decide)))
  replace Fu := Fu.other W1 (Or.inr (slot_ne (Or.inl (C.w 19 rfl)) (Or.inl (C.w 26 rfl)) (by decide) (t := .boolean) (t' := .boolean) (by decide) (by decide)))
  replace Fm := Fm.same W1
  replace Fa := Fa.other W1 (Or.inr (slot_ne (Or.inl (C.w 43 rfl)) (Or.inl (C.w 26 rfl)) (by decide) (t := .long) (t' := .boolean) (by decide) (by decide)))
  replace E := E.wr W1
  replace R := R.iloadN C (pc' := 41) d4_40 rfl rfl
  exact R.retZ C d4_41 ⟨rfl, ga, E, Fo, Fc, Fu, Fm, Fa⟩ (by decide) (by decide)
set_option maxRecDepth 65536 in
set_option maxHeartbeats 40000000 in
theorem con_move (l : Launch) (Z : State) (a0 : Array Value) (hw : ∀ d ∈ tables_1, d.before a0 Z = true) (a : Addr) (op cl ar : Int64) (up mv : Bool) (b : Bool) (tm q : Int64) (h0 : Heap) (n0 : Nat) (z0 : n0 ≤ h0.size) (B : Bar Z h0 n0 a op cl ar up mv) :
    Con l Z (⟨"com/example/ohjaus/ohjaus/device/Barrier", "move", "(ZJJ)Z"⟩ : MethodName) prog_1_method_8_code 7 (some .boolean) ({ frames := 1, cells := 0, slots := 0, locals := 20 } : Room) #[(.ref a), (.int (own_b b)), (.long tm), (.long q)] h0 n0 (fun v h' => v = some (.int (own_b (up != b))) ∧ Bar Z h' n0 a op cl (if (up != b) = true then own_after q tm else ar) b (mv || (up != b))) := by
  refine Con.mk (tb := tables_1) (a0 := a0) (Ls := #[.val (.ref a), .val (.int (own_b b)), .val (.long tm), .second, .val (.long q), .second, .unset]) pf_9 hw z0 (fun m => by first | (simp [entryFrame, mkF, argsToLocals, Value.category, maxLocals]; done) | rfl) ?_
  intro p e s m below meth c S0 C R
  obtain ⟨ga, E, Fo, Fc, Fu, Fm, Fa⟩ := B
  replace R := R.aloadN C (pc' := 1) d9_0 rfl rfl rfl
  replace R := R.getF C (C.w 18 rfl) Fu (pc' := 4) d9_1 rfl
  replace R := R.iloadN C (pc' := 5) d9_4 rfl rfl
  replace R := R.diac C (b := (up != b)) (pc' := 13) d9_5 d9_8 d9_9 d9_12 (by rw [bb_eq]; cases up <;> cases b <;> rfl) rfl
  replace R := R.istore C (Ls' := #[.val (.ref a), .val (.int (own_b b)), .val (.long tm), .second, .val (.long q), .second, .val (.int (own_b (up != b)))]) (pc' := 15) d9_13 rfl rfl
  replace R := R.iload C (pc' := 17) d9_15 rfl rfl
  by_cases hq : (up != b) = true
  · skip
    replace R := R.ifN C (pc' := 20) d9_17 (by rw [hq]; rfl) rfl
    replace R := R.aloadN C (pc' := 21) d9_20 rfl rfl rfl
    replace R := R.iloadN C (pc' := 22) d9_21 rfl rfl
    obtain ⟨h1, R', W1⟩ := R.putFv C (C.w 18 rfl) Via.refl Fu E (Or.inl (C.w 19 rfl)) (C.w 6 rfl) (ty := .boolean) (v' := (.int (own_b b))) (by decide) (nar_bz _) (fit_bz _) ga (pc' := 25) d9_22 rfl
    replace R := R'
    clear R'
    replace Fo := Fo.other W1 (Or.inr (slot_ne (Or.inr (C.w 15 rfl)) (Or.inl (C.w 19 rfl)) (by decide) (t := .long) (t' := .boolean) (by decide) (by decide)))
    replace Fc := Fc.other W1 (Or.inr (slot_ne (Or.inr (C.w 17 rfl)) (Or.inl (C.w 19 rfl)) (by decide) (t := .long) (t' := .boolean) (by decide) (by decide)))
    replace Fu := Fu.same W1
    replace Fm := Fm.other W1 (Or.inr (slot_ne (Or.inl (C.w 26 rfl)) (Or.inl (C.w 19 rfl)) (by decide) (t := .boolean) (t' := .boolean) (by decide) (by decide)))
    replace Fa := Fa.other W1 (Or.inr (slot_ne (Or.inl (C.w 43 rfl)) (Or.inl (C.w 19 rfl)) (by decide) (t := .long) (t' := .boolean) (by decide) (by decide)))
    replace E := E.wr W1
    replace R := R.aloadN C (pc' := 26) d9_25 rfl rfl rfl
    replace R := R.iconst C (pc' := 27) d9_26 (v := (1 : Int32)) rfl rfl
    replace R := R.as (st' := [(.int (own_b true)), (.ref a)]) rfl
    obtain ⟨h2, R', W2⟩ := R.putFv C (C.w 25 rfl) Via.refl Fm E (Or.inl (C.w 26 rfl)) (C.w 6 rfl) (ty := .boolean) (v' := (.int (own_b true))) (by decide) (nar_bz _) (fit_bz _) ga (pc' := 30) d9_27 rfl
    replace R := R'
    clear R'
    replace Fo := Fo.other W2 (Or.inr (slot_ne (Or.inr (C.w 15 rfl)) (Or.inl (C.w 26 rfl)) (by decide) (t := .long) (t' := .boolean) (by decide) (by decide)))
    replace Fc := Fc.other W2 (Or.inr (slot_ne (Or.inr (C.w 17 rfl)) (Or.inl (C.w 26 rfl)) (by decide) (t := .long) (t' := .boolean) (by decide) (by decide)))
    replace Fu := Fu.other W2 (Or.inr (slot_ne (Or.inl (C.w 19 rfl)) (Or.inl (C.w 26 rfl)) (by decide) (t := .boolean) (t' := .boolean) (by decide) (by decide)))
    replace Fm := Fm.same W2
    replace Fa := Fa.other W2 (Or.inr (slot_ne (Or.inl (C.w 43 rfl)) (Or.inl (C.w 26 rfl)) (by decide) (t := .long) (t' := .boolean) (by decide) (by decide)))
    replace E := E.wr W2
    replace R := R.aloadN C (pc' := 31) d9_30 rfl rfl rfl
    replace R := R.lload C (pc' := 33) d9_31 rfl rfl
    replace R := R.lloadN C (pc' := 34) d9_33 rfl rfl
    obtain ⟨_, _, R', rfl, rfl⟩ := R.callS C (y := (⟨"com/example/ohjaus/ohjaus/time/Steps", "after", "(JJ)J"⟩ : MethodName)) (C.w 53 rfl) (C.w 54 rfl) (C.w 55 rfl) (C.w 56 rfl) (by decide) [(.long q), (.long tm)] [(.ref a)] rfl (con_after l Z a0 hw q tm h2 n0 R.size) 1 (Nat.le_of_eq rfl) (by decide) (by decide) (by decide) (by decide) (lenOf pd_0 rfl) rfl (pc' := 37) d9_34 rfl
    clear R
    replace R := R'.as (st' := [(.long (own_after q tm)), (.ref a)]) rfl
    clear R'
    obtain ⟨h3, R', W3⟩ := R.putFv C (C.w 42 rfl) Via.refl Fa E (Or.inl (C.w 43 rfl)) (C.w 6 rfl) (ty := .long) (v' := (.long (own_after q tm))) (by decide) rfl rfl ga (pc' := 40) d9_37 rfl
    replace R := R'
    clear R'
    replace Fo := Fo.other W3 (Or.inr (slot_ne (Or.inr (C.w 15 rfl)) (Or.inl (C.w 43 rfl)) (by decide) (t := .long) (t' := .long) (by decide) (by decide)))
    replace Fc := Fc.other W3 (Or.inr (slot_ne (Or.inr (C.w 17 rfl)) (Or.inl (C.w 43 rfl)) (by decide) (t := .long) (t' := .long) (by decide) (by decide)))
    replace Fu := Fu.other W3 (Or.inr (slot_ne (Or.inl (C.w 19 rfl)) (Or.inl (C.w 43 rfl)) (by decide) (t := .boolean) (t' := .long) (by decide) (by decide)))
    replace Fm := Fm.other W3 (Or.inr (slot_ne (Or.inl (C.w 26 rfl)) (Or.inl (C.w 43 rfl)) (by decide) (t := .boolean) (t' := .long) (by decide) (by decide)))
    replace Fa := Fa.same W3
    replace E := E.wr W3
    replace R := R.iload C (pc' := 42) d9_40 rfl rfl
    refine R.retZ C d9_42 ⟨rfl, ?_⟩ (by decide) (by decide)
    rw [if_pos hq, hq, Bool.or_true]; exact ⟨ga, E, Fo, Fc, Fu, Fm, Fa⟩
  · skip
    replace R := R.ifY C (pc' := 40) d9_17 (by rw [b_eq]; simp only [Bool.not_eq_true] at hq; rw [hq]; rfl) rfl
    replace R := R.iload C (pc' := 42) d9_40 rfl rfl
    refine R.retZ C d9_42 ⟨rfl, ?_⟩ (by decide) (by decide)
    have hb : up = b := by revert hq; cases up <;> cases b <;> simp
    rw [if_neg hq, ← hb]; simp only [bne_self_eq_false, Bool.or_false]; exact ⟨ga, E, Fo, Fc, Fu, Fm, Fa⟩
set_option maxRecDepth 65536 in
set_option maxHeartbeats 40000000 in
theorem con_raise (l : Launch) (Z : State) (a0 : Array Value) (hw : ∀ d ∈ tables_1, d.before a0 Z = true) (a : Addr) (op cl ar : Int64) (up mv : Bool) (q : Int64) (h0 : Heap) (n0 : Nat) (z0 : n0 ≤ h0.size) (B : Bar Z h0 n0 a op cl ar up mv) :
    Con l Z (⟨"com/example/ohjaus/ohjaus/device/Barrier", "raise", "(J)Z"⟩ : MethodName) prog_1_method_6_code 3 (some .boolean) ({ frames := 2, cells := 0, slots := 0, locals := 40 } : Room) #[(.ref a), (.long q)] h0 n0 (fun v h' => v = some (.int (own_b (up != true))) ∧ Bar Z h' n0 a op cl (if (up != true) = true then own_after q op else ar) true (mv || (up != true))) := by
  refine Con.mk (tb := tables_1) (a0 := a0) (Ls := #[.val (.ref a), .val (.long q), .second]) pf_12 hw z0 (fun m => by first | (simp [entryFrame, mkF, argsToLocals, Value.category, maxLocals]; done) | rfl) ?_
  intro p e s m below meth c S0 C R
  obtain ⟨ga, E, Fo, Fc, Fu, Fm, Fa⟩ := id B
  replace R := R.aloadN C (pc' := 1) d12_0 rfl rfl rfl
  replace R := R.iconst C (pc' := 2) d12_1 (v := (1 : Int32)) rfl rfl
  replace R := R.aloadN C (pc' := 3) d12_2 rfl rfl rfl
  replace R := R.getF C (C.w 14 rfl) Fo (pc' := 6) d12_3 rfl
  replace R := R.lloadN C (pc' := 7) d12_6 rfl rfl
  replace R := R.as (st' := [(.long q), (.long op), (.int (own_b true)), (.ref a)]) rfl
  obtain ⟨_, h1, R', rfl, B1⟩ := R.callP C (y := (⟨"com/example/ohjaus/ohjaus/device/Barrier", "move", "(ZJJ)Z"⟩ : MethodName)) E (C.w 49 rfl) (C.w 50 rfl) (C.w 6 rfl) (C.w 51 rfl) (C.w 7 rfl) (C.w 52 rfl) (by decide) [(.int (own_b true)), (.long op), (.long q)] [] rfl (con_move l Z a0 hw a op cl ar up mv true op q h0 n0 z0 B) 0 (Nat.le_of_eq rfl) (by decide) (by decide) (by decide) (by decide) (lenOf pd_6 rfl) rfl (pc' := 10) d12_7 rfl
  clear R
  replace R := R'.as (st' := [(.int (own_b (up != true)))]) rfl
  clear R'
  exact R.retZ C d12_10 ⟨rfl, B1⟩ (by decide) (by decide)
set_option maxRecDepth 65536 in
set_option maxHeartbeats 40000000 in
theorem con_lower (l : Launch) (Z : State) (a0 : Array Value) (hw : ∀ d ∈ tables_1, d.before a0 Z = true) (a : Addr) (op cl ar : Int64) (up mv : Bool) (q : Int64) (h0 : Heap) (n0 : Nat) (z0 : n0 ≤ h0.size) (B : Bar Z h0 n0 a op cl ar up mv) :
    Con l Z (⟨"com/example/ohjaus/ohjaus/device/Barrier", "lower", "(J)Z"⟩ : MethodName) prog_1_method_7_code 3 (some .boolean) ({ frames := 2, cells := 0, slots := 0, locals := 40 } : Room) #[(.ref a), (.long q)] h0 n0 (fun v h' => v = some (.int (own_b (up != false))) ∧ Bar Z h' n0 a op cl (if (up != false) = true then own_after q cl else ar) false (mv || (up != false))) := by
  refine Con.mk (tb := tables_1) (a0 := a0) (Ls := #[.val (.ref a), .val (.long q), .second]) pf_8 hw z0 (fun m => by first | (simp [entryFrame, mkF, argsToLocals, Value.category, maxLocals]; done) | rfl) ?_
  intro p e s m below meth c S0 C R
  obtain ⟨ga, E, Fo, Fc, Fu, Fm, Fa⟩ := id B
  replace R := R.aloadN C (pc' := 1) d8_0 rfl rfl rfl
  replace R := R.iconst C (pc' := 2) d8_1 (v := (0 : Int32)) rfl rfl
  replace R := R.aloadN C (pc' := 3) d8_2 rfl rfl rfl
  replace R := R.getF C (C.w 16 rfl) Fc (pc' := 6) d8_3 rfl
  replace R := R.lloadN C (pc' := 7) d8_6 rfl rfl
  replace R := R.as (st' := [(.long q), (.long cl), (.int (own_b false)), (.ref a)]) rfl
  obtain ⟨_, h1, R', rfl, B1⟩ := R.callP C (y := (⟨"com/example/ohjaus/ohjaus/device/Barrier", "move", "(ZJJ)Z"⟩ : MethodName)) E (C.w 49 rfl) (C.w 50 rfl) (C.w 6 rfl) (C.w 51 rfl) (C.w 7 rfl) (C.w 52 rfl) (by decide) [(.int (own_b false)), (.long cl), (.long q)] [] rfl (con_move l Z a0 hw a op cl ar up mv false cl q h0 n0 z0 B) 0 (Nat.le_of_eq rfl) (by decide) (by decide) (by decide) (by decide) (lenOf pd_6 rfl) rfl (pc' := 10) d8_7 rfl
  clear R
  replace R := R'.as (st' := [(.int (own_b (up != false)))]) rfl
  clear R'
  exact R.retZ C d8_10 ⟨rfl, B1⟩ (by decide) (by decide)
theorem store2 {Ls : Array Slot} {i : Nat} {v : Value} {o o' : Slot} (h1 : Ls[i]? = some o) (h2 : Ls[i + 1]? = some o') (q1 : One o) (q2 : One o') (hv : v.category = 2) : storeLocals Ls i v = some ((Ls.setIfInBounds i (.val v)).setIfInBounds (i + 1) .second) := by
  have l1 := (Array.getElem?_eq_some_iff.mp h1).1
  have l2 := (Array.getElem?_eq_some_iff.mp h2).1
  have s1 : setAt Ls i (.val v) = some (Ls.setIfInBounds i (.val v)) := if_pos l1
  have g : (Ls.setIfInBounds i (.val v))[i + 1]? = some o' := by rw [Array.getElem?_setIfInBounds_ne (by omega)]; exact h2
  have s2 : setAt (Ls.setIfInBounds i (.val v)) (i + 1) .second = some ((Ls.setIfInBounds i (.val v)).setIfInBounds (i + 1) .second) := if_pos (by simpa using l2)
  have e0 : storeSelf Ls i v = some ((Ls.setIfInBounds i (.val v)).setIfInBounds (i + 1) .second) := by
    simp only [storeSelf, s1, Option.bind_eq_bind, Option.bind_some, hv, if_true, g]
    rcases q2 with rfl | ⟨w2, rfl, c2⟩
    · exact s2
    · simp [c2, s2]
  simp only [storeLocals, h1, Option.bind_eq_bind, Option.bind_some]
  rcases q1 with rfl | ⟨w1, rfl, c1⟩
  · exact e0
  · simp [c1, e0]
set_option maxRecDepth 65536 in
set_option maxHeartbeats 40000000 in
theorem own_stB {p : Program} {l : Launch} {e : Env} {s : State} {m : MethodId} {args : Array Value} {below : List Frame} {meth : Method} {c : Code} {S0 : State} {n0 : Nat} {Z : State} {a0 : Array Value} {h0 : Heap} (hw : ∀ d ∈ tables_1, d.before a0 Z = true) (C : Ctx p s m meth c Z a0 tables_1 x.cls code maxLocals x.name ret) (w0 w1 : Int64) (fl : Int32) (q1 q2 q3 op cl : Int64) (ob : Bool) (a : Addr) (up mv : Bool) (ar : Int64) (s21 s22 s23 : Slot) (hs21 : One s21) (hs22 : One s22) (hs23 : One s23) (hop : 1 ≤ op.toInt) (hcl : 1 ≤ cl.toInt) (R : Rch p l e room_1 s m args below meth c S0 n0 1 5 h0 61 #[.val (.long w0), .second, .val (.long w1), .second, .val (.int fl), .val (.long q1), .second, .val (.long q2), .second, .val (.long q3), .second, .val (.long op), .second, .val (.long cl), .second, .val (.int (own_b ob)), .val (.ref a), .val (.int (own_b up)), .val (.int (own_b mv)), .val (.long ar), .second, s21, s22, s23, .unset, .unset] []) (B : Bar Z h0 n0 a op cl ar up mv) :
    ∃ (h' : Heap) (s21' s22' s23' : Slot) (up' mv' : Bool) (ar' : Int64), One s21' ∧ One s22' ∧ One s23' ∧ Bar Z h' n0 a op cl ar' up' mv' ∧ Rch p l e room_1 s m args below meth c S0 n0 1 5 h' 160 #[.val (.long w0), .second, .val (.long w1), .second, .val (.int fl), .val (.long q1), .second, .val (.long q2), .second, .val (.long q3), .second, .val (.long op), .second, .val (.long cl), .second, .val (.int (own_b ob)), .val (.ref a), .val (.int (own_b up')), .val (.int (own_b mv')), .val (.long ar'), .second, s21', s22', s23', .unset, .unset] [] := by
  replace R := R.iload C (pc' := 63) at_61 rfl rfl
  replace R := R.iconst C (pc' := 64) at_63 (v := (2 : Int32)) rfl rfl
  replace R := R.iand C (pc' := 65) at_64 rfl
  obtain ⟨t0, ht0⟩ := own_bit (fl &&& (2 : Int32))
  cases t0 with
  | false =>
    replace R := R.ifY C (pc' := 160) at_65 ht0 rfl
    exact ⟨h0, s21, s22, s23, up, mv, ar, hs21, hs22, hs23, B, R⟩
  | true =>
    replace R := R.ifN C (pc' := 68) at_65 ht0 rfl
    replace R := R.iload C (pc' := 70) at_68 rfl rfl
    replace R := R.iconst C (pc' := 71) at_70 (v := (4 : Int32)) rfl rfl
    replace R := R.iand C (pc' := 72) at_71 rfl
    obtain ⟨t, ht⟩ := own_bit (fl &&& (4 : Int32))
    replace R := R.dia C (b := t) (pc' := 80) at_72 at_75 at_76 at_79 ht rfl
    replace R := R.istore C (Ls' := #[.val (.long w0), .second, .val (.long w1), .second, .val (.int fl), .val (.long q1), .second, .val (.long q2), .second, .val (.long q3), .second, .val (.long op), .second, .val (.long cl), .second, .val (.int (own_b ob)), .val (.ref a), .val (.int (own_b up)), .val (.int (own_b mv)), .val (.long ar), .second, .val (.int (own_b t)), s22, s23, .unset, .unset]) (pc' := 82) at_80 (XS.store1 rfl hs21 rfl) rfl
    replace R := R.iload C (pc' := 84) at_82 rfl rfl
    obtain ⟨ga, E, -⟩ := id B
    obtain ⟨h1, R', B1⟩ : ∃ h1, Rch p l e room_1 s m args below meth c S0 n0 1 5 h1 104 #[.val (.long w0), .second, .val (.long w1), .second, .val (.int fl), .val (.long q1), .second, .val (.long q2), .second, .val (.long q3), .second, .val (.long op), .second, .val (.long cl), .second, .val (.int (own_b ob)), .val (.ref a), .val (.int (own_b up)), .val (.int (own_b mv)), .val (.long ar), .second, .val (.int (own_b t)), s22, s23, .unset, .unset] [.int (own_b (up != t))] ∧ Bar Z h1 n0 a op cl (if (up != t) = true then own_after q1 (if t = true then op else cl) else ar) t (mv || (up != t)) := by
      cases t with
      | false =>
        replace R := R.ifY C (pc' := 97) at_84 rfl rfl
        replace R := R.aload C (pc' := 99) at_97 rfl rfl rfl
        replace R := R.lload C (pc' := 101) at_99 rfl rfl
        obtain ⟨_, h1, R', rfl, B1⟩ := R.callV C (y := (⟨"com/example/ohjaus/ohjaus/device/Barrier", "lower", "(J)Z"⟩ : MethodName)) E (C.w 44 rfl) (C.w 45 rfl) (C.w 47 rfl) (C.w 46 rfl) (C.w 7 rfl) (C.w 48 rfl) (by decide) [(.long q1)] [] rfl (con_lower l Z a0 hw a op cl ar up mv q1 h0 n0 R.size B) 0 (Nat.le_of_eq rfl) (by decide) (by decide) (by decide) (by decide) (lenOf pd_3 rfl) rfl (pc' := 104) at_101 rfl
        clear R
        replace R := R'.as (st' := [(.int (own_b (up != false)))]) rfl
        clear R'
        exact ⟨h1, R, B1⟩
      | true =>
        replace R := R.ifN C (pc' := 87) at_84 rfl rfl
        replace R := R.aload C (pc' := 89) at_87 rfl rfl rfl
        replace R := R.lload C (pc' := 91) at_89 rfl rfl
        obtain ⟨_, h1, R', rfl, B1⟩ := R.callV C (y := (⟨"com/example/ohjaus/ohjaus/device/Barrier", "raise", "(J)Z"⟩ : MethodName)) E (C.w 62 rfl) (C.w 63 rfl) (C.w 65 rfl) (C.w 64 rfl) (C.w 7 rfl) (C.w 66 rfl) (by decide) [(.long q1)] [] rfl (con_raise l Z a0 hw a op cl ar up mv q1 h0 n0 R.size B) 0 (Nat.le_of_eq rfl) (by decide) (by decide) (by decide) (by decide) (lenOf pd_3 rfl) rfl (pc' := 94) at_91 rfl
        clear R
        replace R := R'.as (st' := [(.int (own_b (up != true)))]) rfl
        clear R'
        replace R := R.goto C (pc' := 104) at_94 rfl
        exact ⟨h1, R, B1⟩
    replace R := R'
    clear R'
    replace R := R.istore C (Ls' := #[.val (.long w0), .second, .val (.long w1), .second, .val (.int fl), .val (.long q1), .second, .val (.long q2), .second, .val (.long q3), .second, .val (.long op), .second, .val (.long cl), .second, .val (.int (own_b ob)), .val (.ref a), .val (.int (own_b up)), .val (.int (own_b mv)), .val (.long ar), .second, .val (.int (own_b t)), .val (.int (own_b (up != t))), s23, .unset, .unset]) (pc' := 106) at_104 (XS.store1 rfl hs22 rfl) rfl
    replace R := R.iload C (pc' := 108) at_106 rfl rfl
    replace R := R.iload C (pc' := 110) at_108 rfl rfl
    replace R := R.diac C (b := (up != t)) (pc' := 118) at_110 at_113 at_114 at_117 (by rw [bb_eq]; cases up <;> cases t <;> rfl) rfl
    replace R := R.istore C (Ls' := #[.val (.long w0), .second, .val (.long w1), .second, .val (.int fl), .val (.long q1), .second, .val (.long q2), .second, .val (.long q3), .second, .val (.long op), .second, .val (.long cl), .second, .val (.int (own_b ob)), .val (.ref a), .val (.int (own_b up)), .val (.int (own_b mv)), .val (.long ar), .second, .val (.int (own_b t)), .val (.int (own_b (up != t))), .val (.int (own_b (up != t))), .unset, .unset]) (pc' := 120) at_118 (XS.store1 rfl hs23 rfl) rfl
    replace R := R.iload C (pc' := 122) at_120 rfl rfl
    replace R := R.iload C (pc' := 124) at_122 rfl rfl
    replace R := R.icmpY C (pc' := 129) at_124 (teq rfl).1 rfl
    replace R := R.iload C (pc' := 131) at_129 rfl rfl
    by_cases hq : (up != t) = true
    · skip
      replace R := R.ifN C (pc' := 134) at_131 (by rw [hq]; rfl) rfl
      replace R := R.iload C (pc' := 136) at_134 rfl rfl
      replace R := R.istore C (Ls' := #[.val (.long w0), .second, .val (.long w1), .second, .val (.int fl), .val (.long q1), .second, .val (.long q2), .second, .val (.long q3), .second, .val (.long op), .second, .val (.long cl), .second, .val (.int (own_b ob)), .val (.ref a), .val (.int (own_b t)), .val (.int (own_b mv)), .val (.long ar), .second, .val (.int (own_b t)), .val (.int (own_b (up != t))), .val (.int (own_b (up != t))), .unset, .unset]) (pc' := 138) at_136 rfl rfl
      replace R := R.iconst C (pc' := 139) at_138 (v := (1 : Int32)) rfl rfl
      replace R := R.istore C (Ls' := #[.val (.long w0), .second, .val (.long w1), .second, .val (.int fl), .val (.long q1), .second, .val (.long q2), .second, .val (.long q3), .second, .val (.long op), .second, .val (.long cl), .second, .val (.int (own_b ob)), .val (.ref a), .val (.int (own_b t)), .val (.int (1 : Int32)), .val (.long ar), .second, .val (.int (own_b t)), .val (.int (own_b (up != t))), .val (.int (own_b (up != t))), .unset, .unset]) (pc' := 141) at_139 rfl rfl
      replace R := R.lload C (pc' := 143) at_141 rfl rfl
      replace R := R.iload C (pc' := 145) at_143 rfl rfl
      replace R := R.asL (Ls' := #[.val (.long w0), .second, .val (.long w1), .second, .val (.int fl), .val (.long q1), .second, .val (.long q2), .second, .val (.long q3), .second, .val (.long op), .second, .val (.long cl), .second, .val (.int (own_b ob)), .val (.ref a), .val (.int (own_b t)), .val (.int (own_b true)), .val (.long ar), .second, .val (.int (own_b t)), .val (.int (own_b (up != t))), .val (.int (own_b (up != t))), .unset, .unset]) rfl
      replace R : Rch p l e room_1 s m args below meth c S0 n0 1 5 h1 158 #[.val (.long w0), .second, .val (.long w1), .second, .val (.int fl), .val (.long q1), .second, .val (.long q2), .second, .val (.long q3), .second, .val (.long op), .second, .val (.long cl), .second, .val (.int (own_b ob)), .val (.ref a), .val (.int (own_b t)), .val (.int (own_b true)), .val (.long ar), .second, .val (.int (own_b t)), .val (.int (own_b (up != t))), .val (.int (own_b (up != t))), .unset, .unset] [.long (own_sat q1 (if t = true then op else cl))] := by
        cases t with
        | false =>
          replace R := R.ifY C (pc' := 153) at_145 rfl rfl
          replace R := R.lload C (pc' := 155) at_153 rfl rfl
          obtain ⟨_, _, R', rfl, rfl⟩ := R.callS C (y := (⟨"com/example/ohjaus/ohjaus/device/BarrierArrivesPinLaw", "sat", "(JJ)J"⟩ : MethodName)) (C.w 58 rfl) (C.w 59 rfl) (C.w 60 rfl) (C.w 61 rfl) (by decide) [(.long q1), (.long cl)] [] rfl (con_sat l Z a0 hw q1 cl h1 n0 R.size) 0 (Nat.le_of_eq rfl) (by decide) (by decide) (by decide) (by decide) (lenOf pd_0 rfl) rfl (pc' := 158) at_155 rfl
          clear R
          replace R := R'.as (st' := [(.long (own_sat q1 cl))]) rfl
          clear R'
          exact R
        | true =>
          replace R := R.ifN C (pc' := 148) at_145 rfl rfl
          replace R := R.lload C (pc' := 150) at_148 rfl rfl
          replace R := R.goto C (pc' := 155) at_150 rfl
          obtain ⟨_, _, R', rfl, rfl⟩ := R.callS C (y := (⟨"com/example/ohjaus/ohjaus/device/BarrierArrivesPinLaw", "sat", "(JJ)J"⟩ : MethodName)) (C.w 58 rfl) (C.w 59 rfl) (C.w 60 rfl) (C.w 61 rfl) (by decide) [(.long q1), (.long op)] [] rfl (con_sat l Z a0 hw q1 op h1 n0 R.size) 0 (Nat.le_of_eq rfl) (by decide) (by decide) (by decide) (by decide) (lenOf pd_0 rfl) rfl (pc' := 158) at_155 rfl
          clear R
          replace R := R'.as (st' := [(.long (own_sat q1 op))]) rfl
          clear R'
          exact R
      replace R := R.lstore C (Ls' := #[.val (.long w0), .second, .val (.long w1), .second, .val (.int fl), .val (.long q1), .second, .val (.long q2), .second, .val (.long q3), .second, .val (.long op), .second, .val (.long cl), .second, .val (.int (own_b ob)), .val (.ref a), .val (.int (own_b t)), .val (.int (own_b true)), .val (.long (own_sat q1 (if t = true then op else cl))), .second, .val (.int (own_b t)), .val (.int (own_b (up != t))), .val (.int (own_b (up != t))), .unset, .unset]) (pc' := 160) at_158 rfl rfl
      refine ⟨h1, _, _, _, t, true, own_sat q1 (if t = true then op else cl), One.val rfl, One.val rfl, One.val rfl, ?_, R⟩
      rw [if_pos hq, own_after_sat (by cases t <;> assumption), hq, Bool.or_true] at B1
      exact B1
    · skip
      replace R := R.ifY C (pc' := 160) at_131 (by rw [b_eq]; simp only [Bool.not_eq_true] at hq; rw [hq]; rfl) rfl
      refine ⟨h1, _, _, _, up, mv, ar, One.val rfl, One.val rfl, One.val rfl, ?_, R⟩
      have hb : up = t := by revert hq; cases up <;> cases t <;> simp
      rw [if_neg hq, ← hb] at B1
      simpa using B1
set_option maxRecDepth 65536 in
set_option maxHeartbeats 40000000 in
theorem own_stC {p : Program} {l : Launch} {e : Env} {s : State} {m : MethodId} {args : Array Value} {below : List Frame} {meth : Method} {c : Code} {S0 : State} {n0 : Nat} {Z : State} {a0 : Array Value} {h0 : Heap} (hw : ∀ d ∈ tables_1, d.before a0 Z = true) (C : Ctx p s m meth c Z a0 tables_1 x.cls code maxLocals x.name ret) (w0 w1 : Int64) (fl : Int32) (q1 q2 q3 op cl : Int64) (ob : Bool) (a : Addr) (up mv : Bool) (ar : Int64) (s21 s22 s23 : Slot) (hs21 : One s21) (hs22 : One s22) (hs23 : One s23) (hop : 1 ≤ op.toInt) (hcl : 1 ≤ cl.toInt) (R : Rch p l e room_1 s m args below meth c S0 n0 1 5 h0 160 #[.val (.long w0), .second, .val (.long w1), .second, .val (.int fl), .val (.long q1), .second, .val (.long q2), .second, .val (.long q3), .second, .val (.long op), .second, .val (.long cl), .second, .val (.int (own_b ob)), .val (.ref a), .val (.int (own_b up)), .val (.int (own_b mv)), .val (.long ar), .second, s21, s22, s23, .unset, .unset] []) (B : Bar Z h0 n0 a op cl ar up mv) :
    ∃ (h' : Heap) (s21' s22' s23' : Slot) (up' mv' : Bool) (ar' : Int64), One s21' ∧ One s22' ∧ One s23' ∧ Bar Z h' n0 a op cl ar' up' mv' ∧ Rch p l e room_1 s m args below meth c S0 n0 1 5 h' 261 #[.val (.long w0), .second, .val (.long w1), .second, .val (.int fl), .val (.long q1), .second, .val (.long q2), .second, .val (.long q3), .second, .val (.long op), .second, .val (.long cl), .second, .val (.int (own_b ob)), .val (.ref a), .val (.int (own_b up')), .val (.int (own_b mv')), .val (.long ar'), .second, s21', s22', s23', .unset, .unset] [] := by
  replace R := R.iload C (pc' := 162) at_160 rfl rfl
  replace R := R.bipush C (pc' := 164) at_162 (v := (8 : Int32)) rfl rfl
  replace R := R.iand C (pc' := 165) at_164 rfl
  obtain ⟨t0, ht0⟩ := own_bit (fl &&& (8 : Int32))
  cases t0 with
  | false =>
    replace R := R.ifY C (pc' := 261) at_165 ht0 rfl
    exact ⟨h0, s21, s22, s23, up, mv, ar, hs21, hs22, hs23, B, R⟩
  | true =>
    replace R := R.ifN C (pc' := 168) at_165 ht0 rfl
    replace R := R.iload C (pc' := 170) at_168 rfl rfl
    replace R := R.bipush C (pc' := 172) at_170 (v := (16 : Int32)) rfl rfl
    replace R := R.iand C (pc' := 173) at_172 rfl
    obtain ⟨t, ht⟩ := own_bit (fl &&& (16 : Int32))
    replace R := R.dia C (b := t) (pc' := 181) at_173 at_176 at_177 at_180 ht rfl
    replace R := R.istore C (Ls' := #[.val (.long w0), .second, .val (.long w1), .second, .val (.int fl), .val (.long q1), .second, .val (.long q2), .second, .val (.long q3), .second, .val (.long op), .second, .val (.long cl), .second, .val (.int (own_b ob)), .val (.ref a), .val (.int (own_b up)), .val (.int (own_b mv)), .val (.long ar), .second, .val (.int (own_b t)), s22, s23, .unset, .unset]) (pc' := 183) at_181 (XS.store1 rfl hs21 rfl) rfl
    replace R := R.iload C (pc' := 185) at_183 rfl rfl
    obtain ⟨ga, E, -⟩ := id B
    obtain ⟨h1, R', B1⟩ : ∃ h1, Rch p l e room_1 s m args below meth c S0 n0 1 5 h1 205 #[.val (.long w0), .second, .val (.long w1), .second, .val (.int fl), .val (.long q1), .second, .val (.long q2), .second, .val (.long q3), .second, .val (.long op), .second, .val (.long cl), .second, .val (.int (own_b ob)), .val (.ref a), .val (.int (own_b up)), .val (.int (own_b mv)), .val (.long ar), .second, .val (.int (own_b t)), s22, s23, .unset, .unset] [.int (own_b (up != t))] ∧ Bar Z h1 n0 a op cl (if (up != t) = true then own_after q2 (if t = true then op else cl) else ar) t (mv || (up != t)) := by
      cases t with
      | false =>
        replace R := R.ifY C (pc' := 198) at_185 rfl rfl
        replace R := R.aload C (pc' := 200) at_198 rfl rfl rfl
        replace R := R.lload C (pc' := 202) at_200 rfl rfl
        obtain ⟨_, h1, R', rfl, B1⟩ := R.callV C (y := (⟨"com/example/ohjaus/ohjaus/device/Barrier", "lower", "(J)Z"⟩ : MethodName)) E (C.w 44 rfl) (C.w 45 rfl) (C.w 47 rfl) (C.w 46 rfl) (C.w 7 rfl) (C.w 48 rfl) (by decide) [(.long q2)] [] rfl (con_lower l Z a0 hw a op cl ar up mv q2 h0 n0 R.size B) 0 (Nat.le_of_eq rfl) (by decide) (by decide) (by decide) (by decide) (lenOf pd_3 rfl) rfl (pc' := 205) at_202 rfl
        clear R
        replace R := R'.as (st' := [(.int (own_b (up != false)))]) rfl
        clear R'
        exact ⟨h1, R, B1⟩
      | true =>
        replace R := R.ifN C (pc' := 188) at_185 rfl rfl
        replace R := R.aload C (pc' := 190) at_188 rfl rfl rfl
        replace R := R.lload C (pc' := 192) at_190 rfl rfl
        obtain ⟨_, h1, R', rfl, B1⟩ := R.callV C (y := (⟨"com/example/ohjaus/ohjaus/device/Barrier", "raise", "(J)Z"⟩ : MethodName)) E (C.w 62 rfl) (C.w 63 rfl) (C.w 65 rfl) (C.w 64 rfl) (C.w 7 rfl) (C.w 66 rfl) (by decide) [(.long q2)] [] rfl (con_raise l Z a0 hw a op cl ar up mv q2 h0 n0 R.size B) 0 (Nat.le_of_eq rfl) (by decide) (by decide) (by decide) (by decide) (lenOf pd_3 rfl) rfl (pc' := 195) at_192 rfl
        clear R
        replace R := R'.as (st' := [(.int (own_b (up != true)))]) rfl
        clear R'
        replace R := R.goto C (pc' := 205) at_195 rfl
        exact ⟨h1, R, B1⟩
    replace R := R'
    clear R'
    replace R := R.istore C (Ls' := #[.val (.long w0), .second, .val (.long w1), .second, .val (.int fl), .val (.long q1), .second, .val (.long q2), .second, .val (.long q3), .second, .val (.long op), .second, .val (.long cl), .second, .val (.int (own_b ob)), .val (.ref a), .val (.int (own_b up)), .val (.int (own_b mv)), .val (.long ar), .second, .val (.int (own_b t)), .val (.int (own_b (up != t))), s23, .unset, .unset]) (pc' := 207) at_205 (XS.store1 rfl hs22 rfl) rfl
    replace R := R.iload C (pc' := 209) at_207 rfl rfl
    replace R := R.iload C (pc' := 211) at_209 rfl rfl
    replace R := R.diac C (b := (up != t)) (pc' := 219) at_211 at_214 at_215 at_218 (by rw [bb_eq]; cases up <;> cases t <;> rfl) rfl
    replace R := R.istore C (Ls' := #[.val (.long w0), .second, .val (.long w1), .second, .val (.int fl), .val (.long q1), .second, .val (.long q2), .second, .val (.long q3), .second, .val (.long op), .second, .val (.long cl), .second, .val (.int (own_b ob)), .val (.ref a), .val (.int (own_b up)), .val (.int (own_b mv)), .val (.long ar), .second, .val (.int (own_b t)), .val (.int (own_b (up != t))), .val (.int (own_b (up != t))), .unset, .unset]) (pc' := 221) at_219 (XS.store1 rfl hs23 rfl) rfl
    replace R := R.iload C (pc' := 223) at_221 rfl rfl
    replace R := R.iload C (pc' := 225) at_223 rfl rfl
    replace R := R.icmpY C (pc' := 230) at_225 (teq rfl).1 rfl
    replace R := R.iload C (pc' := 232) at_230 rfl rfl
    by_cases hq : (up != t) = true
    · skip
      replace R := R.ifN C (pc' := 235) at_232 (by rw [hq]; rfl) rfl
      replace R := R.iload C (pc' := 237) at_235 rfl rfl
      replace R := R.istore C (Ls' := #[.val (.long w0), .second, .val (.long w1), .second, .val (.int fl), .val (.long q1), .second, .val (.long q2), .second, .val (.long q3), .second, .val (.long op), .second, .val (.long cl), .second, .val (.int (own_b ob)), .val (.ref a), .val (.int (own_b t)), .val (.int (own_b mv)), .val (.long ar), .second, .val (.int (own_b t)), .val (.int (own_b (up != t))), .val (.int (own_b (up != t))), .unset, .unset]) (pc' := 239) at_237 rfl rfl
      replace R := R.iconst C (pc' := 240) at_239 (v := (1 : Int32)) rfl rfl
      replace R := R.istore C (Ls' := #[.val (.long w0), .second, .val (.long w1), .second, .val (.int fl), .val (.long q1), .second, .val (.long q2), .second, .val (.long q3), .second, .val (.long op), .second, .val (.long cl), .second, .val (.int (own_b ob)), .val (.ref a), .val (.int (own_b t)), .val (.int (1 : Int32)), .val (.long ar), .second, .val (.int (own_b t)), .val (.int (own_b (up != t))), .val (.int (own_b (up != t))), .unset, .unset]) (pc' := 242) at_240 rfl rfl
      replace R := R.lload C (pc' := 244) at_242 rfl rfl
      replace R := R.iload C (pc' := 246) at_244 rfl rfl
      replace R := R.asL (Ls' := #[.val (.long w0), .second, .val (.long w1), .second, .val (.int fl), .val (.long q1), .second, .val (.long q2), .second, .val (.long q3), .second, .val (.long op), .second, .val (.long cl), .second, .val (.int (own_b ob)), .val (.ref a), .val (.int (own_b t)), .val (.int (own_b true)), .val (.long ar), .second, .val (.int (own_b t)), .val (.int (own_b (up != t))), .val (.int (own_b (up != t))), .unset, .unset]) rfl
      replace R : Rch p l e room_1 s m args below meth c S0 n0 1 5 h1 259 #[.val (.long w0), .second, .val (.long w1), .second, .val (.int fl), .val (.long q1), .second, .val (.long q2), .second, .val (.long q3), .second, .val (.long op), .second, .val (.long cl), .second, .val (.int (own_b ob)), .val (.ref a), .val (.int (own_b t)), .val (.int (own_b true)), .val (.long ar), .second, .val (.int (own_b t)), .val (.int (own_b (up != t))), .val (.int (own_b (up != t))), .unset, .unset] [.long (own_sat q2 (if t = true then op else cl))] := by
        cases t with
        | false =>
          replace R := R.ifY C (pc' := 254) at_246 rfl rfl
          replace R := R.lload C (pc' := 256) at_254 rfl rfl
          obtain ⟨_, _, R', rfl, rfl⟩ := R.callS C (y := (⟨"com/example/ohjaus/ohjaus/device/BarrierArrivesPinLaw", "sat", "(JJ)J"⟩ : MethodName)) (C.w 58 rfl) (C.w 59 rfl) (C.w 60 rfl) (C.w 61 rfl) (by decide) [(.long q2), (.long cl)] [] rfl (con_sat l Z a0 hw q2 cl h1 n0 R.size) 0 (Nat.le_of_eq rfl) (by decide) (by decide) (by decide) (by decide) (lenOf pd_0 rfl) rfl (pc' := 259) at_256 rfl
          clear R
          replace R := R'.as (st' := [(.long (own_sat q2 cl))]) rfl
          clear R'
          exact R
        | true =>
          replace R := R.ifN C (pc' := 249) at_246 rfl rfl
          replace R := R.lload C (pc' := 251) at_249 rfl rfl
          replace R := R.goto C (pc' := 256) at_251 rfl
          obtain ⟨_, _, R', rfl, rfl⟩ := R.callS C (y := (⟨"com/example/ohjaus/ohjaus/device/BarrierArrivesPinLaw", "sat", "(JJ)J"⟩ : MethodName)) (C.w 58 rfl) (C.w 59 rfl) (C.w 60 rfl) (C.w 61 rfl) (by decide) [(.long q2), (.long op)] [] rfl (con_sat l Z a0 hw q2 op h1 n0 R.size) 0 (Nat.le_of_eq rfl) (by decide) (by decide) (by decide) (by decide) (lenOf pd_0 rfl) rfl (pc' := 259) at_256 rfl
          clear R
          replace R := R'.as (st' := [(.long (own_sat q2 op))]) rfl
          clear R'
          exact R
      replace R := R.lstore C (Ls' := #[.val (.long w0), .second, .val (.long w1), .second, .val (.int fl), .val (.long q1), .second, .val (.long q2), .second, .val (.long q3), .second, .val (.long op), .second, .val (.long cl), .second, .val (.int (own_b ob)), .val (.ref a), .val (.int (own_b t)), .val (.int (own_b true)), .val (.long (own_sat q2 (if t = true then op else cl))), .second, .val (.int (own_b t)), .val (.int (own_b (up != t))), .val (.int (own_b (up != t))), .unset, .unset]) (pc' := 261) at_259 rfl rfl
      refine ⟨h1, _, _, _, t, true, own_sat q2 (if t = true then op else cl), One.val rfl, One.val rfl, One.val rfl, ?_, R⟩
      rw [if_pos hq, own_after_sat (by cases t <;> assumption), hq, Bool.or_true] at B1
      exact B1
    · skip
      replace R := R.ifY C (pc' := 261) at_232 (by rw [b_eq]; simp only [Bool.not_eq_true] at hq; rw [hq]; rfl) rfl
      refine ⟨h1, _, _, _, up, mv, ar, One.val rfl, One.val rfl, One.val rfl, ?_, R⟩
      have hb : up = t := by revert hq; cases up <;> cases t <;> simp
      rw [if_neg hq, ← hb] at B1
      simpa using B1
set_option maxRecDepth 65536 in
set_option maxHeartbeats 40000000 in
theorem own_stD {p : Program} {l : Launch} {e : Env} {s : State} {m : MethodId} {args : Array Value} {below : List Frame} {meth : Method} {c : Code} {S0 : State} {n0 : Nat} {Z : State} {a0 : Array Value} {h0 : Heap} (hw : ∀ d ∈ tables_1, d.before a0 Z = true) (C : Ctx p s m meth c Z a0 tables_1 x.cls code maxLocals x.name ret) (w0 w1 : Int64) (fl : Int32) (q1 q2 q3 op cl : Int64) (ob : Bool) (a : Addr) (up mv : Bool) (ar : Int64) (s21 s22 s23 : Slot) (hs21 : One s21) (hs22 : One s22) (hs23 : One s23) (R : Rch p l e room_1 s m args below meth c S0 n0 1 5 h0 261 #[.val (.long w0), .second, .val (.long w1), .second, .val (.int fl), .val (.long q1), .second, .val (.long q2), .second, .val (.long q3), .second, .val (.long op), .second, .val (.long cl), .second, .val (.int (own_b ob)), .val (.ref a), .val (.int (own_b up)), .val (.int (own_b mv)), .val (.long ar), .second, s21, s22, s23, .unset, .unset] []) (B : Bar Z h0 n0 a op cl ar up mv) :
    OwnEnds p e below s S0 n0 (fun v h' => v = some (.int 1)) room_1.cells room_1.slots := by
  replace R := R.iload C (pc' := 263) at_261 rfl rfl
  replace R := R.bipush C (pc' := 265) at_263 (v := (32 : Int32)) rfl rfl
  replace R := R.iand C (pc' := 266) at_265 rfl
  obtain ⟨t0, ht0⟩ := own_bit (fl &&& (32 : Int32))
  obtain ⟨stp, R'⟩ : ∃ stp : Int64, Rch p l e room_1 s m args below meth c S0 n0 1 5 h0 285 #[.val (.long w0), .second, .val (.long w1), .second, .val (.int fl), .val (.long q1), .second, .val (.long q2), .second, .val (.long q3), .second, .val (.long op), .second, .val (.long cl), .second, .val (.int (own_b ob)), .val (.ref a), .val (.int (own_b up)), .val (.int (own_b mv)), .val (.long ar), .second, s21, s22, s23, .unset, .unset] [.long stp] := by
    cases t0 with
    | false =>
      replace R := R.ifY C (pc' := 283) at_266 ht0 rfl
      replace R := R.lload C (pc' := 285) at_283 rfl rfl
      exact ⟨_, R⟩
    | true =>
      replace R := R.ifN C (pc' := 269) at_266 ht0 rfl
      replace R := R.lload C (pc' := 271) at_269 rfl rfl
      replace R := R.lload C (pc' := 273) at_271 rfl rfl
      replace R := R.ldcJ C (v := (3 : Int64)) (C.w 67 rfl) (pc' := 276) at_273 rfl
      replace R := R.land C (pc' := 277) at_276 rfl
      replace R := R.lconst C (pc' := 278) at_277 (v := (1 : Int64)) rfl rfl
      replace R := R.lsub C (pc' := 279) at_278 rfl
      replace R := R.ladd C (pc' := 280) at_279 rfl
      replace R := R.goto C (pc' := 285) at_280 rfl
      exact ⟨_, R⟩
  replace R := R'
  clear R'
  replace R := R.lstore C (Ls' := #[.val (.long w0), .second, .val (.long w1), .second, .val (.int fl), .val (.long q1), .second, .val (.long q2), .second, .val (.long q3), .second, .val (.long op), .second, .val (.long cl), .second, .val (.int (own_b ob)), .val (.ref a), .val (.int (own_b up)), .val (.int (own_b mv)), .val (.long ar), .second, .val (.long stp), .second, s23, .unset, .unset]) (pc' := 287) at_285 (store2 rfl rfl hs21 hs22 rfl) rfl
  replace R := R.aload C (pc' := 289) at_287 rfl rfl rfl
  replace R := R.lload C (pc' := 291) at_289 rfl rfl
  obtain ⟨ga, E, -⟩ := id B
  obtain ⟨_, h1, R', rfl, B1⟩ := R.callV C (y := (⟨"com/example/ohjaus/ohjaus/device/Barrier", "arrives", "(J)Z"⟩ : MethodName)) E (C.w 20 rfl) (C.w 21 rfl) (C.w 23 rfl) (C.w 22 rfl) (C.w 7 rfl) (C.w 24 rfl) (by decide) [(.long stp)] [] rfl (con_arrives l Z a0 hw a op cl ar up mv stp h0 n0 R.size B) 0 (Nat.le_of_eq rfl) (by decide) (by decide) (by decide) (by decide) (lenOf pd_3 rfl) rfl (pc' := 294) at_291 rfl
  clear R
  replace R := R'.as (st' := [(.int (own_b (mv && decide (ar ≤ stp))))]) rfl
  clear R'
  obtain ⟨r, hr⟩ : ∃ r, r = (mv && decide (ar ≤ stp)) := ⟨_, rfl⟩
  rw [← hr] at R B1
  replace R := R.istore C (Ls' := #[.val (.long w0), .second, .val (.long w1), .second, .val (.int fl), .val (.long q1), .second, .val (.long q2), .second, .val (.long q3), .second, .val (.long op), .second, .val (.long cl), .second, .val (.int (own_b ob)), .val (.ref a), .val (.int (own_b up)), .val (.int (own_b mv)), .val (.long ar), .second, .val (.long stp), .second, .val (.int (own_b r)), .unset, .unset]) (pc' := 296) at_294 (XS.store1 rfl hs23 rfl) rfl
  replace R := R.iload C (pc' := 298) at_296 rfl rfl
  replace R : Rch p l e room_1 s m args below meth c S0 n0 1 5 h1 314 #[.val (.long w0), .second, .val (.long w1), .second, .val (.int fl), .val (.long q1), .second, .val (.long q2), .second, .val (.long q3), .second, .val (.long op), .second, .val (.long cl), .second, .val (.int (own_b ob)), .val (.ref a), .val (.int (own_b up)), .val (.int (own_b mv)), .val (.long ar), .second, .val (.long stp), .second, .val (.int (own_b r)), .unset, .unset] [.int (own_b r)] := by
    cases mv with
    | false =>
      replace R := R.ifY C (pc' := 313) at_298 rfl rfl
      replace R := R.iconst C (pc' := 314) at_313 (v := (0 : Int32)) rfl rfl
      exact R.as (by rw [hr]; rfl)
    | true =>
      replace R := R.ifN C (pc' := 301) at_298 rfl rfl
      replace R := R.lload C (pc' := 303) at_301 rfl rfl
      replace R := R.lload C (pc' := 305) at_303 rfl rfl
      replace R := R.lcmp C (pc' := 306) at_305 rfl
      replace R := R.dia C (b := (decide (ar ≤ stp))) (pc' := 314) at_306 at_309 at_310 at_313 (by rw [lcmp_lt]; exact own_nle ar stp) rfl
      exact R.as (by rw [hr]; rfl)
  replace R := R.istore C (Ls' := #[.val (.long w0), .second, .val (.long w1), .second, .val (.int fl), .val (.long q1), .second, .val (.long q2), .second, .val (.long q3), .second, .val (.long op), .second, .val (.long cl), .second, .val (.int (own_b ob)), .val (.ref a), .val (.int (own_b up)), .val (.int (own_b mv)), .val (.long ar), .second, .val (.long stp), .second, .val (.int (own_b r)), .val (.int (own_b r)), .unset]) (pc' := 316) at_314 rfl rfl
  replace R := R.iload C (pc' := 318) at_316 rfl rfl
  replace R : Rch p l e room_1 s m args below meth c S0 n0 1 5 h1 331 #[.val (.long w0), .second, .val (.long w1), .second, .val (.int fl), .val (.long q1), .second, .val (.long q2), .second, .val (.long q3), .second, .val (.long op), .second, .val (.long cl), .second, .val (.int (own_b ob)), .val (.ref a), .val (.int (own_b up)), .val (.int (own_b mv)), .val (.long ar), .second, .val (.long stp), .second, .val (.int (own_b r)), .val (.int (own_b r)), .unset] [.int (own_b (mv && !r))] := by
    clear hr B B1
    cases mv with
    | false =>
      replace R := R.ifY C (pc' := 330) at_318 rfl rfl
      replace R := R.iconst C (pc' := 331) at_330 (v := (0 : Int32)) rfl rfl
      exact R
    | true =>
      replace R := R.ifN C (pc' := 321) at_318 rfl rfl
      replace R := R.iload C (pc' := 323) at_321 rfl rfl
      replace R := R.dia C (b := (!r)) (pc' := 331) at_323 at_326 at_327 at_330 (by rw [b_ne]; simp) rfl
      exact R
  replace R := R.istore C (Ls' := #[.val (.long w0), .second, .val (.long w1), .second, .val (.int fl), .val (.long q1), .second, .val (.long q2), .second, .val (.long q3), .second, .val (.long op), .second, .val (.long cl), .second, .val (.int (own_b ob)), .val (.ref a), .val (.int (own_b up)), .val (.int (own_b mv)), .val (.long ar), .second, .val (.long stp), .second, .val (.int (own_b r)), .val (.int (own_b r)), .val (.int (own_b (mv && !r)))]) (pc' := 333) at_331 rfl rfl
  replace R := R.iload C (pc' := 335) at_333 rfl rfl
  replace R := R.iload C (pc' := 337) at_335 rfl rfl
  replace R := R.icmpN C (pc' := 340) at_337 (teq rfl).2 rfl
  replace R := R.aload C (pc' := 342) at_340 rfl rfl rfl
  obtain ⟨-, E1, -⟩ := id B1
  obtain ⟨_, h2, R', rfl, B2⟩ := R.callV C (y := (⟨"com/example/ohjaus/ohjaus/device/Barrier", "moving", "()Z"⟩ : MethodName)) E1 (C.w 27 rfl) (C.w 28 rfl) (C.w 30 rfl) (C.w 29 rfl) (C.w 7 rfl) (C.w 31 rfl) (by decide) [] [] rfl (con_moving l Z a0 hw a op cl ar up (mv && !r) h1 n0 R.size B1) 0 (Nat.le_of_eq rfl) (by decide) (by decide) (by decide) (by decide) (lenOf pd_4 rfl) rfl (pc' := 345) at_342 rfl
  clear R
  replace R := R'.as (st' := [(.int (own_b (mv && !r)))]) rfl
  clear R'
  replace R := R.iload C (pc' := 347) at_345 rfl rfl
  replace R := R.icmpN C (pc' := 350) at_347 (teq rfl).2 rfl
  replace R := R.aload C (pc' := 352) at_350 rfl rfl rfl
  obtain ⟨-, E2, -⟩ := id B2
  obtain ⟨_, h3, R', rfl, B3⟩ := R.callV C (y := (⟨"com/example/ohjaus/ohjaus/device/Barrier", "up", "()Z"⟩ : MethodName)) E2 (C.w 32 rfl) (C.w 33 rfl) (C.w 35 rfl) (C.w 34 rfl) (C.w 7 rfl) (C.w 36 rfl) (by decide) [] [] rfl (con_up l Z a0 hw a op cl ar up (mv && !r) h2 n0 R.size B2) 0 (Nat.le_of_eq rfl) (by decide) (by decide) (by decide) (by decide) (lenOf pd_4 rfl) rfl (pc' := 355) at_352 rfl
  clear R
  replace R := R'.as (st' := [(.int (own_b up))]) rfl
  clear R'
  replace R := R.iload C (pc' := 357) at_355 rfl rfl
  replace R := R.icmpN C (pc' := 360) at_357 (teq rfl).2 rfl
  replace R := R.aload C (pc' := 362) at_360 rfl rfl rfl
  obtain ⟨-, E3, -⟩ := id B3
  obtain ⟨_, h4, R', rfl, B4⟩ := R.callV C (y := (⟨"com/example/ohjaus/ohjaus/device/Barrier", "since", "()J"⟩ : MethodName)) E3 (C.w 37 rfl) (C.w 38 rfl) (C.w 40 rfl) (C.w 39 rfl) (C.w 7 rfl) (C.w 41 rfl) (by decide) [] [] rfl (con_since l Z a0 hw a op cl ar up (mv && !r) h3 n0 R.size B3) 0 (Nat.le_of_eq rfl) (by decide) (by decide) (by decide) (by decide) (lenOf pd_5 rfl) rfl (pc' := 365) at_362 rfl
  clear R
  replace R := R'.as (st' := [(.long ar)]) rfl
  clear R'
  replace R := R.lload C (pc' := 367) at_365 rfl rfl
  replace R := R.lcmp C (pc' := 368) at_367 rfl
  replace R := R.ifN C (pc' := 371) at_368 (by rw [lcmp_ne]; simp) rfl
  replace R := R.aload C (pc' := 373) at_371 rfl rfl rfl
  replace R := R.lload C (pc' := 375) at_373 rfl rfl
  obtain ⟨-, E4, -⟩ := id B4
  obtain ⟨_, h5, R', rfl, B5⟩ := R.callV C (y := (⟨"com/example/ohjaus/ohjaus/device/Barrier", "arrives", "(J)Z"⟩ : MethodName)) E4 (C.w 20 rfl) (C.w 21 rfl) (C.w 23 rfl) (C.w 22 rfl) (C.w 7 rfl) (C.w 24 rfl) (by decide) [(.long stp)] [] rfl (con_arrives l Z a0 hw a op cl ar up (mv && !r) stp h4 n0 R.size B4) 0 (Nat.le_of_eq rfl) (by decide) (by decide) (by decide) (by decide) (lenOf pd_3 rfl) rfl (pc' := 378) at_375 rfl
  clear R
  replace R := R'.as (st' := [(.int (own_b ((mv && !r) && decide (ar ≤ stp))))]) rfl
  clear R'
  replace R := R.ifN C (pc' := 381) at_378 (by rw [b_ne, hr]; cases mv <;> simp) rfl
  replace R := R.iconst C (pc' := 382) at_381 (v := (1 : Int32)) rfl rfl
  replace R := R.goto C (pc' := 386) at_382 rfl
  exact R.retZ (b := true) C at_386 rfl (by decide) (by decide)
set_option maxRecDepth 65536 in
set_option maxHeartbeats 40000000 in
theorem con0 (l : Launch) (Z : State) (a0 : Array Value) (hw : ∀ d ∈ tables_1, d.before a0 Z = true) (w0 w1 : Int64) (fl : Int32) (q1 q2 q3 : Int64) (h0 : Heap) (n0 : Nat) (z0 : n0 ≤ h0.size) :
    Con l Z x code maxLocals ret room_1 #[(.long w0), (.long w1), (.int fl), (.long q1), (.long q2), (.long q3)] h0 n0 (fun v h' => v = some (.int 1)) := by
  refine Con.mk (tb := tables_1) (a0 := a0) (Ls := #[.val (.long w0), .second, .val (.long w1), .second, .val (.int fl), .val (.long q1), .second, .val (.long q2), .second, .val (.long q3), .second, .unset, .unset, .unset, .unset, .unset, .unset, .unset, .unset, .unset, .unset, .unset, .unset, .unset, .unset, .unset]) pf_0 hw z0 (fun m => by first | (simp [entryFrame, mkF, argsToLocals, Value.category, maxLocals]; done) | rfl) ?_
  intro p e s m below meth c S0 C R
  replace R := R.lconst C (pc' := 1) at_0 (v := (1 : Int64)) rfl rfl
  replace R := R.lloadN C (pc' := 2) at_1 rfl rfl
  replace R := R.ldcJ C (v := (9223372036854775807 : Int64)) (C.w 0 rfl) (pc' := 5) at_2 rfl
  replace R := R.land C (pc' := 6) at_5 rfl
  obtain ⟨_, _, R', rfl, rfl⟩ := R.callS C (y := (⟨"java/lang/Math", "max", "(JJ)J"⟩ : MethodName)) (C.w 1 rfl) (C.w 2 rfl) (C.w 3 rfl) (C.w 4 rfl) (by decide) [(.long (1 : Int64)), (.long (w0 &&& (9223372036854775807 : Int64)))] [] rfl (con_max l Z a0 hw (1 : Int64) (w0 &&& (9223372036854775807 : Int64)) h0 n0 z0) 0 (Nat.le_of_eq rfl) (by decide) (by decide) (by decide) (by decide) (lenOf pd_0 rfl) rfl (pc' := 9) at_6 rfl
  clear R
  replace R := R'.as (st' := [(.long (own_max (1 : Int64) (w0 &&& (9223372036854775807 : Int64))))]) rfl
  clear R'
  obtain ⟨op, e_op⟩ : ∃ z, z = own_max (1 : Int64) (w0 &&& (9223372036854775807 : Int64)) := ⟨_, rfl⟩
  have h_op : 1 ≤ op.toInt := by rw [e_op]; exact own_max_pos _
  rw [← e_op] at R
  replace R := R.lstore C (Ls' := #[.val (.long w0), .second, .val (.long w1), .second, .val (.int fl), .val (.long q1), .second, .val (.long q2), .second, .val (.long q3), .second, .val (.long op), .second, .unset, .unset, .unset, .unset, .unset, .unset, .unset, .unset, .unset, .unset, .unset, .unset, .unset]) (pc' := 11) at_9 rfl rfl
  replace R := R.lconst C (pc' := 12) at_11 (v := (1 : Int64)) rfl rfl
  replace R := R.lloadN C (pc' := 13) at_12 rfl rfl
  replace R := R.ldcJ C (v := (9223372036854775807 : Int64)) (C.w 0 rfl) (pc' := 16) at_13 rfl
  replace R := R.land C (pc' := 17) at_16 rfl
  obtain ⟨_, _, R', rfl, rfl⟩ := R.callS C (y := (⟨"java/lang/Math", "max", "(JJ)J"⟩ : MethodName)) (C.w 1 rfl) (C.w 2 rfl) (C.w 3 rfl) (C.w 4 rfl) (by decide) [(.long (1 : Int64)), (.long (w1 &&& (9223372036854775807 : Int64)))] [] rfl (con_max l Z a0 hw (1 : Int64) (w1 &&& (9223372036854775807 : Int64)) h0 n0 z0) 0 (Nat.le_of_eq rfl) (by decide) (by decide) (by decide) (by decide) (lenOf pd_0 rfl) rfl (pc' := 20) at_17 rfl
  clear R
  replace R := R'.as (st' := [(.long (own_max (1 : Int64) (w1 &&& (9223372036854775807 : Int64))))]) rfl
  clear R'
  obtain ⟨cl, e_cl⟩ : ∃ z, z = own_max (1 : Int64) (w1 &&& (9223372036854775807 : Int64)) := ⟨_, rfl⟩
  have h_cl : 1 ≤ cl.toInt := by rw [e_cl]; exact own_max_pos _
  rw [← e_cl] at R
  replace R := R.lstore C (Ls' := #[.val (.long w0), .second, .val (.long w1), .second, .val (.int fl), .val (.long q1), .second, .val (.long q2), .second, .val (.long q3), .second, .val (.long op), .second, .val (.long cl), .second, .unset, .unset, .unset, .unset, .unset, .unset, .unset, .unset, .unset, .unset, .unset]) (pc' := 22) at_20 rfl rfl
  replace R := R.iload C (pc' := 24) at_22 rfl rfl
  replace R := R.iconst C (pc' := 25) at_24 (v := (1 : Int32)) rfl rfl
  replace R := R.iand C (pc' := 26) at_25 rfl
  obtain ⟨ob, hob⟩ := own_bit (fl &&& (1 : Int32))
  replace R := R.dia C (b := ob) (pc' := 34) at_26 at_29 at_30 at_33 hob rfl
  replace R := R.istore C (Ls' := #[.val (.long w0), .second, .val (.long w1), .second, .val (.int fl), .val (.long q1), .second, .val (.long q2), .second, .val (.long q3), .second, .val (.long op), .second, .val (.long cl), .second, .val (.int (own_b ob)), .unset, .unset, .unset, .unset, .unset, .unset, .unset, .unset, .unset, .unset]) (pc' := 36) at_34 rfl rfl
  obtain ⟨h1, R', E1, A1, D1⟩ := R.newO C (C.w 5 rfl) (C.w 6 rfl) (C.w 7 rfl) at_36 (by decide) (by decide) (pc' := 39) rfl
  replace R := R'
  clear R'
  obtain ⟨a, g_a⟩ : ∃ z, z = h0.size := ⟨_, rfl⟩
  rw [← g_a] at R A1 D1
  have B : Bar Z h1 n0 a 0 0 0 false false := ⟨by rw [g_a]; exact z0, A1, D1 (Or.inr (C.w 15 rfl)) (ty := .long) (by decide), D1 (Or.inr (C.w 17 rfl)) (ty := .long) (by decide), D1 (Or.inl (C.w 19 rfl)) (ty := .boolean) (by decide), D1 (Or.inl (C.w 26 rfl)) (ty := .boolean) (by decide), D1 (Or.inl (C.w 43 rfl)) (ty := .long) (by decide)⟩
  replace R := R.dup C (pc' := 40) at_39 rfl rfl
  replace R := R.lload C (pc' := 42) at_40 rfl rfl
  replace R := R.lload C (pc' := 44) at_42 rfl rfl
  replace R := R.iload C (pc' := 46) at_44 rfl rfl
  obtain ⟨_, h2, R', rfl, B2⟩ := R.callI C (y := (⟨"com/example/ohjaus/ohjaus/device/Barrier", "<init>", "(JJZ)V"⟩ : MethodName)) rfl (C.w 8 rfl) (C.w 9 rfl) (C.w 7 rfl) (C.w 10 rfl) (by decide) a [(.long op), (.long cl), (.int (own_b ob))] [(.ref a)] rfl (con_init l Z a0 hw a op cl ob h1 n0 R.size B) 1 (Nat.le_of_eq rfl) (by decide) (by decide) (by decide) (by decide) (lenOf pd_1 rfl) rfl (pc' := 49) at_46 rfl
  clear R
  replace R := R'.as (st' := [(.ref a)]) rfl
  clear R'
  replace R := R.astore C (Ls' := #[.val (.long w0), .second, .val (.long w1), .second, .val (.int fl), .val (.long q1), .second, .val (.long q2), .second, .val (.long q3), .second, .val (.long op), .second, .val (.long cl), .second, .val (.int (own_b ob)), .val (.ref a), .unset, .unset, .unset, .unset, .unset, .unset, .unset, .unset, .unset]) (pc' := 51) at_49 rfl rfl rfl
  replace R := R.iload C (pc' := 53) at_51 rfl rfl
  replace R := R.istore C (Ls' := #[.val (.long w0), .second, .val (.long w1), .second, .val (.int fl), .val (.long q1), .second, .val (.long q2), .second, .val (.long q3), .second, .val (.long op), .second, .val (.long cl), .second, .val (.int (own_b ob)), .val (.ref a), .val (.int (own_b ob)), .unset, .unset, .unset, .unset, .unset, .unset, .unset, .unset]) (pc' := 55) at_53 rfl rfl
  replace R := R.iconst C (pc' := 56) at_55 (v := (0 : Int32)) rfl rfl
  replace R := R.istore C (Ls' := #[.val (.long w0), .second, .val (.long w1), .second, .val (.int fl), .val (.long q1), .second, .val (.long q2), .second, .val (.long q3), .second, .val (.long op), .second, .val (.long cl), .second, .val (.int (own_b ob)), .val (.ref a), .val (.int (own_b ob)), .val (.int (0 : Int32)), .unset, .unset, .unset, .unset, .unset, .unset, .unset]) (pc' := 58) at_56 rfl rfl
  replace R := R.lconst C (pc' := 59) at_58 (v := (0 : Int64)) rfl rfl
  replace R := R.lstore C (Ls' := #[.val (.long w0), .second, .val (.long w1), .second, .val (.int fl), .val (.long q1), .second, .val (.long q2), .second, .val (.long q3), .second, .val (.long op), .second, .val (.long cl), .second, .val (.int (own_b ob)), .val (.ref a), .val (.int (own_b ob)), .val (.int (0 : Int32)), .val (.long (0 : Int64)), .second, .unset, .unset, .unset, .unset, .unset]) (pc' := 61) at_59 rfl rfl
  replace R := R.asL (Ls' := #[.val (.long w0), .second, .val (.long w1), .second, .val (.int fl), .val (.long q1), .second, .val (.long q2), .second, .val (.long q3), .second, .val (.long op), .second, .val (.long cl), .second, .val (.int (own_b ob)), .val (.ref a), .val (.int (own_b ob)), .val (.int (own_b false)), .val (.long (0 : Int64)), .second, .unset, .unset, .unset, .unset, .unset]) rfl
  replace R := R.more (k' := 1) (n' := 5) (by decide) (by decide)
  obtain ⟨h3, s21, s22, s23, up1, mv1, ar1, g21, g22, g23, B3, R⟩ := own_stB hw C w0 w1 fl q1 q2 q3 op cl ob a ob false 0 .unset .unset .unset One.u One.u One.u h_op h_cl R B2
  obtain ⟨h4, t21, t22, t23, up2, mv2, ar2, k21, k22, k23, B4, R⟩ := own_stC hw C w0 w1 fl q1 q2 q3 op cl ob a up1 mv1 ar1 s21 s22 s23 g21 g22 g23 h_op h_cl R B3
  exact own_stD hw C w0 w1 fl q1 q2 q3 op cl ob a up2 mv2 ar2 t21 t22 t23 k21 k22 k23 R B4
set_option maxRecDepth 65536 in
set_option maxHeartbeats 40000000 in
theorem comes_1 {Post : Tables → Env → Array Value → State → Outcome → State → Prop} (hpost : ∀ tb e args s v u, (limb_1_1.after args s (.returned v) u = true ∧ limb_1_2.after args s (.returned v) u = true ∧ True) → FrameEnd s (.returned v) u (Jvm.fieldLocs frame_1_writes args s ++ Jvm.arrayLocs frame_1_arrays args s ++ Jvm.staticLocs frame_1_statics s) 16 128 → Post tb e args s (.returned v) u) :
    ArmFor flags0 classFile x code maxLocals ret World_1 tables_1 room_1 Calls_1 rest_1 Pre_1 Post := by
  intro l hfl _ _ p e ha hc hk s m args below hf hA hF happ hP
  obtain ⟨hcalls, hrest, hpre⟩ := hP
  obtain ⟨-, -, -, hnamed, -, -, -, hat⟩ := (Spec.applies_iff hf).mp happ
  obtain ⟨hg, hn⟩ := and_e (Cond.before_iff.mp (show (Jvm.Cond.and given_1 narrow_1).before args s = true from hpre))
  obtain ⟨h1, q0⟩ := and_e hg
  obtain ⟨k0, q1⟩ := and_e q0
  obtain ⟨k1, q2⟩ := and_e q1
  obtain ⟨k2, q3⟩ := and_e q2
  obtain ⟨k3, q4⟩ := and_e q3
  obtain ⟨k4, q5⟩ := and_e q4
  have k5 := q5
  obtain ⟨w0, w1, w2, w3, w4, w5, rfl⟩ : ∃ w0 w1 w2 w3 w4 w5 : Value, args = #[w0, w1, w2, w3, w4, w5] := by
    have hs : args.size = 6 := by simpa [Cond.value, given_1] using h1
    obtain ⟨L⟩ := args
    match L, hs with
    | [w0, w1, w2, w3, w4, w5], _ => exact ⟨w0, w1, w2, w3, w4, w5, rfl⟩
  have hw := fun d (hd : d ∈ tables_1) => atoms_spec (ws := Jvm.Cond.code x code maxLocals ret :: tables_1) hat d (List.mem_cons_of_mem _ hd)
  obtain ⟨i0, e0⟩ := isL_v k0
  obtain rfl : w0 = (.long i0) := Option.some.inj e0
  obtain ⟨i1, e1⟩ := isL_v k1
  obtain rfl : w1 = (.long i1) := Option.some.inj e1
  obtain ⟨i2, e2⟩ := is_v k2
  obtain rfl : w2 = (.int i2) := Option.some.inj e2
  obtain ⟨i3, e3⟩ := isL_v k3
  obtain rfl : w3 = (.long i3) := Option.some.inj e3
  obtain ⟨i4, e4⟩ := isL_v k4
  obtain rfl : w4 = (.long i4) := Option.some.inj e4
  obtain ⟨i5, e5⟩ := isL_v k5
  obtain rfl : w5 = (.long i5) := Option.some.inj e5
  obtain ⟨n, o, h1, h2, h3, _, L, rfl, ⟨rfl, N⟩, hq⟩ := con0 l s _ hw i0 i1 i2 i3 i4 i5 s.heap s.heap.size (Nat.le_refl _)  tables_1 p e ha hc hk s m _ below hf ((Spec.applies_iff_loose hf).mp happ).1 ⟨rfl, State.Warmed39.refl s, rfl⟩ trivial
  refine ⟨n, _, h1, h2, h3, hpost _ _ _ _ _ _ ⟨Cond.after_iff.mpr rfl, Cond.after_iff.mpr (eq_i res_at (Term.int_eval (1)) rfl), trivial⟩ ⟨hq.1, hq.2.1, (hq.2.2.sift fun y hy => Or.inr (N y hy)).mono (by decide) (by decide)⟩⟩
theorem main_1_1 : Claimed_1_1 := comes_1 fun _ _ _ _ _ _ h hF => ⟨h.1, hF⟩
theorem main_1_2 : Claimed_1_2 := comes_1 fun _ _ _ _ _ _ h hF => ⟨h.2.1, hF⟩
end Jvm.Pilot.@@N@@
namespace Jvm.Pilot.@@N@@
open Jvm Jvm.ClassFile Sem Op Lib Jvm.Free Jvm.Stand Jvm.Pilot.@@N@@.Jvm.D
/-! MADE BY PROGRAM (witnessworld.py) out of the Statement's table words and the real class files: 11 classes; the members and pool entries that the words name. The judged class is class 1, her method 2. -/
namespace start1
open Jvm.ClassFile
def u (s : String) : CpInfo := .utf8 (stringToUtf16 s)
/-- a pool by its gaps: so many unusable entries, then the entry; so many at the end -/
def gap : Nat → List CpInfo → List CpInfo
  | 0, r => r
  | n + 1, r => .unusable :: gap n r
def poolList (es : List (Nat × CpInfo)) (last : Nat) : List CpInfo := es.foldr (fun e r => gap e.1 (e.2 :: r)) (gap last [])
def pool (es : List (Nat × CpInfo)) (last : Nat) : Array CpInfo := ⟨poolList es last⟩
def fileOf (pool : Array CpInfo) (this : Nat) (attrs : Array Attribute := #[]) (ms : Array MethodInfo := #[]) (fl : Nat := 33) (sup : Nat := 0) (ifs : Array Nat := #[]) (fds : Array FieldInfo := #[]) : ClassFile where
  minorVersion := 0
  majorVersion := 65
  constantPool := pool
  accessFlags := fl
  thisClass := this
  superClass := sup
  interfaces := ifs
  fields := fds
  methods := ms
  attributes := attrs
def plain (name : String) (sup : Option ClassId) : Class where
  name := name
  kind := .ordinary
  loader := none
  accessFlags := 33
  super := sup
  interfaces := #[]
  cf := none
  fields := #[]
  methods := #[]
  instanceTypes := #[]
  staticTypes := #[]
  resolved := #[]
  callSites := []
  init := .initialized
  statics := none
  mirror := none

def pool0 : Array CpInfo := pool [(5, u "<init>"), (0, u "()V"), (1, .class_ 10), (1, u "java/lang/Object")] 113

def k0c0 : Code := { maxStack := 0, maxLocals := 1, code := object_method_1_code, exceptionTable := #[], attributes := #[] }
def k0m0 : Method := { name := "<init>", desc := "()V", sig := { parameters := [], returnType := none }, accessFlags := 1, code := some k0c0 }
/-- java/lang/Object -/
def k0 : Class := { plain "java/lang/Object" none with
  accessFlags := 33
  interfaces := #[]
  cf := some (fileOf pool0 8 #[] #[{ accessFlags := 1, nameIndex := 5, descriptorIndex := 6, attributes := #[] }] 33 0 #[] #[])
  fields := #[]
  methods := #[k0m0]
  instanceTypes := #[]
  staticTypes := #[]
  resolved := Array.replicate 124 none
  statics := none }

def pool1 : Array CpInfo := pool [(2, .class_ 4), (1, u "java/lang/Object"), (0, u "<init>"), (0, u "()V"), (2, .long 9223372036854775807), (1, .methodref 12 13), (0, .class_ 14), (0, .nameAndType 15 16), (0, u "java/lang/Math"), (0, u "max"), (0, u "(JJ)J"), (0, .class_ 18), (0, u "com/example/ohjaus/ohjaus/device/Barrier"), (0, .methodref 17 20), (0, .nameAndType 5 21), (0, u "(JJZ)V"), (0, .methodref 17 23), (0, .nameAndType 24 25), (0, u "raise"), (0, u "(J)Z"), (0, .methodref 17 27), (0, .nameAndType 28 25), (0, u "lower"), (0, .methodref 30 31), (0, .class_ 32), (0, .nameAndType 33 16), (0, u "com/example/ohjaus/ohjaus/device/BarrierArrivesPinLaw"), (0, u "sat"), (0, .long 3), (1, .methodref 17 37), (0, .nameAndType 38 25), (0, u "arrives"), (0, .methodref 17 40), (0, .nameAndType 41 42), (0, u "moving"), (0, u "()Z"), (0, .methodref 17 44), (0, .nameAndType 45 42), (0, u "up"), (0, .methodref 17 47), (0, .nameAndType 48 49), (0, u "since"), (0, u "()J"), (3, u "law"), (0, u "(JJIJJJ)Z")] 2

def k1m0 : Method := { name := "<init>", desc := "()V", sig := { parameters := [], returnType := none }, accessFlags := 1, code := none }
def k1c1 : Code := { maxStack := 4, maxLocals := 6, code := method_2_code, exceptionTable := #[], attributes := #[] }
def k1m1 : Method := { name := "sat", desc := "(JJ)J", sig := { parameters := [.long, .long], returnType := some .long }, accessFlags := 10, code := some k1c1 }
def k1c2 : Code := { maxStack := 7, maxLocals := 26, code := code, exceptionTable := #[], attributes := #[] }
def k1m2 : Method := { name := "law", desc := "(JJIJJJ)Z", sig := { parameters := [.long, .long, .int, .long, .long, .long], returnType := some .boolean }, accessFlags := 9, code := some k1c2 }
/-- com/example/ohjaus/ohjaus/device/BarrierArrivesPinLaw -/
def k1 : Class := { plain "com/example/ohjaus/ohjaus/device/BarrierArrivesPinLaw" (some 0) with
  accessFlags := 49
  interfaces := #[]
  cf := some (fileOf pool1 30 #[] #[{ accessFlags := 1, nameIndex := 5, descriptorIndex := 6, attributes := #[] }, { accessFlags := 10, nameIndex := 33, descriptorIndex := 16, attributes := #[] }, { accessFlags := 9, nameIndex := 53, descriptorIndex := 54, attributes := #[] }] 49 2 #[] #[])
  fields := #[]
  methods := #[k1m0, k1m1, k1m2]
  instanceTypes := #[]
  staticTypes := #[]
  resolved := Array.replicate 57 none
  statics := none }

def pool2 : Array CpInfo := pool [(1, .class_ 2), (0, u "java/lang/Math"), (1, .class_ 6), (1, u "java/lang/Object"), (0, u "<init>"), (0, u "()V"), (89, .class_ 100), (1, u "java/lang/Math$RandomNumberGeneratorHolder"), (20, u "(JJ)J"), (50, u "negativeZeroFloatBits"), (0, u "J"), (2, u "negativeZeroDoubleBits"), (21, u "max"), (46, u "$assertionsDisabled"), (0, u "Z"), (91, u "twoToTheDoubleScaleDown"), (0, u "D"), (4, u "twoToTheDoubleScaleUp"), (9, u "E"), (3, u "PI"), (2, u "TAU"), (2, u "DEGREES_TO_RADIANS"), (0, u "RADIANS_TO_DEGREES")] 94

def k2m0 : Method := { name := "<init>", desc := "()V", sig := { parameters := [], returnType := none }, accessFlags := 2, code := none }
def k2c1 : Code := { maxStack := 4, maxLocals := 4, code := jdk_29_method_66_code, exceptionTable := #[], attributes := #[] }
def k2m1 : Method := { name := "max", desc := "(JJ)J", sig := { parameters := [.long, .long], returnType := some .long }, accessFlags := 9, code := some k2c1 }
/-- java/lang/Math -/
def k2 : Class := { plain "java/lang/Math" (some 0) with
  accessFlags := 49
  interfaces := #[]
  cf := some (fileOf pool2 1 #[.nestMembers #[98]] #[{ accessFlags := 2, nameIndex := 7, descriptorIndex := 8, attributes := #[] }, { accessFlags := 9, nameIndex := 198, descriptorIndex := 121, attributes := #[] }] 49 4 #[] #[{ accessFlags := 25, nameIndex := 354, descriptorIndex := 339, attributes := #[] }, { accessFlags := 25, nameIndex := 358, descriptorIndex := 339, attributes := #[] }, { accessFlags := 25, nameIndex := 361, descriptorIndex := 339, attributes := #[] }, { accessFlags := 26, nameIndex := 364, descriptorIndex := 339, attributes := #[] }, { accessFlags := 26, nameIndex := 365, descriptorIndex := 339, attributes := #[] }, { accessFlags := 26, nameIndex := 172, descriptorIndex := 173, attributes := #[] }, { accessFlags := 26, nameIndex := 176, descriptorIndex := 173, attributes := #[] }, { accessFlags := 8, nameIndex := 344, descriptorIndex := 339, attributes := #[] }, { accessFlags := 8, nameIndex := 338, descriptorIndex := 339, attributes := #[] }, { accessFlags := 4120, nameIndex := 245, descriptorIndex := 246, attributes := #[] }])
  fields := #[{ name := "E", type := .double, accessFlags := 25, slot := 0, constantValue := 0 }, { name := "PI", type := .double, accessFlags := 25, slot := 1, constantValue := 0 }, { name := "TAU", type := .double, accessFlags := 25, slot := 2, constantValue := 0 }, { name := "DEGREES_TO_RADIANS", type := .double, accessFlags := 26, slot := 3, constantValue := 0 }, { name := "RADIANS_TO_DEGREES", type := .double, accessFlags := 26, slot := 4, constantValue := 0 }, { name := "negativeZeroFloatBits", type := .long, accessFlags := 26, slot := 5, constantValue := 0 }, { name := "negativeZeroDoubleBits", type := .long, accessFlags := 26, slot := 6, constantValue := 0 }, { name := "twoToTheDoubleScaleUp", type := .double, accessFlags := 8, slot := 7, constantValue := 0 }, { name := "twoToTheDoubleScaleDown", type := .double, accessFlags := 8, slot := 8, constantValue := 0 }, { name := "$assertionsDisabled", type := .boolean, accessFlags := 4120, slot := 9, constantValue := 0 }]
  methods := #[k2m0, k2m1]
  instanceTypes := #[]
  staticTypes := #[.double, .double, .double, .double, .double, .long, .long, .double, .double, .boolean]
  resolved := Array.replicate 460 none
  statics := none }

def pool3 : Array CpInfo := pool [(1, .methodref 2 3), (0, .class_ 4), (0, .nameAndType 5 6), (0, u "java/lang/Object"), (0, u "<init>"), (0, u "()V"), (0, .fieldref 8 9), (0, .class_ 10), (0, .nameAndType 11 12), (0, u "com/example/ohjaus/ohjaus/device/Barrier"), (0, u "opening"), (0, u "J"), (0, .fieldref 8 14), (0, .nameAndType 15 12), (0, u "closing"), (0, .fieldref 8 17), (0, .nameAndType 18 19), (0, u "up"), (0, u "Z"), (0, .fieldref 8 21), (0, .nameAndType 22 19), (0, u "moving"), (0, .fieldref 8 24), (0, .nameAndType 25 12), (0, u "arrival"), (0, .methodref 8 27), (0, .nameAndType 28 29), (0, u "move"), (0, u "(ZJJ)Z"), (0, .methodref 31 32), (0, .class_ 33), (0, .nameAndType 34 35), (0, u "com/example/ohjaus/ohjaus/time/Steps"), (0, u "after"), (0, u "(JJ)J"), (0, u "(JJZ)V"), (2, u "()Z"), (1, u "since"), (0, u "()J"), (0, u "raise"), (0, u "(J)Z"), (0, u "lower"), (0, u "arrives")] 2

def k3c0 : Code := { maxStack := 3, maxLocals := 6, code := prog_1_method_1_code, exceptionTable := #[], attributes := #[] }
def k3m0 : Method := { name := "<init>", desc := "(JJZ)V", sig := { parameters := [.long, .long, .boolean], returnType := none }, accessFlags := 0, code := some k3c0 }
def k3c1 : Code := { maxStack := 1, maxLocals := 1, code := prog_1_method_2_code, exceptionTable := #[], attributes := #[] }
def k3m1 : Method := { name := "up", desc := "()Z", sig := { parameters := [], returnType := some .boolean }, accessFlags := 0, code := some k3c1 }
def k3c2 : Code := { maxStack := 1, maxLocals := 1, code := prog_1_method_3_code, exceptionTable := #[], attributes := #[] }
def k3m2 : Method := { name := "moving", desc := "()Z", sig := { parameters := [], returnType := some .boolean }, accessFlags := 0, code := some k3c2 }
def k3c3 : Code := { maxStack := 2, maxLocals := 1, code := prog_1_method_5_code, exceptionTable := #[], attributes := #[] }
def k3m3 : Method := { name := "since", desc := "()J", sig := { parameters := [], returnType := some .long }, accessFlags := 0, code := some k3c3 }
def k3c4 : Code := { maxStack := 6, maxLocals := 3, code := prog_1_method_6_code, exceptionTable := #[], attributes := #[] }
def k3m4 : Method := { name := "raise", desc := "(J)Z", sig := { parameters := [.long], returnType := some .boolean }, accessFlags := 0, code := some k3c4 }
def k3c5 : Code := { maxStack := 6, maxLocals := 3, code := prog_1_method_7_code, exceptionTable := #[], attributes := #[] }
def k3m5 : Method := { name := "lower", desc := "(J)Z", sig := { parameters := [.long], returnType := some .boolean }, accessFlags := 0, code := some k3c5 }
def k3c6 : Code := { maxStack := 5, maxLocals := 7, code := prog_1_method_8_code, exceptionTable := #[], attributes := #[] }
def k3m6 : Method := { name := "move", desc := "(ZJJ)Z", sig := { parameters := [.boolean, .long, .long], returnType := some .boolean }, accessFlags := 2, code := some k3c6 }
def k3c7 : Code := { maxStack := 4, maxLocals := 4, code := prog_1_method_9_code, exceptionTable := #[], attributes := #[] }
def k3m7 : Method := { name := "arrives", desc := "(J)Z", sig := { parameters := [.long], returnType := some .boolean }, accessFlags := 0, code := some k3c7 }
/-- com/example/ohjaus/ohjaus/device/Barrier -/
def k3 : Class := { plain "com/example/ohjaus/ohjaus/device/Barrier" (some 0) with
  accessFlags := 32
  interfaces := #[]
  cf := some (fileOf pool3 8 #[] #[{ accessFlags := 0, nameIndex := 5, descriptorIndex := 36, attributes := #[] }, { accessFlags := 0, nameIndex := 18, descriptorIndex := 39, attributes := #[] }, { accessFlags := 0, nameIndex := 22, descriptorIndex := 39, attributes := #[] }, { accessFlags := 0, nameIndex := 41, descriptorIndex := 42, attributes := #[] }, { accessFlags := 0, nameIndex := 43, descriptorIndex := 44, attributes := #[] }, { accessFlags := 0, nameIndex := 45, descriptorIndex := 44, attributes := #[] }, { accessFlags := 2, nameIndex := 28, descriptorIndex := 29, attributes := #[] }, { accessFlags := 0, nameIndex := 46, descriptorIndex := 44, attributes := #[] }] 32 2 #[] #[{ accessFlags := 18, nameIndex := 11, descriptorIndex := 12, attributes := #[] }, { accessFlags := 18, nameIndex := 15, descriptorIndex := 12, attributes := #[] }, { accessFlags := 2, nameIndex := 18, descriptorIndex := 19, attributes := #[] }, { accessFlags := 2, nameIndex := 22, descriptorIndex := 19, attributes := #[] }, { accessFlags := 2, nameIndex := 25, descriptorIndex := 12, attributes := #[] }])
  fields := #[{ name := "opening", type := .long, accessFlags := 18, slot := 0, constantValue := 0 }, { name := "closing", type := .long, accessFlags := 18, slot := 1, constantValue := 0 }, { name := "up", type := .boolean, accessFlags := 2, slot := 2, constantValue := 0 }, { name := "moving", type := .boolean, accessFlags := 2, slot := 3, constantValue := 0 }, { name := "arrival", type := .long, accessFlags := 2, slot := 4, constantValue := 0 }]
  methods := #[k3m0, k3m1, k3m2, k3m3, k3m4, k3m5, k3m6, k3m7]
  instanceTypes := #[.long, .long, .boolean, .boolean, .long]
  staticTypes := #[]
  resolved := Array.replicate 49 none
  statics := none }

def pool4 : Array CpInfo := pool [(1, .class_ 2), (0, u "com/example/ohjaus/ohjaus/time/Steps"), (1, .class_ 6), (1, u "java/lang/Object"), (0, u "<init>"), (0, u "()V"), (46, u "LAST_TIME"), (0, u "Ljava/math/BigDecimal;"), (36, .long 9223372036854775807), (31, u "STEPS_PER_SECOND"), (0, u "I"), (2, u "NANOS_PER_STEP"), (0, u "J"), (2, u "MAX_TIME_CHARACTERS"), (8, u "after"), (0, u "(JJ)J")] 31

def k4m0 : Method := { name := "<init>", desc := "()V", sig := { parameters := [], returnType := none }, accessFlags := 2, code := none }
def k4c1 : Code := { maxStack := 6, maxLocals := 4, code := prog_57_method_8_code, exceptionTable := #[], attributes := #[] }
def k4m1 : Method := { name := "after", desc := "(JJ)J", sig := { parameters := [.long, .long], returnType := some .long }, accessFlags := 9, code := some k4c1 }
/-- com/example/ohjaus/ohjaus/time/Steps -/
def k4 : Class := { plain "com/example/ohjaus/ohjaus/time/Steps" (some 0) with
  accessFlags := 33
  interfaces := #[]
  cf := some (fileOf pool4 1 #[] #[{ accessFlags := 2, nameIndex := 7, descriptorIndex := 8, attributes := #[] }, { accessFlags := 9, nameIndex := 142, descriptorIndex := 143, attributes := #[] }] 33 4 #[] #[{ accessFlags := 26, nameIndex := 125, descriptorIndex := 126, attributes := #[] }, { accessFlags := 25, nameIndex := 129, descriptorIndex := 130, attributes := #[] }, { accessFlags := 26, nameIndex := 55, descriptorIndex := 56, attributes := #[] }, { accessFlags := 25, nameIndex := 133, descriptorIndex := 126, attributes := #[] }])
  fields := #[{ name := "STEPS_PER_SECOND", type := .int, accessFlags := 26, slot := 0, constantValue := 0 }, { name := "NANOS_PER_STEP", type := .long, accessFlags := 25, slot := 1, constantValue := 0 }, { name := "LAST_TIME", type := (.object "java/math/BigDecimal"), accessFlags := 26, slot := 2, constantValue := 0 }, { name := "MAX_TIME_CHARACTERS", type := .int, accessFlags := 25, slot := 3, constantValue := 0 }]
  methods := #[k4m0, k4m1]
  instanceTypes := #[]
  staticTypes := #[.int, .long, (.object "java/math/BigDecimal"), .int]
  resolved := Array.replicate 175 none
  statics := none }

def pool5 : Array CpInfo := pool [(1, u "java/lang/Cloneable"), (0, .class_ 1), (0, u "java/lang/Object"), (0, .class_ 3)] 3

/-- java/lang/Cloneable -/
def k5 : Class := { plain "java/lang/Cloneable" (some 0) with
  accessFlags := 1537
  interfaces := #[]
  cf := some (fileOf pool5 2 #[] #[] 1537 4 #[] #[])
  fields := #[]
  methods := #[]
  instanceTypes := #[]
  staticTypes := #[]
  resolved := Array.replicate 8 none
  statics := none }

def pool6 : Array CpInfo := pool [(1, u "java/io/Serializable"), (0, .class_ 1), (0, u "java/lang/Object"), (0, .class_ 3)] 3

/-- java/io/Serializable -/
def k6 : Class := { plain "java/io/Serializable" (some 0) with
  accessFlags := 1537
  interfaces := #[]
  cf := some (fileOf pool6 2 #[] #[] 1537 4 #[] #[])
  fields := #[]
  methods := #[]
  instanceTypes := #[]
  staticTypes := #[]
  resolved := Array.replicate 8 none
  statics := none }

/-- the primitive byte -/
def k7 : Class := { plain "byte" none with kind := .primitive 'B', accessFlags := 0x411 }
/-- [B -/
def k8 : Class := { plain "[B" (some 0) with kind := .array 7 .byte, interfaces := #[5, 6], accessFlags := 1041 }

/-- the primitive int -/
def k9 : Class := { plain "int" none with kind := .primitive 'I', accessFlags := 0x411 }
/-- [I -/
def k10 : Class := { plain "[I" (some 0) with kind := .array 9 .int, interfaces := #[5, 6], accessFlags := 1041 }

def heap : Heap := #[]
def classes : Array Class := #[k0, k1, k2, k3, k4, k5, k6, k7, k8, k9, k10]
def interned : List (Array UInt16 × Addr) := []
def slotsUsed : Nat := 0
def theMethod : MethodId := ⟨1, 2⟩
def args0 : Array Value := #[.long 5, .long 7, .int 3, .long 1, .long 2, .long 9]
def aboutOver (below : List Frame) : State where
  vm := { classes := classes, interned := interned.toArray }
  heap := heap
  slotsUsed := slotsUsed
  threads := #[{ frames := .invoking theMethod args0 :: below }]
def below0 : List Frame := [.native { method := ⟨0, 0⟩, args := #[] }]
def about1 : State := aboutOver below0
def p0 : Program := .bare "" "" ""
def e0 : Env := launch0.env 0 0 0
theorem w_frames : about1.frames = Frame.invoking theMethod args0 :: below0 := rfl
set_option maxRecDepth 65536 in
theorem w_args : argsFit about1.vm theMethod args0 = true := by decide +kernel
set_option maxRecDepth 65536 in
theorem w_heap : heapFits about1 = true := by decide +kernel
set_option maxRecDepth 65536 in
theorem w_runnable : about1.curStatus? = some .runnable := by decide +kernel
set_option maxRecDepth 65536 in
theorem w_alone : about1.alone = true := by decide +kernel
set_option maxRecDepth 65536 in
theorem w_named : about1.methodNamed? x = some theMethod := by decide +kernel
set_option maxRecDepth 65536 in
theorem w_hears : about1.hears theMethod below0 = true := by decide +kernel
set_option maxRecDepth 65536 in
theorem w_ripe : about1.ripe theMethod args0 below0 = true := by decide +kernel
theorem w_running : about1.status = .running := rfl
set_option maxRecDepth 65536 in
theorem w_room : about1.hasRoom e0.platform room_1 = true :=
  launch0.hasRoom_least _ room_1 (by decide +kernel) (by decide +kernel) (by decide +kernel) (by decide +kernel) (by decide +kernel) (by decide +kernel)
theorem allAtoms_all (ts : List Jvm.Cond) (a : Array Jvm.Value) (st : Jvm.State) : (allAtoms ts).before a st = ts.all (fun c => c.before a st) := by
  induction ts with
  | nil => rfl
  | cons c t ih =>
    show (Jvm.Cond.and c (allAtoms t)).before a st = _
    rw [Jvm.Cond.before_and, ih, List.all_cons]
def words1 : List Jvm.Cond := Jvm.Cond.code x code maxLocals ret :: tables_1
/-- a 'code' word, met by the world's own term for the bytes: nothing is compared byte by byte -/
theorem code_word {y : MethodName} {bytes : ByteArray} {mx : Nat} {rt : Option FieldType} {a : Array Value} {s : State} {m : MethodId} {meth : Method} {c : Code} (h1 : s.methodNamed? y = some m) (h2 : s.vm.method? m = some meth) (h3 : meth.code = some c) (h4 : c.code = bytes)
    (h5 : (c.maxLocals == mx && c.exceptionTable.isEmpty && decide (c.maxStack ≤ mostOperands) && decide (meth.sig.returnType = rt) && !meth.locks && decide (parseMethodDescriptor y.desc = some meth.sig)) = true) : (Jvm.Cond.code y bytes mx rt).before a s = true := by
  simp only [Bool.and_eq_true, beq_iff_eq, Bool.not_eq_true', decide_eq_true_eq] at h5
  obtain ⟨⟨⟨⟨⟨g1, g2⟩, g3⟩, g4⟩, g5⟩, g6⟩ := h5
  simp [Cond.before, Cond.holds, Cond.value, h1, h2, h3, h4, g1, g2, g3, g4, g5, g6]
def isCode : Jvm.Cond → Bool
  | .code _ _ _ _ => true
  | _ => false
theorem all_split {L : List Jvm.Cond} {P : Jvm.Cond → Bool} (h1 : L.all (fun c => isCode c || P c) = true) (h2 : ∀ c ∈ L.filter isCode, P c = true) : L.all P = true := by
  refine List.all_eq_true.mpr fun c hc => ?_
  have h := List.all_eq_true.mp h1 c hc
  rcases Bool.eq_false_or_eq_true (isCode c) with hi | hi
  · exact h2 c (List.mem_filter.mpr ⟨hc, hi⟩)
  · simpa [hi] using h
set_option maxRecDepth 65536 in
theorem w_c0 : (Jvm.Cond.code x code maxLocals ret).before args0 about1 = true := code_word (m := ⟨1, 2⟩) (meth := k1m2) (c := k1c2) (by decide +kernel) rfl rfl rfl (by decide +kernel)
set_option maxRecDepth 65536 in
theorem w_c1 : (Jvm.Cond.code ({ cls := "java/lang/Math", name := "max", desc := "(JJ)J" } : Jvm.MethodName) jdk_29_method_66_code (4 : Nat) (Option.some Jvm.ClassFile.FieldType.long)).before args0 about1 = true := code_word (m := ⟨2, 1⟩) (meth := k2m1) (c := k2c1) (by decide +kernel) rfl rfl rfl (by decide +kernel)
set_option maxRecDepth 65536 in
theorem w_c2 : (Jvm.Cond.code ({ cls := "com/example/ohjaus/ohjaus/device/Barrier", name := "<init>", desc := "(JJZ)V" } : Jvm.MethodName) prog_1_method_1_code (6 : Nat) (Option.none : Option Jvm.ClassFile.FieldType)).before args0 about1 = true := code_word (m := ⟨3, 0⟩) (meth := k3m0) (c := k3c0) (by decide +kernel) rfl rfl rfl (by decide +kernel)
set_option maxRecDepth 65536 in
theorem w_c3 : (Jvm.Cond.code ({ cls := "java/lang/Object", name := "<init>", desc := "()V" } : Jvm.MethodName) object_method_1_code (1 : Nat) (Option.none : Option Jvm.ClassFile.FieldType)).before args0 about1 = true := code_word (m := ⟨0, 0⟩) (meth := k0m0) (c := k0c0) (by decide +kernel) rfl rfl rfl (by decide +kernel)
set_option maxRecDepth 65536 in
theorem w_c4 : (Jvm.Cond.code ({ cls := "com/example/ohjaus/ohjaus/device/Barrier", name := "arrives", desc := "(J)Z" } : Jvm.MethodName) prog_1_method_9_code (4 : Nat) (Option.some Jvm.ClassFile.FieldType.boolean)).before args0 about1 = true := code_word (m := ⟨3, 7⟩) (meth := k3m7) (c := k3c7) (by decide +kernel) rfl rfl rfl (by decide +kernel)
set_option maxRecDepth 65536 in
theorem w_c5 : (Jvm.Cond.code ({ cls := "com/example/ohjaus/ohjaus/device/Barrier", name := "moving", desc := "()Z" } : Jvm.MethodName) prog_1_method_3_code (1 : Nat) (Option.some Jvm.ClassFile.FieldType.boolean)).before args0 about1 = true := code_word (m := ⟨3, 2⟩) (meth := k3m2) (c := k3c2) (by decide +kernel) rfl rfl rfl (by decide +kernel)
set_option maxRecDepth 65536 in
theorem w_c6 : (Jvm.Cond.code ({ cls := "com/example/ohjaus/ohjaus/device/Barrier", name := "up", desc := "()Z" } : Jvm.MethodName) prog_1_method_2_code (1 : Nat) (Option.some Jvm.ClassFile.FieldType.boolean)).before args0 about1 = true := code_word (m := ⟨3, 1⟩) (meth := k3m1) (c := k3c1) (by decide +kernel) rfl rfl rfl (by decide +kernel)
set_option maxRecDepth 65536 in
theorem w_c7 : (Jvm.Cond.code ({ cls := "com/example/ohjaus/ohjaus/device/Barrier", name := "since", desc := "()J" } : Jvm.MethodName) prog_1_method_5_code (1 : Nat) (Option.some Jvm.ClassFile.FieldType.long)).before args0 about1 = true := code_word (m := ⟨3, 3⟩) (meth := k3m3) (c := k3c3) (by decide +kernel) rfl rfl rfl (by decide +kernel)
set_option maxRecDepth 65536 in
theorem w_c8 : (Jvm.Cond.code ({ cls := "com/example/ohjaus/ohjaus/device/Barrier", name := "lower", desc := "(J)Z" } : Jvm.MethodName) prog_1_method_7_code (3 : Nat) (Option.some Jvm.ClassFile.FieldType.boolean)).before args0 about1 = true := code_word (m := ⟨3, 5⟩) (meth := k3m5) (c := k3c5) (by decide +kernel) rfl rfl rfl (by decide +kernel)
set_option maxRecDepth 65536 in
theorem w_c9 : (Jvm.Cond.code ({ cls := "com/example/ohjaus/ohjaus/device/Barrier", name := "move", desc := "(ZJJ)Z" } : Jvm.MethodName) prog_1_method_8_code (7 : Nat) (Option.some Jvm.ClassFile.FieldType.boolean)).before args0 about1 = true := code_word (m := ⟨3, 6⟩) (meth := k3m6) (c := k3c6) (by decide +kernel) rfl rfl rfl (by decide +kernel)
set_option maxRecDepth 65536 in
theorem w_c10 : (Jvm.Cond.code ({ cls := "com/example/ohjaus/ohjaus/time/Steps", name := "after", desc := "(JJ)J" } : Jvm.MethodName) prog_57_method_8_code (4 : Nat) (Option.some Jvm.ClassFile.FieldType.long)).before args0 about1 = true := code_word (m := ⟨4, 1⟩) (meth := k4m1) (c := k4c1) (by decide +kernel) rfl rfl rfl (by decide +kernel)
set_option maxRecDepth 65536 in
theorem w_c11 : (Jvm.Cond.code ({ cls := "com/example/ohjaus/ohjaus/device/BarrierArrivesPinLaw", name := "sat", desc := "(JJ)J" } : Jvm.MethodName) method_2_code (6 : Nat) (Option.some Jvm.ClassFile.FieldType.long)).before args0 about1 = true := code_word (m := ⟨1, 1⟩) (meth := k1m1) (c := k1c1) (by decide +kernel) rfl rfl rfl (by decide +kernel)
set_option maxRecDepth 65536 in
theorem w_c12 : (Jvm.Cond.code ({ cls := "com/example/ohjaus/ohjaus/device/Barrier", name := "raise", desc := "(J)Z" } : Jvm.MethodName) prog_1_method_6_code (3 : Nat) (Option.some Jvm.ClassFile.FieldType.boolean)).before args0 about1 = true := code_word (m := ⟨3, 4⟩) (meth := k3m4) (c := k3c4) (by decide +kernel) rfl rfl rfl (by decide +kernel)
def codes1 : List Jvm.Cond := [Jvm.Cond.code x code maxLocals ret, Jvm.Cond.code ({ cls := "java/lang/Math", name := "max", desc := "(JJ)J" } : Jvm.MethodName) jdk_29_method_66_code (4 : Nat) (Option.some Jvm.ClassFile.FieldType.long), Jvm.Cond.code ({ cls := "com/example/ohjaus/ohjaus/device/Barrier", name := "<init>", desc := "(JJZ)V" } : Jvm.MethodName) prog_1_method_1_code (6 : Nat) (Option.none : Option Jvm.ClassFile.FieldType), Jvm.Cond.code ({ cls := "java/lang/Object", name := "<init>", desc := "()V" } : Jvm.MethodName) object_method_1_code (1 : Nat) (Option.none : Option Jvm.ClassFile.FieldType), Jvm.Cond.code ({ cls := "com/example/ohjaus/ohjaus/device/Barrier", name := "arrives", desc := "(J)Z" } : Jvm.MethodName) prog_1_method_9_code (4 : Nat) (Option.some Jvm.ClassFile.FieldType.boolean), Jvm.Cond.code ({ cls := "com/example/ohjaus/ohjaus/device/Barrier", name := "moving", desc := "()Z" } : Jvm.MethodName) prog_1_method_3_code (1 : Nat) (Option.some Jvm.ClassFile.FieldType.boolean), Jvm.Cond.code ({ cls := "com/example/ohjaus/ohjaus/device/Barrier", name := "up", desc := "()Z" } : Jvm.MethodName) prog_1_method_2_code (1 : Nat) (Option.some Jvm.ClassFile.FieldType.boolean), Jvm.Cond.code ({ cls := "com/example/ohjaus/ohjaus/device/Barrier", name := "since", desc := "()J" } : Jvm.MethodName) prog_1_method_5_code (1 : Nat) (Option.some Jvm.ClassFile.FieldType.long), Jvm.Cond.code ({ cls := "com/example/ohjaus/ohjaus/device/Barrier", name := "lower", desc := "(J)Z" } : Jvm.MethodName) prog_1_method_7_code (3 : Nat) (Option.some Jvm.ClassFile.FieldType.boolean), Jvm.Cond.code ({ cls := "com/example/ohjaus/ohjaus/device/Barrier", name := "move", desc := "(ZJJ)Z" } : Jvm.MethodName) prog_1_method_8_code (7 : Nat) (Option.some Jvm.ClassFile.FieldType.boolean), Jvm.Cond.code ({ cls := "com/example/ohjaus/ohjaus/time/Steps", name := "after", desc := "(JJ)J" } : Jvm.MethodName) prog_57_method_8_code (4 : Nat) (Option.some Jvm.ClassFile.FieldType.long), Jvm.Cond.code ({ cls := "com/example/ohjaus/ohjaus/device/BarrierArrivesPinLaw", name := "sat", desc := "(JJ)J" } : Jvm.MethodName) method_2_code (6 : Nat) (Option.some Jvm.ClassFile.FieldType.long), Jvm.Cond.code ({ cls := "com/example/ohjaus/ohjaus/device/Barrier", name := "raise", desc := "(J)Z" } : Jvm.MethodName) prog_1_method_6_code (3 : Nat) (Option.some Jvm.ClassFile.FieldType.boolean)]
set_option maxRecDepth 65536 in
theorem codes_eq : words1.filter isCode = codes1 := rfl
theorem w_codes : ∀ c ∈ words1.filter isCode, c.before args0 about1 = true := by
  rw [codes_eq]
  intro c hc
  simp only [codes1, List.mem_cons, List.not_mem_nil, or_false] at hc
  rcases hc with rfl | rfl | rfl | rfl | rfl | rfl | rfl | rfl | rfl | rfl | rfl | rfl | rfl
  · exact w_c0
  · exact w_c1
  · exact w_c2
  · exact w_c3
  · exact w_c4
  · exact w_c5
  · exact w_c6
  · exact w_c7
  · exact w_c8
  · exact w_c9
  · exact w_c10
  · exact w_c11
  · exact w_c12
set_option maxRecDepth 65536 in
theorem w_t1 : (words1.take 24).all (fun c => isCode c || c.before args0 about1) = true := by decide +kernel
set_option maxRecDepth 65536 in
theorem w_t2 : ((words1.drop 24).take 24).all (fun c => isCode c || c.before args0 about1) = true := by decide +kernel
set_option maxRecDepth 65536 in
theorem w_t3 : ((words1.drop 24).drop 24).all (fun c => isCode c || c.before args0 about1) = true := by decide +kernel
theorem w_tables : (allAtoms (Jvm.Cond.code x code maxLocals ret :: tables_1)).before args0 about1 = true := by
  rw [allAtoms_all]
  show words1.all (fun c => c.before args0 about1) = true
  refine all_split ?_ w_codes
  rw [← List.take_append_drop 24 words1, List.all_append, w_t1, ← List.take_append_drop 24 (words1.drop 24), List.all_append, w_t2, w_t3]
  rfl
set_option maxRecDepth 65536 in
theorem w_case : (Jvm.Cond.and given_1 narrow_1).before args0 about1 = true := by decide +kernel
theorem w_applies : (headSpec (Jvm.Cond.code x code maxLocals ret :: tables_1) room_1).applies x e0.platform about1 = true :=
  (Spec.applies_iff w_frames).mpr ⟨w_running, w_runnable, w_alone, w_named, w_hears, w_ripe, w_room, w_tables⟩
theorem atStart : AtStart classFile x code maxLocals ret World_1 tables_1 room_1 Calls_1 rest_1 Pre_1 launch0 p0 e0 about1 theMethod args0 below0 :=
  ⟨lists_1, trivial, launch0.admits_env _ _ _, launch0.least_env, fairChoices_fair.cas, fairChoices_fair.clock, w_frames, w_args, w_heap, w_applies, trivial, trivial, w_case⟩
end start1
theorem witness_1 : WitnessClaimed_1 := ⟨start1.p0, start1.e0, start1.about1, start1.theMethod, start1.args0, start1.below0, start1.atStart⟩
end Jvm.Pilot.@@N@@

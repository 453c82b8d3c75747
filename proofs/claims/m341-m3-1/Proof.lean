import JvmDerived
import JvmDerived.Pilot.@@N@@Statement
import JvmDerived.Pilot.@@N@@Code
set_option linter.unusedVariables false
set_option linter.unusedSimpArgs false
namespace Jvm.OwnKit
open Sem ClassFile Op Lib Jvm.Stand Jvm.Free Jvm.LawKit Jvm.RoadKit
/-- a boolean as an int -/
def own_b (b : Bool) : Int32 := if b then 1 else 0
/-- what stands fast in a body -/
def Ctx (p : Program) (s : State) (m : MethodId) (meth : Method) (c : Code) (Z : State) (a0 : Array Value) (tb : List Jvm.Cond) (own : String) (bytes : ByteArray) (ml : Nat) (nm : String) (ret : Option FieldType) : Prop :=
  p.tables.exec = Jvm.exec ∧ Z.Warmed39 s.vm ∧ (∀ d ∈ tb, d.before a0 Z = true) ∧ c.code = bytes ∧ c.maxLocals = ml ∧ s.vm.findClass own = some m.cls ∧ meth.name = nm ∧ meth.sig.returnType = ret ∧ meth.locks = false
/-- the run comes from S0 to pc, with these locals and this stack, over the heap h -/
def Rch (p : Program) (l : Launch) (e : Env) (R : Room) (s : State) (m : MethodId) (args : Array Value) (below : List Frame) (meth : Method) (c : Code) (S0 : State) (n0 k n : Nat) (h : Heap) (pc : Nat) (Ls : Array Slot) (st : List Value) : Prop :=
  ∃ (T : State) (locs : List Loc), Stand p l e R s m args below meth c T locs k n ∧ T.heap = h ∧ Fr n0 locs ∧ n0 ≤ s.heap.size ∧ ∀ t, Steps p.tables e below (T.setTop (mkF m pc Ls st)) t → Steps p.tables e below S0 t
section Walk
variable {p : Program} {l : Launch} {e : Env} {R : Room} {s : State} {m : MethodId} {args : Array Value} {below : List Frame} {meth : Method} {c : Code} {S0 : State} {n0 k n : Nat} {h : Heap} {Z : State} {a0 : Array Value} {tb : List Jvm.Cond} {own : String} {bytes : ByteArray} {ml : Nat} {nm : String} {ret : Option FieldType} {pc pc' : Nat} {Ls Ls' : Array Slot} {st st' : List Value}
theorem Ctx.w (C : Ctx p s m meth c Z a0 tb own bytes ml nm ret) (i : Nat) {d : Jvm.Cond} (q : tb[i]? = some d) : d.before a0 Z = true := C.2.2.1 d (List.mem_of_getElem? q)
theorem Rch.pure (X : Rch p l e R s m args below meth c S0 n0 k n h pc Ls st) (f : ∀ T, At T m c below → ∀ t, Steps p.tables e below (T.setTop (mkF m pc' Ls' st')) t → Steps p.tables e below (T.setTop (mkF m pc Ls st)) t) : Rch p l e R s m args below meth c S0 n0 k n h pc' Ls' st' := by
  obtain ⟨T, locs, Y, eT, N, z, q⟩ := X
  exact ⟨T, locs, Y, eT, N, z, fun t kk => q t (f T Y.here t kk)⟩
theorem Rch.as (X : Rch p l e R s m args below meth c S0 n0 k n h pc Ls st) (q : st = st') : Rch p l e R s m args below meth c S0 n0 k n h pc Ls st' := q ▸ X
theorem Rch.asL (X : Rch p l e R s m args below meth c S0 n0 k n h pc Ls st) (q : Ls = Ls') : Rch p l e R s m args below meth c S0 n0 k n h pc Ls' st := q ▸ X
theorem Rch.more {k' n' : Nat} (X : Rch p l e R s m args below meth c S0 n0 k n h pc Ls st) (hk : k ≤ k') (hn : n ≤ n') : Rch p l e R s m args below meth c S0 n0 k' n' h pc Ls st := by
  obtain ⟨T, locs, Y, eT, N, z, q⟩ := X
  exact ⟨T, locs, Y.more hk hn, eT, N, z, q⟩
theorem Rch.size (X : Rch p l e R s m args below meth c S0 n0 k n h pc Ls st) : n0 ≤ h.size := by
  obtain ⟨T, locs, Y, rfl, N, z, q⟩ := X
  have q2 : s.heap.size ≤ T.heap.size := Y.same.2.1
  exact Nat.le_trans z q2
theorem Rch.iload {i : Nat} {v : Int32} (X : Rch p l e R s m args below meth c S0 n0 k n h pc Ls st) (C : Ctx p s m meth c Z a0 tb own bytes ml nm ret) (hd : decode bytes pc = .ok (.iload i, 2)) (hl : Ls[i]? = some (.val (.int v))) (hp : pc + 2 = pc') : Rch p l e R s m args below meth c S0 n0 k n h pc' Ls (.int v :: st) := by
  subst hp; exact X.pure fun T A t kk => XS.iload (g := mkF m pc Ls _) A C.1 rfl (hb C.2.2.2.1 hd) hl kk
theorem Rch.iloadN {i : Fin 4} {v : Int32} (X : Rch p l e R s m args below meth c S0 n0 k n h pc Ls st) (C : Ctx p s m meth c Z a0 tb own bytes ml nm ret) (hd : decode bytes pc = .ok (.iload_n i, 1)) (hl : Ls[i.val]? = some (.val (.int v))) (hp : pc + 1 = pc') : Rch p l e R s m args below meth c S0 n0 k n h pc' Ls (.int v :: st) := by
  subst hp; exact X.pure fun T A t kk => XS.iloadN (g := mkF m pc Ls _) A C.1 rfl (hb C.2.2.2.1 hd) hl kk
theorem Rch.istore {i : Nat} {v : Int32} (X : Rch p l e R s m args below meth c S0 n0 k n h pc Ls (.int v :: st)) (C : Ctx p s m meth c Z a0 tb own bytes ml nm ret) (hd : decode bytes pc = .ok (.istore i, 2)) (hl : storeLocals Ls i (.int v) = some Ls') (hp : pc + 2 = pc') : Rch p l e R s m args below meth c S0 n0 k n h pc' Ls' st := by
  subst hp; exact X.pure fun T A t kk => XS.istore (g := mkF m pc Ls _) A C.1 rfl (hb C.2.2.2.1 hd) rfl hl kk
theorem Rch.istoreN {i : Fin 4} {v : Int32} (X : Rch p l e R s m args below meth c S0 n0 k n h pc Ls (.int v :: st)) (C : Ctx p s m meth c Z a0 tb own bytes ml nm ret) (hd : decode bytes pc = .ok (.istore_n i, 1)) (hl : storeLocals Ls i.val (.int v) = some Ls') (hp : pc + 1 = pc') : Rch p l e R s m args below meth c S0 n0 k n h pc' Ls' st := by
  subst hp; exact X.pure fun T A t kk => XS.istoreN (g := mkF m pc Ls _) A C.1 rfl (hb C.2.2.2.1 hd) rfl hl kk
theorem Rch.lload {i : Nat} {v : Int64} (X : Rch p l e R s m args below meth c S0 n0 k n h pc Ls st) (C : Ctx p s m meth c Z a0 tb own bytes ml nm ret) (hd : decode bytes pc = .ok (.lload i, 2)) (hl : Ls[i]? = some (.val (.long v))) (hp : pc + 2 = pc') : Rch p l e R s m args below meth c S0 n0 k n h pc' Ls (.long v :: st) := by
  subst hp; exact X.pure fun T A t kk => XS.lload (g := mkF m pc Ls _) A C.1 rfl (hb C.2.2.2.1 hd) hl kk
theorem Rch.lloadN {i : Fin 4} {v : Int64} (X : Rch p l e R s m args below meth c S0 n0 k n h pc Ls st) (C : Ctx p s m meth c Z a0 tb own bytes ml nm ret) (hd : decode bytes pc = .ok (.lload_n i, 1)) (hl : Ls[i.val]? = some (.val (.long v))) (hp : pc + 1 = pc') : Rch p l e R s m args below meth c S0 n0 k n h pc' Ls (.long v :: st) := by
  subst hp; exact X.pure fun T A t kk => XS.lloadN (g := mkF m pc Ls _) A C.1 rfl (hb C.2.2.2.1 hd) hl kk
theorem Rch.lstore {i : Nat} {v : Int64} (X : Rch p l e R s m args below meth c S0 n0 k n h pc Ls (.long v :: st)) (C : Ctx p s m meth c Z a0 tb own bytes ml nm ret) (hd : decode bytes pc = .ok (.lstore i, 2)) (hl : storeLocals Ls i (.long v) = some Ls') (hp : pc + 2 = pc') : Rch p l e R s m args below meth c S0 n0 k n h pc' Ls' st := by
  subst hp; exact X.pure fun T A t kk => XS.lstore (g := mkF m pc Ls _) A C.1 rfl (hb C.2.2.2.1 hd) rfl hl kk
theorem Rch.lstoreN {i : Fin 4} {v : Int64} (X : Rch p l e R s m args below meth c S0 n0 k n h pc Ls (.long v :: st)) (C : Ctx p s m meth c Z a0 tb own bytes ml nm ret) (hd : decode bytes pc = .ok (.lstore_n i, 1)) (hl : storeLocals Ls i.val (.long v) = some Ls') (hp : pc + 1 = pc') : Rch p l e R s m args below meth c S0 n0 k n h pc' Ls' st := by
  subst hp; exact X.pure fun T A t kk => XS.lstoreN (g := mkF m pc Ls _) A C.1 rfl (hb C.2.2.2.1 hd) rfl hl kk
theorem Rch.aload {i : Nat} {v : Value} (X : Rch p l e R s m args below meth c S0 n0 k n h pc Ls st) (C : Ctx p s m meth c Z a0 tb own bytes ml nm ret) (hd : decode bytes pc = .ok (.aload i, 2)) (hl : Ls[i]? = some (.val v)) (hv : v.isRef = true) (hp : pc + 2 = pc') : Rch p l e R s m args below meth c S0 n0 k n h pc' Ls (v :: st) := by
  subst hp; exact X.pure fun T A t kk => XS.aload (g := mkF m pc Ls _) A C.1 rfl (hb C.2.2.2.1 hd) hl hv kk
theorem Rch.aloadN {i : Fin 4} {v : Value} (X : Rch p l e R s m args below meth c S0 n0 k n h pc Ls st) (C : Ctx p s m meth c Z a0 tb own bytes ml nm ret) (hd : decode bytes pc = .ok (.aload_n i, 1)) (hl : Ls[i.val]? = some (.val v)) (hv : v.isRef = true) (hp : pc + 1 = pc') : Rch p l e R s m args below meth c S0 n0 k n h pc' Ls (v :: st) := by
  subst hp; exact X.pure fun T A t kk => XS.aloadN (g := mkF m pc Ls _) A C.1 rfl (hb C.2.2.2.1 hd) hl hv kk
theorem Rch.astore {i : Nat} {v : Value} (X : Rch p l e R s m args below meth c S0 n0 k n h pc Ls (v :: st)) (C : Ctx p s m meth c Z a0 tb own bytes ml nm ret) (hd : decode bytes pc = .ok (.astore i, 2)) (hv : v.isRef = true) (hl : storeLocals Ls i v = some Ls') (hp : pc + 2 = pc') : Rch p l e R s m args below meth c S0 n0 k n h pc' Ls' st := by
  subst hp; exact X.pure fun T A t kk => XS.astore (g := mkF m pc Ls _) A C.1 rfl (hb C.2.2.2.1 hd) rfl hv hl kk
theorem Rch.astoreN {i : Fin 4} {v : Value} (X : Rch p l e R s m args below meth c S0 n0 k n h pc Ls (v :: st)) (C : Ctx p s m meth c Z a0 tb own bytes ml nm ret) (hd : decode bytes pc = .ok (.astore_n i, 1)) (hv : v.isRef = true) (hl : storeLocals Ls i.val v = some Ls') (hp : pc + 1 = pc') : Rch p l e R s m args below meth c S0 n0 k n h pc' Ls' st := by
  subst hp; exact X.pure fun T A t kk => XS.astoreN (g := mkF m pc Ls _) A C.1 rfl (hb C.2.2.2.1 hd) rfl hv hl kk
theorem Rch.iconst {i : Int} {v : Int32} (X : Rch p l e R s m args below meth c S0 n0 k n h pc Ls st) (C : Ctx p s m meth c Z a0 tb own bytes ml nm ret) (hd : decode bytes pc = .ok (.iconst i, 1)) (hv : Int32.ofInt i = v) (hp : pc + 1 = pc') : Rch p l e R s m args below meth c S0 n0 k n h pc' Ls (.int v :: st) := by
  subst hp; exact X.pure fun T A t kk => by subst hv; exact XS.iconst (g := mkF m pc Ls _) A C.1 rfl (hb C.2.2.2.1 hd)  kk
theorem Rch.bipush {i : Int} {v : Int32} (X : Rch p l e R s m args below meth c S0 n0 k n h pc Ls st) (C : Ctx p s m meth c Z a0 tb own bytes ml nm ret) (hd : decode bytes pc = .ok (.bipush i, 2)) (hv : (Int8.ofInt i).toInt32 = v) (hp : pc + 2 = pc') : Rch p l e R s m args below meth c S0 n0 k n h pc' Ls (.int v :: st) := by
  subst hp; exact X.pure fun T A t kk => by subst hv; exact XS.bipush (g := mkF m pc Ls _) A C.1 rfl (hb C.2.2.2.1 hd)  kk
theorem Rch.sipush {i : Int} {v : Int32} (X : Rch p l e R s m args below meth c S0 n0 k n h pc Ls st) (C : Ctx p s m meth c Z a0 tb own bytes ml nm ret) (hd : decode bytes pc = .ok (.sipush i, 3)) (hv : (Int16.ofInt i).toInt32 = v) (hp : pc + 3 = pc') : Rch p l e R s m args below meth c S0 n0 k n h pc' Ls (.int v :: st) := by
  subst hp; exact X.pure fun T A t kk => by subst hv; exact XS.sipush (g := mkF m pc Ls _) A C.1 rfl (hb C.2.2.2.1 hd)  kk
theorem Rch.lconst {i : Fin 2} {v : Int64} (X : Rch p l e R s m args below meth c S0 n0 k n h pc Ls st) (C : Ctx p s m meth c Z a0 tb own bytes ml nm ret) (hd : decode bytes pc = .ok (.lconst i, 1)) (hv : Int64.ofNat i = v) (hp : pc + 1 = pc') : Rch p l e R s m args below meth c S0 n0 k n h pc' Ls (.long v :: st) := by
  subst hp; exact X.pure fun T A t kk => by subst hv; exact XS.lconst (g := mkF m pc Ls _) A C.1 rfl (hb C.2.2.2.1 hd)  kk
theorem Rch.aconstNull (X : Rch p l e R s m args below meth c S0 n0 k n h pc Ls st) (C : Ctx p s m meth c Z a0 tb own bytes ml nm ret) (hd : decode bytes pc = .ok (.aconst_null, 1)) (hp : pc + 1 = pc') : Rch p l e R s m args below meth c S0 n0 k n h pc' Ls (.null :: st) := by
  subst hp; exact X.pure fun T A t kk => XS.aconstNull (g := mkF m pc Ls _) A C.1 rfl (hb C.2.2.2.1 hd)  kk
theorem Rch.iadd {x y : Int32} (X : Rch p l e R s m args below meth c S0 n0 k n h pc Ls (.int y :: .int x :: st)) (C : Ctx p s m meth c Z a0 tb own bytes ml nm ret) (hd : decode bytes pc = .ok (.iadd, 1)) (hp : pc + 1 = pc') : Rch p l e R s m args below meth c S0 n0 k n h pc' Ls (.int (x + y) :: st) := by
  subst hp; exact X.pure fun T A t kk => XS.iadd (g := mkF m pc Ls _) A C.1 rfl (hb C.2.2.2.1 hd) rfl kk
theorem Rch.ladd {x y : Int64} (X : Rch p l e R s m args below meth c S0 n0 k n h pc Ls (.long y :: .long x :: st)) (C : Ctx p s m meth c Z a0 tb own bytes ml nm ret) (hd : decode bytes pc = .ok (.ladd, 1)) (hp : pc + 1 = pc') : Rch p l e R s m args below meth c S0 n0 k n h pc' Ls (.long (x + y) :: st) := by
  subst hp; exact X.pure fun T A t kk => XS.ladd (g := mkF m pc Ls _) A C.1 rfl (hb C.2.2.2.1 hd) rfl kk
theorem Rch.isub {x y : Int32} (X : Rch p l e R s m args below meth c S0 n0 k n h pc Ls (.int y :: .int x :: st)) (C : Ctx p s m meth c Z a0 tb own bytes ml nm ret) (hd : decode bytes pc = .ok (.isub, 1)) (hp : pc + 1 = pc') : Rch p l e R s m args below meth c S0 n0 k n h pc' Ls (.int (x - y) :: st) := by
  subst hp; exact X.pure fun T A t kk => XS.isub (g := mkF m pc Ls _) A C.1 rfl (hb C.2.2.2.1 hd) rfl kk
theorem Rch.lsub {x y : Int64} (X : Rch p l e R s m args below meth c S0 n0 k n h pc Ls (.long y :: .long x :: st)) (C : Ctx p s m meth c Z a0 tb own bytes ml nm ret) (hd : decode bytes pc = .ok (.lsub, 1)) (hp : pc + 1 = pc') : Rch p l e R s m args below meth c S0 n0 k n h pc' Ls (.long (x - y) :: st) := by
  subst hp; exact X.pure fun T A t kk => XS.lsub (g := mkF m pc Ls _) A C.1 rfl (hb C.2.2.2.1 hd) rfl kk
theorem Rch.imul {x y : Int32} (X : Rch p l e R s m args below meth c S0 n0 k n h pc Ls (.int y :: .int x :: st)) (C : Ctx p s m meth c Z a0 tb own bytes ml nm ret) (hd : decode bytes pc = .ok (.imul, 1)) (hp : pc + 1 = pc') : Rch p l e R s m args below meth c S0 n0 k n h pc' Ls (.int (x * y) :: st) := by
  subst hp; exact X.pure fun T A t kk => XS.imul (g := mkF m pc Ls _) A C.1 rfl (hb C.2.2.2.1 hd) rfl kk
theorem Rch.lmul {x y : Int64} (X : Rch p l e R s m args below meth c S0 n0 k n h pc Ls (.long y :: .long x :: st)) (C : Ctx p s m meth c Z a0 tb own bytes ml nm ret) (hd : decode bytes pc = .ok (.lmul, 1)) (hp : pc + 1 = pc') : Rch p l e R s m args below meth c S0 n0 k n h pc' Ls (.long (x * y) :: st) := by
  subst hp; exact X.pure fun T A t kk => XS.lmul (g := mkF m pc Ls _) A C.1 rfl (hb C.2.2.2.1 hd) rfl kk
theorem Rch.iand {x y : Int32} (X : Rch p l e R s m args below meth c S0 n0 k n h pc Ls (.int y :: .int x :: st)) (C : Ctx p s m meth c Z a0 tb own bytes ml nm ret) (hd : decode bytes pc = .ok (.iand, 1)) (hp : pc + 1 = pc') : Rch p l e R s m args below meth c S0 n0 k n h pc' Ls (.int (x &&& y) :: st) := by
  subst hp; exact X.pure fun T A t kk => XS.iand (g := mkF m pc Ls _) A C.1 rfl (hb C.2.2.2.1 hd) rfl kk
theorem Rch.land {x y : Int64} (X : Rch p l e R s m args below meth c S0 n0 k n h pc Ls (.long y :: .long x :: st)) (C : Ctx p s m meth c Z a0 tb own bytes ml nm ret) (hd : decode bytes pc = .ok (.land, 1)) (hp : pc + 1 = pc') : Rch p l e R s m args below meth c S0 n0 k n h pc' Ls (.long (x &&& y) :: st) := by
  subst hp; exact X.pure fun T A t kk => XS.land (g := mkF m pc Ls _) A C.1 rfl (hb C.2.2.2.1 hd) rfl kk
theorem Rch.ior {x y : Int32} (X : Rch p l e R s m args below meth c S0 n0 k n h pc Ls (.int y :: .int x :: st)) (C : Ctx p s m meth c Z a0 tb own bytes ml nm ret) (hd : decode bytes pc = .ok (.ior, 1)) (hp : pc + 1 = pc') : Rch p l e R s m args below meth c S0 n0 k n h pc' Ls (.int (x ||| y) :: st) := by
  subst hp; exact X.pure fun T A t kk => XS.ior (g := mkF m pc Ls _) A C.1 rfl (hb C.2.2.2.1 hd) rfl kk
theorem Rch.lor {x y : Int64} (X : Rch p l e R s m args below meth c S0 n0 k n h pc Ls (.long y :: .long x :: st)) (C : Ctx p s m meth c Z a0 tb own bytes ml nm ret) (hd : decode bytes pc = .ok (.lor, 1)) (hp : pc + 1 = pc') : Rch p l e R s m args below meth c S0 n0 k n h pc' Ls (.long (x ||| y) :: st) := by
  subst hp; exact X.pure fun T A t kk => XS.lor (g := mkF m pc Ls _) A C.1 rfl (hb C.2.2.2.1 hd) rfl kk
theorem Rch.ixor {x y : Int32} (X : Rch p l e R s m args below meth c S0 n0 k n h pc Ls (.int y :: .int x :: st)) (C : Ctx p s m meth c Z a0 tb own bytes ml nm ret) (hd : decode bytes pc = .ok (.ixor, 1)) (hp : pc + 1 = pc') : Rch p l e R s m args below meth c S0 n0 k n h pc' Ls (.int (x ^^^ y) :: st) := by
  subst hp; exact X.pure fun T A t kk => XS.ixor (g := mkF m pc Ls _) A C.1 rfl (hb C.2.2.2.1 hd) rfl kk
theorem Rch.lxor {x y : Int64} (X : Rch p l e R s m args below meth c S0 n0 k n h pc Ls (.long y :: .long x :: st)) (C : Ctx p s m meth c Z a0 tb own bytes ml nm ret) (hd : decode bytes pc = .ok (.lxor, 1)) (hp : pc + 1 = pc') : Rch p l e R s m args below meth c S0 n0 k n h pc' Ls (.long (x ^^^ y) :: st) := by
  subst hp; exact X.pure fun T A t kk => XS.lxor (g := mkF m pc Ls _) A C.1 rfl (hb C.2.2.2.1 hd) rfl kk
theorem Rch.ishl {x y : Int32} (X : Rch p l e R s m args below meth c S0 n0 k n h pc Ls (.int y :: .int x :: st)) (C : Ctx p s m meth c Z a0 tb own bytes ml nm ret) (hd : decode bytes pc = .ok (.ishl, 1)) (hp : pc + 1 = pc') : Rch p l e R s m args below meth c S0 n0 k n h pc' Ls (.int (x <<< (y &&& 31)) :: st) := by
  subst hp; exact X.pure fun T A t kk => XS.ishl (g := mkF m pc Ls _) A C.1 rfl (hb C.2.2.2.1 hd) rfl kk
theorem Rch.ishr {x y : Int32} (X : Rch p l e R s m args below meth c S0 n0 k n h pc Ls (.int y :: .int x :: st)) (C : Ctx p s m meth c Z a0 tb own bytes ml nm ret) (hd : decode bytes pc = .ok (.ishr, 1)) (hp : pc + 1 = pc') : Rch p l e R s m args below meth c S0 n0 k n h pc' Ls (.int (x >>> (y &&& 31)) :: st) := by
  subst hp; exact X.pure fun T A t kk => XS.ishr (g := mkF m pc Ls _) A C.1 rfl (hb C.2.2.2.1 hd) rfl kk
theorem Rch.iushr {x y : Int32} (X : Rch p l e R s m args below meth c S0 n0 k n h pc Ls (.int y :: .int x :: st)) (C : Ctx p s m meth c Z a0 tb own bytes ml nm ret) (hd : decode bytes pc = .ok (.iushr, 1)) (hp : pc + 1 = pc') : Rch p l e R s m args below meth c S0 n0 k n h pc' Ls (.int ((x.toUInt32 >>> (y &&& 31).toUInt32).toInt32) :: st) := by
  subst hp; exact X.pure fun T A t kk => XS.iushr (g := mkF m pc Ls _) A C.1 rfl (hb C.2.2.2.1 hd) rfl kk
theorem Rch.lshl {x : Int64} {y : Int32} (X : Rch p l e R s m args below meth c S0 n0 k n h pc Ls (.int y :: .long x :: st)) (C : Ctx p s m meth c Z a0 tb own bytes ml nm ret) (hd : decode bytes pc = .ok (.lshl, 1)) (hp : pc + 1 = pc') : Rch p l e R s m args below meth c S0 n0 k n h pc' Ls (.long (x <<< (y &&& 0x3f).toInt64) :: st) := by
  subst hp; exact X.pure fun T A t kk => XS.lshl (g := mkF m pc Ls _) A C.1 rfl (hb C.2.2.2.1 hd) rfl kk
theorem Rch.lshr {x : Int64} {y : Int32} (X : Rch p l e R s m args below meth c S0 n0 k n h pc Ls (.int y :: .long x :: st)) (C : Ctx p s m meth c Z a0 tb own bytes ml nm ret) (hd : decode bytes pc = .ok (.lshr, 1)) (hp : pc + 1 = pc') : Rch p l e R s m args below meth c S0 n0 k n h pc' Ls (.long (x >>> (y &&& 0x3f).toInt64) :: st) := by
  subst hp; exact X.pure fun T A t kk => XS.lshr (g := mkF m pc Ls _) A C.1 rfl (hb C.2.2.2.1 hd) rfl kk
theorem Rch.lushr {x : Int64} {y : Int32} (X : Rch p l e R s m args below meth c S0 n0 k n h pc Ls (.int y :: .long x :: st)) (C : Ctx p s m meth c Z a0 tb own bytes ml nm ret) (hd : decode bytes pc = .ok (.lushr, 1)) (hp : pc + 1 = pc') : Rch p l e R s m args below meth c S0 n0 k n h pc' Ls (.long ((x.toUInt64 >>> (y &&& 0x3f).toInt64.toUInt64).toInt64) :: st) := by
  subst hp; exact X.pure fun T A t kk => XS.lushr (g := mkF m pc Ls _) A C.1 rfl (hb C.2.2.2.1 hd) rfl kk
theorem Rch.idiv {x y : Int32} (X : Rch p l e R s m args below meth c S0 n0 k n h pc Ls (.int y :: .int x :: st)) (C : Ctx p s m meth c Z a0 tb own bytes ml nm ret) (hd : decode bytes pc = .ok (.idiv, 1)) (hy : y ≠ 0) (hp : pc + 1 = pc') : Rch p l e R s m args below meth c S0 n0 k n h pc' Ls (.int (x / y) :: st) := by
  subst hp; exact X.pure fun T A t kk => XS.idiv (g := mkF m pc Ls _) A C.1 rfl (hb C.2.2.2.1 hd) rfl hy kk
theorem Rch.ldiv {x y : Int64} (X : Rch p l e R s m args below meth c S0 n0 k n h pc Ls (.long y :: .long x :: st)) (C : Ctx p s m meth c Z a0 tb own bytes ml nm ret) (hd : decode bytes pc = .ok (.ldiv, 1)) (hy : y ≠ 0) (hp : pc + 1 = pc') : Rch p l e R s m args below meth c S0 n0 k n h pc' Ls (.long (x / y) :: st) := by
  subst hp; exact X.pure fun T A t kk => XS.ldiv (g := mkF m pc Ls _) A C.1 rfl (hb C.2.2.2.1 hd) rfl hy kk
theorem Rch.irem {x y : Int32} (X : Rch p l e R s m args below meth c S0 n0 k n h pc Ls (.int y :: .int x :: st)) (C : Ctx p s m meth c Z a0 tb own bytes ml nm ret) (hd : decode bytes pc = .ok (.irem, 1)) (hy : y ≠ 0) (hp : pc + 1 = pc') : Rch p l e R s m args below meth c S0 n0 k n h pc' Ls (.int (x % y) :: st) := by
  subst hp; exact X.pure fun T A t kk => by rw [← irem_eq_mod x y] at kk; exact XS.irem (g := mkF m pc Ls _) A C.1 rfl (hb C.2.2.2.1 hd) rfl hy kk
theorem Rch.lrem {x y : Int64} (X : Rch p l e R s m args below meth c S0 n0 k n h pc Ls (.long y :: .long x :: st)) (C : Ctx p s m meth c Z a0 tb own bytes ml nm ret) (hd : decode bytes pc = .ok (.lrem, 1)) (hy : y ≠ 0) (hp : pc + 1 = pc') : Rch p l e R s m args below meth c S0 n0 k n h pc' Ls (.long (x % y) :: st) := by
  subst hp; exact X.pure fun T A t kk => by rw [← lrem_mod x y] at kk; exact XS.lrem (g := mkF m pc Ls _) A C.1 rfl (hb C.2.2.2.1 hd) rfl hy kk
theorem Rch.ineg {x : Int32} (X : Rch p l e R s m args below meth c S0 n0 k n h pc Ls (.int x :: st)) (C : Ctx p s m meth c Z a0 tb own bytes ml nm ret) (hd : decode bytes pc = .ok (.ineg, 1)) (hp : pc + 1 = pc') : Rch p l e R s m args below meth c S0 n0 k n h pc' Ls (.int (-x) :: st) := by
  subst hp; exact X.pure fun T A t kk => XS.ineg (g := mkF m pc Ls _) A C.1 rfl (hb C.2.2.2.1 hd) rfl kk
theorem Rch.lneg {x : Int64} (X : Rch p l e R s m args below meth c S0 n0 k n h pc Ls (.long x :: st)) (C : Ctx p s m meth c Z a0 tb own bytes ml nm ret) (hd : decode bytes pc = .ok (.lneg, 1)) (hp : pc + 1 = pc') : Rch p l e R s m args below meth c S0 n0 k n h pc' Ls (.long (-x) :: st) := by
  subst hp; exact X.pure fun T A t kk => XS.lneg (g := mkF m pc Ls _) A C.1 rfl (hb C.2.2.2.1 hd) rfl kk
theorem Rch.i2l {x : Int32} (X : Rch p l e R s m args below meth c S0 n0 k n h pc Ls (.int x :: st)) (C : Ctx p s m meth c Z a0 tb own bytes ml nm ret) (hd : decode bytes pc = .ok (.i2l, 1)) (hp : pc + 1 = pc') : Rch p l e R s m args below meth c S0 n0 k n h pc' Ls (.long x.toInt64 :: st) := by
  subst hp; exact X.pure fun T A t kk => XS.i2l (g := mkF m pc Ls _) A C.1 rfl (hb C.2.2.2.1 hd) rfl kk
theorem Rch.l2i {x : Int64} (X : Rch p l e R s m args below meth c S0 n0 k n h pc Ls (.long x :: st)) (C : Ctx p s m meth c Z a0 tb own bytes ml nm ret) (hd : decode bytes pc = .ok (.l2i, 1)) (hp : pc + 1 = pc') : Rch p l e R s m args below meth c S0 n0 k n h pc' Ls (.int x.toInt32 :: st) := by
  subst hp; exact X.pure fun T A t kk => XS.l2i (g := mkF m pc Ls _) A C.1 rfl (hb C.2.2.2.1 hd) rfl kk
theorem Rch.lcmp {x y : Int64} (X : Rch p l e R s m args below meth c S0 n0 k n h pc Ls (.long y :: .long x :: st)) (C : Ctx p s m meth c Z a0 tb own bytes ml nm ret) (hd : decode bytes pc = .ok (.lcmp, 1)) (hp : pc + 1 = pc') : Rch p l e R s m args below meth c S0 n0 k n h pc' Ls (.int (lcmpW x y) :: st) := by
  subst hp; exact X.pure fun T A t kk => XS.lcmp (g := mkF m pc Ls _) A C.1 rfl (hb C.2.2.2.1 hd) rfl kk
theorem Rch.iinc {i : Nat} {d : Int} {x v : Int32} (X : Rch p l e R s m args below meth c S0 n0 k n h pc Ls st) (C : Ctx p s m meth c Z a0 tb own bytes ml nm ret) (hd : decode bytes pc = .ok (.iinc i d, 3)) (hl : Ls[i]? = some (.val (.int x))) (hv : x + Int32.ofInt d = v) (hl' : storeLocals Ls i (.int v) = some Ls') (hp : pc + 3 = pc') : Rch p l e R s m args below meth c S0 n0 k n h pc' Ls' st := by
  subst hp; exact X.pure fun T A t kk => by subst hv; exact XS.iinc (g := mkF m pc Ls _) A C.1 rfl (hb C.2.2.2.1 hd) hl hl' kk
theorem Rch.dup {v : Value} (X : Rch p l e R s m args below meth c S0 n0 k n h pc Ls (v :: st)) (C : Ctx p s m meth c Z a0 tb own bytes ml nm ret) (hd : decode bytes pc = .ok (.dup, 1)) (hv : v.category = 1) (hp : pc + 1 = pc') : Rch p l e R s m args below meth c S0 n0 k n h pc' Ls (v :: v :: st) := by
  subst hp; exact X.pure fun T A t kk => XS.dup (g := mkF m pc Ls _) A C.1 rfl (hb C.2.2.2.1 hd) rfl hv kk
theorem Rch.pop {v : Value} (X : Rch p l e R s m args below meth c S0 n0 k n h pc Ls (v :: st)) (C : Ctx p s m meth c Z a0 tb own bytes ml nm ret) (hd : decode bytes pc = .ok (.pop, 1)) (hv : v.category = 1) (hp : pc + 1 = pc') : Rch p l e R s m args below meth c S0 n0 k n h pc' Ls st := by
  subst hp; exact X.pure fun T A t kk => XS.pop (g := mkF m pc Ls _) A C.1 rfl (hb C.2.2.2.1 hd) rfl hv kk
theorem Rch.dupX1 {v u : Value} (X : Rch p l e R s m args below meth c S0 n0 k n h pc Ls (v :: u :: st)) (C : Ctx p s m meth c Z a0 tb own bytes ml nm ret) (hd : decode bytes pc = .ok (.dup_x1, 1)) (hv : v.category = 1) (hu : u.category = 1) (hp : pc + 1 = pc') : Rch p l e R s m args below meth c S0 n0 k n h pc' Ls (v :: u :: v :: st) := by
  subst hp; exact X.pure fun T A t kk => XS.dupX1 (g := mkF m pc Ls _) A C.1 rfl (hb C.2.2.2.1 hd) rfl hv hu kk
theorem Rch.dup2 {v u : Value} (X : Rch p l e R s m args below meth c S0 n0 k n h pc Ls (v :: u :: st)) (C : Ctx p s m meth c Z a0 tb own bytes ml nm ret) (hd : decode bytes pc = .ok (.dup2, 1)) (hv : v.category = 1) (hu : u.category = 1) (hp : pc + 1 = pc') : Rch p l e R s m args below meth c S0 n0 k n h pc' Ls (v :: u :: v :: u :: st) := by
  subst hp; exact X.pure fun T A t kk => XT.dup2 (g := mkF m pc Ls _) A C.1 rfl (hb C.2.2.2.1 hd) rfl hv hu kk
theorem toNat_of {pc pc' : Nat} {o : Int} (hq : (pc : Int) + o = (pc' : Int)) : 0 ≤ (pc : Int) + o ∧ ((pc : Int) + o).toNat = pc' := by rw [hq]; exact ⟨Int.natCast_nonneg _, Int.toNat_natCast _⟩
theorem Rch.goto (X : Rch p l e R s m args below meth c S0 n0 k n h pc Ls st) (C : Ctx p s m meth c Z a0 tb own bytes ml nm ret) {o : Int} (hd : decode bytes pc = .ok (.goto o, 3)) (hq : (pc : Int) + o = (pc' : Int)) : Rch p l e R s m args below meth c S0 n0 k n h pc' Ls st :=
  X.pure fun T A t kk => XS.goto (g := mkF m pc Ls _) A C.1 rfl rfl (hb C.2.2.2.1 hd) (toNat_of hq).1 (toNat_of hq).2 kk
theorem Rch.ifY {cd : ClassFile.Cond} {x : Int32} (X : Rch p l e R s m args below meth c S0 n0 k n h pc Ls (.int x :: st)) (C : Ctx p s m meth c Z a0 tb own bytes ml nm ret) {o : Int} (hd : decode bytes pc = .ok (.ifCond cd o, 3)) (hc : ifCond.holds cd x = true) (hq : (pc : Int) + o = (pc' : Int)) : Rch p l e R s m args below meth c S0 n0 k n h pc' Ls st :=
  X.pure fun T A t kk => XS.ifYes (g := mkF m pc Ls _) A C.1 rfl rfl (hb C.2.2.2.1 hd) rfl hc (toNat_of hq).1 (toNat_of hq).2 kk
theorem Rch.ifN {cd : ClassFile.Cond} {x : Int32} (X : Rch p l e R s m args below meth c S0 n0 k n h pc Ls (.int x :: st)) (C : Ctx p s m meth c Z a0 tb own bytes ml nm ret) {o : Int} (hd : decode bytes pc = .ok (.ifCond cd o, 3)) (hc : ifCond.holds cd x = false) (hp : pc + 3 = pc') : Rch p l e R s m args below meth c S0 n0 k n h pc' Ls st := by
  subst hp; exact X.pure fun T A t kk => XS.ifNo (g := mkF m pc Ls _) A C.1 rfl (hb C.2.2.2.1 hd) rfl hc kk
theorem Rch.icmpY {cd : ClassFile.Cond} {x y : Int32} (X : Rch p l e R s m args below meth c S0 n0 k n h pc Ls (.int y :: .int x :: st)) (C : Ctx p s m meth c Z a0 tb own bytes ml nm ret) {o : Int} (hd : decode bytes pc = .ok (.if_icmp cd o, 3)) (hc : if_icmp.holds cd x y = true) (hq : (pc : Int) + o = (pc' : Int)) : Rch p l e R s m args below meth c S0 n0 k n h pc' Ls st :=
  X.pure fun T A t kk => XS.icmpYes (g := mkF m pc Ls _) A C.1 rfl rfl (hb C.2.2.2.1 hd) rfl hc (toNat_of hq).1 (toNat_of hq).2 kk
theorem Rch.icmpN {cd : ClassFile.Cond} {x y : Int32} (X : Rch p l e R s m args below meth c S0 n0 k n h pc Ls (.int y :: .int x :: st)) (C : Ctx p s m meth c Z a0 tb own bytes ml nm ret) {o : Int} (hd : decode bytes pc = .ok (.if_icmp cd o, 3)) (hc : if_icmp.holds cd x y = false) (hp : pc + 3 = pc') : Rch p l e R s m args below meth c S0 n0 k n h pc' Ls st := by
  subst hp; exact X.pure fun T A t kk => XS.icmpNo (g := mkF m pc Ls _) A C.1 rfl (hb C.2.2.2.1 hd) rfl hc kk
theorem Rch.acmpY {cd : ClassFile.ACond} {x y : Addr} (X : Rch p l e R s m args below meth c S0 n0 k n h pc Ls (.ref y :: .ref x :: st)) (C : Ctx p s m meth c Z a0 tb own bytes ml nm ret) {o : Int} (hd : decode bytes pc = .ok (.if_acmp cd o, 3)) (hc : if_acmp.holds cd (some x) (some y) = true) (hq : (pc : Int) + o = (pc' : Int)) : Rch p l e R s m args below meth c S0 n0 k n h pc' Ls st :=
  X.pure fun T A t kk => XS.acmpYes (g := mkF m pc Ls _) A C.1 rfl rfl (hb C.2.2.2.1 hd) rfl hc (toNat_of hq).1 (toNat_of hq).2 kk
/-- 'if.. else 1 : 0' -/
theorem Rch.dia {cd : ClassFile.Cond} {x : Int32} {b : Bool} (X : Rch p l e R s m args below meth c S0 n0 k n h pc Ls (.int x :: st)) (C : Ctx p s m meth c Z a0 tb own bytes ml nm ret) (hd : decode bytes pc = .ok (.ifCond cd 7, 3)) (hd1 : decode bytes (pc + 3) = .ok (.iconst 1, 1)) (hd2 : decode bytes (pc + 4) = .ok (.goto 4, 3)) (hd3 : decode bytes (pc + 7) = .ok (.iconst 0, 1)) (hc : ifCond.holds cd x = !b) (hp : pc + 8 = pc') : Rch p l e R s m args below meth c S0 n0 k n h pc' Ls (.int (own_b b) :: st) := by
  subst hp
  cases b with
  | false => exact ((X.ifY C hd hc (pc' := pc + 7) (by omega)).iconst C hd3 (v := 0) rfl rfl)
  | true => exact (((X.ifN C hd hc rfl).iconst C hd1 (v := 1) rfl rfl).goto C hd2 (by omega))
theorem Rch.diac {cd : ClassFile.Cond} {x y : Int32} {b : Bool} (X : Rch p l e R s m args below meth c S0 n0 k n h pc Ls (.int y :: .int x :: st)) (C : Ctx p s m meth c Z a0 tb own bytes ml nm ret) (hd : decode bytes pc = .ok (.if_icmp cd 7, 3)) (hd1 : decode bytes (pc + 3) = .ok (.iconst 1, 1)) (hd2 : decode bytes (pc + 4) = .ok (.goto 4, 3)) (hd3 : decode bytes (pc + 7) = .ok (.iconst 0, 1)) (hc : if_icmp.holds cd x y = !b) (hp : pc + 8 = pc') : Rch p l e R s m args below meth c S0 n0 k n h pc' Ls (.int (own_b b) :: st) := by
  subst hp
  cases b with
  | false => exact ((X.icmpY C hd hc (pc' := pc + 7) (by omega)).iconst C hd3 (v := 0) rfl rfl)
  | true => exact (((X.icmpN C hd hc rfl).iconst C hd1 (v := 1) rfl rfl).goto C hd2 (by omega))
theorem Rch.ldcI (X : Rch p l e R s m args below meth c S0 n0 k n h pc Ls st) (C : Ctx p s m meth c Z a0 tb own bytes ml nm ret) {i : Nat} {v : Int32} (wc : (Jvm.Cond.constant own i v).before a0 Z = true) (hd : decode bytes pc = .ok (.ldc i, 2)) (hp : pc + 2 = pc') : Rch p l e R s m args below meth c S0 n0 k n h pc' Ls (.int v :: st) := by
  subst hp
  obtain ⟨T, locs, Y, eT, N, z, q⟩ := X
  exact ⟨T, locs, Y, eT, N, z, fun t kk => q t (Y.ldcInt C.1 C.2.2.2.2.2.1 (mvT C.2.1 wc) (g := mkF m pc Ls st) rfl (hb C.2.2.2.1 hd) t kk)⟩
theorem Rch.ldcJ (X : Rch p l e R s m args below meth c S0 n0 k n h pc Ls st) (C : Ctx p s m meth c Z a0 tb own bytes ml nm ret) {i : Nat} {v : Int64} (wc : (Jvm.Cond.constantLong own i v).before a0 Z = true) (hd : decode bytes pc = .ok (.ldc2_w i, 3)) (hp : pc + 3 = pc') : Rch p l e R s m args below meth c S0 n0 k n h pc' Ls (.long v :: st) := by
  subst hp
  obtain ⟨T, locs, Y, eT, N, z, q⟩ := X
  exact ⟨T, locs, Y, eT, N, z, fun t kk => q t (Y.ldc2Long C.1 C.2.2.2.2.2.1 (mvT C.2.1 wc) (g := mkF m pc Ls st) rfl (hb C.2.2.2.1 hd) t kk)⟩
theorem Rch.getF {O f d : String} {i : Nat} {a : Addr} {v : Value} (X : Rch p l e R s m args below meth c S0 n0 k n h pc Ls (.ref a :: st)) (C : Ctx p s m meth c Z a0 tb own bytes ml nm ret) (wl : (Jvm.Cond.fieldLink own i O f d).before a0 Z = true) (F : Fld Z h a O f d v) (hd : decode bytes pc = .ok (.getfield i, 3)) (hp : pc + 3 = pc') : Rch p l e R s m args below meth c S0 n0 k n h pc' Ls (v :: st) := by
  subst hp
  obtain ⟨T, locs, Y, eT, N, z, q⟩ := X
  obtain ⟨T', Y', e', st'⟩ := Jvm.RoadKit.getF Y C.1 C.2.1 C.2.2.2.2.2.1 (host := "") (Or.inl wl) Via.refl eT F (g := mkF m pc Ls (.ref a :: st)) rfl rfl (hb C.2.2.2.1 hd)
  exact ⟨T', locs, Y', e', N, z, fun t kk => q t (st' t kk)⟩
theorem Rch.getFv {R0 O f d host : String} {i : Nat} {a : Addr} {v : Value} (X : Rch p l e R s m args below meth c S0 n0 k n h pc Ls (.ref a :: st)) (C : Ctx p s m meth c Z a0 tb own bytes ml nm ret) (wl : (Jvm.Cond.fieldLink own i R0 f d).before a0 Z = true ∨ (Jvm.Cond.fieldLinkNest own i R0 f d host).before a0 Z = true) (via : Via Z R0 O f d) (F : Fld Z h a O f d v) (hd : decode bytes pc = .ok (.getfield i, 3)) (hp : pc + 3 = pc') : Rch p l e R s m args below meth c S0 n0 k n h pc' Ls (v :: st) := by
  subst hp
  obtain ⟨T, locs, Y, eT, N, z, q⟩ := X
  obtain ⟨T', Y', e', st'⟩ := Jvm.RoadKit.getF Y C.1 C.2.1 C.2.2.2.2.2.1 (host := host) wl via eT F (g := mkF m pc Ls (.ref a :: st)) rfl rfl (hb C.2.2.2.1 hd)
  exact ⟨T', locs, Y', e', N, z, fun t kk => q t (st' t kk)⟩
theorem Rch.getS {O f d : String} {i : Nat} {v : Value} (X : Rch p l e R s m args below meth c S0 n0 k n h pc Ls st) (C : Ctx p s m meth c Z a0 tb own bytes ml nm ret) (wl : (Jvm.Cond.fieldLink own i O f d).before a0 Z = true) (F : Sta Z h O f d v) (hd : decode bytes pc = .ok (.getstatic i, 3)) (hp : pc + 3 = pc') : Rch p l e R s m args below meth c S0 n0 k n h pc' Ls (v :: st) := by
  subst hp
  obtain ⟨T, locs, Y, eT, N, z, q⟩ := X
  obtain ⟨T', Y', e', st'⟩ := Jvm.RoadKit.getS Y C.1 C.2.1 C.2.2.2.2.2.1 (host := "") wl Via.refl eT F (g := mkF m pc Ls st) rfl (hb C.2.2.2.1 hd)
  exact ⟨T', locs, Y', e', N, z, fun t kk => q t (st' t kk)⟩
theorem Rch.putFv {R0 O f d K : String} {i kk : Nat} {a : Addr} {v v' old : Value} {ty : FieldType} (X : Rch p l e R s m args below meth c S0 n0 k n h pc Ls (v :: .ref a :: st)) (C : Ctx p s m meth c Z a0 tb own bytes ml nm ret) (wl : (Jvm.Cond.fieldLink own i R0 f d).before a0 Z = true) (via : Via Z R0 O f d) (F : Fld Z h a O f d old) (E : Exa Z h a K) (L : (Jvm.Cond.lays K O f d).before a0 Z = true ∨ ((Jvm.Cond.laysFinal K O f d).before a0 Z = true ∧ own = O ∧ nm = "<init>")) (wi : (Jvm.Cond.instantiable K kk).before a0 Z = true) (hty : parseFieldDescriptor d = some ty) (hn : narrow ty v = v') (hf : fits ty v' = true) (ga : n0 ≤ a) (hd : decode bytes pc = .ok (.putfield i, 3)) (hp : pc + 3 = pc') :
    ∃ h', Rch p l e R s m args below meth c S0 n0 k n h' pc' Ls st ∧ Wr h h' a (Jvm.RoadKit.slotOf Z O f d) v' := by
  subst hp
  obtain ⟨T, locs, Y, eT, N, z, q⟩ := X
  obtain ⟨T', h', Y', e', W, st'⟩ := Jvm.RoadKit.putFN Y C.1 C.2.1 C.2.2.2.2.2.1 wl via eT F E (L.imp id fun x => ⟨x.1, x.2.1, C.2.2.2.2.2.2.1.trans x.2.2⟩) wi hty hn hf (g := mkF m pc Ls (v :: .ref a :: st)) rfl rfl (hb C.2.2.2.1 hd)
  exact ⟨h', ⟨T', _, Y', e', Fr.snoc Y' N ga, z, fun t kk => q t (st' t kk)⟩, W⟩
theorem Rch.newO {K : String} {i sl : Nat} (X : Rch p l e R s m args below meth c S0 n0 k n h pc Ls st) (C : Ctx p s m meth c Z a0 tb own bytes ml nm ret) (wl : (Jvm.Cond.classLink own i K).before a0 Z = true) (wi : (Jvm.Cond.instantiable K sl).before a0 Z = true) (wz : (Jvm.Cond.initialized K).before a0 Z = true) (hd : decode bytes pc = .ok (.new i, 3)) (hk : k + 1 ≤ R.cells) (hn : n + sl ≤ R.slots) (hp : pc + 3 = pc') :
    ∃ h', Rch p l e R s m args below meth c S0 n0 (k + 1) (n + sl) h' pc' Ls (.ref h.size :: st) ∧ Ext h h' ∧ Exa Z h' h.size K ∧ (∀ {O f d : String} {ty : FieldType}, Laid Z a0 K O f d → parseFieldDescriptor d = some ty → Fld Z h' h.size O f d (defaultValue ty)) := by
  subst hp
  obtain ⟨T, locs, Y, eT, N, z, q⟩ := X
  obtain ⟨T', h', Y', e', E, A, D, -, st'⟩ := Jvm.RoadKit.newO Y C.1 C.2.1 C.2.2.2.2.2.1 wl wi wz eT (g := mkF m pc Ls st) rfl (hb C.2.2.2.1 hd) hk hn
  exact ⟨h', ⟨T', _, Y', e', N, z, fun t kk => q t (st' t kk)⟩, E, A, D⟩
theorem Rch.initO {i W : Nat} {a : Addr} (X : Rch p l e R s m args below meth c S0 n0 k n h pc Ls (.ref a :: st)) (C : Ctx p s m meth c Z a0 tb own bytes ml nm ret) (w1 : (Jvm.Cond.methodLink own i Lib.objectInit).before a0 Z = true) (w2 : (Jvm.Cond.instanceMethod Lib.objectInit).before a0 Z = true) (w3 : (Jvm.Cond.code Lib.objectInit ⟨#[0xb1]⟩ 1 none).before a0 Z = true) (hsz : Ls.size = ml) (hd : decode bytes pc = .ok (.invokespecial i, 3)) (hf : 1 ≤ R.frames) (hW : (st.map fun v => v.category).sum ≤ W) (hl : W + 12 ≤ R.locals) (hp : pc + 3 = pc') : Rch p l e R s m args below meth c S0 n0 k n h pc' Ls st := by
  subst hp
  obtain ⟨T, locs, Y, eT, N, z, q⟩ := X
  obtain ⟨T', Y', e', st'⟩ := Jvm.RoadKit.initO Y C.1 C.2.1 C.2.2.2.2.2.1 w1 w2 w3 eT (g := mkF m pc Ls (.ref a :: st)) rfl (hsz.trans C.2.2.2.2.1.symm) rfl (hb C.2.2.2.1 hd) hf (W := W) (by show 2 * 0 + _ ≤ _; omega) hl
  exact ⟨T', _, Y', e', N, z, fun t kk => q t (st' t kk)⟩
/-- an array: its kind, its length, what its places hold -/
def Ary (Z : State) (h : Heap) (a : Addr) (ty : FieldType) (N : Nat) (f : Nat → Value) : Prop := ∃ cl : Cell, Arr Z h a cl ty ∧ cl.slots.size = N ∧ N < 2 ^ 31 ∧ ∀ i, i < N → cl.slots[i]? = some (f i)
def updN {α : Type} (f : Nat → α) (i : Nat) (v : α) : Nat → α := fun j => if j = i then v else f j
section Arrays
variable {h' : Heap} {a b : Addr} {ty : FieldType} {N i sl : Nat} {f g : Nat → Value} {v w : Value} {ws : List Addr}
theorem Ary.lt (A : Ary Z h a ty N f) : a < h.size := by obtain ⟨_, A, -⟩ := A; exact A.lt
theorem Ary.ext (A : Ary Z h a ty N f) (E : Ext h h') : Ary Z h' a ty N f := by obtain ⟨cl, A, r⟩ := A; exact ⟨cl, A.ext E, r⟩
theorem Ary.other (A : Ary Z h b ty N f) (W : Wr h h' a sl v) (q : b ≠ a) : Ary Z h' b ty N f := by obtain ⟨cl, A, r⟩ := A; exact ⟨cl, A.other W q, r⟩
theorem Ary.keep (A : Ary Z h a ty N f) (K : Keep h h' ws) (q : a ∉ ws) : Ary Z h' a ty N f := by obtain ⟨cl, A, r⟩ := A; exact ⟨cl, ⟨K.2.1 a cl A.1 q, A.2⟩, r⟩
theorem Ary.set (A : Ary Z h a ty N f) (W : Wr h h' a i v) : Ary Z h' a ty N (updN f i v) := by
  obtain ⟨cl, A, S, L, H⟩ := A
  refine ⟨_, A.same W, by rw [sz_set]; exact S, L, fun j hj => ?_⟩
  unfold updN
  by_cases q : j = i
  · subst q; simp [Cell.setSlot, S, hj]
  · simp only [Cell.setSlot, q, if_false]; rw [Array.getElem?_setIfInBounds_ne (Ne.symm q)]; exact H j hj
theorem Ary.of (A : Ary Z h a ty N f) (q : ∀ i, i < N → f i = g i) : Ary Z h a ty N g := by obtain ⟨cl, A, S, L, H⟩ := A; exact ⟨cl, A, S, L, fun i hi => by rw [← q i hi]; exact H i hi⟩
theorem idx_nat {j : Int32} {i : Nat} (hj : j.toInt = (i : Int)) : j.toNatClampNeg = i := by simp only [Int32.toNatClampNeg, hj]; rfl
theorem idx_ok {j : Int32} {i : Nat} {cl : Cell} (hj : j.toInt = (i : Int)) (hi : i < N) (S : cl.slots.size = N) : ¬ (j < 0 ∨ cl.slots.size ≤ j.toNatClampNeg) := by
  rw [idx_nat hj, S, Int32.lt_iff_toInt_lt, hj]
  have : (0 : Int32).toInt = 0 := rfl
  omega
theorem Rch.alen (X : Rch p l e R s m args below meth c S0 n0 k n h pc Ls (.ref a :: st)) (C : Ctx p s m meth c Z a0 tb own bytes ml nm ret) (A : Ary Z h a ty N f) {v : Int32} (hv : N.toInt32 = v) (hd : decode bytes pc = .ok (.arraylength, 1)) (hp : pc + 1 = pc') : Rch p l e R s m args below meth c S0 n0 k n h pc' Ls (.int v :: st) := by
  subst hp hv
  obtain ⟨T, locs, Y, eT, N, z, q⟩ := X
  obtain ⟨cl, A, rfl, L, H⟩ := A
  exact ⟨T, locs, Y, eT, N, z, fun t kk => q t (Y.arraylength C.1 (by rw [eT]; exact A.1) (State.isArrayOf_alike C.2.1.alike A.2.1) (g := mkF m pc Ls (.ref a :: st)) rfl rfl (hb C.2.2.2.1 hd) t kk)⟩
theorem Rch.laload {j : Int32} (X : Rch p l e R s m args below meth c S0 n0 k n h pc Ls (.int j :: .ref a :: st)) (C : Ctx p s m meth c Z a0 tb own bytes ml nm ret) (A : Ary Z h a .long N f) (hj : j.toInt = (i : Int)) (hi : i < N) (hv : f i = v) (hd : decode bytes pc = .ok (.laload, 1)) (hp : pc + 1 = pc') : Rch p l e R s m args below meth c S0 n0 k n h pc' Ls (v :: st) := by
  subst hp hv
  obtain ⟨T, locs, Y, eT, N, z, q⟩ := X
  obtain ⟨cl, A, S, L, H⟩ := A
  exact ⟨T, locs, Y, eT, N, z, fun t kk => q t (Y.laload C.1 (by rw [eT]; exact A.1) (State.isArrayOf_alike C.2.1.alike A.2.1) A.2.2 (idx_ok hj hi S) (by rw [idx_nat hj]; exact H i hi) (g := mkF m pc Ls (.int j :: .ref a :: st)) rfl rfl (hb C.2.2.2.1 hd) t kk)⟩
theorem Rch.iaload {j : Int32} (X : Rch p l e R s m args below meth c S0 n0 k n h pc Ls (.int j :: .ref a :: st)) (C : Ctx p s m meth c Z a0 tb own bytes ml nm ret) (A : Ary Z h a .int N f) (hj : j.toInt = (i : Int)) (hi : i < N) (hv : f i = v) (hd : decode bytes pc = .ok (.iaload, 1)) (hp : pc + 1 = pc') : Rch p l e R s m args below meth c S0 n0 k n h pc' Ls (v :: st) := by
  subst hp hv
  obtain ⟨T, locs, Y, eT, N, z, q⟩ := X
  obtain ⟨cl, A, S, L, H⟩ := A
  exact ⟨T, locs, Y, eT, N, z, fun t kk => q t (Y.iaload C.1 (by rw [eT]; exact A.1) (State.isArrayOf_alike C.2.1.alike A.2.1) A.2.2 (idx_ok hj hi S) (by rw [idx_nat hj]; exact H i hi) (g := mkF m pc Ls (.int j :: .ref a :: st)) rfl rfl (hb C.2.2.2.1 hd) t kk)⟩
theorem Rch.baload {j : Int32} (X : Rch p l e R s m args below meth c S0 n0 k n h pc Ls (.int j :: .ref a :: st)) (C : Ctx p s m meth c Z a0 tb own bytes ml nm ret) (A : Ary Z h a .boolean N f) (hj : j.toInt = (i : Int)) (hi : i < N) (hv : f i = v) (hd : decode bytes pc = .ok (.baload, 1)) (hp : pc + 1 = pc') : Rch p l e R s m args below meth c S0 n0 k n h pc' Ls (v :: st) := by
  subst hp hv
  obtain ⟨T, locs, Y, eT, N, z, q⟩ := X
  obtain ⟨cl, A, S, L, H⟩ := A
  exact ⟨T, locs, Y, eT, N, z, fun t kk => q t (Y.baloadBooleans C.1 (by rw [eT]; exact A.1) (State.isArrayOf_alike C.2.1.alike A.2.1) A.2.2 (idx_ok hj hi S) (by rw [idx_nat hj]; exact H i hi) (g := mkF m pc Ls (.int j :: .ref a :: st)) rfl rfl (hb C.2.2.2.1 hd) t kk)⟩
theorem Rch.daload {j : Int32} (X : Rch p l e R s m args below meth c S0 n0 k n h pc Ls (.int j :: .ref a :: st)) (C : Ctx p s m meth c Z a0 tb own bytes ml nm ret) (A : Ary Z h a .double N f) (hj : j.toInt = (i : Int)) (hi : i < N) (hv : f i = v) (hd : decode bytes pc = .ok (.daload, 1)) (hp : pc + 1 = pc') : Rch p l e R s m args below meth c S0 n0 k n h pc' Ls (v :: st) := by
  subst hp hv
  obtain ⟨T, locs, Y, eT, N, z, q⟩ := X
  obtain ⟨cl, A, S, L, H⟩ := A
  exact ⟨T, locs, Y, eT, N, z, fun t kk => q t (Y.daload C.1 (by rw [eT]; exact A.1) (State.isArrayOf_alike C.2.1.alike A.2.1) A.2.2 (idx_ok hj hi S) (by rw [idx_nat hj]; exact H i hi) (g := mkF m pc Ls (.int j :: .ref a :: st)) rfl rfl (hb C.2.2.2.1 hd) t kk)⟩
theorem Rch.aaload {j : Int32} (X : Rch p l e R s m args below meth c S0 n0 k n h pc Ls (.int j :: .ref a :: st)) (C : Ctx p s m meth c Z a0 tb own bytes ml nm ret) (A : Ary Z h a ty N f) (hty : ty.isReference = true) (hj : j.toInt = (i : Int)) (hi : i < N) (hv : f i = v) (hd : decode bytes pc = .ok (.aaload, 1)) (hp : pc + 1 = pc') : Rch p l e R s m args below meth c S0 n0 k n h pc' Ls (v :: st) := by
  subst hp hv
  obtain ⟨T, locs, Y, eT, N, z, q⟩ := X
  obtain ⟨cl, A, S, L, H⟩ := A
  exact ⟨T, locs, Y, eT, N, z, fun t kk => q t (Y.aaload C.1 (by rw [eT]; exact A.1) (State.isArrayOf_alike C.2.1.alike A.2.1) hty A.2.2 (idx_ok hj hi S) (by rw [idx_nat hj]; exact H i hi) (g := mkF m pc Ls (.int j :: .ref a :: st)) rfl rfl (hb C.2.2.2.1 hd) t kk)⟩
theorem Rch.lastore {j : Int32} {x : Int64} (X : Rch p l e R s m args below meth c S0 n0 k n h pc Ls (.long x :: .int j :: .ref a :: st)) (C : Ctx p s m meth c Z a0 tb own bytes ml nm ret) (A : Ary Z h a .long N f) (hj : j.toInt = (i : Int)) (hi : i < N) (ga : n0 ≤ a) (hd : decode bytes pc = .ok (.lastore, 1)) (hp : pc + 1 = pc') :
    ∃ h', Rch p l e R s m args below meth c S0 n0 k n h' pc' Ls st ∧ Wr h h' a i (.long x) := by
  subst hp
  obtain ⟨T, locs, Y, eT, N, z, q⟩ := X
  obtain ⟨cl, A, S, L, H⟩ := A
  obtain ⟨T', h', Y', e', W, st'⟩ := stJ Y C.1 C.2.1 eT A (idx_ok hj hi S) (g := mkF m pc Ls (.long x :: .int j :: .ref a :: st)) rfl rfl (hb C.2.2.2.1 hd)
  rw [idx_nat hj] at W
  exact ⟨h', ⟨T', _, Y', e', Fr.snoc Y' N ga, z, fun t kk => q t (st' t kk)⟩, W⟩
theorem Rch.iastore {j : Int32} {x : Int32} (X : Rch p l e R s m args below meth c S0 n0 k n h pc Ls (.int x :: .int j :: .ref a :: st)) (C : Ctx p s m meth c Z a0 tb own bytes ml nm ret) (A : Ary Z h a .int N f) (hj : j.toInt = (i : Int)) (hi : i < N) (ga : n0 ≤ a) (hd : decode bytes pc = .ok (.iastore, 1)) (hp : pc + 1 = pc') :
    ∃ h', Rch p l e R s m args below meth c S0 n0 k n h' pc' Ls st ∧ Wr h h' a i (.int x) := by
  subst hp
  obtain ⟨T, locs, Y, eT, N, z, q⟩ := X
  obtain ⟨cl, A, S, L, H⟩ := A
  obtain ⟨T', h', Y', e', W, st'⟩ := stI Y C.1 C.2.1 eT A (idx_ok hj hi S) (g := mkF m pc Ls (.int x :: .int j :: .ref a :: st)) rfl rfl (hb C.2.2.2.1 hd)
  rw [idx_nat hj] at W
  exact ⟨h', ⟨T', _, Y', e', Fr.snoc Y' N ga, z, fun t kk => q t (st' t kk)⟩, W⟩
theorem Rch.dastore {j : Int32} {x : UInt64} (X : Rch p l e R s m args below meth c S0 n0 k n h pc Ls (.double x :: .int j :: .ref a :: st)) (C : Ctx p s m meth c Z a0 tb own bytes ml nm ret) (A : Ary Z h a .double N f) (hj : j.toInt = (i : Int)) (hi : i < N) (ga : n0 ≤ a) (hd : decode bytes pc = .ok (.dastore, 1)) (hp : pc + 1 = pc') :
    ∃ h', Rch p l e R s m args below meth c S0 n0 k n h' pc' Ls st ∧ Wr h h' a i (.double x) := by
  subst hp
  obtain ⟨T, locs, Y, eT, N, z, q⟩ := X
  obtain ⟨cl, A, S, L, H⟩ := A
  obtain ⟨T', h', Y', e', W, st'⟩ := stD Y C.1 C.2.1 eT A (idx_ok hj hi S) (g := mkF m pc Ls (.double x :: .int j :: .ref a :: st)) rfl rfl (hb C.2.2.2.1 hd)
  rw [idx_nat hj] at W
  exact ⟨h', ⟨T', _, Y', e', Fr.snoc Y' N ga, z, fun t kk => q t (st' t kk)⟩, W⟩
theorem nar_b (b : Bool) : nar .boolean (own_b b) = own_b b := by cases b <;> decide
theorem Rch.zastore {j : Int32} {b : Bool} (X : Rch p l e R s m args below meth c S0 n0 k n h pc Ls (.int (own_b b) :: .int j :: .ref a :: st)) (C : Ctx p s m meth c Z a0 tb own bytes ml nm ret) (A : Ary Z h a .boolean N f) (hj : j.toInt = (i : Int)) (hi : i < N) (ga : n0 ≤ a) (hd : decode bytes pc = .ok (.bastore, 1)) (hp : pc + 1 = pc') :
    ∃ h', Rch p l e R s m args below meth c S0 n0 k n h' pc' Ls st ∧ Wr h h' a i (.int (own_b b)) := by
  subst hp
  obtain ⟨T, locs, Y, eT, N, z, q⟩ := X
  obtain ⟨cl, A, S, L, H⟩ := A
  obtain ⟨T', h', Y', e', W, st'⟩ := stZ Y C.1 C.2.1 eT A (idx_ok hj hi S) (g := mkF m pc Ls (.int (own_b b) :: .int j :: .ref a :: st)) rfl rfl (hb C.2.2.2.1 hd)
  rw [idx_nat hj, nar_b] at W
  exact ⟨h', ⟨T', _, Y', e', Fr.snoc Y' N ga, z, fun t kk => q t (st' t kk)⟩, W⟩
theorem Rch.newA {aty : ArrayType} {j : Int32} {cap : Nat} {ad : String} (X : Rch p l e R s m args below meth c S0 n0 k n h pc Ls (.int j :: st)) (C : Ctx p s m meth c Z a0 tb own bytes ml nm ret) (wa : (Jvm.Cond.arrayClass (newarray.typeOf aty)).before a0 Z = true) (hj : j.toInt = (N : Int)) (hcap : N ≤ cap) (hcb : cap * 8 ≤ 536870912) (had : "[" ++ (newarray.typeOf aty).toString = ad) (hd : decode bytes pc = .ok (.newarray aty, 2)) (hk : k + 1 ≤ R.cells) (hn : n + cap ≤ R.slots) (hp : pc + 2 = pc') :
    ∃ h', Rch p l e R s m args below meth c S0 n0 (k + 1) (n + cap) h' pc' Ls (.ref h.size :: st) ∧ Ext h h' ∧ Ary Z h' h.size (newarray.typeOf aty) N (fun _ => defaultValue (newarray.typeOf aty)) ∧ Exa Z h' h.size ad := by
  subst hp
  obtain ⟨T, locs, Y, eT, N1, z, q⟩ := X
  have hn0 : ¬ j < 0 := by rw [Int32.lt_iff_toInt_lt, hj]; have : (0 : Int32).toInt = 0 := rfl; omega
  obtain ⟨T', h', cA, Y', e', E, A, Ex, st'⟩ := newPE Y C.1 C.2.1 wa eT (g := mkF m pc Ls (.int j :: st)) rfl (hb C.2.2.2.1 hd) rfl hn0 (by rw [idx_nat hj]; exact hcap) hcb hk hn had
  have hN : N < 2 ^ 31 := by have := Int32.toInt_lt j; omega
  refine ⟨h', ⟨T', _, Y', e', N1, z, fun t kk => q t (st' t kk)⟩, E, ⟨_, A, by rw [sz_new, idx_nat hj], hN, fun i hi => ?_⟩, Ex⟩
  simp [Jvm.RoadKit.newA, idx_nat hj, hi]
theorem Rch.cloneA {i W cap : Nat} {ad : String} (X : Rch p l e R s m args below meth c S0 n0 k n h pc Ls (.ref a :: st)) (C : Ctx p s m meth c Z a0 tb own bytes ml nm ret) (w1 : (Jvm.Cond.methodLink own i ⟨ad, "clone", "()Ljava/lang/Object;"⟩).before a0 Z = true) (w2 : (Jvm.Cond.sameMethod ad "java/lang/Object" "clone" "()Ljava/lang/Object;").before a0 Z = true) (w3 : (Jvm.Cond.native ⟨"java/lang/Object", "clone", "()Ljava/lang/Object;"⟩).before a0 Z = true) (w4 : (Jvm.Cond.instanceMethod ⟨"java/lang/Object", "clone", "()Ljava/lang/Object;"⟩).before a0 Z = true) (w5 : (Jvm.Cond.selects ad ⟨ad, "clone", "()Ljava/lang/Object;"⟩ ⟨"java/lang/Object", "clone", "()Ljava/lang/Object;"⟩).before a0 Z = true) (w6 : (Jvm.Cond.castable ad "java/lang/Cloneable").before a0 Z = true)
    (A : Ary Z h a ty N f) (E : Exa Z h a ad) (hfit : ∀ i, i < N → fits ty (f i) = true) (hsz : Ls.size = ml) (hd : decode bytes pc = .ok (.invokevirtual i, 3)) (hf : 1 ≤ R.frames) (hW : (st.map fun v => v.category).sum ≤ W) (hl : W + 14 ≤ R.locals) (hcap : N ≤ cap) (hk : k + 1 ≤ R.cells) (hn : n + cap ≤ R.slots) (hp : pc + 3 = pc') :
    ∃ h', Rch p l e R s m args below meth c S0 n0 (k + 1) (n + cap) h' pc' Ls (.ref h.size :: st) ∧ Ext h h' ∧ Ary Z h' h.size ty N f ∧ Exa Z h' h.size ad := by
  subst hp
  obtain ⟨T, locs, Y, eT, N1, z, q⟩ := X
  obtain ⟨cl, A, S, L, H⟩ := A
  have FC : FitC Z cl := fitC_of A fun j hj v hv => by rw [S] at hj; rw [H j hj] at hv; cases hv; exact hfit j hj
  obtain ⟨T', h', Y', e', Ex, A', E', st'⟩ := Jvm.RoadKit.cloneA Y C.1 C.2.1 C.2.2.2.2.2.1 w1 w2 w3 w4 w5 w6 eT A E FC (g := mkF m pc Ls (.ref a :: st)) rfl (hsz.trans C.2.2.2.2.1.symm) rfl (hb C.2.2.2.1 hd) hf (W := W) (by show 2 * 0 + _ ≤ _; omega) hl (by rw [S]; exact hcap) hk hn
  exact ⟨h', ⟨T', _, Y', e', N1, z, fun t kk => q t (st' t kk)⟩, Ex, ⟨_, A', S, L, H⟩, E'⟩
/-- what may lie in an array of objects -/
def Orr (Z : State) (h : Heap) (a : Addr) (K : String) : Prop := ∃ cl : Cell, h[a]? = some cl ∧ Ovr Z cl.cls K
theorem Orr.ext {K : String} (O : Orr Z h a K) (E : Ext h h') : Orr Z h' a K := by obtain ⟨cl, q, r⟩ := O; exact ⟨cl, E.2 _ _ q, r⟩
theorem Orr.wr {K : String} (O : Orr Z h a K) (W : Wr h h' b sl v) : Orr Z h' a K := by obtain ⟨cl, q, r⟩ := O; obtain ⟨c', e1, e2, -⟩ := wr_at W q; exact ⟨c', e1, by rw [e2]; exact r⟩
theorem Orr.lt {K : String} (O : Orr Z h a K) : a < h.size := by obtain ⟨cl, q, r⟩ := O; exact (Array.getElem?_eq_some_iff.mp q).1
theorem Orr.sto {K : String} {y : Addr} (O : Orr Z h a K) (A : Ary Z h a ty N f) (I : Ins Z h y K true) : Sto Z h a (.ref y) := by
  obtain ⟨cl, q, r⟩ := O; obtain ⟨cl', A, -⟩ := A; cases q.symm.trans A.1; exact Sto.of A r I
theorem Rch.newR {K : String} {j : Int32} {i cap : Nat} {ad : String} (X : Rch p l e R s m args below meth c S0 n0 k n h pc Ls (.int j :: st)) (C : Ctx p s m meth c Z a0 tb own bytes ml nm ret) (wl : (Jvm.Cond.classLink own i K).before a0 Z = true) (wa : (Jvm.Cond.arrayOver (.object K)).before a0 Z = true) (hj : j.toInt = (N : Int)) (hcap : N ≤ cap) (hcb : cap * 8 ≤ 536870912) (had : "[" ++ (FieldType.object K).toString = ad) (hd : decode bytes pc = .ok (.anewarray i, 3)) (hk : k + 1 ≤ R.cells) (hn : n + cap ≤ R.slots) (hp : pc + 3 = pc') :
    ∃ h', Rch p l e R s m args below meth c S0 n0 (k + 1) (n + cap) h' pc' Ls (.ref h.size :: st) ∧ Ext h h' ∧ Ary Z h' h.size (.object K) N (fun _ => .null) ∧ Exa Z h' h.size ad ∧ Orr Z h' h.size K := by
  subst hp
  obtain ⟨T, locs, Y, eT, N1, z, q⟩ := X
  have hn0 : ¬ j < 0 := by rw [Int32.lt_iff_toInt_lt, hj]; have : (0 : Int32).toInt = 0 := rfl; omega
  obtain ⟨T', h', cA, Y', e', E, A, Ex, O, st'⟩ := newRE Y C.1 C.2.1 C.2.2.2.2.2.1 wl wa eT (g := mkF m pc Ls (.int j :: st)) rfl (hb C.2.2.2.1 hd) rfl hn0 (by rw [idx_nat hj]; exact hcap) hcb hk hn had
  have hN : N < 2 ^ 31 := by have := Int32.toInt_lt j; omega
  refine ⟨h', ⟨T', _, Y', e', N1, z, fun t kk => q t (st' t kk)⟩, E, ⟨_, A, by rw [sz_new, idx_nat hj], hN, fun i hi => ?_⟩, Ex, ⟨_, A.1, O⟩⟩
  simp [Jvm.RoadKit.newA, idx_nat hj, hi, defaultValue]
theorem Rch.aastore {j : Int32} (X : Rch p l e R s m args below meth c S0 n0 k n h pc Ls (v :: .int j :: .ref a :: st)) (C : Ctx p s m meth c Z a0 tb own bytes ml nm ret) (A : Ary Z h a ty N f) (hty : ty.isReference = true) (F : Sto Z h a v) (hj : j.toInt = (i : Int)) (hi : i < N) (ga : n0 ≤ a) (hd : decode bytes pc = .ok (.aastore, 1)) (hp : pc + 1 = pc') :
    ∃ h', Rch p l e R s m args below meth c S0 n0 k n h' pc' Ls st ∧ Wr h h' a i v := by
  subst hp
  obtain ⟨T, locs, Y, eT, N, z, q⟩ := X
  obtain ⟨cl, A, S, L, H⟩ := A
  obtain ⟨T', h', Y', e', W, st'⟩ := stR Y C.1 C.2.1 eT A (idx_ok hj hi S) hty F (g := mkF m pc Ls (v :: .int j :: .ref a :: st)) rfl rfl (hb C.2.2.2.1 hd)
  rw [idx_nat hj] at W
  exact ⟨h', ⟨T', _, Y', e', Fr.snoc Y' N ga, z, fun t kk => q t (st' t kk)⟩, W⟩
end Arrays
/-- the run comes to the method's end, as P says -/
def OwnEnds (p : Program) (e : Env) (below : List Frame) (s S0 : State) (n0 : Nat) (P : Option Value → Heap → Prop) (K M : Nat) : Prop := ∃ s₂ o, Steps p.tables e below S0 s₂ ∧ s₂.status = .running ∧ Ended s₂ below o ∧ ∃ v L, o = .returned v ∧ (P v s₂.heap ∧ Fr n0 L) ∧ FrameEnd s o s₂ L K M
theorem Rch.end (X : Rch p l e R s m args below meth c S0 n0 k n h pc Ls st) {v : Option Value} (hv : meth.sig.returnType = none → v = none) (hlk : meth.locks = false) {P : Option Value → Heap → Prop} {K M : Nat} (hP : P v h) (hK : k ≤ K) (hM : n ≤ M)
    (f : ∀ T locs, Stand p l e R s m args below meth c T locs k n → ∀ fs : List Frame, (∀ (f : JFrame) (acts : List Action), f.method = m → f.locked = none → f.entered = [] → (doReturn e (T.setTop f) acts v).1 = T.setFrames fs) → Steps p.tables e below (T.setTop (mkF m pc Ls st)) (T.setFrames fs)) :
    OwnEnds p e below s S0 n0 P K M := by
  obtain ⟨T, locs, Y, eT, N, z, q⟩ := X
  obtain ⟨fs, hr, hrun, hended, hW, hsame⟩ := Y.leave (v := v) hv hlk
  exact ⟨_, _, q _ (f T locs Y fs hr), hrun, hended, v, locs, rfl, ⟨by rw [show (T.setFrames fs).heap = T.heap from rfl, eT]; exact hP, N⟩, ⟨_, rfl⟩, hW, hsame.mono hK hM⟩
theorem Rch.retV (X : Rch p l e R s m args below meth c S0 n0 k n h pc Ls []) (C : Ctx p s m meth c Z a0 tb own bytes ml nm none) (hd : decode bytes pc = .ok (.return_, 1)) {P : Option Value → Heap → Prop} {K M : Nat} (hP : P none h) (hK : k ≤ K) (hM : n ≤ M) :
    OwnEnds p e below s S0 n0 P K M :=
  X.end (fun _ => rfl) C.2.2.2.2.2.2.2.2 hP hK hM fun T locs Y fs hr => Y.returnOut C.1 C.2.2.2.2.2.2.2.1 (hb C.2.2.2.1 hd) hr
theorem Rch.retJ {x : Int64} (X : Rch p l e R s m args below meth c S0 n0 k n h pc Ls [.long x]) (C : Ctx p s m meth c Z a0 tb own bytes ml nm (some .long)) (hd : decode bytes pc = .ok (.lreturn, 1)) {P : Option Value → Heap → Prop} {K M : Nat} (hP : P (some (.long x)) h) (hK : k ≤ K) (hM : n ≤ M) :
    OwnEnds p e below s S0 n0 P K M :=
  X.end (fun q => by rw [C.2.2.2.2.2.2.2.1] at q; cases q) C.2.2.2.2.2.2.2.2 hP hK hM fun T locs Y fs hr => Y.lreturnOut C.1 C.2.2.2.2.2.2.2.1 (hb C.2.2.2.1 hd) hr
theorem Rch.retI {x : Int32} (X : Rch p l e R s m args below meth c S0 n0 k n h pc Ls [.int x]) (C : Ctx p s m meth c Z a0 tb own bytes ml nm (some .int)) (hd : decode bytes pc = .ok (.ireturn, 1)) {P : Option Value → Heap → Prop} {K M : Nat} (hP : P (some (.int x)) h) (hK : k ≤ K) (hM : n ≤ M) :
    OwnEnds p e below s S0 n0 P K M :=
  X.end (fun q => by rw [C.2.2.2.2.2.2.2.1] at q; cases q) C.2.2.2.2.2.2.2.2 hP hK hM fun T locs Y fs hr => Y.ireturnOut C.1 C.2.2.2.2.2.2.2.1 rfl (Or.inl rfl) (hb C.2.2.2.1 hd) hr
theorem Rch.retZ {b : Bool} (X : Rch p l e R s m args below meth c S0 n0 k n h pc Ls [.int (own_b b)]) (C : Ctx p s m meth c Z a0 tb own bytes ml nm (some .boolean)) (hd : decode bytes pc = .ok (.ireturn, 1)) {P : Option Value → Heap → Prop} {K M : Nat} (hP : P (some (.int (own_b b))) h) (hK : k ≤ K) (hM : n ≤ M) :
    OwnEnds p e below s S0 n0 P K M :=
  X.end (fun q => by rw [C.2.2.2.2.2.2.2.1] at q; cases q) C.2.2.2.2.2.2.2.2 hP hK hM fun T locs Y fs hr => Y.ireturnOut C.1 C.2.2.2.2.2.2.2.1 (by cases b <;> rfl) (Or.inr (Or.inl rfl)) (hb C.2.2.2.1 hd) hr
theorem Rch.retA {a : Addr} {t : FieldType} (X : Rch p l e R s m args below meth c S0 n0 k n h pc Ls [.ref a]) (C : Ctx p s m meth c Z a0 tb own bytes ml nm (some t)) (ht : t.isReference = true) (hd : decode bytes pc = .ok (.areturn, 1)) {P : Option Value → Heap → Prop} {K M : Nat} (hP : P (some (.ref a)) h) (hK : k ≤ K) (hM : n ≤ M) :
    OwnEnds p e below s S0 n0 P K M :=
  X.end (fun q => by rw [C.2.2.2.2.2.2.2.1] at q; cases q) C.2.2.2.2.2.2.2.2 hP hK hM fun T locs Y fs hr => retOut Y C.1 C.2.2.2.2.2.2.2.1 (by cases t <;> first | rfl | (simp [FieldType.isReference] at ht)) (Or.inr (Or.inr (Or.inr (Or.inr ⟨rfl, ht, rfl⟩)))) (hb C.2.2.2.1 hd) hr
/-- a contract: from the heap h0 with these arguments the body returns, as P says -/
def Con (l : Launch) (Z : State) (y : MethodName) (bytes : ByteArray) (ml : Nat) (ret : Option FieldType) (rm : Room) (as' : Array Value) (h0 : Heap) (n0 : Nat) (P : Option Value → Heap → Prop) : Prop :=
  ∀ ws : List Jvm.Cond, MetFree l y (head1 (Jvm.Cond.code y bytes ml ret :: ws) rm) (fun a U => a = as' ∧ Z.Warmed39 U.vm ∧ U.heap = h0) (fun _ _ _ _ _ => True) (fun _ U o U' => ∃ v L, o = .returned v ∧ (P v U'.heap ∧ Fr n0 L) ∧ FrameEnd U o U' L rm.cells rm.slots)
theorem Con.mk {y : MethodName} {rm : Room} {as' : Array Value} {h0 : Heap} {P : Option Value → Heap → Prop} (hpn : plainFor y = true) (hw : ∀ d ∈ tb, d.before a0 Z = true) (z0 : n0 ≤ h0.size) (he : ∀ m, entryFrame m as' ml = mkF m 0 Ls [])
    (body : ∀ (p : Program) (e : Env) (s : State) (m : MethodId) (below : List Frame) (meth : Method) (c : Code) (S0 : State), Ctx p s m meth c Z a0 tb y.cls bytes ml y.name ret → Rch p l e rm s m as' below meth c S0 n0 0 0 h0 0 Ls [] →
      OwnEnds p e below s S0 n0 P rm.cells rm.slots) :
    Con l Z y bytes ml ret rm as' h0 n0 P := by
  intro ws
  refine MetFree.of_bodySF hpn hisR ?_
  intro p e s m args below meth c s₁ Bd hml0 hP hK
  obtain ⟨rfl, hZ, hh⟩ := hP
  have hown : s.vm.findClass y.cls = some m.cls := findClass_of_methodNamed Bd.named
  have hnm := (name_of_methodNamed Bd.named Bd.method).1
  have X0 := Stand.of_body Bd
  have e0 : s₁.heap = h0 := by rw [← hh, Bd.state]; rfl
  exact body p e s m below meth c _ ⟨Bd.exec, hZ, hw, Bd.bytes, hml0, hown, hnm, Bd.returns, Bd.notSynchronized⟩ ⟨s₁, [], X0, e0, Fr.nil n0, by rw [hh]; exact z0, fun t kk => castTop (he m) kk⟩
section Calls
variable {y z : MethodName} {bytes' : ByteArray} {ml' W i : Nat} {ret' : Option FieldType} {rm : Room} {P : Option Value → Heap → Prop} {argsL rest : List Value} {a : Addr} {K : String}
theorem Rch.callS (X : Rch p l e R s m args below meth c S0 n0 k n h pc Ls st) (C : Ctx p s m meth c Z a0 tb own bytes ml nm ret) (w1 : (Jvm.Cond.methodLink own i y).before a0 Z = true) (w2 : (Jvm.Cond.static y).before a0 Z = true) (w3 : (Jvm.Cond.initialized y.cls).before a0 Z = true) (w4 : (Jvm.Cond.code y bytes' ml' ret').before a0 Z = true) (hy : y.cls ≠ "java/lang/invoke/MethodHandle" ∧ y.cls ≠ "java/lang/invoke/VarHandle")
    (argsL rest : List Value) (hst : st = argsL.reverse ++ rest) (hcon : Con l Z y bytes' ml' ret' rm argsL.toArray h n0 P) (W : Nat) (hW : (rest.map fun v => v.category).sum ≤ W) (hf : rm.frames + 1 ≤ R.frames) (hl : W + (ml' + 11) + rm.locals ≤ R.locals) (hk : k + rm.cells ≤ R.cells) (hn : n + rm.slots ≤ R.slots) (hlen : ∀ sig, parseMethodDescriptor y.desc = some sig → argsL.length = sig.parameters.length) (hsz : Ls.size = ml)
    (hd : decode bytes pc = .ok (.invokestatic i, 3)) (hp : pc + 3 = pc') : ∃ v h', Rch p l e R s m args below meth c S0 n0 (k + rm.cells) (n + rm.slots) h' pc' Ls (v.toList ++ rest) ∧ P v h' := by
  subst hp hst
  obtain ⟨T, locs, Y, eT, N, z, q⟩ := X
  obtain ⟨v, _, ⟨T', L', k', n'⟩, -, Y', ⟨Lc, hQ, l1, y1, z1⟩, st'⟩ := Jvm.LawKit.callS Y C.1 (y := y) C.2.2.2.2.2.1 (mvT C.2.1 w1) (mvT C.2.1 w2) (mvT C.2.1 w3) (mvT C.2.1 w4) hy (backOf (W := W) (Q := fun v h L => P v h ∧ Fr n0 L) (hcon []) C.2.1 w4 w3 hf hl) (g := mkF m pc Ls _) rfl (hsz.trans C.2.2.2.2.1.symm) (argsL := argsL) (rest := rest) hlen rfl (by show 2 * 0 + _ ≤ _; omega) (hb C.2.2.2.1 hd) (fun _ _ => ⟨rfl, eT, hk, hn⟩)
  dsimp only [Pt.U, Pt.locs, Pt.cells, Pt.slots] at Y' l1 y1 z1 st' hQ
  subst l1 y1 z1
  exact ⟨v, T'.heap, ⟨T', _, Y', rfl, Fr.app N hQ.2, z, fun t kk => q t (st' t kk)⟩, hQ.1⟩
theorem Rch.callI (X : Rch p l e R s m args below meth c S0 n0 k n h pc Ls st) (C : Ctx p s m meth c Z a0 tb own bytes ml nm ret) (hy1 : y.name = "<init>") (w1 : (Jvm.Cond.methodLink own i y).before a0 Z = true) (w2 : (Jvm.Cond.instanceMethod y).before a0 Z = true) (w3 : (Jvm.Cond.initialized y.cls).before a0 Z = true) (w4 : (Jvm.Cond.code y bytes' ml' none).before a0 Z = true) (hy : y.cls ≠ "java/lang/invoke/MethodHandle" ∧ y.cls ≠ "java/lang/invoke/VarHandle")
    (a : Addr) (argsL rest : List Value) (hst : st = argsL.reverse ++ .ref a :: rest) (hcon : Con l Z y bytes' ml' none rm (.ref a :: argsL).toArray h n0 P) (W : Nat) (hW : (rest.map fun v => v.category).sum ≤ W) (hf : rm.frames + 1 ≤ R.frames) (hl : W + (ml' + 11) + rm.locals ≤ R.locals) (hk : k + rm.cells ≤ R.cells) (hn : n + rm.slots ≤ R.slots) (hlen : ∀ sig, parseMethodDescriptor y.desc = some sig → argsL.length = sig.parameters.length) (hsz : Ls.size = ml)
    (hd : decode bytes pc = .ok (.invokespecial i, 3)) (hp : pc + 3 = pc') : ∃ v h', Rch p l e R s m args below meth c S0 n0 (k + rm.cells) (n + rm.slots) h' pc' Ls (v.toList ++ rest) ∧ P v h' := by
  subst hp hst
  obtain ⟨T, locs, Y, eT, N, z, q⟩ := X
  obtain ⟨v, _, ⟨T', L', k', n'⟩, -, Y', ⟨Lc, hQ, l1, y1, z1⟩, st'⟩ := Y.specialBack C.1 (y := y) hy1 C.2.2.2.2.2.1 (mvT C.2.1 w1) (mvT C.2.1 w2) (mvT C.2.1 w4) hy (backOf (W := W) (Q := fun v h L => P v h ∧ Fr n0 L) (hcon []) C.2.1 w4 w3 hf hl) (g := mkF m pc Ls _) rfl (hsz.trans C.2.2.2.2.1.symm) (Steps.refl _) (a := a) (argsL := argsL) (rest := rest) hlen rfl (by show 2 * 0 + _ ≤ _; omega) (hb C.2.2.2.1 hd) (fun _ _ => ⟨rfl, eT, hk, hn⟩)
  dsimp only [Pt.U, Pt.locs, Pt.cells, Pt.slots] at Y' l1 y1 z1 st' hQ
  subst l1 y1 z1
  exact ⟨v, T'.heap, ⟨T', _, Y', rfl, Fr.app N hQ.2, z, fun t kk => q t (st'.trans kk)⟩, hQ.1⟩
theorem Rch.callV (X : Rch p l e R s m args below meth c S0 n0 k n h pc Ls st) (C : Ctx p s m meth c Z a0 tb own bytes ml nm ret) (E : Exa Z h a K) (w1 : (Jvm.Cond.methodLink own i y).before a0 Z = true) (w2 : (Jvm.Cond.declares y).before a0 Z = true) (w5 : (Jvm.Cond.selects K y y).before a0 Z = true) (w6 : (Jvm.Cond.instanceMethod y).before a0 Z = true) (w3 : (Jvm.Cond.initialized y.cls).before a0 Z = true) (w4 : (Jvm.Cond.code y bytes' ml' ret').before a0 Z = true) (hy : y.cls ≠ "java/lang/invoke/MethodHandle" ∧ y.cls ≠ "java/lang/invoke/VarHandle")
    (argsL rest : List Value) (hst : st = argsL.reverse ++ .ref a :: rest) (hcon : Con l Z y bytes' ml' ret' rm (.ref a :: argsL).toArray h n0 P) (W : Nat) (hW : (rest.map fun v => v.category).sum ≤ W) (hf : rm.frames + 1 ≤ R.frames) (hl : W + (ml' + 11) + rm.locals ≤ R.locals) (hk : k + rm.cells ≤ R.cells) (hn : n + rm.slots ≤ R.slots) (hlen : ∀ sig, parseMethodDescriptor y.desc = some sig → argsL.length = sig.parameters.length) (hsz : Ls.size = ml)
    (hd : decode bytes pc = .ok (.invokevirtual i, 3)) (hp : pc + 3 = pc') : ∃ v h', Rch p l e R s m args below meth c S0 n0 (k + rm.cells) (n + rm.slots) h' pc' Ls (v.toList ++ rest) ∧ P v h' := by
  subst hp hst
  obtain ⟨T, locs, Y, eT, N, z, q⟩ := X
  obtain ⟨cq, kq, qa, qb, qc⟩ := isOf C.2.1 eT E
  obtain ⟨v, _, ⟨T', L', k', n'⟩, -, Y', ⟨Lc, hQ, l1, y1, z1⟩, st'⟩ := Y.virtualBack C.1 (y := y) (z := y) C.2.2.2.2.2.1 (mvT C.2.1 w1) (mvT C.2.1 w2) (notFace_of_selects (args := #[]) (mvT C.2.1 w5)) (mvT C.2.1 w5) (mvT C.2.1 w6) hy (backOf (W := W) (Q := fun v h L => P v h ∧ Fr n0 L) (hcon []) C.2.1 w4 w3 hf hl) qa qc (g := mkF m pc Ls _) rfl (hsz.trans C.2.2.2.2.1.symm) (Steps.refl _) (argsL := argsL) (rest := rest) hlen rfl (by show 2 * 0 + _ ≤ _; omega) (hb C.2.2.2.1 hd) (fun _ _ => ⟨rfl, eT, hk, hn⟩)
  dsimp only [Pt.U, Pt.locs, Pt.cells, Pt.slots] at Y' l1 y1 z1 st' hQ
  subst l1 y1 z1
  exact ⟨v, T'.heap, ⟨T', _, Y', rfl, Fr.app N hQ.2, z, fun t kk => q t (st'.trans kk)⟩, hQ.1⟩
theorem Rch.callP (X : Rch p l e R s m args below meth c S0 n0 k n h pc Ls st) (C : Ctx p s m meth c Z a0 tb own bytes ml nm ret) (E : Exa Z h a K) (w1 : (Jvm.Cond.methodLink own i y).before a0 Z = true) (w6 : (Jvm.Cond.instanceMethod y).before a0 Z = true) {kk : Nat} (w5 : (Jvm.Cond.instantiable y.cls kk).before a0 Z = true) (w7 : (Jvm.Cond.privateMethod y).before a0 Z = true) (w3 : (Jvm.Cond.initialized y.cls).before a0 Z = true) (w4 : (Jvm.Cond.code y bytes' ml' ret').before a0 Z = true) (hy : y.cls ≠ "java/lang/invoke/MethodHandle" ∧ y.cls ≠ "java/lang/invoke/VarHandle")
    (argsL rest : List Value) (hst : st = argsL.reverse ++ .ref a :: rest) (hcon : Con l Z y bytes' ml' ret' rm (.ref a :: argsL).toArray h n0 P) (W : Nat) (hW : (rest.map fun v => v.category).sum ≤ W) (hf : rm.frames + 1 ≤ R.frames) (hl : W + (ml' + 11) + rm.locals ≤ R.locals) (hk : k + rm.cells ≤ R.cells) (hn : n + rm.slots ≤ R.slots) (hlen : ∀ sig, parseMethodDescriptor y.desc = some sig → argsL.length = sig.parameters.length) (hsz : Ls.size = ml)
    (hd : decode bytes pc = .ok (.invokevirtual i, 3)) (hp : pc + 3 = pc') : ∃ v h', Rch p l e R s m args below meth c S0 n0 (k + rm.cells) (n + rm.slots) h' pc' Ls (v.toList ++ rest) ∧ P v h' := by
  subst hp hst
  obtain ⟨T, locs, Y, eT, N, z, q⟩ := X
  obtain ⟨cq, qa, qb⟩ := E.cell
  have wi : (Jvm.Cond.instantiable y.cls kk).before args s = true := mvT C.2.1 w5
  obtain ⟨ci, ki, i1, i2, -, i4, -⟩ := Cond.instantiable_spec wi
  have hpv := Cond.privateMethod_at (mvP C.2.1 w7 (args := #[]))
  have hsl : (Jvm.Cond.selects y.cls y y).before args s = true := selects_self_of_private i1 i2 (Bool.or_eq_false_iff.mp i4).1 hpv (mvT C.2.1 w6) hy
  obtain ⟨v, _, ⟨T', L', k', n'⟩, -, Y', ⟨Lc, hQ, l1, y1, z1⟩, st'⟩ := Y.privateBack C.1 (y := y) C.2.2.2.2.2.1 (mvT C.2.1 w1) (mvT C.2.1 w6) hsl hpv (mvT C.2.1 w4) hy (backOf (W := W) (Q := fun v h L => P v h ∧ Fr n0 L) (hcon []) C.2.1 w4 w3 hf hl) (g := mkF m pc Ls _) rfl (hsz.trans C.2.2.2.2.1.symm) (Steps.refl _) (a := a) (by rw [eT]; exact qa) qb (argsL := argsL) (rest := rest) hlen rfl (by show 2 * 0 + _ ≤ _; omega) (hb C.2.2.2.1 hd) (fun _ _ => ⟨rfl, eT, hk, hn⟩)
  dsimp only [Pt.U, Pt.locs, Pt.cells, Pt.slots] at Y' l1 y1 z1 st' hQ
  subst l1 y1 z1
  exact ⟨v, T'.heap, ⟨T', _, Y', rfl, Fr.app N hQ.2, z, fun t kk => q t (st'.trans kk)⟩, hQ.1⟩
theorem Rch.callF {cnt : Nat} (X : Rch p l e R s m args below meth c S0 n0 k n h pc Ls st) (C : Ctx p s m meth c Z a0 tb own bytes ml nm ret) (E : Exa Z h a K) (w1 : (Jvm.Cond.methodLink own i z).before a0 Z = true) (w2 : (Jvm.Cond.declares z).before a0 Z = true) (w8 : (Jvm.Cond.interfaceMethod z.cls z.cls z.name z.desc).before a0 Z = true) (w5 : (Jvm.Cond.selects K z y).before a0 Z = true) (w6 : (Jvm.Cond.instanceMethod y).before a0 Z = true) (w9 : (Jvm.Cond.publicMethod y).before a0 Z = true) (w10 : (Jvm.Cond.unhidden K z.name z.desc).before a0 Z = true) (w11 : (Jvm.Cond.castable K z.cls).before a0 Z = true) (w3 : (Jvm.Cond.initialized y.cls).before a0 Z = true) (w4 : (Jvm.Cond.code y bytes' ml' ret').before a0 Z = true) (hy : z.cls ≠ "java/lang/invoke/MethodHandle" ∧ z.cls ≠ "java/lang/invoke/VarHandle")
    (argsL rest : List Value) (hst : st = argsL.reverse ++ .ref a :: rest) (hcon : Con l Z y bytes' ml' ret' rm (.ref a :: argsL).toArray h n0 P) (W : Nat) (hW : (rest.map fun v => v.category).sum ≤ W) (hf : rm.frames + 1 ≤ R.frames) (hl : W + (ml' + 11) + rm.locals ≤ R.locals) (hk : k + rm.cells ≤ R.cells) (hn : n + rm.slots ≤ R.slots) (hlen : ∀ sig, parseMethodDescriptor z.desc = some sig → argsL.length = sig.parameters.length) (hsz : Ls.size = ml)
    (hd : decode bytes pc = .ok (.invokeinterface i cnt, 5)) (hp : pc + 5 = pc') : ∃ v h', Rch p l e R s m args below meth c S0 n0 (k + rm.cells) (n + rm.slots) h' pc' Ls (v.toList ++ rest) ∧ P v h' := by
  subst hp hst
  obtain ⟨T, locs, Y, eT, N, zz, q⟩ := X
  obtain ⟨cq, kq, qa, qb, qc⟩ := isOf C.2.1 eT E
  obtain ⟨v, _, ⟨T', L', k', n'⟩, -, Y', ⟨Lc, hQ, l1, y1, z1⟩, st'⟩ := Y.interfaceBack C.1 (xi := z) (y := y) C.2.2.2.2.2.1 (mvT C.2.1 w1) (mvT C.2.1 w2) (mvT C.2.1 w8 (by simp [Cond.onTables, Cond.keepsFace, Cond.keeps, Cond.steady, Cond.faceAtom, hy.1, hy.2])) (mvT C.2.1 w5) (mvT C.2.1 w6) (mvT C.2.1 w9) (mvT C.2.1 w10) (mvT C.2.1 w11) hy (backOf (W := W) (Q := fun v h L => P v h ∧ Fr n0 L) (hcon []) C.2.1 w4 w3 hf hl) qa qb qc (g := mkF m pc Ls _) rfl (hsz.trans C.2.2.2.2.1.symm) (Steps.refl _) (argsL := argsL) (rest := rest) hlen rfl (by show 2 * 0 + _ ≤ _; omega) (hb C.2.2.2.1 hd) (fun _ _ => ⟨rfl, eT, hk, hn⟩)
  dsimp only [Pt.U, Pt.locs, Pt.cells, Pt.slots] at Y' l1 y1 z1 st' hQ
  subst l1 y1 z1
  exact ⟨v, T'.heap, ⟨T', _, Y', rfl, Fr.app N hQ.2, zz, fun t kk => q t (st'.trans kk)⟩, hQ.1⟩
theorem Rch.castY {K' : String} (X : Rch p l e R s m args below meth c S0 n0 k n h pc Ls (.ref a :: st)) (C : Ctx p s m meth c Z a0 tb own bytes ml nm ret) (I : Ins Z h a K' true) (wl : (Jvm.Cond.classLink own i K').before a0 Z = true) (hd : decode bytes pc = .ok (.checkcast i, 3)) (hp : pc + 3 = pc') : Rch p l e R s m args below meth c S0 n0 k n h pc' Ls (.ref a :: st) := by
  subst hp
  obtain ⟨T, locs, Y, eT, N, z, q⟩ := X
  obtain ⟨T', Y', e', st'⟩ := Jvm.RoadKit.castY Y C.1 C.2.1 C.2.2.2.2.2.1 wl eT I (g := mkF m pc Ls (.ref a :: st)) rfl rfl (hb C.2.2.2.1 hd)
  exact ⟨T', _, Y', e', N, z, fun t kk => q t (st' t kk)⟩
end Calls
end Walk
end Jvm.OwnKit

namespace Jvm.Pilot.@@N@@
open Jvm Jvm.ClassFile Sem Op Lib Jvm.Free Jvm.Stand Jvm.LawKit Jvm.RoadKit Bundle Jvm.OwnKit Jvm.Pilot.@@N@@.Jvm.D

/-! small facts on booleans and comparisons -/
def own_max (x y : Int64) : Int64 := if x < y then y else x
theorem own_max_pos (x : Int64) : 1 ≤ (own_max 1 x).toInt := by
  unfold own_max
  split
  · rename_i q; rw [Int64.lt_iff_toInt_lt] at q; have : (1 : Int64).toInt = 1 := rfl; omega
  · decide
theorem lcmp_lt (x y : Int64) : ifCond.holds .lt (lcmpW x y) = decide (x < y) := by rw [lcW]; simp only [ifCond.holds]; exact decide_eq_decide.mpr (lc_lt x y)
theorem lcmp_ge (x y : Int64) : ifCond.holds .ge (lcmpW x y) = decide (y ≤ x) := by rw [lcW]; simp only [ifCond.holds]; exact decide_eq_decide.mpr (lc_ge x y)
theorem lcmp_le (x y : Int64) : ifCond.holds .le (lcmpW x y) = decide (x ≤ y) := by rw [lcW]; simp only [ifCond.holds]; exact decide_eq_decide.mpr (lc_le x y)
theorem lcmp_ne (x y : Int64) : ifCond.holds .ne (lcmpW x y) = decide (¬ x = y) := by
  rw [lcW]
  by_cases q : x = y
  · subst q; simp [ifCond.holds, (lc_eq x x).mpr rfl]
  · simp [ifCond.holds, mt (lc_eq x y).mp q, q]
theorem lcmp_eq (x y : Int64) : ifCond.holds .eq (lcmpW x y) = decide (x = y) := by
  rw [lcW]
  by_cases q : x = y
  · subst q; simp [ifCond.holds, (lc_eq x x).mpr rfl]
  · simp [ifCond.holds, mt (lc_eq x y).mp q, q]
theorem h_ge (x : Int32) : ifCond.holds .ge x = decide (0 ≤ x.toInt) := by simp only [ifCond.holds]; exact decide_eq_decide.mpr (Int32.le_iff_toInt_le)
theorem h_lt (x : Int32) : ifCond.holds .lt x = decide (x.toInt < 0) := by simp only [ifCond.holds]; exact decide_eq_decide.mpr (Int32.lt_iff_toInt_lt)
theorem own_nle (x y : Int64) : decide (y < x) = !decide (x ≤ y) := by
  by_cases q : x ≤ y
  · rw [decide_eq_true q, decide_eq_false (Int64.not_lt.mpr q)]; rfl
  · rw [decide_eq_false q, decide_eq_true (Int64.not_le.mp q)]; rfl
theorem b_eq (b : Bool) : ifCond.holds .eq (own_b b) = !b := by cases b <;> decide
theorem b_ne (b : Bool) : ifCond.holds .ne (own_b b) = b := by cases b <;> decide
theorem bb_eq (a b : Bool) : if_icmp.holds .eq (own_b a) (own_b b) = (a == b) := by cases a <;> cases b <;> decide
theorem bb_ne (a b : Bool) : if_icmp.holds .ne (own_b a) (own_b b) = (a != b) := by cases a <;> cases b <;> decide
theorem b_and (a b : Bool) : own_b a &&& own_b b = own_b (a && b) := by cases a <;> cases b <;> decide
theorem b_or (a b : Bool) : own_b a ||| own_b b = own_b (a || b) := by cases a <;> cases b <;> decide
theorem nar_bz (b : Bool) : narrow .boolean (.int (own_b b)) = .int (own_b b) := by cases b <;> rfl
theorem fit_bz (b : Bool) : fits .boolean (.int (own_b b)) = true := by cases b <;> rfl
theorem own_bit (x : Int32) : ∃ t : Bool, ifCond.holds .eq x = !t := ⟨!ifCond.holds .eq x, by simp⟩

theorem pd_0 : parseMethodDescriptor "(IIIJJ[J[J[J[J)V" = some ⟨[.int, .int, .int, .long, .long, (.array .long), (.array .long), (.array .long), (.array .long)], none⟩ := by decide +kernel
theorem pd_1 : parseMethodDescriptor "(JJ)J" = some ⟨[.long, .long], some .long⟩ := by decide +kernel
theorem pd_2 : parseMethodDescriptor "([J[J)V" = some ⟨[(.array .long), (.array .long)], none⟩ := by decide +kernel
theorem pd_3 : parseMethodDescriptor "()V" = some ⟨[], none⟩ := by decide +kernel
theorem pd_4 : parseMethodDescriptor "([JII)J" = some ⟨[(.array .long), .int, .int], some .long⟩ := by decide +kernel
theorem pd_5 : parseMethodDescriptor "([J[J)Z" = some ⟨[(.array .long), (.array .long)], some .boolean⟩ := by decide +kernel
theorem pf_1 : plainFor (⟨"com/example/lacuna_tensor/lacunatensor/BroadcastFirstPlacementPinLaw", "axis", "(IIIJJ[J[J[J[J)V"⟩ : MethodName) = true := by decide +kernel
theorem d1_0 : decode method_2_code 0 = .ok (.iload_n 2, 1) := by decide +kernel
theorem d1_1 : decode method_2_code 1 = .ok (.iconst 1, 1) := by decide +kernel
theorem d1_2 : decode method_2_code 2 = .ok (.iand, 1) := by decide +kernel
theorem d1_3 : decode method_2_code 3 = .ok (.ifCond .eq 7, 3) := by decide +kernel
theorem d1_6 : decode method_2_code 6 = .ok (.iconst 1, 1) := by decide +kernel
theorem d1_7 : decode method_2_code 7 = .ok (.goto 4, 3) := by decide +kernel
theorem d1_10 : decode method_2_code 10 = .ok (.iconst 0, 1) := by decide +kernel
theorem d1_11 : decode method_2_code 11 = .ok (.istore 11, 2) := by decide +kernel
theorem d1_13 : decode method_2_code 13 = .ok (.iload_n 2, 1) := by decide +kernel
theorem d1_14 : decode method_2_code 14 = .ok (.iconst 2, 1) := by decide +kernel
theorem d1_15 : decode method_2_code 15 = .ok (.iand, 1) := by decide +kernel
theorem d1_16 : decode method_2_code 16 = .ok (.ifCond .eq 7, 3) := by decide +kernel
theorem d1_19 : decode method_2_code 19 = .ok (.iconst 1, 1) := by decide +kernel
theorem d1_20 : decode method_2_code 20 = .ok (.goto 4, 3) := by decide +kernel
theorem d1_23 : decode method_2_code 23 = .ok (.iconst 0, 1) := by decide +kernel
theorem d1_24 : decode method_2_code 24 = .ok (.istore 12, 2) := by decide +kernel
theorem d1_26 : decode method_2_code 26 = .ok (.iload 12, 2) := by decide +kernel
theorem d1_28 : decode method_2_code 28 = .ok (.ifCond .eq 11, 3) := by decide +kernel
theorem d1_31 : decode method_2_code 31 = .ok (.lload_n 3, 1) := by decide +kernel
theorem d1_32 : decode method_2_code 32 = .ok (.ldc2_w 7, 3) := by decide +kernel
theorem d1_35 : decode method_2_code 35 = .ok (.land, 1) := by decide +kernel
theorem d1_36 : decode method_2_code 36 = .ok (.goto 8, 3) := by decide +kernel
theorem d1_39 : decode method_2_code 39 = .ok (.lload_n 3, 1) := by decide +kernel
theorem d1_40 : decode method_2_code 40 = .ok (.ldc2_w 11, 3) := by decide +kernel
theorem d1_43 : decode method_2_code 43 = .ok (.land, 1) := by decide +kernel
theorem d1_44 : decode method_2_code 44 = .ok (.lstore 13, 2) := by decide +kernel
theorem d1_46 : decode method_2_code 46 = .ok (.iload_n 0, 1) := by decide +kernel
theorem d1_47 : decode method_2_code 47 = .ok (.iload_n 1, 1) := by decide +kernel
theorem d1_48 : decode method_2_code 48 = .ok (.if_icmp .ge 17, 3) := by decide +kernel
theorem d1_51 : decode method_2_code 51 = .ok (.aload 7, 2) := by decide +kernel
theorem d1_53 : decode method_2_code 53 = .ok (.iload_n 0, 1) := by decide +kernel
theorem d1_54 : decode method_2_code 54 = .ok (.lload 13, 2) := by decide +kernel
theorem d1_56 : decode method_2_code 56 = .ok (.lastore, 1) := by decide +kernel
theorem d1_57 : decode method_2_code 57 = .ok (.aload 10, 2) := by decide +kernel
theorem d1_59 : decode method_2_code 59 = .ok (.iload_n 0, 1) := by decide +kernel
theorem d1_60 : decode method_2_code 60 = .ok (.lconst 0, 1) := by decide +kernel
theorem d1_61 : decode method_2_code 61 = .ok (.lastore, 1) := by decide +kernel
theorem d1_62 : decode method_2_code 62 = .ok (.goto 83, 3) := by decide +kernel
theorem d1_65 : decode method_2_code 65 = .ok (.iload 11, 2) := by decide +kernel
theorem d1_67 : decode method_2_code 67 = .ok (.ifCond .eq 31, 3) := by decide +kernel
theorem d1_70 : decode method_2_code 70 = .ok (.aload 7, 2) := by decide +kernel
theorem d1_72 : decode method_2_code 72 = .ok (.iload_n 0, 1) := by decide +kernel
theorem d1_73 : decode method_2_code 73 = .ok (.lload 13, 2) := by decide +kernel
theorem d1_75 : decode method_2_code 75 = .ok (.lastore, 1) := by decide +kernel
theorem d1_76 : decode method_2_code 76 = .ok (.aload 8, 2) := by decide +kernel
theorem d1_78 : decode method_2_code 78 = .ok (.iload_n 0, 1) := by decide +kernel
theorem d1_79 : decode method_2_code 79 = .ok (.iload_n 1, 1) := by decide +kernel
theorem d1_80 : decode method_2_code 80 = .ok (.isub, 1) := by decide +kernel
theorem d1_81 : decode method_2_code 81 = .ok (.lconst 1, 1) := by decide +kernel
theorem d1_82 : decode method_2_code 82 = .ok (.lastore, 1) := by decide +kernel
theorem d1_83 : decode method_2_code 83 = .ok (.aload 9, 2) := by decide +kernel
theorem d1_85 : decode method_2_code 85 = .ok (.iload_n 0, 1) := by decide +kernel
theorem d1_86 : decode method_2_code 86 = .ok (.iload_n 1, 1) := by decide +kernel
theorem d1_87 : decode method_2_code 87 = .ok (.isub, 1) := by decide +kernel
theorem d1_88 : decode method_2_code 88 = .ok (.lconst 0, 1) := by decide +kernel
theorem d1_89 : decode method_2_code 89 = .ok (.lastore, 1) := by decide +kernel
theorem d1_90 : decode method_2_code 90 = .ok (.aload 10, 2) := by decide +kernel
theorem d1_92 : decode method_2_code 92 = .ok (.iload_n 0, 1) := by decide +kernel
theorem d1_93 : decode method_2_code 93 = .ok (.lconst 0, 1) := by decide +kernel
theorem d1_94 : decode method_2_code 94 = .ok (.lastore, 1) := by decide +kernel
theorem d1_95 : decode method_2_code 95 = .ok (.goto 50, 3) := by decide +kernel
theorem d1_98 : decode method_2_code 98 = .ok (.lconst 1, 1) := by decide +kernel
theorem d1_99 : decode method_2_code 99 = .ok (.lload 13, 2) := by decide +kernel
theorem d1_101 : decode method_2_code 101 = .ok (.invokestatic 13, 3) := by decide +kernel
theorem d1_104 : decode method_2_code 104 = .ok (.lstore 15, 2) := by decide +kernel
theorem d1_106 : decode method_2_code 106 = .ok (.aload 7, 2) := by decide +kernel
theorem d1_108 : decode method_2_code 108 = .ok (.iload_n 0, 1) := by decide +kernel
theorem d1_109 : decode method_2_code 109 = .ok (.lload 15, 2) := by decide +kernel
theorem d1_111 : decode method_2_code 111 = .ok (.lastore, 1) := by decide +kernel
theorem d1_112 : decode method_2_code 112 = .ok (.aload 8, 2) := by decide +kernel
theorem d1_114 : decode method_2_code 114 = .ok (.iload_n 0, 1) := by decide +kernel
theorem d1_115 : decode method_2_code 115 = .ok (.iload_n 1, 1) := by decide +kernel
theorem d1_116 : decode method_2_code 116 = .ok (.isub, 1) := by decide +kernel
theorem d1_117 : decode method_2_code 117 = .ok (.lload 15, 2) := by decide +kernel
theorem d1_119 : decode method_2_code 119 = .ok (.lastore, 1) := by decide +kernel
theorem d1_120 : decode method_2_code 120 = .ok (.lload 5, 2) := by decide +kernel
theorem d1_122 : decode method_2_code 122 = .ok (.ldc2_w 11, 3) := by decide +kernel
theorem d1_125 : decode method_2_code 125 = .ok (.land, 1) := by decide +kernel
theorem d1_126 : decode method_2_code 126 = .ok (.lload 15, 2) := by decide +kernel
theorem d1_128 : decode method_2_code 128 = .ok (.lrem, 1) := by decide +kernel
theorem d1_129 : decode method_2_code 129 = .ok (.lstore 17, 2) := by decide +kernel
theorem d1_131 : decode method_2_code 131 = .ok (.aload 9, 2) := by decide +kernel
theorem d1_133 : decode method_2_code 133 = .ok (.iload_n 0, 1) := by decide +kernel
theorem d1_134 : decode method_2_code 134 = .ok (.iload_n 1, 1) := by decide +kernel
theorem d1_135 : decode method_2_code 135 = .ok (.isub, 1) := by decide +kernel
theorem d1_136 : decode method_2_code 136 = .ok (.lload 17, 2) := by decide +kernel
theorem d1_138 : decode method_2_code 138 = .ok (.lastore, 1) := by decide +kernel
theorem d1_139 : decode method_2_code 139 = .ok (.aload 10, 2) := by decide +kernel
theorem d1_141 : decode method_2_code 141 = .ok (.iload_n 0, 1) := by decide +kernel
theorem d1_142 : decode method_2_code 142 = .ok (.lload 17, 2) := by decide +kernel
theorem d1_144 : decode method_2_code 144 = .ok (.lastore, 1) := by decide +kernel
theorem d1_145 : decode method_2_code 145 = .ok (.return_, 1) := by decide +kernel
theorem pf_2 : plainFor (⟨"java/lang/Math", "max", "(JJ)J"⟩ : MethodName) = true := by decide +kernel
theorem d2_0 : decode jdk_29_method_66_code 0 = .ok (.lload_n 0, 1) := by decide +kernel
theorem d2_1 : decode jdk_29_method_66_code 1 = .ok (.lload_n 2, 1) := by decide +kernel
theorem d2_2 : decode jdk_29_method_66_code 2 = .ok (.lcmp, 1) := by decide +kernel
theorem d2_3 : decode jdk_29_method_66_code 3 = .ok (.ifCond .lt 7, 3) := by decide +kernel
theorem d2_6 : decode jdk_29_method_66_code 6 = .ok (.lload_n 0, 1) := by decide +kernel
theorem d2_7 : decode jdk_29_method_66_code 7 = .ok (.goto 4, 3) := by decide +kernel
theorem d2_10 : decode jdk_29_method_66_code 10 = .ok (.lload_n 2, 1) := by decide +kernel
theorem d2_11 : decode jdk_29_method_66_code 11 = .ok (.lreturn, 1) := by decide +kernel
theorem pf_3 : plainFor (⟨"com/example/lacuna_tensor/lacunatensor/Broadcast", "<init>", "([J[J)V"⟩ : MethodName) = true := by decide +kernel
theorem d3_0 : decode prog_13_method_1_code 0 = .ok (.aload_n 0, 1) := by decide +kernel
theorem d3_1 : decode prog_13_method_1_code 1 = .ok (.invokespecial 1, 3) := by decide +kernel
theorem d3_4 : decode prog_13_method_1_code 4 = .ok (.aload_n 0, 1) := by decide +kernel
theorem d3_5 : decode prog_13_method_1_code 5 = .ok (.aload_n 2, 1) := by decide +kernel
theorem d3_6 : decode prog_13_method_1_code 6 = .ok (.invokevirtual 7, 3) := by decide +kernel
theorem d3_9 : decode prog_13_method_1_code 9 = .ok (.checkcast 8, 3) := by decide +kernel
theorem d3_12 : decode prog_13_method_1_code 12 = .ok (.putfield 13, 3) := by decide +kernel
theorem d3_15 : decode prog_13_method_1_code 15 = .ok (.aload_n 0, 1) := by decide +kernel
theorem d3_16 : decode prog_13_method_1_code 16 = .ok (.aload_n 2, 1) := by decide +kernel
theorem d3_17 : decode prog_13_method_1_code 17 = .ok (.arraylength, 1) := by decide +kernel
theorem d3_18 : decode prog_13_method_1_code 18 = .ok (.aload_n 1, 1) := by decide +kernel
theorem d3_19 : decode prog_13_method_1_code 19 = .ok (.arraylength, 1) := by decide +kernel
theorem d3_20 : decode prog_13_method_1_code 20 = .ok (.isub, 1) := by decide +kernel
theorem d3_21 : decode prog_13_method_1_code 21 = .ok (.putfield 18, 3) := by decide +kernel
theorem d3_24 : decode prog_13_method_1_code 24 = .ok (.aload_n 0, 1) := by decide +kernel
theorem d3_25 : decode prog_13_method_1_code 25 = .ok (.aload_n 2, 1) := by decide +kernel
theorem d3_26 : decode prog_13_method_1_code 26 = .ok (.arraylength, 1) := by decide +kernel
theorem d3_27 : decode prog_13_method_1_code 27 = .ok (.newarray .boolean, 2) := by decide +kernel
theorem d3_29 : decode prog_13_method_1_code 29 = .ok (.putfield 22, 3) := by decide +kernel
theorem d3_32 : decode prog_13_method_1_code 32 = .ok (.aload_n 0, 1) := by decide +kernel
theorem d3_33 : decode prog_13_method_1_code 33 = .ok (.aload_n 2, 1) := by decide +kernel
theorem d3_34 : decode prog_13_method_1_code 34 = .ok (.arraylength, 1) := by decide +kernel
theorem d3_35 : decode prog_13_method_1_code 35 = .ok (.newarray .long, 2) := by decide +kernel
theorem d3_37 : decode prog_13_method_1_code 37 = .ok (.putfield 26, 3) := by decide +kernel
theorem d3_40 : decode prog_13_method_1_code 40 = .ok (.aload_n 0, 1) := by decide +kernel
theorem d3_41 : decode prog_13_method_1_code 41 = .ok (.getfield 18, 3) := by decide +kernel
theorem d3_44 : decode prog_13_method_1_code 44 = .ok (.ifCond .ne 7, 3) := by decide +kernel
theorem d3_47 : decode prog_13_method_1_code 47 = .ok (.iconst 1, 1) := by decide +kernel
theorem d3_48 : decode prog_13_method_1_code 48 = .ok (.goto 4, 3) := by decide +kernel
theorem d3_51 : decode prog_13_method_1_code 51 = .ok (.iconst 0, 1) := by decide +kernel
theorem d3_52 : decode prog_13_method_1_code 52 = .ok (.istore_n 3, 1) := by decide +kernel
theorem d3_53 : decode prog_13_method_1_code 53 = .ok (.lconst 1, 1) := by decide +kernel
theorem d3_54 : decode prog_13_method_1_code 54 = .ok (.lstore 4, 2) := by decide +kernel
theorem d3_56 : decode prog_13_method_1_code 56 = .ok (.aload_n 2, 1) := by decide +kernel
theorem d3_57 : decode prog_13_method_1_code 57 = .ok (.arraylength, 1) := by decide +kernel
theorem d3_58 : decode prog_13_method_1_code 58 = .ok (.iconst 1, 1) := by decide +kernel
theorem d3_59 : decode prog_13_method_1_code 59 = .ok (.isub, 1) := by decide +kernel
theorem d3_60 : decode prog_13_method_1_code 60 = .ok (.istore 6, 2) := by decide +kernel
theorem d3_62 : decode prog_13_method_1_code 62 = .ok (.iload 6, 2) := by decide +kernel
theorem d3_64 : decode prog_13_method_1_code 64 = .ok (.ifCond .lt 89, 3) := by decide +kernel
theorem d3_67 : decode prog_13_method_1_code 67 = .ok (.aload_n 1, 1) := by decide +kernel
theorem d3_68 : decode prog_13_method_1_code 68 = .ok (.iload 6, 2) := by decide +kernel
theorem d3_70 : decode prog_13_method_1_code 70 = .ok (.aload_n 2, 1) := by decide +kernel
theorem d3_71 : decode prog_13_method_1_code 71 = .ok (.arraylength, 1) := by decide +kernel
theorem d3_72 : decode prog_13_method_1_code 72 = .ok (.invokestatic 29, 3) := by decide +kernel
theorem d3_75 : decode prog_13_method_1_code 75 = .ok (.lstore 7, 2) := by decide +kernel
theorem d3_77 : decode prog_13_method_1_code 77 = .ok (.aload_n 0, 1) := by decide +kernel
theorem d3_78 : decode prog_13_method_1_code 78 = .ok (.getfield 22, 3) := by decide +kernel
theorem d3_81 : decode prog_13_method_1_code 81 = .ok (.iload 6, 2) := by decide +kernel
theorem d3_83 : decode prog_13_method_1_code 83 = .ok (.lload 7, 2) := by decide +kernel
theorem d3_85 : decode prog_13_method_1_code 85 = .ok (.aload_n 2, 1) := by decide +kernel
theorem d3_86 : decode prog_13_method_1_code 86 = .ok (.iload 6, 2) := by decide +kernel
theorem d3_88 : decode prog_13_method_1_code 88 = .ok (.laload, 1) := by decide +kernel
theorem d3_89 : decode prog_13_method_1_code 89 = .ok (.lcmp, 1) := by decide +kernel
theorem d3_90 : decode prog_13_method_1_code 90 = .ok (.ifCond .eq 7, 3) := by decide +kernel
theorem d3_93 : decode prog_13_method_1_code 93 = .ok (.iconst 1, 1) := by decide +kernel
theorem d3_94 : decode prog_13_method_1_code 94 = .ok (.goto 4, 3) := by decide +kernel
theorem d3_97 : decode prog_13_method_1_code 97 = .ok (.iconst 0, 1) := by decide +kernel
theorem d3_98 : decode prog_13_method_1_code 98 = .ok (.bastore, 1) := by decide +kernel
theorem d3_99 : decode prog_13_method_1_code 99 = .ok (.aload_n 0, 1) := by decide +kernel
theorem d3_100 : decode prog_13_method_1_code 100 = .ok (.getfield 26, 3) := by decide +kernel
theorem d3_103 : decode prog_13_method_1_code 103 = .ok (.iload 6, 2) := by decide +kernel
theorem d3_105 : decode prog_13_method_1_code 105 = .ok (.aload_n 0, 1) := by decide +kernel
theorem d3_106 : decode prog_13_method_1_code 106 = .ok (.getfield 22, 3) := by decide +kernel
theorem d3_109 : decode prog_13_method_1_code 109 = .ok (.iload 6, 2) := by decide +kernel
theorem d3_111 : decode prog_13_method_1_code 111 = .ok (.baload, 1) := by decide +kernel
theorem d3_112 : decode prog_13_method_1_code 112 = .ok (.ifCond .eq 7, 3) := by decide +kernel
theorem d3_115 : decode prog_13_method_1_code 115 = .ok (.lconst 0, 1) := by decide +kernel
theorem d3_116 : decode prog_13_method_1_code 116 = .ok (.goto 5, 3) := by decide +kernel
theorem d3_119 : decode prog_13_method_1_code 119 = .ok (.lload 4, 2) := by decide +kernel
theorem d3_121 : decode prog_13_method_1_code 121 = .ok (.lastore, 1) := by decide +kernel
theorem d3_122 : decode prog_13_method_1_code 122 = .ok (.lload 4, 2) := by decide +kernel
theorem d3_124 : decode prog_13_method_1_code 124 = .ok (.lload 7, 2) := by decide +kernel
theorem d3_126 : decode prog_13_method_1_code 126 = .ok (.lmul, 1) := by decide +kernel
theorem d3_127 : decode prog_13_method_1_code 127 = .ok (.lstore 4, 2) := by decide +kernel
theorem d3_129 : decode prog_13_method_1_code 129 = .ok (.iload_n 3, 1) := by decide +kernel
theorem d3_130 : decode prog_13_method_1_code 130 = .ok (.aload_n 0, 1) := by decide +kernel
theorem d3_131 : decode prog_13_method_1_code 131 = .ok (.getfield 22, 3) := by decide +kernel
theorem d3_134 : decode prog_13_method_1_code 134 = .ok (.iload 6, 2) := by decide +kernel
theorem d3_136 : decode prog_13_method_1_code 136 = .ok (.baload, 1) := by decide +kernel
theorem d3_137 : decode prog_13_method_1_code 137 = .ok (.ifCond .ne 7, 3) := by decide +kernel
theorem d3_140 : decode prog_13_method_1_code 140 = .ok (.iconst 1, 1) := by decide +kernel
theorem d3_141 : decode prog_13_method_1_code 141 = .ok (.goto 4, 3) := by decide +kernel
theorem d3_144 : decode prog_13_method_1_code 144 = .ok (.iconst 0, 1) := by decide +kernel
theorem d3_145 : decode prog_13_method_1_code 145 = .ok (.iand, 1) := by decide +kernel
theorem d3_146 : decode prog_13_method_1_code 146 = .ok (.istore_n 3, 1) := by decide +kernel
theorem d3_147 : decode prog_13_method_1_code 147 = .ok (.iinc 6 (-1), 3) := by decide +kernel
theorem d3_150 : decode prog_13_method_1_code 150 = .ok (.goto (-88), 3) := by decide +kernel
theorem d3_153 : decode prog_13_method_1_code 153 = .ok (.aload_n 0, 1) := by decide +kernel
theorem d3_154 : decode prog_13_method_1_code 154 = .ok (.iload_n 3, 1) := by decide +kernel
theorem d3_155 : decode prog_13_method_1_code 155 = .ok (.putfield 35, 3) := by decide +kernel
theorem d3_158 : decode prog_13_method_1_code 158 = .ok (.return_, 1) := by decide +kernel
theorem pf_5 : plainFor (⟨"com/example/lacuna_tensor/lacunatensor/Shapes", "alignedLength", "([JII)J"⟩ : MethodName) = true := by decide +kernel
theorem d5_0 : decode prog_153_method_6_code 0 = .ok (.iload_n 1, 1) := by decide +kernel
theorem d5_1 : decode prog_153_method_6_code 1 = .ok (.iload_n 2, 1) := by decide +kernel
theorem d5_2 : decode prog_153_method_6_code 2 = .ok (.aload_n 0, 1) := by decide +kernel
theorem d5_3 : decode prog_153_method_6_code 3 = .ok (.arraylength, 1) := by decide +kernel
theorem d5_4 : decode prog_153_method_6_code 4 = .ok (.isub, 1) := by decide +kernel
theorem d5_5 : decode prog_153_method_6_code 5 = .ok (.isub, 1) := by decide +kernel
theorem d5_6 : decode prog_153_method_6_code 6 = .ok (.istore_n 3, 1) := by decide +kernel
theorem d5_7 : decode prog_153_method_6_code 7 = .ok (.iload_n 3, 1) := by decide +kernel
theorem d5_8 : decode prog_153_method_6_code 8 = .ok (.ifCond .ge 7, 3) := by decide +kernel
theorem d5_11 : decode prog_153_method_6_code 11 = .ok (.lconst 1, 1) := by decide +kernel
theorem d5_12 : decode prog_153_method_6_code 12 = .ok (.goto 6, 3) := by decide +kernel
theorem d5_15 : decode prog_153_method_6_code 15 = .ok (.aload_n 0, 1) := by decide +kernel
theorem d5_16 : decode prog_153_method_6_code 16 = .ok (.iload_n 3, 1) := by decide +kernel
theorem d5_17 : decode prog_153_method_6_code 17 = .ok (.laload, 1) := by decide +kernel
theorem d5_18 : decode prog_153_method_6_code 18 = .ok (.lreturn, 1) := by decide +kernel
theorem pf_6 : plainFor (⟨"com/example/lacuna_tensor/lacunatensor/Broadcast", "firstPlacement", "([J[J)Z"⟩ : MethodName) = true := by decide +kernel
theorem d6_0 : decode prog_13_method_7_code 0 = .ok (.iconst 0, 1) := by decide +kernel
theorem d6_1 : decode prog_13_method_7_code 1 = .ok (.istore_n 3, 1) := by decide +kernel
theorem d6_2 : decode prog_13_method_7_code 2 = .ok (.iload_n 3, 1) := by decide +kernel
theorem d6_3 : decode prog_13_method_7_code 3 = .ok (.aload_n 0, 1) := by decide +kernel
theorem d6_4 : decode prog_13_method_7_code 4 = .ok (.getfield 13, 3) := by decide +kernel
theorem d6_7 : decode prog_13_method_7_code 7 = .ok (.arraylength, 1) := by decide +kernel
theorem d6_8 : decode prog_13_method_7_code 8 = .ok (.if_icmp .ge 63, 3) := by decide +kernel
theorem d6_11 : decode prog_13_method_7_code 11 = .ok (.aload_n 0, 1) := by decide +kernel
theorem d6_12 : decode prog_13_method_7_code 12 = .ok (.getfield 22, 3) := by decide +kernel
theorem d6_15 : decode prog_13_method_7_code 15 = .ok (.iload_n 3, 1) := by decide +kernel
theorem d6_16 : decode prog_13_method_7_code 16 = .ok (.baload, 1) := by decide +kernel
theorem d6_17 : decode prog_13_method_7_code 17 = .ok (.ifCond .eq 16, 3) := by decide +kernel
theorem d6_20 : decode prog_13_method_7_code 20 = .ok (.aload_n 0, 1) := by decide +kernel
theorem d6_21 : decode prog_13_method_7_code 21 = .ok (.getfield 13, 3) := by decide +kernel
theorem d6_24 : decode prog_13_method_7_code 24 = .ok (.iload_n 3, 1) := by decide +kernel
theorem d6_25 : decode prog_13_method_7_code 25 = .ok (.laload, 1) := by decide +kernel
theorem d6_26 : decode prog_13_method_7_code 26 = .ok (.lconst 0, 1) := by decide +kernel
theorem d6_27 : decode prog_13_method_7_code 27 = .ok (.lcmp, 1) := by decide +kernel
theorem d6_28 : decode prog_13_method_7_code 28 = .ok (.ifCond .ne 5, 3) := by decide +kernel
theorem d6_31 : decode prog_13_method_7_code 31 = .ok (.iconst 0, 1) := by decide +kernel
theorem d6_32 : decode prog_13_method_7_code 32 = .ok (.ireturn, 1) := by decide +kernel
theorem d6_33 : decode prog_13_method_7_code 33 = .ok (.aload_n 2, 1) := by decide +kernel
theorem d6_34 : decode prog_13_method_7_code 34 = .ok (.iload_n 3, 1) := by decide +kernel
theorem d6_35 : decode prog_13_method_7_code 35 = .ok (.aload_n 0, 1) := by decide +kernel
theorem d6_36 : decode prog_13_method_7_code 36 = .ok (.getfield 22, 3) := by decide +kernel
theorem d6_39 : decode prog_13_method_7_code 39 = .ok (.iload_n 3, 1) := by decide +kernel
theorem d6_40 : decode prog_13_method_7_code 40 = .ok (.baload, 1) := by decide +kernel
theorem d6_41 : decode prog_13_method_7_code 41 = .ok (.ifCond .ne 11, 3) := by decide +kernel
theorem d6_44 : decode prog_13_method_7_code 44 = .ok (.iload_n 3, 1) := by decide +kernel
theorem d6_45 : decode prog_13_method_7_code 45 = .ok (.aload_n 0, 1) := by decide +kernel
theorem d6_46 : decode prog_13_method_7_code 46 = .ok (.getfield 18, 3) := by decide +kernel
theorem d6_49 : decode prog_13_method_7_code 49 = .ok (.if_icmp .ge 7, 3) := by decide +kernel
theorem d6_52 : decode prog_13_method_7_code 52 = .ok (.lconst 0, 1) := by decide +kernel
theorem d6_53 : decode prog_13_method_7_code 53 = .ok (.goto 11, 3) := by decide +kernel
theorem d6_56 : decode prog_13_method_7_code 56 = .ok (.aload_n 1, 1) := by decide +kernel
theorem d6_57 : decode prog_13_method_7_code 57 = .ok (.iload_n 3, 1) := by decide +kernel
theorem d6_58 : decode prog_13_method_7_code 58 = .ok (.aload_n 0, 1) := by decide +kernel
theorem d6_59 : decode prog_13_method_7_code 59 = .ok (.getfield 18, 3) := by decide +kernel
theorem d6_62 : decode prog_13_method_7_code 62 = .ok (.isub, 1) := by decide +kernel
theorem d6_63 : decode prog_13_method_7_code 63 = .ok (.laload, 1) := by decide +kernel
theorem d6_64 : decode prog_13_method_7_code 64 = .ok (.lastore, 1) := by decide +kernel
theorem d6_65 : decode prog_13_method_7_code 65 = .ok (.iinc 3 1, 3) := by decide +kernel
theorem d6_68 : decode prog_13_method_7_code 68 = .ok (.goto (-66), 3) := by decide +kernel
theorem d6_71 : decode prog_13_method_7_code 71 = .ok (.iconst 1, 1) := by decide +kernel
theorem d6_72 : decode prog_13_method_7_code 72 = .ok (.ireturn, 1) := by decide +kernel
theorem pf_0 : plainFor x = true := plainFor_of_name (by show plainName "com/example/lacuna_tensor/lacunatensor/BroadcastFirstPlacementPinLaw" = true; simp [plainName, overriddenIn])
theorem own_ti {i : Nat} (h : i ≤ 3) : i.toInt32.toInt = (i : Int) := len_toInt (by omega)
theorem own_idx : ∀ ax : Nat, ax < 3 → ∀ ld : Nat, ld < 4 → (ax.toInt32 - ((3 : Int32) - (3 - ld).toInt32)).toInt = (ax : Int) - (ld : Int) := by decide
theorem own_idx2 : ∀ ax : Nat, ax < 3 → ∀ ld : Nat, ld < 4 → (ax.toInt32 - ld.toInt32).toInt = (ax : Int) - (ld : Int) := by decide
theorem own_lead : ∀ ld : Nat, ld < 4 → (3 : Int32) - (3 - ld).toInt32 = ld.toInt32 := by decide
theorem own_cge {x y : Nat} (hx : x ≤ 3) (hy : y ≤ 3) : if_icmp.holds .ge x.toInt32 y.toInt32 = decide (y ≤ x) := by
  have e1 := own_ti hx; have e2 := own_ti hy
  simp only [if_icmp.holds]
  refine decide_eq_decide.mpr ?_
  show y.toInt32 ≤ x.toInt32 ↔ _
  rw [Int32.le_iff_toInt_le, e1, e2]; omega
theorem own_up : ∀ {i : Nat}, i < 3 → i.toInt32 + Int32.ofInt 1 = (i + 1).toInt32 := by intro i hi; match i, hi with | 0, _ => rfl | 1, _ => rfl | 2, _ => rfl
def Lf (g : Nat → Int64) : Nat → Value := fun i => .long (g i)
def Bf (g : Nat → Bool) : Nat → Value := fun i => .int (own_b (g i))
theorem upd_L (g : Nat → Int64) (i : Nat) (v : Int64) : updN (Lf g) i (.long v) = Lf (updN g i v) := by funext j; simp only [updN, Lf]; split <;> rfl
theorem upd_B (g : Nat → Bool) (i : Nat) (v : Bool) : updN (Bf g) i (.int (own_b v)) = Bf (updN g i v) := by funext j; simp only [updN, Bf]; split <;> rfl
def own_len (ld : Nat) (f : Nat → Int64) (i : Nat) : Int64 := if i < ld then 1 else f (i - ld)
def own_str (ld : Nat) (f g : Nat → Int64) (i : Nat) : Bool := decide (¬ own_len ld f i = g i)
def own_pt (ld : Nat) (sf : Nat → Bool) (fo : Nat → Int64) (i : Nat) : Int64 := if (sf i || decide (i < ld)) = true then 0 else fo (i - ld)
set_option maxRecDepth 65536 in
set_option maxHeartbeats 40000000 in
theorem con_max (l : Launch) (Z : State) (a0 : Array Value) (hw : ∀ d ∈ tables_1, d.before a0 Z = true) (q1 q2 : Int64) (h0 : Heap) (n0 : Nat) (z0 : n0 ≤ h0.size) :
    Con l Z (⟨"java/lang/Math", "max", "(JJ)J"⟩ : MethodName) jdk_29_method_66_code 4 (some .long) ({ frames := 0, cells := 0, slots := 0, locals := 0 } : Room) #[(.long q1), (.long q2)] h0 n0 (fun v h' => v = some (.long (own_max q1 q2)) ∧ h0 = h') := by
  refine Con.mk (tb := tables_1) (a0 := a0) (Ls := #[.val (.long q1), .second, .val (.long q2), .second]) pf_2 hw z0 (fun m => by first | (simp [entryFrame, mkF, argsToLocals, Value.category, maxLocals]; done) | rfl) ?_
  intro p e s m below meth c S0 C R
  replace R := R.lloadN C (pc' := 1) d2_0 rfl rfl
  replace R := R.lloadN C (pc' := 2) d2_1 rfl rfl
  replace R := R.lcmp C (pc' := 3) d2_2 rfl
  by_cases q : q1 < q2
  · skip
    replace R := R.ifY C (pc' := 10) d2_3 (by rw [lcmp_lt]; exact decide_eq_true q) rfl
    replace R := R.lloadN C (pc' := 11) d2_10 rfl rfl
    exact R.retJ C d2_11 ⟨by rw [own_max, if_pos q], rfl⟩ (by decide) (by decide)
  · skip
    replace R := R.ifN C (pc' := 6) d2_3 (by rw [lcmp_lt]; exact decide_eq_false q) rfl
    replace R := R.lloadN C (pc' := 7) d2_6 rfl rfl
    replace R := R.goto C (pc' := 11) d2_7 rfl
    exact R.retJ C d2_11 ⟨by rw [own_max, if_neg q], rfl⟩ (by decide) (by decide)
set_option maxRecDepth 65536 in
set_option maxHeartbeats 40000000 in
theorem con_al (l : Launch) (Z : State) (a0 : Array Value) (hw : ∀ d ∈ tables_1, d.before a0 Z = true) (O : Addr) (ax ld : Nat) (hax : ax < 3) (hld : ld < 4) (f : Nat → Int64) (h0 : Heap) (n0 : Nat) (z0 : n0 ≤ h0.size) (A : Ary Z h0 O .long (3 - ld) (Lf f)) :
    Con l Z (⟨"com/example/lacuna_tensor/lacunatensor/Shapes", "alignedLength", "([JII)J"⟩ : MethodName) prog_153_method_6_code 4 (some .long) ({ frames := 0, cells := 0, slots := 0, locals := 0 } : Room) #[(.ref O), (.int ax.toInt32), (.int (3 : Int32))] h0 n0 (fun v h' => v = some (.long (own_len ld f ax)) ∧ h0 = h') := by
  refine Con.mk (tb := tables_1) (a0 := a0) (Ls := #[.val (.ref O), .val (.int ax.toInt32), .val (.int (3 : Int32)), .unset]) pf_5 hw z0 (fun m => by first | (simp [entryFrame, mkF, argsToLocals, Value.category, maxLocals]; done) | rfl) ?_
  intro p e s m below meth c S0 C R
  replace R := R.iloadN C (pc' := 1) d5_0 rfl rfl
  replace R := R.iloadN C (pc' := 2) d5_1 rfl rfl
  replace R := R.aloadN C (pc' := 3) d5_2 rfl rfl rfl
  replace R := R.alen C A (v := (3 - ld).toInt32) rfl (pc' := 4) d5_3 rfl
  replace R := R.isub C (pc' := 5) d5_4 rfl
  replace R := R.isub C (pc' := 6) d5_5 rfl
  replace R := R.istoreN C (Ls' := #[.val (.ref O), .val (.int ax.toInt32), .val (.int (3 : Int32)), .val (.int (ax.toInt32 - ((3 : Int32) - (3 - ld).toInt32)))]) (pc' := 7) d5_6 rfl rfl
  replace R := R.iloadN C (pc' := 8) d5_7 rfl rfl
  have hx := own_idx ax hax ld hld
  by_cases q : ax < ld
  · skip
    replace R := R.ifN C (pc' := 11) d5_8 (by rw [h_ge]; exact decide_eq_false (by rw [hx]; omega)) rfl
    replace R := R.lconst C (pc' := 12) d5_11 (v := (1 : Int64)) rfl rfl
    replace R := R.goto C (pc' := 18) d5_12 rfl
    exact R.retJ C d5_18 ⟨by rw [own_len, if_pos q], rfl⟩ (by decide) (by decide)
  · skip
    replace R := R.ifY C (pc' := 15) d5_8 (by rw [h_ge]; exact decide_eq_true (by rw [hx]; omega)) rfl
    replace R := R.aloadN C (pc' := 16) d5_15 rfl rfl rfl
    replace R := R.iloadN C (pc' := 17) d5_16 rfl rfl
    replace R := R.laload C (v := (.long (f (ax - ld)))) A (i := ax - ld) (by rw [hx]; omega) (by omega) rfl (pc' := 18) d5_17 rfl
    exact R.retJ C d5_18 ⟨by rw [own_len, if_neg q], rfl⟩ (by decide) (by decide)
def Four (Z : State) (h : Heap) (n0 : Nat) (S O W X : Addr) (ld : Nat) (g f fo fe : Nat → Int64) : Prop :=
  (n0 ≤ S ∧ n0 ≤ O ∧ n0 ≤ W ∧ n0 ≤ X) ∧ (S ≠ O ∧ S ≠ W ∧ S ≠ X ∧ O ≠ W ∧ O ≠ X ∧ W ≠ X) ∧ Exa Z h S "[J" ∧ Ary Z h S .long 3 (Lf g) ∧ Ary Z h O .long (3 - ld) (Lf f) ∧ Ary Z h W .long (3 - ld) (Lf fo) ∧ Ary Z h X .long 3 (Lf fe)
def own_Ax (ld ax : Nat) (sv ov wv ev : Int64) : Prop := (ax < ld → ev = 0) ∧ (¬ ax < ld → (ov = 1 ∧ wv = 0 ∧ ev = 0) ∨ (ov = sv ∧ ¬ sv = 0 ∧ wv = ev))
def own_put (ld ax : Nat) (f : Nat → Int64) (v : Int64) : Nat → Int64 := if ax < ld then f else updN f (ax - ld) v
set_option maxRecDepth 65536 in
set_option maxHeartbeats 40000000 in
theorem con_ax (l : Launch) (Z : State) (a0 : Array Value) (hw : ∀ d ∈ tables_1, d.before a0 Z = true) (ax ld : Nat) (hax : ax < 3) (hld : ld < 4) (bits : Int32) (sv cv : Int64) (S O W X : Addr) (g f fo fe : Nat → Int64) (h0 : Heap) (n0 : Nat) (z0 : n0 ≤ h0.size) (B : Four Z h0 n0 S O W X ld g f fo fe) :
    Con l Z (⟨"com/example/lacuna_tensor/lacunatensor/BroadcastFirstPlacementPinLaw", "axis", "(IIIJJ[J[J[J[J)V"⟩ : MethodName) method_2_code 19 none ({ frames := 1, cells := 0, slots := 0, locals := 15 } : Room) #[(.int ax.toInt32), (.int ld.toInt32), (.int bits), (.long sv), (.long cv), (.ref S), (.ref O), (.ref W), (.ref X)] h0 n0 (fun v h' => v = none ∧ ∃ s1 o1 w1 e1, own_Ax ld ax s1 o1 w1 e1 ∧ Four Z h' n0 S O W X ld (updN g ax s1) (own_put ld ax f o1) (own_put ld ax fo w1) (updN fe ax e1)) := by
  refine Con.mk (tb := tables_1) (a0 := a0) (Ls := #[.val (.int ax.toInt32), .val (.int ld.toInt32), .val (.int bits), .val (.long sv), .second, .val (.long cv), .second, .val (.ref S), .val (.ref O), .val (.ref W), .val (.ref X), .unset, .unset, .unset, .unset, .unset, .unset, .unset, .unset]) pf_1 hw z0 (fun m => by first | (simp [entryFrame, mkF, argsToLocals, Value.category, maxLocals]; done) | rfl) ?_
  intro p e s m below meth c S0 C R
  obtain ⟨⟨gS, gO, gW, gX⟩, ⟨nSO, nSW, nSX, nOW, nOX, nWX⟩, ES, AS, AO, AW, AX⟩ := B
  have tx := own_ti (i := ax) (by omega)
  have tj := own_idx2 ax hax ld hld
  replace R := R.iloadN C (pc' := 1) d1_0 rfl rfl
  replace R := R.iconst C (pc' := 2) d1_1 (v := (1 : Int32)) rfl rfl
  replace R := R.iand C (pc' := 3) d1_2 rfl
  obtain ⟨t1, ht1⟩ := own_bit (bits &&& (1 : Int32))
  replace R := R.dia C (b := t1) (pc' := 11) d1_3 d1_6 d1_7 d1_10 ht1 rfl
  replace R := R.istore C (Ls' := #[.val (.int ax.toInt32), .val (.int ld.toInt32), .val (.int bits), .val (.long sv), .second, .val (.long cv), .second, .val (.ref S), .val (.ref O), .val (.ref W), .val (.ref X), .val (.int (own_b t1)), .unset, .unset, .unset, .unset, .unset, .unset, .unset]) (pc' := 13) d1_11 rfl rfl
  replace R := R.iloadN C (pc' := 14) d1_13 rfl rfl
  replace R := R.iconst C (pc' := 15) d1_14 (v := (2 : Int32)) rfl rfl
  replace R := R.iand C (pc' := 16) d1_15 rfl
  obtain ⟨t2, ht2⟩ := own_bit (bits &&& (2 : Int32))
  replace R := R.dia C (b := t2) (pc' := 24) d1_16 d1_19 d1_20 d1_23 ht2 rfl
  replace R := R.istore C (Ls' := #[.val (.int ax.toInt32), .val (.int ld.toInt32), .val (.int bits), .val (.long sv), .second, .val (.long cv), .second, .val (.ref S), .val (.ref O), .val (.ref W), .val (.ref X), .val (.int (own_b t1)), .val (.int (own_b t2)), .unset, .unset, .unset, .unset, .unset, .unset]) (pc' := 26) d1_24 rfl rfl
  replace R := R.iload C (pc' := 28) d1_26 rfl rfl
  obtain ⟨any, R'⟩ : ∃ any : Int64, Rch p l e ({ frames := 1, cells := 0, slots := 0, locals := 15 } : Room) s m #[(.int ax.toInt32), (.int ld.toInt32), (.int bits), (.long sv), (.long cv), (.ref S), (.ref O), (.ref W), (.ref X)] below meth c S0 n0 0 0 h0 44 #[.val (.int ax.toInt32), .val (.int ld.toInt32), .val (.int bits), .val (.long sv), .second, .val (.long cv), .second, .val (.ref S), .val (.ref O), .val (.ref W), .val (.ref X), .val (.int (own_b t1)), .val (.int (own_b t2)), .unset, .unset, .unset, .unset, .unset, .unset] [.long any] := by
    cases t2 with
    | false =>
      replace R := R.ifY C (pc' := 39) d1_28 rfl rfl
      replace R := R.lloadN C (pc' := 40) d1_39 rfl rfl
      replace R := R.ldcJ C (v := (9223372036854775807 : Int64)) (C.w 5 rfl) (pc' := 43) d1_40 rfl
      replace R := R.land C (pc' := 44) d1_43 rfl
      exact ⟨_, R⟩
    | true =>
      replace R := R.ifN C (pc' := 31) d1_28 rfl rfl
      replace R := R.lloadN C (pc' := 32) d1_31 rfl rfl
      replace R := R.ldcJ C (v := (3 : Int64)) (C.w 49 rfl) (pc' := 35) d1_32 rfl
      replace R := R.land C (pc' := 36) d1_35 rfl
      replace R := R.goto C (pc' := 44) d1_36 rfl
      exact ⟨_, R⟩
  replace R := R'
  clear R'
  replace R := R.lstore C (Ls' := #[.val (.int ax.toInt32), .val (.int ld.toInt32), .val (.int bits), .val (.long sv), .second, .val (.long cv), .second, .val (.ref S), .val (.ref O), .val (.ref W), .val (.ref X), .val (.int (own_b t1)), .val (.int (own_b t2)), .val (.long any), .second, .unset, .unset, .unset, .unset]) (pc' := 46) d1_44 rfl rfl
  replace R := R.iloadN C (pc' := 47) d1_46 rfl rfl
  replace R := R.iloadN C (pc' := 48) d1_47 rfl rfl
  by_cases q : ax < ld
  · skip
    replace R := R.icmpN C (pc' := 51) d1_48 (by rw [own_cge (by omega) (by omega)]; exact decide_eq_false (by omega)) rfl
    replace R := R.aload C (pc' := 53) d1_51 rfl rfl rfl
    replace R := R.iloadN C (pc' := 54) d1_53 rfl rfl
    replace R := R.lload C (pc' := 56) d1_54 rfl rfl
    obtain ⟨h1, R', W1⟩ := R.lastore C AS (i := ax) tx hax gS (pc' := 57) d1_56 rfl
    replace R := R'
    clear R'
    replace ES := ES.wr W1
    replace AS := AS.set W1
    replace AO := AO.other W1 (Ne.symm nSO)
    replace AW := AW.other W1 (Ne.symm nSW)
    replace AX := AX.other W1 (Ne.symm nSX)
    rw [upd_L] at AS
    replace R := R.aload C (pc' := 59) d1_57 rfl rfl rfl
    replace R := R.iloadN C (pc' := 60) d1_59 rfl rfl
    replace R := R.lconst C (pc' := 61) d1_60 (v := (0 : Int64)) rfl rfl
    obtain ⟨h2, R', W2⟩ := R.lastore C AX (i := ax) tx hax gX (pc' := 62) d1_61 rfl
    replace R := R'
    clear R'
    replace ES := ES.wr W2
    replace AS := AS.other W2 nSX
    replace AO := AO.other W2 nOX
    replace AW := AW.other W2 nWX
    replace AX := AX.set W2
    rw [upd_L] at AX
    replace R := R.goto C (pc' := 145) d1_62 rfl
    refine R.retV C d1_145 ⟨rfl, any, 0, 0, 0, ⟨fun _ => rfl, fun z => absurd q z⟩, ⟨gS, gO, gW, gX⟩, ⟨nSO, nSW, nSX, nOW, nOX, nWX⟩, ES, AS, ?_, ?_, AX⟩ (by decide) (by decide)
    · rw [own_put, if_pos q]; exact AO
    · rw [own_put, if_pos q]; exact AW
  · skip
    replace R := R.icmpY C (pc' := 65) d1_48 (by rw [own_cge (by omega) (by omega)]; exact decide_eq_true (by omega)) rfl
    replace R := R.iload C (pc' := 67) d1_65 rfl rfl
    cases t1 with
    | true =>
      replace R := R.ifN C (pc' := 70) d1_67 rfl rfl
      replace R := R.aload C (pc' := 72) d1_70 rfl rfl rfl
      replace R := R.iloadN C (pc' := 73) d1_72 rfl rfl
      replace R := R.lload C (pc' := 75) d1_73 rfl rfl
      obtain ⟨h3, R', W3⟩ := R.lastore C AS (i := ax) tx hax gS (pc' := 76) d1_75 rfl
      replace R := R'
      clear R'
      replace ES := ES.wr W3
      replace AS := AS.set W3
      replace AO := AO.other W3 (Ne.symm nSO)
      replace AW := AW.other W3 (Ne.symm nSW)
      replace AX := AX.other W3 (Ne.symm nSX)
      rw [upd_L] at AS
      replace R := R.aload C (pc' := 78) d1_76 rfl rfl rfl
      replace R := R.iloadN C (pc' := 79) d1_78 rfl rfl
      replace R := R.iloadN C (pc' := 80) d1_79 rfl rfl
      replace R := R.isub C (pc' := 81) d1_80 rfl
      replace R := R.lconst C (pc' := 82) d1_81 (v := (1 : Int64)) rfl rfl
      obtain ⟨h4, R', W4⟩ := R.lastore C AO (i := (ax - ld)) (by rw [tj]; omega) (by omega) gO (pc' := 83) d1_82 rfl
      replace R := R'
      clear R'
      replace ES := ES.wr W4
      replace AS := AS.other W4 nSO
      replace AO := AO.set W4
      replace AW := AW.other W4 (Ne.symm nOW)
      replace AX := AX.other W4 (Ne.symm nOX)
      rw [upd_L] at AO
      replace R := R.aload C (pc' := 85) d1_83 rfl rfl rfl
      replace R := R.iloadN C (pc' := 86) d1_85 rfl rfl
      replace R := R.iloadN C (pc' := 87) d1_86 rfl rfl
      replace R := R.isub C (pc' := 88) d1_87 rfl
      replace R := R.lconst C (pc' := 89) d1_88 (v := (0 : Int64)) rfl rfl
      obtain ⟨h5, R', W5⟩ := R.lastore C AW (i := (ax - ld)) (by rw [tj]; omega) (by omega) gW (pc' := 90) d1_89 rfl
      replace R := R'
      clear R'
      replace ES := ES.wr W5
      replace AS := AS.other W5 nSW
      replace AO := AO.other W5 nOW
      replace AW := AW.set W5
      replace AX := AX.other W5 (Ne.symm nWX)
      rw [upd_L] at AW
      replace R := R.aload C (pc' := 92) d1_90 rfl rfl rfl
      replace R := R.iloadN C (pc' := 93) d1_92 rfl rfl
      replace R := R.lconst C (pc' := 94) d1_93 (v := (0 : Int64)) rfl rfl
      obtain ⟨h6, R', W6⟩ := R.lastore C AX (i := ax) tx hax gX (pc' := 95) d1_94 rfl
      replace R := R'
      clear R'
      replace ES := ES.wr W6
      replace AS := AS.other W6 nSX
      replace AO := AO.other W6 nOX
      replace AW := AW.other W6 nWX
      replace AX := AX.set W6
      rw [upd_L] at AX
      replace R := R.goto C (pc' := 145) d1_95 rfl
      refine R.retV C d1_145 ⟨rfl, any, 1, 0, 0, ⟨fun _ => rfl, fun _ => Or.inl ⟨rfl, rfl, rfl⟩⟩, ⟨gS, gO, gW, gX⟩, ⟨nSO, nSW, nSX, nOW, nOX, nWX⟩, ES, AS, ?_, ?_, AX⟩ (by decide) (by decide)
      · rw [own_put, if_neg q]; exact AO
      · rw [own_put, if_neg q]; exact AW
    | false =>
      replace R := R.ifY C (pc' := 98) d1_67 rfl rfl
      replace R := R.lconst C (pc' := 99) d1_98 (v := (1 : Int64)) rfl rfl
      replace R := R.lload C (pc' := 101) d1_99 rfl rfl
      obtain ⟨_, _, R', rfl, rfl⟩ := R.callS C (y := (⟨"java/lang/Math", "max", "(JJ)J"⟩ : MethodName)) (C.w 6 rfl) (C.w 7 rfl) (C.w 8 rfl) (C.w 9 rfl) (by decide) [(.long (1 : Int64)), (.long any)] [] rfl (con_max l Z a0 hw (1 : Int64) any h0 n0 z0) 0 (Nat.le_of_eq rfl) (by decide) (by decide) (by decide) (by decide) (lenOf pd_1 rfl) rfl (pc' := 104) d1_101 rfl
      clear R
      replace R := R'.as (st' := [(.long (own_max (1 : Int64) any))]) rfl
      clear R'
      obtain ⟨len, e_len⟩ : ∃ z, z = own_max (1 : Int64) any := ⟨_, rfl⟩
      have h_len : ¬ len = 0 := by intro z; have := own_max_pos any; rw [← e_len, z] at this; exact absurd this (by decide)
      rw [← e_len] at R
      replace R := R.lstore C (Ls' := #[.val (.int ax.toInt32), .val (.int ld.toInt32), .val (.int bits), .val (.long sv), .second, .val (.long cv), .second, .val (.ref S), .val (.ref O), .val (.ref W), .val (.ref X), .val (.int (own_b false)), .val (.int (own_b t2)), .val (.long any), .second, .val (.long len), .second, .unset, .unset]) (pc' := 106) d1_104 rfl rfl
      replace R := R.aload C (pc' := 108) d1_106 rfl rfl rfl
      replace R := R.iloadN C (pc' := 109) d1_108 rfl rfl
      replace R := R.lload C (pc' := 111) d1_109 rfl rfl
      obtain ⟨h7, R', W7⟩ := R.lastore C AS (i := ax) tx hax gS (pc' := 112) d1_111 rfl
      replace R := R'
      clear R'
      replace ES := ES.wr W7
      replace AS := AS.set W7
      replace AO := AO.other W7 (Ne.symm nSO)
      replace AW := AW.other W7 (Ne.symm nSW)
      replace AX := AX.other W7 (Ne.symm nSX)
      rw [upd_L] at AS
      replace R := R.aload C (pc' := 114) d1_112 rfl rfl rfl
      replace R := R.iloadN C (pc' := 115) d1_114 rfl rfl
      replace R := R.iloadN C (pc' := 116) d1_115 rfl rfl
      replace R := R.isub C (pc' := 117) d1_116 rfl
      replace R := R.lload C (pc' := 119) d1_117 rfl rfl
      obtain ⟨h8, R', W8⟩ := R.lastore C AO (i := (ax - ld)) (by rw [tj]; omega) (by omega) gO (pc' := 120) d1_119 rfl
      replace R := R'
      clear R'
      replace ES := ES.wr W8
      replace AS := AS.other W8 nSO
      replace AO := AO.set W8
      replace AW := AW.other W8 (Ne.symm nOW)
      replace AX := AX.other W8 (Ne.symm nOX)
      rw [upd_L] at AO
      replace R := R.lload C (pc' := 122) d1_120 rfl rfl
      replace R := R.ldcJ C (v := (9223372036854775807 : Int64)) (C.w 5 rfl) (pc' := 125) d1_122 rfl
      replace R := R.land C (pc' := 126) d1_125 rfl
      replace R := R.lload C (pc' := 128) d1_126 rfl rfl
      replace R := R.lrem C (pc' := 129) d1_128 h_len rfl
      replace R := R.lstore C (Ls' := #[.val (.int ax.toInt32), .val (.int ld.toInt32), .val (.int bits), .val (.long sv), .second, .val (.long cv), .second, .val (.ref S), .val (.ref O), .val (.ref W), .val (.ref X), .val (.int (own_b false)), .val (.int (own_b t2)), .val (.long any), .second, .val (.long len), .second, .val (.long ((cv &&& (9223372036854775807 : Int64)) % len)), .second]) (pc' := 131) d1_129 rfl rfl
      replace R := R.aload C (pc' := 133) d1_131 rfl rfl rfl
      replace R := R.iloadN C (pc' := 134) d1_133 rfl rfl
      replace R := R.iloadN C (pc' := 135) d1_134 rfl rfl
      replace R := R.isub C (pc' := 136) d1_135 rfl
      replace R := R.lload C (pc' := 138) d1_136 rfl rfl
      obtain ⟨h9, R', W9⟩ := R.lastore C AW (i := (ax - ld)) (by rw [tj]; omega) (by omega) gW (pc' := 139) d1_138 rfl
      replace R := R'
      clear R'
      replace ES := ES.wr W9
      replace AS := AS.other W9 nSW
      replace AO := AO.other W9 nOW
      replace AW := AW.set W9
      replace AX := AX.other W9 (Ne.symm nWX)
      rw [upd_L] at AW
      replace R := R.aload C (pc' := 141) d1_139 rfl rfl rfl
      replace R := R.iloadN C (pc' := 142) d1_141 rfl rfl
      replace R := R.lload C (pc' := 144) d1_142 rfl rfl
      obtain ⟨h10, R', W10⟩ := R.lastore C AX (i := ax) tx hax gX (pc' := 145) d1_144 rfl
      replace R := R'
      clear R'
      replace ES := ES.wr W10
      replace AS := AS.other W10 nSX
      replace AO := AO.other W10 nOX
      replace AW := AW.other W10 nWX
      replace AX := AX.set W10
      rw [upd_L] at AX
      refine R.retV C d1_145 ⟨rfl, len, len, _, _, ⟨fun z => absurd z q, fun _ => Or.inr ⟨rfl, h_len, rfl⟩⟩, ⟨gS, gO, gW, gX⟩, ⟨nSO, nSW, nSX, nOW, nOX, nWX⟩, ES, AS, ?_, ?_, AX⟩ (by decide) (by decide)
      · rw [own_put, if_neg q]; exact AO
      · rw [own_put, if_neg q]; exact AW
set_option maxRecDepth 65536 in
set_option maxHeartbeats 40000000 in
theorem fp_turn {p : Program} {l : Launch} {e : Env} {s : State} {m : MethodId} {below : List Frame} {meth : Method} {c : Code} {S0 : State} {n0 : Nat} {Z : State} {a0 : Array Value} {h0 : Heap} (hw : ∀ d ∈ tables_1, d.before a0 Z = true) (C : Ctx p s m meth c Z a0 tables_1 "com/example/lacuna_tensor/lacunatensor/Broadcast" prog_13_method_7_code 4 "firstPlacement" (some .boolean)) (a W P sh st : Addr) (ld i : Nat) (hld : ld < 4) (hi : i < 3) (g fo fp : Nat → Int64) (sf : Nat → Bool) (gP : n0 ≤ P) (nPa : P ≠ a) (nPh : P ≠ sh) (nPs : P ≠ st) (nPW : P ≠ W) (Fs : Fld Z h0 a "com/example/lacuna_tensor/lacunatensor/Broadcast" "shape" "[J" (.ref sh)) (Fl : Fld Z h0 a "com/example/lacuna_tensor/lacunatensor/Broadcast" "lead" "I" (.int ld.toInt32)) (Ft : Fld Z h0 a "com/example/lacuna_tensor/lacunatensor/Broadcast" "stretched" "[Z" (.ref st)) (Ah : Ary Z h0 sh .long 3 (Lf g)) (At : Ary Z h0 st .boolean 3 (Bf sf)) (Aw : Ary Z h0 W .long (3 - ld) (Lf fo)) (Ap : Ary Z h0 P .long 3 (Lf fp)) (R : Rch p l e ({ frames := 0, cells := 0, slots := 0, locals := 0 } : Room) s m #[(.ref a), (.ref W), (.ref P)] below meth c S0 n0 0 0 h0 2 #[.val (.ref a), .val (.ref W), .val (.ref P), .val (.int i.toInt32)] []) :
    ((sf i = true ∧ g i = 0) ∧ Rch p l e ({ frames := 0, cells := 0, slots := 0, locals := 0 } : Room) s m #[(.ref a), (.ref W), (.ref P)] below meth c S0 n0 0 0 h0 31 #[.val (.ref a), .val (.ref W), .val (.ref P), .val (.int i.toInt32)] []) ∨ (¬ (sf i = true ∧ g i = 0) ∧ ∃ h', Rch p l e ({ frames := 0, cells := 0, slots := 0, locals := 0 } : Room) s m #[(.ref a), (.ref W), (.ref P)] below meth c S0 n0 0 0 h' 2 #[.val (.ref a), .val (.ref W), .val (.ref P), .val (.int (i + 1).toInt32)] [] ∧ Wr h0 h' P i (.long (own_pt ld sf fo i))) := by
  have ti := own_ti (i := i) (by omega)
  have tj := own_idx2 i hi ld hld
  replace R := R.iloadN C (pc' := 3) d6_2 rfl rfl
  replace R := R.aloadN C (pc' := 4) d6_3 rfl rfl rfl
  replace R := R.getF C (C.w 29 rfl) Fs (pc' := 7) d6_4 rfl
  replace R := R.alen C Ah (v := (3 : Int32)) rfl (pc' := 8) d6_7 rfl
  replace R := R.icmpN C (pc' := 11) d6_8 (own_cge (x := i) (y := 3) (by omega) (by omega) |>.trans (decide_eq_false (by omega))) rfl
  replace R := R.aloadN C (pc' := 12) d6_11 rfl rfl rfl
  replace R := R.getF C (C.w 34 rfl) Ft (pc' := 15) d6_12 rfl
  replace R := R.iloadN C (pc' := 16) d6_15 rfl rfl
  replace R := R.baload C (v := (.int (own_b (sf i)))) At ti hi rfl (pc' := 17) d6_16 rfl
  by_cases q : sf i = true ∧ g i = 0
  · left
    refine ⟨q, ?_⟩
    replace R := R.ifN C (pc' := 20) d6_17 (by rw [q.1]; rfl) rfl
    replace R := R.aloadN C (pc' := 21) d6_20 rfl rfl rfl
    replace R := R.getF C (C.w 29 rfl) Fs (pc' := 24) d6_21 rfl
    replace R := R.iloadN C (pc' := 25) d6_24 rfl rfl
    replace R := R.laload C (v := (.long (g i))) Ah ti hi rfl (pc' := 26) d6_25 rfl
    replace R := R.lconst C (pc' := 27) d6_26 (v := (0 : Int64)) rfl rfl
    replace R := R.lcmp C (pc' := 28) d6_27 rfl
    replace R := R.ifN C (pc' := 31) d6_28 (by rw [lcmp_ne]; exact decide_eq_false (fun z => z q.2)) rfl
    exact R
  · right
    refine ⟨q, ?_⟩
    replace R : Rch p l e ({ frames := 0, cells := 0, slots := 0, locals := 0 } : Room) s m #[(.ref a), (.ref W), (.ref P)] below meth c S0 n0 0 0 h0 33 #[.val (.ref a), .val (.ref W), .val (.ref P), .val (.int i.toInt32)] [] := by
      cases hs : sf i with
      | false =>
        rw [hs] at R
        replace R := R.ifY C (pc' := 33) d6_17 rfl rfl
        exact R
      | true =>
        rw [hs] at R
        replace R := R.ifN C (pc' := 20) d6_17 rfl rfl
        replace R := R.aloadN C (pc' := 21) d6_20 rfl rfl rfl
        replace R := R.getF C (C.w 29 rfl) Fs (pc' := 24) d6_21 rfl
        replace R := R.iloadN C (pc' := 25) d6_24 rfl rfl
        replace R := R.laload C (v := (.long (g i))) Ah ti hi rfl (pc' := 26) d6_25 rfl
        replace R := R.lconst C (pc' := 27) d6_26 (v := (0 : Int64)) rfl rfl
        replace R := R.lcmp C (pc' := 28) d6_27 rfl
        replace R := R.ifY C (pc' := 33) d6_28 (by rw [lcmp_ne]; exact decide_eq_true (fun z => q ⟨hs, z⟩)) rfl
        exact R
    replace R := R.aloadN C (pc' := 34) d6_33 rfl rfl rfl
    replace R := R.iloadN C (pc' := 35) d6_34 rfl rfl
    replace R := R.aloadN C (pc' := 36) d6_35 rfl rfl rfl
    replace R := R.getF C (C.w 34 rfl) Ft (pc' := 39) d6_36 rfl
    replace R := R.iloadN C (pc' := 40) d6_39 rfl rfl
    replace R := R.baload C (v := (.int (own_b (sf i)))) At ti hi rfl (pc' := 41) d6_40 rfl
    replace R : Rch p l e ({ frames := 0, cells := 0, slots := 0, locals := 0 } : Room) s m #[(.ref a), (.ref W), (.ref P)] below meth c S0 n0 0 0 h0 64 #[.val (.ref a), .val (.ref W), .val (.ref P), .val (.int i.toInt32)] [(.long (own_pt ld sf fo i)), (.int i.toInt32), (.ref P)] := by
      cases hs : sf i with
      | true =>
        rw [hs] at R
        replace R := R.ifY C (pc' := 52) d6_41 rfl rfl
        replace R := R.lconst C (pc' := 53) d6_52 (v := (0 : Int64)) rfl rfl
        replace R := R.goto C (pc' := 64) d6_53 rfl
        exact R.as (by rw [own_pt, hs]; rfl)
      | false =>
        rw [hs] at R
        replace R := R.ifN C (pc' := 44) d6_41 rfl rfl
        replace R := R.iloadN C (pc' := 45) d6_44 rfl rfl
        replace R := R.aloadN C (pc' := 46) d6_45 rfl rfl rfl
        replace R := R.getF C (C.w 31 rfl) Fl (pc' := 49) d6_46 rfl
        by_cases q2 : i < ld
        · skip
          replace R := R.icmpN C (pc' := 52) d6_49 (by rw [own_cge (by omega) (by omega)]; exact decide_eq_false (by omega)) rfl
          replace R := R.lconst C (pc' := 53) d6_52 (v := (0 : Int64)) rfl rfl
          replace R := R.goto C (pc' := 64) d6_53 rfl
          exact R.as (by rw [own_pt, hs, decide_eq_true q2]; rfl)
        · skip
          replace R := R.icmpY C (pc' := 56) d6_49 (by rw [own_cge (by omega) (by omega)]; exact decide_eq_true (by omega)) rfl
          replace R := R.aloadN C (pc' := 57) d6_56 rfl rfl rfl
          replace R := R.iloadN C (pc' := 58) d6_57 rfl rfl
          replace R := R.aloadN C (pc' := 59) d6_58 rfl rfl rfl
          replace R := R.getF C (C.w 31 rfl) Fl (pc' := 62) d6_59 rfl
          replace R := R.isub C (pc' := 63) d6_62 rfl
          replace R := R.laload C (v := (.long (fo (i - ld)))) Aw (i := i - ld) (by rw [tj]; omega) (by omega) rfl (pc' := 64) d6_63 rfl
          exact R.as (by rw [own_pt, hs, decide_eq_false q2]; rfl)
    obtain ⟨h1, R', W1⟩ := R.lastore C Ap (i := i) ti hi gP (pc' := 65) d6_64 rfl
    replace R := R'
    clear R'
    replace R := R.iinc C (pc' := 68) (Ls' := #[.val (.ref a), .val (.ref W), .val (.ref P), .val (.int (i + 1).toInt32)]) d6_65 rfl (v := (i + 1).toInt32) (own_up hi) rfl rfl
    replace R := R.goto C (pc' := 2) d6_68 rfl
    exact ⟨h1, R, W1⟩
set_option maxRecDepth 65536 in
set_option maxHeartbeats 40000000 in
theorem con_fp (l : Launch) (Z : State) (a0 : Array Value) (hw : ∀ d ∈ tables_1, d.before a0 Z = true) (a W P sh st : Addr) (ld : Nat) (hld : ld < 4) (g fo fp : Nat → Int64) (sf : Nat → Bool) (h0 : Heap) (n0 : Nat) (z0 : n0 ≤ h0.size) (gP : n0 ≤ P) (nPa : P ≠ a) (nPh : P ≠ sh) (nPs : P ≠ st) (nPW : P ≠ W) (Fs : Fld Z h0 a "com/example/lacuna_tensor/lacunatensor/Broadcast" "shape" "[J" (.ref sh)) (Fl : Fld Z h0 a "com/example/lacuna_tensor/lacunatensor/Broadcast" "lead" "I" (.int ld.toInt32)) (Ft : Fld Z h0 a "com/example/lacuna_tensor/lacunatensor/Broadcast" "stretched" "[Z" (.ref st)) (Ah : Ary Z h0 sh .long 3 (Lf g)) (At : Ary Z h0 st .boolean 3 (Bf sf)) (Aw : Ary Z h0 W .long (3 - ld) (Lf fo)) (Ap : Ary Z h0 P .long 3 (Lf fp)) :
    Con l Z (⟨"com/example/lacuna_tensor/lacunatensor/Broadcast", "firstPlacement", "([J[J)Z"⟩ : MethodName) prog_13_method_7_code 4 (some .boolean) ({ frames := 0, cells := 0, slots := 0, locals := 0 } : Room) #[(.ref a), (.ref W), (.ref P)] h0 n0 (fun v h' => Keep h0 h' [P] ∧ ((v = some (.int (own_b false)) ∧ ∃ i, i < 3 ∧ sf i = true ∧ g i = 0) ∨ (v = some (.int (own_b true)) ∧ (∀ i, i < 3 → ¬ (sf i = true ∧ g i = 0)) ∧ Ary Z h' P .long 3 (Lf (own_pt ld sf fo))))) := by
  refine Con.mk (tb := tables_1) (a0 := a0) (Ls := #[.val (.ref a), .val (.ref W), .val (.ref P), .unset]) pf_6 hw z0 (fun m => by first | (simp [entryFrame, mkF, argsToLocals, Value.category, maxLocals]; done) | rfl) ?_
  intro p e s m below meth c S0 C R
  replace R := R.iconst C (pc' := 1) d6_0 (v := (0 : Int32)) rfl rfl
  replace R := R.istoreN C (Ls' := #[.val (.ref a), .val (.ref W), .val (.ref P), .val (.int (0 : Int32))]) (pc' := 2) d6_1 rfl rfl
  replace R := R.asL (Ls' := #[.val (.ref a), .val (.ref W), .val (.ref P), .val (.int (Nat.toInt32 0))]) rfl
  have K := Keep.refl h0 [P]
  rcases fp_turn hw C a W P sh st ld 0 hld (by decide) g fo fp sf gP nPa nPh nPs nPW Fs Fl Ft Ah At Aw Ap R with ⟨q, R⟩ | ⟨q0, h1, R, W1⟩
  · replace R := R.iconst C (pc' := 32) d6_31 (v := own_b false) rfl rfl
    exact R.retZ C d6_32 ⟨K, Or.inl ⟨rfl, 0, by decide, q⟩⟩ (by decide) (by decide)
  replace K := K.wr W1 (Or.inl (List.mem_of_getElem? (i := 0) rfl))
  replace Fs := Fs.other W1 (Or.inl (Ne.symm nPa))
  replace Fl := Fl.other W1 (Or.inl (Ne.symm nPa))
  replace Ft := Ft.other W1 (Or.inl (Ne.symm nPa))
  replace Ah := Ah.other W1 (Ne.symm nPh)
  replace At := At.other W1 (Ne.symm nPs)
  replace Aw := Aw.other W1 (Ne.symm nPW)
  replace Ap := Ap.set W1
  rw [upd_L] at Ap
  rcases fp_turn hw C a W P sh st ld 1 hld (by decide) g fo (updN fp 0 (own_pt ld sf fo 0)) sf gP nPa nPh nPs nPW Fs Fl Ft Ah At Aw Ap R with ⟨q, R⟩ | ⟨q1, h2, R, W2⟩
  · replace R := R.iconst C (pc' := 32) d6_31 (v := own_b false) rfl rfl
    exact R.retZ C d6_32 ⟨K, Or.inl ⟨rfl, 1, by decide, q⟩⟩ (by decide) (by decide)
  replace K := K.wr W2 (Or.inl (List.mem_of_getElem? (i := 0) rfl))
  replace Fs := Fs.other W2 (Or.inl (Ne.symm nPa))
  replace Fl := Fl.other W2 (Or.inl (Ne.symm nPa))
  replace Ft := Ft.other W2 (Or.inl (Ne.symm nPa))
  replace Ah := Ah.other W2 (Ne.symm nPh)
  replace At := At.other W2 (Ne.symm nPs)
  replace Aw := Aw.other W2 (Ne.symm nPW)
  replace Ap := Ap.set W2
  rw [upd_L] at Ap
  rcases fp_turn hw C a W P sh st ld 2 hld (by decide) g fo (updN (updN fp 0 (own_pt ld sf fo 0)) 1 (own_pt ld sf fo 1)) sf gP nPa nPh nPs nPW Fs Fl Ft Ah At Aw Ap R with ⟨q, R⟩ | ⟨q2, h3, R, W3⟩
  · replace R := R.iconst C (pc' := 32) d6_31 (v := own_b false) rfl rfl
    exact R.retZ C d6_32 ⟨K, Or.inl ⟨rfl, 2, by decide, q⟩⟩ (by decide) (by decide)
  replace K := K.wr W3 (Or.inl (List.mem_of_getElem? (i := 0) rfl))
  replace Fs := Fs.other W3 (Or.inl (Ne.symm nPa))
  replace Fl := Fl.other W3 (Or.inl (Ne.symm nPa))
  replace Ft := Ft.other W3 (Or.inl (Ne.symm nPa))
  replace Ah := Ah.other W3 (Ne.symm nPh)
  replace At := At.other W3 (Ne.symm nPs)
  replace Aw := Aw.other W3 (Ne.symm nPW)
  replace Ap := Ap.set W3
  rw [upd_L] at Ap
  replace R := R.asL (Ls' := #[.val (.ref a), .val (.ref W), .val (.ref P), .val (.int (3 : Int32))]) rfl
  replace R := R.iloadN C (pc' := 3) d6_2 rfl rfl
  replace R := R.aloadN C (pc' := 4) d6_3 rfl rfl rfl
  replace R := R.getF C (C.w 29 rfl) Fs (pc' := 7) d6_4 rfl
  replace R := R.alen C Ah (v := (3 : Int32)) rfl (pc' := 8) d6_7 rfl
  replace R := R.icmpY C (pc' := 71) d6_8 (by decide) rfl
  replace R := R.iconst C (pc' := 72) d6_71 (v := (1 : Int32)) rfl rfl
  refine R.retZ (b := true) C d6_72 ⟨K, Or.inr ⟨rfl, fun i hi => ?_, Ap.of fun i hi => ?_⟩⟩ (by decide) (by decide)
  · match i, hi with
    | 0, _ => exact q0
    | 1, _ => exact q1
    | 2, _ => exact q2
  · match i, hi with
    | 0, _ => rfl
    | 1, _ => rfl
    | 2, _ => rfl
def Bld (Z : State) (h0 h : Heap) (a O S sh st sd : Addr) (ld : Nat) (f g : Nat → Int64) (sf : Nat → Bool) : Prop :=
  Keep h0 h [a] ∧ Exa Z h a "com/example/lacuna_tensor/lacunatensor/Broadcast" ∧ Fld Z h a "com/example/lacuna_tensor/lacunatensor/Broadcast" "shape" "[J" (.ref sh) ∧ Fld Z h a "com/example/lacuna_tensor/lacunatensor/Broadcast" "lead" "I" (.int ld.toInt32) ∧ Fld Z h a "com/example/lacuna_tensor/lacunatensor/Broadcast" "stretched" "[Z" (.ref st) ∧ Fld Z h a "com/example/lacuna_tensor/lacunatensor/Broadcast" "strides" "[J" (.ref sd) ∧ Fld Z h a "com/example/lacuna_tensor/lacunatensor/Broadcast" "identity" "Z" (.int (own_b false)) ∧ Ary Z h O .long (3 - ld) (Lf f) ∧ Ary Z h S .long 3 (Lf g) ∧ Ary Z h sh .long 3 (Lf g) ∧ Ary Z h st .boolean 3 (Bf sf) ∧ ∃ fs, Ary Z h sd .long 3 fs
set_option maxRecDepth 65536 in
set_option maxHeartbeats 40000000 in
theorem in_turn {p : Program} {l : Launch} {e : Env} {s : State} {m : MethodId} {below : List Frame} {meth : Method} {c : Code} {S0 : State} {n0 : Nat} {Z : State} {a0 : Array Value} {h0 : Heap} (hw : ∀ d ∈ tables_1, d.before a0 Z = true) (C : Ctx p s m meth c Z a0 tables_1 "com/example/lacuna_tensor/lacunatensor/Broadcast" prog_13_method_1_code 9 "<init>" none) (a O S sh st sd : Addr) (ld i : Nat) (hld : ld < 4) (hi : i < 3) (f g : Nat → Int64) (sf : Nat → Bool) (same : Bool) (stride : Int64) (s7 s8 : Slot) (hst : ∀ v : Int64, storeLocals #[.val (.ref a), .val (.ref O), .val (.ref S), .val (.int (own_b same)), .val (.long stride), .second, .val (.int i.toInt32), s7, s8] 7 (.long v) = some #[.val (.ref a), .val (.ref O), .val (.ref S), .val (.int (own_b same)), .val (.long stride), .second, .val (.int i.toInt32), .val (.long v), .second]) (g_st : n0 ≤ st) (g_sd : n0 ≤ sd) (z_st : h0.size ≤ st) (z_sd : h0.size ≤ sd) (n_st_a : st ≠ a) (n_st_O : st ≠ O) (n_st_S : st ≠ S) (n_st_sh : st ≠ sh) (n_st_sd : st ≠ sd) (n_sd_a : sd ≠ a) (n_sd_O : sd ≠ O) (n_sd_S : sd ≠ S) (n_sd_sh : sd ≠ sh) (h1 : Heap) (B : Bld Z h0 h1 a O S sh st sd ld f g sf) (R : Rch p l e ({ frames := 1, cells := 3, slots := 9, locals := 15 } : Room) s m #[(.ref a), (.ref O), (.ref S)] below meth c S0 n0 3 9 h1 62 #[.val (.ref a), .val (.ref O), .val (.ref S), .val (.int (own_b same)), .val (.long stride), .second, .val (.int i.toInt32), s7, s8] []) :
    ∃ (h' : Heap) (same' : Bool) (stride' len : Int64), Bld Z h0 h' a O S sh st sd ld f g (updN sf i (own_str ld f g i)) ∧ Rch p l e ({ frames := 1, cells := 3, slots := 9, locals := 15 } : Room) s m #[(.ref a), (.ref O), (.ref S)] below meth c S0 n0 3 9 h' 62 #[.val (.ref a), .val (.ref O), .val (.ref S), .val (.int (own_b same')), .val (.long stride'), .second, .val (.int (i.toInt32 + Int32.ofInt (-1))), .val (.long len), .second] [] := by
  obtain ⟨K, E, Fs, Fl, Ft, Fd, Fi, AO, AS, Ac, Ab, fs, Ad⟩ := B
  have ti := own_ti (i := i) (by omega)
  replace R := R.iload C (pc' := 64) d3_62 rfl rfl
  replace R := R.ifN C (pc' := 67) d3_64 (by rw [h_lt]; exact decide_eq_false (by rw [ti]; omega)) rfl
  replace R := R.aloadN C (pc' := 68) d3_67 rfl rfl rfl
  replace R := R.iload C (pc' := 70) d3_68 rfl rfl
  replace R := R.aloadN C (pc' := 71) d3_70 rfl rfl rfl
  replace R := R.alen C AS (v := (3 : Int32)) rfl (pc' := 72) d3_71 rfl
  obtain ⟨_, _, R', rfl, rfl⟩ := R.callS C (y := (⟨"com/example/lacuna_tensor/lacunatensor/Shapes", "alignedLength", "([JII)J"⟩ : MethodName)) (C.w 38 rfl) (C.w 39 rfl) (C.w 40 rfl) (C.w 41 rfl) (by decide) [(.ref O), (.int i.toInt32), (.int (3 : Int32))] [] rfl (con_al l Z a0 hw O i ld hi hld f h1 n0 R.size AO) 0 (Nat.le_of_eq rfl) (by decide) (by decide) (by decide) (by decide) (lenOf pd_4 rfl) rfl (pc' := 75) d3_72 rfl
  clear R
  replace R := R'.as (st' := [(.long (own_len ld f i))]) rfl
  clear R'
  replace R := R.more (k' := 3) (n' := 9) (by decide) (by decide)
  replace R := R.lstore C (pc' := 77) (Ls' := #[.val (.ref a), .val (.ref O), .val (.ref S), .val (.int (own_b same)), .val (.long stride), .second, .val (.int i.toInt32), .val (.long (own_len ld f i)), .second]) d3_75 (hst _) rfl
  replace R := R.aloadN C (pc' := 78) d3_77 rfl rfl rfl
  replace R := R.getF C (C.w 34 rfl) Ft (pc' := 81) d3_78 rfl
  replace R := R.iload C (pc' := 83) d3_81 rfl rfl
  replace R := R.lload C (pc' := 85) d3_83 rfl rfl
  replace R := R.aloadN C (pc' := 86) d3_85 rfl rfl rfl
  replace R := R.iload C (pc' := 88) d3_86 rfl rfl
  replace R := R.laload C (v := (.long (g i))) AS ti hi rfl (pc' := 89) d3_88 rfl
  replace R := R.lcmp C (pc' := 90) d3_89 rfl
  replace R := R.dia C (b := (own_str ld f g i)) (pc' := 98) d3_90 d3_93 d3_94 d3_97 (by rw [lcmp_eq, own_str]; by_cases q : own_len ld f i = g i <;> simp [q]) rfl
  obtain ⟨h2, R', W2⟩ := R.zastore C Ab (i := i) ti hi g_st (pc' := 99) d3_98 rfl
  replace R := R'
  clear R'
  replace E := E.wr W2
  replace Fs := Fs.other W2 (Or.inl (Ne.symm n_st_a))
  replace Fl := Fl.other W2 (Or.inl (Ne.symm n_st_a))
  replace Ft := Ft.other W2 (Or.inl (Ne.symm n_st_a))
  replace Fd := Fd.other W2 (Or.inl (Ne.symm n_st_a))
  replace Fi := Fi.other W2 (Or.inl (Ne.symm n_st_a))
  replace AO := AO.other W2 (Ne.symm n_st_O)
  replace AS := AS.other W2 (Ne.symm n_st_S)
  replace Ac := Ac.other W2 (Ne.symm n_st_sh)
  replace Ab := Ab.set W2
  replace Ad := Ad.other W2 (Ne.symm n_st_sd)
  rw [upd_B] at Ab
  replace K := K.wr W2 (Or.inr z_st)
  replace R := R.aloadN C (pc' := 100) d3_99 rfl rfl rfl
  replace R := R.getF C (C.w 36 rfl) Fd (pc' := 103) d3_100 rfl
  replace R := R.iload C (pc' := 105) d3_103 rfl rfl
  replace R := R.aloadN C (pc' := 106) d3_105 rfl rfl rfl
  replace R := R.getF C (C.w 34 rfl) Ft (pc' := 109) d3_106 rfl
  replace R := R.iload C (pc' := 111) d3_109 rfl rfl
  replace R := R.baload C (v := (.int (own_b (own_str ld f g i)))) Ab ti hi (by simp [Bf, updN]) (pc' := 112) d3_111 rfl
  obtain ⟨sv, R'⟩ : ∃ sv : Int64, Rch p l e ({ frames := 1, cells := 3, slots := 9, locals := 15 } : Room) s m #[(.ref a), (.ref O), (.ref S)] below meth c S0 n0 3 9 h2 121 #[.val (.ref a), .val (.ref O), .val (.ref S), .val (.int (own_b same)), .val (.long stride), .second, .val (.int i.toInt32), .val (.long (own_len ld f i)), .second] [(.long sv), (.int i.toInt32), (.ref sd)] := by
    cases hq : (own_str ld f g i) with
    | false =>
      rw [hq] at R
      replace R := R.ifY C (pc' := 119) d3_112 rfl rfl
      replace R := R.lload C (pc' := 121) d3_119 rfl rfl
      exact ⟨_, R⟩
    | true =>
      rw [hq] at R
      replace R := R.ifN C (pc' := 115) d3_112 rfl rfl
      replace R := R.lconst C (pc' := 116) d3_115 (v := (0 : Int64)) rfl rfl
      replace R := R.goto C (pc' := 121) d3_116 rfl
      exact ⟨_, R⟩
  replace R := R'
  clear R'
  obtain ⟨h3, R', W3⟩ := R.lastore C Ad (i := i) ti hi g_sd (pc' := 122) d3_121 rfl
  replace R := R'
  clear R'
  replace E := E.wr W3
  replace Fs := Fs.other W3 (Or.inl (Ne.symm n_sd_a))
  replace Fl := Fl.other W3 (Or.inl (Ne.symm n_sd_a))
  replace Ft := Ft.other W3 (Or.inl (Ne.symm n_sd_a))
  replace Fd := Fd.other W3 (Or.inl (Ne.symm n_sd_a))
  replace Fi := Fi.other W3 (Or.inl (Ne.symm n_sd_a))
  replace AO := AO.other W3 (Ne.symm n_sd_O)
  replace AS := AS.other W3 (Ne.symm n_sd_S)
  replace Ac := Ac.other W3 (Ne.symm n_sd_sh)
  replace Ab := Ab.other W3 n_st_sd
  replace Ad := Ad.set W3
  replace K := K.wr W3 (Or.inr z_sd)
  replace R := R.lload C (pc' := 124) d3_122 rfl rfl
  replace R := R.lload C (pc' := 126) d3_124 rfl rfl
  replace R := R.lmul C (pc' := 127) d3_126 rfl
  replace R := R.lstore C (Ls' := #[.val (.ref a), .val (.ref O), .val (.ref S), .val (.int (own_b same)), .val (.long (stride * (own_len ld f i))), .second, .val (.int i.toInt32), .val (.long (own_len ld f i)), .second]) (pc' := 129) d3_127 rfl rfl
  replace R := R.iloadN C (pc' := 130) d3_129 rfl rfl
  replace R := R.aloadN C (pc' := 131) d3_130 rfl rfl rfl
  replace R := R.getF C (C.w 34 rfl) Ft (pc' := 134) d3_131 rfl
  replace R := R.iload C (pc' := 136) d3_134 rfl rfl
  replace R := R.baload C (v := (.int (own_b (own_str ld f g i)))) Ab ti hi (by simp [Bf, updN]) (pc' := 137) d3_136 rfl
  replace R := R.dia C (b := (!(own_str ld f g i))) (pc' := 145) d3_137 d3_140 d3_141 d3_144 (by rw [b_ne]; simp) rfl
  replace R := R.iand C (pc' := 146) d3_145 rfl
  rw [b_and] at R
  replace R := R.istoreN C (Ls' := #[.val (.ref a), .val (.ref O), .val (.ref S), .val (.int (own_b (same && !(own_str ld f g i)))), .val (.long (stride * (own_len ld f i))), .second, .val (.int i.toInt32), .val (.long (own_len ld f i)), .second]) (pc' := 147) d3_146 rfl rfl
  replace R := R.iinc C (pc' := 150) (Ls' := #[.val (.ref a), .val (.ref O), .val (.ref S), .val (.int (own_b (same && !(own_str ld f g i)))), .val (.long (stride * (own_len ld f i))), .second, .val (.int (i.toInt32 + Int32.ofInt (-1))), .val (.long (own_len ld f i)), .second]) d3_147 rfl (v := (i.toInt32 + Int32.ofInt (-1))) rfl rfl rfl
  replace R := R.goto C (pc' := 62) d3_150 rfl
  exact ⟨h3, _, _, _, ⟨K, E, Fs, Fl, Ft, Fd, Fi, AO, AS, Ac, Ab, _, Ad⟩, R⟩
set_option maxRecDepth 65536 in
set_option maxHeartbeats 40000000 in
theorem con_init (l : Launch) (Z : State) (a0 : Array Value) (hw : ∀ d ∈ tables_1, d.before a0 Z = true) (a O S : Addr) (ld : Nat) (hld : ld < 4) (f g : Nat → Int64) (h0 : Heap) (n0 : Nat) (z0 : n0 ≤ h0.size) (ga : n0 ≤ a) (naS : a ≠ S) (naO : a ≠ O) (E : Exa Z h0 a "com/example/lacuna_tensor/lacunatensor/Broadcast") (Fs : Fld Z h0 a "com/example/lacuna_tensor/lacunatensor/Broadcast" "shape" "[J" .null) (Fl : Fld Z h0 a "com/example/lacuna_tensor/lacunatensor/Broadcast" "lead" "I" (.int 0)) (Ft : Fld Z h0 a "com/example/lacuna_tensor/lacunatensor/Broadcast" "stretched" "[Z" .null) (Fd : Fld Z h0 a "com/example/lacuna_tensor/lacunatensor/Broadcast" "strides" "[J" .null) (Fi : Fld Z h0 a "com/example/lacuna_tensor/lacunatensor/Broadcast" "identity" "Z" (.int (own_b false))) (ES : Exa Z h0 S "[J") (AS : Ary Z h0 S .long 3 (Lf g)) (AO : Ary Z h0 O .long (3 - ld) (Lf f)) :
    Con l Z (⟨"com/example/lacuna_tensor/lacunatensor/Broadcast", "<init>", "([J[J)V"⟩ : MethodName) prog_13_method_1_code 9 none ({ frames := 1, cells := 3, slots := 9, locals := 15 } : Room) #[(.ref a), (.ref O), (.ref S)] h0 n0 (fun v h' => v = none ∧ Keep h0 h' [a] ∧ Exa Z h' a "com/example/lacuna_tensor/lacunatensor/Broadcast" ∧ ∃ sh st, h0.size ≤ sh ∧ h0.size ≤ st ∧ Fld Z h' a "com/example/lacuna_tensor/lacunatensor/Broadcast" "shape" "[J" (.ref sh) ∧ Fld Z h' a "com/example/lacuna_tensor/lacunatensor/Broadcast" "lead" "I" (.int ld.toInt32) ∧ Fld Z h' a "com/example/lacuna_tensor/lacunatensor/Broadcast" "stretched" "[Z" (.ref st) ∧ Ary Z h' sh .long 3 (Lf g) ∧ Ary Z h' st .boolean 3 (Bf (own_str ld f g))) := by
  refine Con.mk (tb := tables_1) (a0 := a0) (Ls := #[.val (.ref a), .val (.ref O), .val (.ref S), .unset, .unset, .unset, .unset, .unset, .unset]) pf_3 hw z0 (fun m => by first | (simp [entryFrame, mkF, argsToLocals, Value.category, maxLocals]; done) | rfl) ?_
  intro p e s m below meth c S0 C R
  have K := Keep.refl h0 [a]
  replace R := R.aloadN C (pc' := 1) d3_0 rfl rfl rfl
  replace R := R.initO C (C.w 17 rfl) (C.w 18 rfl) (C.w 19 rfl) rfl (pc' := 4) d3_1 (by decide) (W := 0) (Nat.le_of_eq rfl) (by decide) rfl
  replace R := R.aloadN C (pc' := 5) d3_4 rfl rfl rfl
  replace R := R.aloadN C (pc' := 6) d3_5 rfl rfl rfl
  obtain ⟨h1, R', E1, Ac, Ec⟩ := R.cloneA C (ad := "[J") (C.w 20 rfl) (C.w 21 rfl) (C.w 25 rfl) (C.w 23 rfl) (C.w 24 rfl) (C.w 26 rfl) AS ES (fun _ _ => rfl) rfl (pc' := 9) d3_6 (by decide) (W := 1) (Nat.le_of_eq rfl) (by decide) (cap := 3) (Nat.le_refl _) (by decide) (by decide) rfl
  replace R := R'
  clear R'
  obtain ⟨sh, g_sh⟩ : ∃ z, z = h0.size := ⟨_, rfl⟩
  rw [← g_sh] at R Ac Ec
  have ne_a_sh : a ≠ sh := by rw [g_sh]; exact Nat.ne_of_lt E.lt
  have ne_S_sh : S ≠ sh := by rw [g_sh]; exact Nat.ne_of_lt ES.lt
  have ne_O_sh : O ≠ sh := by rw [g_sh]; exact Nat.ne_of_lt AO.lt
  replace E := E.ext E1
  replace Fs := Fs.ext E1
  replace Fl := Fl.ext E1
  replace Ft := Ft.ext E1
  replace Fd := Fd.ext E1
  replace Fi := Fi.ext E1
  replace ES := ES.ext E1
  replace AO := AO.ext E1
  replace AS := AS.ext E1
  replace K := K.ext E1
  replace R := R.castY C (Ins.self Ec) (C.w 27 rfl) (pc' := 12) d3_9 rfl
  obtain ⟨h2, R', W2⟩ := R.putFv C (C.w 29 rfl) Via.refl Fs E (Or.inr ⟨(C.w 30 rfl), rfl, rfl⟩) (C.w 12 rfl) (ty := (.array .long)) (v' := (.ref sh)) (by decide) rfl rfl ga (pc' := 15) d3_12 rfl
  replace R := R'
  clear R'
  replace E := E.wr W2
  replace Fs := Fs.same W2
  replace Fl := Fl.other W2 (Or.inr (slot_ne (Or.inr (C.w 32 rfl)) (Or.inr (C.w 30 rfl)) (by decide) (t := .int) (t' := (.array .long)) (by decide) (by decide)))
  replace Ft := Ft.other W2 (Or.inr (slot_ne (Or.inr (C.w 35 rfl)) (Or.inr (C.w 30 rfl)) (by decide) (t := (.array .boolean)) (t' := (.array .long)) (by decide) (by decide)))
  replace Fd := Fd.other W2 (Or.inr (slot_ne (Or.inr (C.w 37 rfl)) (Or.inr (C.w 30 rfl)) (by decide) (t := (.array .long)) (t' := (.array .long)) (by decide) (by decide)))
  replace Fi := Fi.other W2 (Or.inr (slot_ne (Or.inr (C.w 43 rfl)) (Or.inr (C.w 30 rfl)) (by decide) (t := .boolean) (t' := (.array .long)) (by decide) (by decide)))
  replace ES := ES.wr W2
  replace AO := AO.other W2 (Ne.symm naO)
  replace AS := AS.other W2 (Ne.symm naS)
  replace Ac := Ac.other W2 (Ne.symm ne_a_sh)
  replace K := K.wr W2 (Or.inl (List.mem_of_getElem? (i := 0) rfl))
  replace R := R.aloadN C (pc' := 16) d3_15 rfl rfl rfl
  replace R := R.aloadN C (pc' := 17) d3_16 rfl rfl rfl
  replace R := R.alen C AS (v := (3 : Int32)) rfl (pc' := 18) d3_17 rfl
  replace R := R.aloadN C (pc' := 19) d3_18 rfl rfl rfl
  replace R := R.alen C AO (v := (3 - ld).toInt32) rfl (pc' := 20) d3_19 rfl
  replace R := R.isub C (pc' := 21) d3_20 rfl
  rw [own_lead ld hld] at R
  obtain ⟨h3, R', W3⟩ := R.putFv C (C.w 31 rfl) Via.refl Fl E (Or.inr ⟨(C.w 32 rfl), rfl, rfl⟩) (C.w 12 rfl) (ty := .int) (v' := (.int ld.toInt32)) (by decide) rfl rfl ga (pc' := 24) d3_21 rfl
  replace R := R'
  clear R'
  replace E := E.wr W3
  replace Fs := Fs.other W3 (Or.inr (slot_ne (Or.inr (C.w 30 rfl)) (Or.inr (C.w 32 rfl)) (by decide) (t := (.array .long)) (t' := .int) (by decide) (by decide)))
  replace Fl := Fl.same W3
  replace Ft := Ft.other W3 (Or.inr (slot_ne (Or.inr (C.w 35 rfl)) (Or.inr (C.w 32 rfl)) (by decide) (t := (.array .boolean)) (t' := .int) (by decide) (by decide)))
  replace Fd := Fd.other W3 (Or.inr (slot_ne (Or.inr (C.w 37 rfl)) (Or.inr (C.w 32 rfl)) (by decide) (t := (.array .long)) (t' := .int) (by decide) (by decide)))
  replace Fi := Fi.other W3 (Or.inr (slot_ne (Or.inr (C.w 43 rfl)) (Or.inr (C.w 32 rfl)) (by decide) (t := .boolean) (t' := .int) (by decide) (by decide)))
  replace ES := ES.wr W3
  replace AO := AO.other W3 (Ne.symm naO)
  replace AS := AS.other W3 (Ne.symm naS)
  replace Ac := Ac.other W3 (Ne.symm ne_a_sh)
  replace K := K.wr W3 (Or.inl (List.mem_of_getElem? (i := 0) rfl))
  replace R := R.aloadN C (pc' := 25) d3_24 rfl rfl rfl
  replace R := R.aloadN C (pc' := 26) d3_25 rfl rfl rfl
  replace R := R.alen C AS (v := (3 : Int32)) rfl (pc' := 27) d3_26 rfl
  obtain ⟨h4, R', E4, Ab, X4⟩ := R.newA C (N := 3) (cap := 3) (ad := "[Z") (C.w 33 rfl) rfl (by decide) (by decide) (by decide) d3_27 (by decide) (by decide) (pc' := 29) rfl
  replace R := R'
  clear R'
  obtain ⟨st, g_st⟩ : ∃ z, z = h3.size := ⟨_, rfl⟩
  rw [← g_st] at R Ab X4
  have ne_a_st : a ≠ st := by rw [g_st]; exact Nat.ne_of_lt E.lt
  have ne_S_st : S ≠ st := by rw [g_st]; exact Nat.ne_of_lt ES.lt
  have ne_O_st : O ≠ st := by rw [g_st]; exact Nat.ne_of_lt AO.lt
  have ne_sh_st : sh ≠ st := by rw [g_st]; exact Nat.ne_of_lt Ac.lt
  have z_st : h0.size ≤ st := by rw [g_st]; exact K.1
  replace E := E.ext E4
  replace Fs := Fs.ext E4
  replace Fl := Fl.ext E4
  replace Ft := Ft.ext E4
  replace Fd := Fd.ext E4
  replace Fi := Fi.ext E4
  replace ES := ES.ext E4
  replace AO := AO.ext E4
  replace AS := AS.ext E4
  replace Ac := Ac.ext E4
  replace K := K.ext E4
  obtain ⟨h5, R', W5⟩ := R.putFv C (C.w 34 rfl) Via.refl Ft E (Or.inr ⟨(C.w 35 rfl), rfl, rfl⟩) (C.w 12 rfl) (ty := (.array .boolean)) (v' := (.ref st)) (by decide) rfl rfl ga (pc' := 32) d3_29 rfl
  replace R := R'
  clear R'
  replace E := E.wr W5
  replace Fs := Fs.other W5 (Or.inr (slot_ne (Or.inr (C.w 30 rfl)) (Or.inr (C.w 35 rfl)) (by decide) (t := (.array .long)) (t' := (.array .boolean)) (by decide) (by decide)))
  replace Fl := Fl.other W5 (Or.inr (slot_ne (Or.inr (C.w 32 rfl)) (Or.inr (C.w 35 rfl)) (by decide) (t := .int) (t' := (.array .boolean)) (by decide) (by decide)))
  replace Ft := Ft.same W5
  replace Fd := Fd.other W5 (Or.inr (slot_ne (Or.inr (C.w 37 rfl)) (Or.inr (C.w 35 rfl)) (by decide) (t := (.array .long)) (t' := (.array .boolean)) (by decide) (by decide)))
  replace Fi := Fi.other W5 (Or.inr (slot_ne (Or.inr (C.w 43 rfl)) (Or.inr (C.w 35 rfl)) (by decide) (t := .boolean) (t' := (.array .boolean)) (by decide) (by decide)))
  replace ES := ES.wr W5
  replace AO := AO.other W5 (Ne.symm naO)
  replace AS := AS.other W5 (Ne.symm naS)
  replace Ac := Ac.other W5 (Ne.symm ne_a_sh)
  replace Ab := Ab.other W5 (Ne.symm ne_a_st)
  replace K := K.wr W5 (Or.inl (List.mem_of_getElem? (i := 0) rfl))
  replace R := R.aloadN C (pc' := 33) d3_32 rfl rfl rfl
  replace R := R.aloadN C (pc' := 34) d3_33 rfl rfl rfl
  replace R := R.alen C AS (v := (3 : Int32)) rfl (pc' := 35) d3_34 rfl
  obtain ⟨h6, R', E6, Ad, X6⟩ := R.newA C (N := 3) (cap := 3) (ad := "[J") (C.w 0 rfl) rfl (by decide) (by decide) (by decide) d3_35 (by decide) (by decide) (pc' := 37) rfl
  replace R := R'
  clear R'
  obtain ⟨sd, g_sd⟩ : ∃ z, z = h5.size := ⟨_, rfl⟩
  rw [← g_sd] at R Ad X6
  have ne_a_sd : a ≠ sd := by rw [g_sd]; exact Nat.ne_of_lt E.lt
  have ne_S_sd : S ≠ sd := by rw [g_sd]; exact Nat.ne_of_lt ES.lt
  have ne_O_sd : O ≠ sd := by rw [g_sd]; exact Nat.ne_of_lt AO.lt
  have ne_sh_sd : sh ≠ sd := by rw [g_sd]; exact Nat.ne_of_lt Ac.lt
  have ne_st_sd : st ≠ sd := by rw [g_sd]; exact Nat.ne_of_lt Ab.lt
  have z_sd : h0.size ≤ sd := by rw [g_sd]; exact K.1
  replace E := E.ext E6
  replace Fs := Fs.ext E6
  replace Fl := Fl.ext E6
  replace Ft := Ft.ext E6
  replace Fd := Fd.ext E6
  replace Fi := Fi.ext E6
  replace ES := ES.ext E6
  replace AO := AO.ext E6
  replace AS := AS.ext E6
  replace Ac := Ac.ext E6
  replace Ab := Ab.ext E6
  replace K := K.ext E6
  obtain ⟨h7, R', W7⟩ := R.putFv C (C.w 36 rfl) Via.refl Fd E (Or.inr ⟨(C.w 37 rfl), rfl, rfl⟩) (C.w 12 rfl) (ty := (.array .long)) (v' := (.ref sd)) (by decide) rfl rfl ga (pc' := 40) d3_37 rfl
  replace R := R'
  clear R'
  replace E := E.wr W7
  replace Fs := Fs.other W7 (Or.inr (slot_ne (Or.inr (C.w 30 rfl)) (Or.inr (C.w 37 rfl)) (by decide) (t := (.array .long)) (t' := (.array .long)) (by decide) (by decide)))
  replace Fl := Fl.other W7 (Or.inr (slot_ne (Or.inr (C.w 32 rfl)) (Or.inr (C.w 37 rfl)) (by decide) (t := .int) (t' := (.array .long)) (by decide) (by decide)))
  replace Ft := Ft.other W7 (Or.inr (slot_ne (Or.inr (C.w 35 rfl)) (Or.inr (C.w 37 rfl)) (by decide) (t := (.array .boolean)) (t' := (.array .long)) (by decide) (by decide)))
  replace Fd := Fd.same W7
  replace Fi := Fi.other W7 (Or.inr (slot_ne (Or.inr (C.w 43 rfl)) (Or.inr (C.w 37 rfl)) (by decide) (t := .boolean) (t' := (.array .long)) (by decide) (by decide)))
  replace ES := ES.wr W7
  replace AO := AO.other W7 (Ne.symm naO)
  replace AS := AS.other W7 (Ne.symm naS)
  replace Ac := Ac.other W7 (Ne.symm ne_a_sh)
  replace Ab := Ab.other W7 (Ne.symm ne_a_st)
  replace Ad := Ad.other W7 (Ne.symm ne_a_sd)
  replace K := K.wr W7 (Or.inl (List.mem_of_getElem? (i := 0) rfl))
  replace R := R.aloadN C (pc' := 41) d3_40 rfl rfl rfl
  replace R := R.getF C (C.w 31 rfl) Fl (pc' := 44) d3_41 rfl
  obtain ⟨t0, ht0⟩ : ∃ t : Bool, ifCond.holds .ne ld.toInt32 = !t := ⟨!ifCond.holds .ne ld.toInt32, by simp⟩
  replace R := R.dia C (b := t0) (pc' := 52) d3_44 d3_47 d3_48 d3_51 ht0 rfl
  replace R := R.istoreN C (Ls' := #[.val (.ref a), .val (.ref O), .val (.ref S), .val (.int (own_b t0)), .unset, .unset, .unset, .unset, .unset]) (pc' := 53) d3_52 rfl rfl
  replace R := R.lconst C (pc' := 54) d3_53 (v := (1 : Int64)) rfl rfl
  replace R := R.lstore C (Ls' := #[.val (.ref a), .val (.ref O), .val (.ref S), .val (.int (own_b t0)), .val (.long (1 : Int64)), .second, .unset, .unset, .unset]) (pc' := 56) d3_54 rfl rfl
  replace R := R.aloadN C (pc' := 57) d3_56 rfl rfl rfl
  replace R := R.alen C AS (v := (3 : Int32)) rfl (pc' := 58) d3_57 rfl
  replace R := R.iconst C (pc' := 59) d3_58 (v := (1 : Int32)) rfl rfl
  replace R := R.isub C (pc' := 60) d3_59 rfl
  replace R := R.istore C (Ls' := #[.val (.ref a), .val (.ref O), .val (.ref S), .val (.int (own_b t0)), .val (.long (1 : Int64)), .second, .val (.int ((3 : Int32) - (1 : Int32))), .unset, .unset]) (pc' := 62) d3_60 rfl rfl
  replace R := R.asL (Ls' := #[.val (.ref a), .val (.ref O), .val (.ref S), .val (.int (own_b t0)), .val (.long (1 : Int64)), .second, .val (.int (Nat.toInt32 2)), .unset, .unset]) rfl
  replace R := R.more (k' := 3) (n' := 9) (by decide) (by decide)
  have B : Bld Z h0 h7 a O S sh st sd ld f g (fun _ => false) := ⟨K, E, Fs, Fl, Ft, Fd, Fi, AO, AS, Ac, Ab, _, Ad⟩
  have n_st_a : st ≠ a := (Ne.symm ne_a_st)
  have n_st_O : st ≠ O := (Ne.symm ne_O_st)
  have n_st_S : st ≠ S := (Ne.symm ne_S_st)
  have n_st_sh : st ≠ sh := (Ne.symm ne_sh_st)
  have n_st_sd : st ≠ sd := ne_st_sd
  have n_sd_a : sd ≠ a := (Ne.symm ne_a_sd)
  have n_sd_O : sd ≠ O := (Ne.symm ne_O_sd)
  have n_sd_S : sd ≠ S := (Ne.symm ne_S_sd)
  have n_sd_sh : sd ≠ sh := (Ne.symm ne_sh_sd)
  have g1_st := Nat.le_trans z0 z_st
  have g1_sd := Nat.le_trans z0 z_sd
  obtain ⟨h10, b0, r0, len0, B, R'⟩ := in_turn hw C a O S sh st sd ld 2 hld (by decide) f g (fun _ => false) t0 1 .unset .unset (fun _ => rfl) g1_st g1_sd z_st z_sd n_st_a n_st_O n_st_S n_st_sh n_st_sd n_sd_a n_sd_O n_sd_S n_sd_sh h7 B R
  replace R := R'
  clear R'
  replace R := R.asL (Ls' := #[.val (.ref a), .val (.ref O), .val (.ref S), .val (.int (own_b b0)), .val (.long r0), .second, .val (.int (Nat.toInt32 1)), .val (.long len0), .second]) rfl
  obtain ⟨h11, b1, r1, len1, B, R'⟩ := in_turn hw C a O S sh st sd ld 1 hld (by decide) f g (updN (fun _ => false) 2 (own_str ld f g 2)) b0 r0 (.val (.long len0)) .second (fun _ => rfl) g1_st g1_sd z_st z_sd n_st_a n_st_O n_st_S n_st_sh n_st_sd n_sd_a n_sd_O n_sd_S n_sd_sh h10 B R
  replace R := R'
  clear R'
  replace R := R.asL (Ls' := #[.val (.ref a), .val (.ref O), .val (.ref S), .val (.int (own_b b1)), .val (.long r1), .second, .val (.int (Nat.toInt32 0)), .val (.long len1), .second]) rfl
  obtain ⟨h12, b2, r2, len2, B, R'⟩ := in_turn hw C a O S sh st sd ld 0 hld (by decide) f g (updN (updN (fun _ => false) 2 (own_str ld f g 2)) 1 (own_str ld f g 1)) b1 r1 (.val (.long len1)) .second (fun _ => rfl) g1_st g1_sd z_st z_sd n_st_a n_st_O n_st_S n_st_sh n_st_sd n_sd_a n_sd_O n_sd_S n_sd_sh h11 B R
  replace R := R'
  clear R'
  replace R := R.asL (Ls' := #[.val (.ref a), .val (.ref O), .val (.ref S), .val (.int (own_b b2)), .val (.long r2), .second, .val (.int (-1 : Int32)), .val (.long len2), .second]) rfl
  obtain ⟨K, E, Fs, Fl, Ft, Fd, Fi, AO, AS, Ac, Ab, fs, Ad⟩ := B
  replace R := R.iload C (pc' := 64) d3_62 rfl rfl
  replace R := R.ifY C (pc' := 153) d3_64 (by decide) rfl
  replace R := R.aloadN C (pc' := 154) d3_153 rfl rfl rfl
  replace R := R.iloadN C (pc' := 155) d3_154 rfl rfl
  obtain ⟨h20, R', W20⟩ := R.putFv C (C.w 42 rfl) Via.refl Fi E (Or.inr ⟨(C.w 43 rfl), rfl, rfl⟩) (C.w 12 rfl) (ty := .boolean) (v' := (.int (own_b b2))) (by decide) (nar_bz _) (fit_bz _) ga (pc' := 158) d3_155 rfl
  replace R := R'
  clear R'
  replace E := E.wr W20
  replace Fs := Fs.other W20 (Or.inr (slot_ne (Or.inr (C.w 30 rfl)) (Or.inr (C.w 43 rfl)) (by decide) (t := (.array .long)) (t' := .boolean) (by decide) (by decide)))
  replace Fl := Fl.other W20 (Or.inr (slot_ne (Or.inr (C.w 32 rfl)) (Or.inr (C.w 43 rfl)) (by decide) (t := .int) (t' := .boolean) (by decide) (by decide)))
  replace Ft := Ft.other W20 (Or.inr (slot_ne (Or.inr (C.w 35 rfl)) (Or.inr (C.w 43 rfl)) (by decide) (t := (.array .boolean)) (t' := .boolean) (by decide) (by decide)))
  replace Fd := Fd.other W20 (Or.inr (slot_ne (Or.inr (C.w 37 rfl)) (Or.inr (C.w 43 rfl)) (by decide) (t := (.array .long)) (t' := .boolean) (by decide) (by decide)))
  replace Fi := Fi.same W20
  replace Ac := Ac.other W20 (Ne.symm ne_a_sh)
  replace Ab := Ab.other W20 n_st_a
  replace Ad := Ad.other W20 n_sd_a
  replace K := K.wr W20 (Or.inl (List.mem_of_getElem? (i := 0) rfl))
  refine R.retV C d3_158 ⟨rfl, K, E, sh, st, Nat.le_of_eq g_sh.symm, z_st, Fs, Fl, Ft, Ac, Ab.of fun i hi => ?_⟩ (by decide) (by decide)
  match i, hi with
  | 0, _ => rfl
  | 1, _ => rfl
  | 2, _ => rfl
theorem own_and3 (x : Int32) : ∃ ld : Nat, ld < 4 ∧ x &&& 3 = ld.toInt32 := by
  refine ⟨(x &&& 3).toBitVec.toNat, ?_, ?_⟩
  · have e : (x &&& 3).toBitVec = x.toBitVec &&& (3 : Int32).toBitVec := rfl
    rw [e, BitVec.toNat_and]
    exact Nat.lt_of_le_of_lt Nat.and_le_right (by decide)
  · exact Int32.toBitVec_inj.mp (by
      show _ = BitVec.ofNat 32 _
      simp)
theorem own_fin {ld i : Nat} {s o w e : Int64} (hA : own_Ax ld i s o w e) : (s = 0 → ¬ (if i < ld then (1 : Int64) else o) = s) ∧ ((if (decide (¬ (if i < ld then (1 : Int64) else o) = s) || decide (i < ld)) = true then (0 : Int64) else w) = e) := by
  obtain ⟨h1, h2⟩ := hA
  by_cases q : i < ld
  · rw [h1 q]
    simp only [q, if_true, decide_true, Bool.or_true, and_true]
    intro z; rw [z]; decide
  · rcases h2 q with ⟨rfl, rfl, rfl⟩ | ⟨rfl, h3, rfl⟩
    · simp only [q, if_false, decide_false, Bool.or_false]
      refine ⟨fun z => by rw [z]; decide, by split <;> rfl⟩
    · simp only [q, if_false, decide_false, Bool.or_false]
      refine ⟨fun z => absurd z h3, by simp⟩
theorem own_len3 {ld : Nat} (hld : ld < 4) (f : Nat → Int64) (o0 o1 o2 : Int64) : own_len ld (own_put ld 2 (own_put ld 1 (own_put ld 0 f o0) o1) o2) 0 = (if 0 < ld then 1 else o0) ∧ own_len ld (own_put ld 2 (own_put ld 1 (own_put ld 0 f o0) o1) o2) 1 = (if 1 < ld then 1 else o1) ∧ own_len ld (own_put ld 2 (own_put ld 1 (own_put ld 0 f o0) o1) o2) 2 = (if 2 < ld then 1 else o2) := by
  obtain rfl | rfl | rfl | rfl : ld = 0 ∨ ld = 1 ∨ ld = 2 ∨ ld = 3 := by omega
  all_goals exact ⟨rfl, rfl, rfl⟩
theorem own_put3 {ld : Nat} (hld : ld < 4) (f : Nat → Int64) (o0 o1 o2 : Int64) : (¬ 0 < ld → own_put ld 2 (own_put ld 1 (own_put ld 0 f o0) o1) o2 (0 - ld) = o0) ∧ (¬ 1 < ld → own_put ld 2 (own_put ld 1 (own_put ld 0 f o0) o1) o2 (1 - ld) = o1) ∧ (¬ 2 < ld → own_put ld 2 (own_put ld 1 (own_put ld 0 f o0) o1) o2 (2 - ld) = o2) := by
  obtain rfl | rfl | rfl | rfl : ld = 0 ∨ ld = 1 ∨ ld = 2 ∨ ld = 3 := by omega
  all_goals refine ⟨fun q => ?_, fun q => ?_, fun q => ?_⟩
  all_goals first | rfl | exact absurd (by decide) q
set_option maxRecDepth 65536 in
set_option maxHeartbeats 40000000 in
theorem con0 (l : Launch) (Z : State) (a0 : Array Value) (hw : ∀ d ∈ tables_1, d.before a0 Z = true) (mode : Int32) (q0 q1 q2 q3 q4 : Int64) (h0 : Heap) (n0 : Nat) (z0 : n0 ≤ h0.size) :
    Con l Z x code maxLocals ret room_1 #[(.int mode), (.long q0), (.long q1), (.long q2), (.long q3), (.long q4)] h0 n0 (fun v h' => v = some (.int 1)) := by
  refine Con.mk (tb := tables_1) (a0 := a0) (Ls := #[.val (.int mode), .val (.long q0), .second, .val (.long q1), .second, .val (.long q2), .second, .val (.long q3), .second, .val (.long q4), .second, .unset, .unset, .unset, .unset, .unset, .unset, .unset, .unset, .unset]) pf_0 hw z0 (fun m => by first | (simp [entryFrame, mkF, argsToLocals, Value.category, maxLocals]; done) | rfl) ?_
  intro p e s m below meth c S0 C R
  replace R := R.iloadN C (pc' := 1) at_0 rfl rfl
  replace R := R.iconst C (pc' := 2) at_1 (v := (3 : Int32)) rfl rfl
  replace R := R.iand C (pc' := 3) at_2 rfl
  obtain ⟨ld, hld, e_ld⟩ := own_and3 mode
  rw [e_ld] at R
  replace R := R.istore C (Ls' := #[.val (.int mode), .val (.long q0), .second, .val (.long q1), .second, .val (.long q2), .second, .val (.long q3), .second, .val (.long q4), .second, .val (.int ld.toInt32), .unset, .unset, .unset, .unset, .unset, .unset, .unset, .unset]) (pc' := 5) at_3 rfl rfl
  replace R := R.iconst C (pc' := 6) at_5 (v := (3 : Int32)) rfl rfl
  obtain ⟨h1, R', E1, AS, X1⟩ := R.newA C (N := 3) (cap := 3) (ad := "[J") (C.w 0 rfl) rfl (by decide) (by decide) (by decide) at_6 (by decide) (by decide) (pc' := 8) rfl
  replace R := R'
  clear R'
  obtain ⟨S, g_S⟩ : ∃ z, z = h0.size := ⟨_, rfl⟩
  rw [← g_S] at R AS X1
  have gg_S : n0 ≤ S := by rw [g_S]; exact z0
  replace R := R.astore C (Ls' := #[.val (.int mode), .val (.long q0), .second, .val (.long q1), .second, .val (.long q2), .second, .val (.long q3), .second, .val (.long q4), .second, .val (.int ld.toInt32), .val (.ref S), .unset, .unset, .unset, .unset, .unset, .unset, .unset]) (pc' := 10) at_8 rfl rfl rfl
  obtain ⟨O, g_O⟩ : ∃ z, z = h1.size := ⟨_, rfl⟩
  have ne_S_O : S ≠ O := by rw [g_O]; exact Nat.ne_of_lt AS.lt
  obtain ⟨h2, R', E2, AO⟩ : ∃ h9, Rch p l e room_1 s m #[(.int mode), (.long q0), (.long q1), (.long q2), (.long q3), (.long q4)] below meth c S0 n0 2 6 h9 48 #[.val (.int mode), .val (.long q0), .second, .val (.long q1), .second, .val (.long q2), .second, .val (.long q3), .second, .val (.long q4), .second, .val (.int ld.toInt32), .val (.ref S), .unset, .unset, .unset, .unset, .unset, .unset, .unset] [(.ref O)] ∧ Ext h1 h9 ∧ Ary Z h9 O .long (3 - ld) (fun _ => .long 0) := by
    rw [g_O]
    obtain rfl | rfl | rfl | rfl : ld = 0 ∨ ld = 1 ∨ ld = 2 ∨ ld = 3 := by omega
    · skip
      replace R := R.iload C (pc' := 12) at_10 rfl rfl
      replace R := R.ifN C (pc' := 15) at_12 rfl rfl
      replace R := R.iconst C (pc' := 16) at_15 (v := (3 : Int32)) rfl rfl
      obtain ⟨h9, R', E9, A9, X9⟩ := R.newA C (N := 3) (cap := 3) (ad := "[J") (C.w 0 rfl) rfl (by decide) (by decide) (by decide) at_16 (by decide) (by decide) (pc' := 18) rfl
      replace R := R'
      clear R'
      replace R := R.goto C (pc' := 48) at_18 rfl
      exact ⟨h9, R, E9, A9⟩
    · skip
      replace R := R.iload C (pc' := 12) at_10 rfl rfl
      replace R := R.ifY C (pc' := 21) at_12 rfl rfl
      replace R := R.iload C (pc' := 23) at_21 rfl rfl
      replace R := R.iconst C (pc' := 24) at_23 (v := (1 : Int32)) rfl rfl
      replace R := R.icmpN C (pc' := 27) at_24 rfl rfl
      replace R := R.iconst C (pc' := 28) at_27 (v := (2 : Int32)) rfl rfl
      obtain ⟨h9, R', E9, A9, X9⟩ := R.newA C (N := 2) (cap := 3) (ad := "[J") (C.w 0 rfl) rfl (by decide) (by decide) (by decide) at_28 (by decide) (by decide) (pc' := 30) rfl
      replace R := R'
      clear R'
      replace R := R.goto C (pc' := 48) at_30 rfl
      exact ⟨h9, R, E9, A9⟩
    · skip
      replace R := R.iload C (pc' := 12) at_10 rfl rfl
      replace R := R.ifY C (pc' := 21) at_12 rfl rfl
      replace R := R.iload C (pc' := 23) at_21 rfl rfl
      replace R := R.iconst C (pc' := 24) at_23 (v := (1 : Int32)) rfl rfl
      replace R := R.icmpY C (pc' := 33) at_24 rfl rfl
      replace R := R.iload C (pc' := 35) at_33 rfl rfl
      replace R := R.iconst C (pc' := 36) at_35 (v := (2 : Int32)) rfl rfl
      replace R := R.icmpN C (pc' := 39) at_36 rfl rfl
      replace R := R.iconst C (pc' := 40) at_39 (v := (1 : Int32)) rfl rfl
      obtain ⟨h9, R', E9, A9, X9⟩ := R.newA C (N := 1) (cap := 3) (ad := "[J") (C.w 0 rfl) rfl (by decide) (by decide) (by decide) at_40 (by decide) (by decide) (pc' := 42) rfl
      replace R := R'
      clear R'
      replace R := R.goto C (pc' := 48) at_42 rfl
      exact ⟨h9, R, E9, A9⟩
    · skip
      replace R := R.iload C (pc' := 12) at_10 rfl rfl
      replace R := R.ifY C (pc' := 21) at_12 rfl rfl
      replace R := R.iload C (pc' := 23) at_21 rfl rfl
      replace R := R.iconst C (pc' := 24) at_23 (v := (1 : Int32)) rfl rfl
      replace R := R.icmpY C (pc' := 33) at_24 rfl rfl
      replace R := R.iload C (pc' := 35) at_33 rfl rfl
      replace R := R.iconst C (pc' := 36) at_35 (v := (2 : Int32)) rfl rfl
      replace R := R.icmpY C (pc' := 45) at_36 rfl rfl
      replace R := R.iconst C (pc' := 46) at_45 (v := (0 : Int32)) rfl rfl
      obtain ⟨h9, R', E9, A9, X9⟩ := R.newA C (N := 0) (cap := 3) (ad := "[J") (C.w 0 rfl) rfl (by decide) (by decide) (by decide) at_46 (by decide) (by decide) (pc' := 48) rfl
      replace R := R'
      clear R'
      exact ⟨h9, R, E9, A9⟩
  replace R := R'
  clear R'
  replace AS := AS.ext E2
  replace X1 := X1.ext E2
  have gg_O : n0 ≤ O := by rw [g_O]; exact Nat.le_trans z0 E1.1
  replace R := R.astore C (Ls' := #[.val (.int mode), .val (.long q0), .second, .val (.long q1), .second, .val (.long q2), .second, .val (.long q3), .second, .val (.long q4), .second, .val (.int ld.toInt32), .val (.ref S), .val (.ref O), .unset, .unset, .unset, .unset, .unset, .unset]) (pc' := 50) at_48 rfl rfl rfl
  obtain ⟨W, g_W⟩ : ∃ z, z = h2.size := ⟨_, rfl⟩
  have ne_S_W : S ≠ W := by rw [g_W]; exact Nat.ne_of_lt AS.lt
  have ne_O_W : O ≠ W := by rw [g_W]; exact Nat.ne_of_lt AO.lt
  obtain ⟨h3, R', E3, AW⟩ : ∃ h9, Rch p l e room_1 s m #[(.int mode), (.long q0), (.long q1), (.long q2), (.long q3), (.long q4)] below meth c S0 n0 3 9 h9 88 #[.val (.int mode), .val (.long q0), .second, .val (.long q1), .second, .val (.long q2), .second, .val (.long q3), .second, .val (.long q4), .second, .val (.int ld.toInt32), .val (.ref S), .val (.ref O), .unset, .unset, .unset, .unset, .unset, .unset] [(.ref W)] ∧ Ext h2 h9 ∧ Ary Z h9 W .long (3 - ld) (fun _ => .long 0) := by
    rw [g_W]
    obtain rfl | rfl | rfl | rfl : ld = 0 ∨ ld = 1 ∨ ld = 2 ∨ ld = 3 := by omega
    · skip
      replace R := R.iload C (pc' := 52) at_50 rfl rfl
      replace R := R.ifN C (pc' := 55) at_52 rfl rfl
      replace R := R.iconst C (pc' := 56) at_55 (v := (3 : Int32)) rfl rfl
      obtain ⟨h9, R', E9, A9, X9⟩ := R.newA C (N := 3) (cap := 3) (ad := "[J") (C.w 0 rfl) rfl (by decide) (by decide) (by decide) at_56 (by decide) (by decide) (pc' := 58) rfl
      replace R := R'
      clear R'
      replace R := R.goto C (pc' := 88) at_58 rfl
      exact ⟨h9, R, E9, A9⟩
    · skip
      replace R := R.iload C (pc' := 52) at_50 rfl rfl
      replace R := R.ifY C (pc' := 61) at_52 rfl rfl
      replace R := R.iload C (pc' := 63) at_61 rfl rfl
      replace R := R.iconst C (pc' := 64) at_63 (v := (1 : Int32)) rfl rfl
      replace R := R.icmpN C (pc' := 67) at_64 rfl rfl
      replace R := R.iconst C (pc' := 68) at_67 (v := (2 : Int32)) rfl rfl
      obtain ⟨h9, R', E9, A9, X9⟩ := R.newA C (N := 2) (cap := 3) (ad := "[J") (C.w 0 rfl) rfl (by decide) (by decide) (by decide) at_68 (by decide) (by decide) (pc' := 70) rfl
      replace R := R'
      clear R'
      replace R := R.goto C (pc' := 88) at_70 rfl
      exact ⟨h9, R, E9, A9⟩
    · skip
      replace R := R.iload C (pc' := 52) at_50 rfl rfl
      replace R := R.ifY C (pc' := 61) at_52 rfl rfl
      replace R := R.iload C (pc' := 63) at_61 rfl rfl
      replace R := R.iconst C (pc' := 64) at_63 (v := (1 : Int32)) rfl rfl
      replace R := R.icmpY C (pc' := 73) at_64 rfl rfl
      replace R := R.iload C (pc' := 75) at_73 rfl rfl
      replace R := R.iconst C (pc' := 76) at_75 (v := (2 : Int32)) rfl rfl
      replace R := R.icmpN C (pc' := 79) at_76 rfl rfl
      replace R := R.iconst C (pc' := 80) at_79 (v := (1 : Int32)) rfl rfl
      obtain ⟨h9, R', E9, A9, X9⟩ := R.newA C (N := 1) (cap := 3) (ad := "[J") (C.w 0 rfl) rfl (by decide) (by decide) (by decide) at_80 (by decide) (by decide) (pc' := 82) rfl
      replace R := R'
      clear R'
      replace R := R.goto C (pc' := 88) at_82 rfl
      exact ⟨h9, R, E9, A9⟩
    · skip
      replace R := R.iload C (pc' := 52) at_50 rfl rfl
      replace R := R.ifY C (pc' := 61) at_52 rfl rfl
      replace R := R.iload C (pc' := 63) at_61 rfl rfl
      replace R := R.iconst C (pc' := 64) at_63 (v := (1 : Int32)) rfl rfl
      replace R := R.icmpY C (pc' := 73) at_64 rfl rfl
      replace R := R.iload C (pc' := 75) at_73 rfl rfl
      replace R := R.iconst C (pc' := 76) at_75 (v := (2 : Int32)) rfl rfl
      replace R := R.icmpY C (pc' := 85) at_76 rfl rfl
      replace R := R.iconst C (pc' := 86) at_85 (v := (0 : Int32)) rfl rfl
      obtain ⟨h9, R', E9, A9, X9⟩ := R.newA C (N := 0) (cap := 3) (ad := "[J") (C.w 0 rfl) rfl (by decide) (by decide) (by decide) at_86 (by decide) (by decide) (pc' := 88) rfl
      replace R := R'
      clear R'
      exact ⟨h9, R, E9, A9⟩
  replace R := R'
  clear R'
  replace AS := AS.ext E3
  replace X1 := X1.ext E3
  replace AO := AO.ext E3
  have gg_W : n0 ≤ W := by rw [g_W]; exact Nat.le_trans (Nat.le_trans z0 E1.1) E2.1
  replace R := R.astore C (Ls' := #[.val (.int mode), .val (.long q0), .second, .val (.long q1), .second, .val (.long q2), .second, .val (.long q3), .second, .val (.long q4), .second, .val (.int ld.toInt32), .val (.ref S), .val (.ref O), .val (.ref W), .unset, .unset, .unset, .unset, .unset]) (pc' := 90) at_88 rfl rfl rfl
  replace R := R.iconst C (pc' := 91) at_90 (v := (3 : Int32)) rfl rfl
  obtain ⟨h4, R', E4, AX, X4⟩ := R.newA C (N := 3) (cap := 3) (ad := "[J") (C.w 0 rfl) rfl (by decide) (by decide) (by decide) at_91 (by decide) (by decide) (pc' := 93) rfl
  replace R := R'
  clear R'
  obtain ⟨X, g_X⟩ : ∃ z, z = h3.size := ⟨_, rfl⟩
  rw [← g_X] at R AX X4
  have ne_S_X : S ≠ X := by rw [g_X]; exact Nat.ne_of_lt AS.lt
  have ne_O_X : O ≠ X := by rw [g_X]; exact Nat.ne_of_lt AO.lt
  have ne_W_X : W ≠ X := by rw [g_X]; exact Nat.ne_of_lt AW.lt
  replace AS := AS.ext E4
  replace X1 := X1.ext E4
  replace AO := AO.ext E4
  replace AW := AW.ext E4
  have gg_X : n0 ≤ X := by rw [g_X]; exact Nat.le_trans (Nat.le_trans (Nat.le_trans z0 E1.1) E2.1) E3.1
  have B : Four Z h4 n0 S O W X ld (fun _ => 0) (fun _ => 0) (fun _ => 0) (fun _ => 0) := ⟨⟨gg_S, gg_O, gg_W, gg_X⟩, ⟨ne_S_O, ne_S_W, ne_S_X, ne_O_W, ne_O_X, ne_W_X⟩, X1, AS, AO, AW, AX⟩
  replace R := R.astore C (Ls' := #[.val (.int mode), .val (.long q0), .second, .val (.long q1), .second, .val (.long q2), .second, .val (.long q3), .second, .val (.long q4), .second, .val (.int ld.toInt32), .val (.ref S), .val (.ref O), .val (.ref W), .val (.ref X), .unset, .unset, .unset, .unset]) (pc' := 95) at_93 rfl rfl rfl
  replace R := R.iconst C (pc' := 96) at_95 (v := (0 : Int32)) rfl rfl
  replace R := R.iload C (pc' := 98) at_96 rfl rfl
  replace R := R.iloadN C (pc' := 99) at_98 rfl rfl
  replace R := R.iconst C (pc' := 100) at_99 (v := (2 : Int32)) rfl rfl
  replace R := R.iushr C (pc' := 101) at_100 rfl
  replace R := R.lloadN C (pc' := 102) at_101 rfl rfl
  replace R := R.lload C (pc' := 104) at_102 rfl rfl
  replace R := R.aload C (pc' := 106) at_104 rfl rfl rfl
  replace R := R.aload C (pc' := 108) at_106 rfl rfl rfl
  replace R := R.aload C (pc' := 110) at_108 rfl rfl rfl
  replace R := R.aload C (pc' := 112) at_110 rfl rfl rfl
  obtain ⟨_, h10, R', rfl, s0, o0, w0, e0, A0, B⟩ := R.callS C (y := (⟨"com/example/lacuna_tensor/lacunatensor/BroadcastFirstPlacementPinLaw", "axis", "(IIIJJ[J[J[J[J)V"⟩ : MethodName)) (C.w 1 rfl) (C.w 2 rfl) (C.w 3 rfl) (C.w 4 rfl) (by decide) [(.int (0 : Int32)), (.int ld.toInt32), (.int ((mode.toUInt32 >>> ((2 : Int32) &&& 31).toUInt32).toInt32)), (.long q0), (.long q3), (.ref S), (.ref O), (.ref W), (.ref X)] [] rfl (con_ax l Z a0 hw 0 ld (by decide) hld ((mode.toUInt32 >>> ((2 : Int32) &&& 31).toUInt32).toInt32) q0 q3 S O W X (fun _ => 0) (fun _ => 0) (fun _ => 0) (fun _ => 0) h4 n0 R.size B) 0 (Nat.le_of_eq rfl) (by decide) (by decide) (by decide) (by decide) (lenOf pd_0 rfl) rfl (pc' := 115) at_112 rfl
  clear R
  replace R := R'.as (st' := []) rfl
  clear R'
  replace R := R.iconst C (pc' := 116) at_115 (v := (1 : Int32)) rfl rfl
  replace R := R.iload C (pc' := 118) at_116 rfl rfl
  replace R := R.iloadN C (pc' := 119) at_118 rfl rfl
  replace R := R.iconst C (pc' := 120) at_119 (v := (4 : Int32)) rfl rfl
  replace R := R.iushr C (pc' := 121) at_120 rfl
  replace R := R.lloadN C (pc' := 122) at_121 rfl rfl
  replace R := R.lload C (pc' := 124) at_122 rfl rfl
  replace R := R.aload C (pc' := 126) at_124 rfl rfl rfl
  replace R := R.aload C (pc' := 128) at_126 rfl rfl rfl
  replace R := R.aload C (pc' := 130) at_128 rfl rfl rfl
  replace R := R.aload C (pc' := 132) at_130 rfl rfl rfl
  obtain ⟨_, h11, R', rfl, s1, o1, w1, e1, A1, B⟩ := R.callS C (y := (⟨"com/example/lacuna_tensor/lacunatensor/BroadcastFirstPlacementPinLaw", "axis", "(IIIJJ[J[J[J[J)V"⟩ : MethodName)) (C.w 1 rfl) (C.w 2 rfl) (C.w 3 rfl) (C.w 4 rfl) (by decide) [(.int (1 : Int32)), (.int ld.toInt32), (.int ((mode.toUInt32 >>> ((4 : Int32) &&& 31).toUInt32).toInt32)), (.long q1), (.long q4), (.ref S), (.ref O), (.ref W), (.ref X)] [] rfl (con_ax l Z a0 hw 1 ld (by decide) hld ((mode.toUInt32 >>> ((4 : Int32) &&& 31).toUInt32).toInt32) q1 q4 S O W X (updN (fun _ => 0) 0 s0) (own_put ld 0 (fun _ => 0) o0) (own_put ld 0 (fun _ => 0) w0) (updN (fun _ => 0) 0 e0) h10 n0 R.size B) 0 (Nat.le_of_eq rfl) (by decide) (by decide) (by decide) (by decide) (lenOf pd_0 rfl) rfl (pc' := 135) at_132 rfl
  clear R
  replace R := R'.as (st' := []) rfl
  clear R'
  replace R := R.iconst C (pc' := 136) at_135 (v := (2 : Int32)) rfl rfl
  replace R := R.iload C (pc' := 138) at_136 rfl rfl
  replace R := R.iloadN C (pc' := 139) at_138 rfl rfl
  replace R := R.bipush C (pc' := 141) at_139 (v := (6 : Int32)) rfl rfl
  replace R := R.iushr C (pc' := 142) at_141 rfl
  replace R := R.lload C (pc' := 144) at_142 rfl rfl
  replace R := R.lload C (pc' := 146) at_144 rfl rfl
  replace R := R.lload C (pc' := 148) at_146 rfl rfl
  replace R := R.lxor C (pc' := 149) at_148 rfl
  replace R := R.aload C (pc' := 151) at_149 rfl rfl rfl
  replace R := R.aload C (pc' := 153) at_151 rfl rfl rfl
  replace R := R.aload C (pc' := 155) at_153 rfl rfl rfl
  replace R := R.aload C (pc' := 157) at_155 rfl rfl rfl
  obtain ⟨_, h12, R', rfl, s2, o2, w2, e2, A2, B⟩ := R.callS C (y := (⟨"com/example/lacuna_tensor/lacunatensor/BroadcastFirstPlacementPinLaw", "axis", "(IIIJJ[J[J[J[J)V"⟩ : MethodName)) (C.w 1 rfl) (C.w 2 rfl) (C.w 3 rfl) (C.w 4 rfl) (by decide) [(.int (2 : Int32)), (.int ld.toInt32), (.int ((mode.toUInt32 >>> ((6 : Int32) &&& 31).toUInt32).toInt32)), (.long q2), (.long (q3 ^^^ q4)), (.ref S), (.ref O), (.ref W), (.ref X)] [] rfl (con_ax l Z a0 hw 2 ld (by decide) hld ((mode.toUInt32 >>> ((6 : Int32) &&& 31).toUInt32).toInt32) q2 (q3 ^^^ q4) S O W X (updN (updN (fun _ => 0) 0 s0) 1 s1) (own_put ld 1 (own_put ld 0 (fun _ => 0) o0) o1) (own_put ld 1 (own_put ld 0 (fun _ => 0) w0) w1) (updN (updN (fun _ => 0) 0 e0) 1 e1) h11 n0 R.size B) 0 (Nat.le_of_eq rfl) (by decide) (by decide) (by decide) (by decide) (lenOf pd_0 rfl) rfl (pc' := 160) at_157 rfl
  clear R
  replace R := R'.as (st' := []) rfl
  clear R'
  obtain ⟨-, -, X1, AS, AO, AW, AX⟩ := B
  replace R := R.more (k' := 4) (n' := 12) (by decide) (by decide)
  replace R := R.iconst C (pc' := 161) at_160 (v := (3 : Int32)) rfl rfl
  obtain ⟨h5, R', E5, AP, X5⟩ := R.newA C (N := 3) (cap := 3) (ad := "[J") (C.w 0 rfl) rfl (by decide) (by decide) (by decide) at_161 (by decide) (by decide) (pc' := 163) rfl
  replace R := R'
  clear R'
  obtain ⟨P, g_P⟩ : ∃ z, z = h12.size := ⟨_, rfl⟩
  rw [← g_P] at R AP X5
  have ne_S_P : S ≠ P := by rw [g_P]; exact Nat.ne_of_lt X1.lt
  have ne_O_P : O ≠ P := by rw [g_P]; exact Nat.ne_of_lt AO.lt
  have ne_W_P : W ≠ P := by rw [g_P]; exact Nat.ne_of_lt AW.lt
  have ne_X_P : X ≠ P := by rw [g_P]; exact Nat.ne_of_lt AX.lt
  have gg_P : n0 ≤ P := by rw [g_P]; exact Nat.le_trans gg_S (Nat.le_of_lt AS.lt)
  replace X1 := X1.ext E5
  replace AS := AS.ext E5
  replace AO := AO.ext E5
  replace AW := AW.ext E5
  replace AX := AX.ext E5
  replace AP : Ary Z h5 P .long 3 (Lf (fun _ => 0)) := AP
  replace R := R.astore C (Ls' := #[.val (.int mode), .val (.long q0), .second, .val (.long q1), .second, .val (.long q2), .second, .val (.long q3), .second, .val (.long q4), .second, .val (.int ld.toInt32), .val (.ref S), .val (.ref O), .val (.ref W), .val (.ref X), .val (.ref P), .unset, .unset, .unset]) (pc' := 165) at_163 rfl rfl rfl
  replace R := R.aload C (pc' := 167) at_165 rfl rfl rfl
  replace R := R.iconst C (pc' := 168) at_167 (v := (0 : Int32)) rfl rfl
  replace R := R.ldcJ C (v := (-9223372036854775808 : Int64)) (C.w 10 rfl) (pc' := 171) at_168 rfl
  obtain ⟨h50, R', V0⟩ := R.lastore C AP (i := 0) rfl (by decide) gg_P (pc' := 172) at_171 rfl
  replace R := R'
  clear R'
  replace X1 := X1.wr V0
  replace AS := AS.other V0 ne_S_P
  replace AO := AO.other V0 ne_O_P
  replace AW := AW.other V0 ne_W_P
  replace AX := AX.other V0 ne_X_P
  replace AP := AP.set V0
  rw [upd_L] at AP
  replace R := R.aload C (pc' := 174) at_172 rfl rfl rfl
  replace R := R.iconst C (pc' := 175) at_174 (v := (1 : Int32)) rfl rfl
  replace R := R.ldcJ C (v := (-9223372036854775808 : Int64)) (C.w 10 rfl) (pc' := 178) at_175 rfl
  obtain ⟨h51, R', V1⟩ := R.lastore C AP (i := 1) rfl (by decide) gg_P (pc' := 179) at_178 rfl
  replace R := R'
  clear R'
  replace X1 := X1.wr V1
  replace AS := AS.other V1 ne_S_P
  replace AO := AO.other V1 ne_O_P
  replace AW := AW.other V1 ne_W_P
  replace AX := AX.other V1 ne_X_P
  replace AP := AP.set V1
  rw [upd_L] at AP
  replace R := R.aload C (pc' := 181) at_179 rfl rfl rfl
  replace R := R.iconst C (pc' := 182) at_181 (v := (2 : Int32)) rfl rfl
  replace R := R.ldcJ C (v := (-9223372036854775808 : Int64)) (C.w 10 rfl) (pc' := 185) at_182 rfl
  obtain ⟨h52, R', V2⟩ := R.lastore C AP (i := 2) rfl (by decide) gg_P (pc' := 186) at_185 rfl
  replace R := R'
  clear R'
  replace X1 := X1.wr V2
  replace AS := AS.other V2 ne_S_P
  replace AO := AO.other V2 ne_O_P
  replace AW := AW.other V2 ne_W_P
  replace AX := AX.other V2 ne_X_P
  replace AP := AP.set V2
  rw [upd_L] at AP
  replace R := R.aload C (pc' := 188) at_186 rfl rfl rfl
  replace R := R.iconst C (pc' := 189) at_188 (v := (0 : Int32)) rfl rfl
  replace R := R.laload C (v := (.long s0)) AS (i := 0) rfl (by decide) rfl (pc' := 190) at_189 rfl
  replace R := R.lconst C (pc' := 191) at_190 (v := (0 : Int64)) rfl rfl
  replace R := R.lcmp C (pc' := 192) at_191 rfl
  replace R : Rch p l e room_1 s m #[(.int mode), (.long q0), (.long q1), (.long q2), (.long q3), (.long q4)] below meth c S0 n0 5 15 h52 218 #[.val (.int mode), .val (.long q0), .second, .val (.long q1), .second, .val (.long q2), .second, .val (.long q3), .second, .val (.long q4), .second, .val (.int ld.toInt32), .val (.ref S), .val (.ref O), .val (.ref W), .val (.ref X), .val (.ref P), .unset, .unset, .unset] [.int (own_b (decide (s0 = 0) || decide (s1 = 0) || decide (s2 = 0)))] := by
    by_cases c0 : s0 = 0
    · skip
      replace R := R.ifY C (pc' := 213) at_192 (by rw [lcmp_eq]; exact decide_eq_true c0) rfl
      replace R := R.iconst C (pc' := 214) at_213 (v := (1 : Int32)) rfl rfl
      replace R := R.goto C (pc' := 218) at_214 rfl
      exact R.as (by rw [decide_eq_true c0]; rfl)
    · by_cases c1 : s1 = 0
      · skip
        replace R := R.ifN C (pc' := 195) at_192 (by rw [lcmp_eq]; exact decide_eq_false c0) rfl
        replace R := R.aload C (pc' := 197) at_195 rfl rfl rfl
        replace R := R.iconst C (pc' := 198) at_197 (v := (1 : Int32)) rfl rfl
        replace R := R.laload C (v := (.long s1)) AS (i := 1) rfl (by decide) rfl (pc' := 199) at_198 rfl
        replace R := R.lconst C (pc' := 200) at_199 (v := (0 : Int64)) rfl rfl
        replace R := R.lcmp C (pc' := 201) at_200 rfl
        replace R := R.ifY C (pc' := 213) at_201 (by rw [lcmp_eq]; exact decide_eq_true c1) rfl
        replace R := R.iconst C (pc' := 214) at_213 (v := (1 : Int32)) rfl rfl
        replace R := R.goto C (pc' := 218) at_214 rfl
        exact R.as (by rw [decide_eq_true c1, Bool.or_true]; rfl)
      · skip
        replace R := R.ifN C (pc' := 195) at_192 (by rw [lcmp_eq]; exact decide_eq_false c0) rfl
        replace R := R.aload C (pc' := 197) at_195 rfl rfl rfl
        replace R := R.iconst C (pc' := 198) at_197 (v := (1 : Int32)) rfl rfl
        replace R := R.laload C (v := (.long s1)) AS (i := 1) rfl (by decide) rfl (pc' := 199) at_198 rfl
        replace R := R.lconst C (pc' := 200) at_199 (v := (0 : Int64)) rfl rfl
        replace R := R.lcmp C (pc' := 201) at_200 rfl
        replace R := R.ifN C (pc' := 204) at_201 (by rw [lcmp_eq]; exact decide_eq_false c1) rfl
        replace R := R.aload C (pc' := 206) at_204 rfl rfl rfl
        replace R := R.iconst C (pc' := 207) at_206 (v := (2 : Int32)) rfl rfl
        replace R := R.laload C (v := (.long s2)) AS (i := 2) rfl (by decide) rfl (pc' := 208) at_207 rfl
        replace R := R.lconst C (pc' := 209) at_208 (v := (0 : Int64)) rfl rfl
        replace R := R.lcmp C (pc' := 210) at_209 rfl
        replace R := R.dia C (b := (decide (s2 = 0))) (pc' := 218) at_210 at_213 at_214 at_217 (by rw [lcmp_ne]; by_cases c2 : s2 = 0 <;> simp [c2]) rfl
        exact R.as (by rw [decide_eq_false c0, decide_eq_false c1]; rfl)
  obtain ⟨em, h_em⟩ : ∃ z, z = (decide (s0 = 0) || decide (s1 = 0) || decide (s2 = 0)) := ⟨_, rfl⟩
  rw [← h_em] at R
  replace R := R.istore C (Ls' := #[.val (.int mode), .val (.long q0), .second, .val (.long q1), .second, .val (.long q2), .second, .val (.long q3), .second, .val (.long q4), .second, .val (.int ld.toInt32), .val (.ref S), .val (.ref O), .val (.ref W), .val (.ref X), .val (.ref P), .val (.int (own_b em)), .unset, .unset]) (pc' := 220) at_218 rfl rfl
  obtain ⟨h6, R', E6, A6, D6⟩ := R.newO C (C.w 11 rfl) (C.w 12 rfl) (C.w 13 rfl) at_220 (by decide) (by decide) (pc' := 223) rfl
  replace R := R'
  clear R'
  obtain ⟨a, g_a⟩ : ∃ z, z = h52.size := ⟨_, rfl⟩
  rw [← g_a] at R A6 D6
  have ne_S_a : S ≠ a := by rw [g_a]; exact Nat.ne_of_lt X1.lt
  have ne_O_a : O ≠ a := by rw [g_a]; exact Nat.ne_of_lt AO.lt
  have ne_W_a : W ≠ a := by rw [g_a]; exact Nat.ne_of_lt AW.lt
  have ne_X_a : X ≠ a := by rw [g_a]; exact Nat.ne_of_lt AX.lt
  have ne_P_a : P ≠ a := by rw [g_a]; exact Nat.ne_of_lt AP.lt
  have gg_a : n0 ≤ a := by rw [g_a]; exact Nat.le_trans gg_S (Nat.le_of_lt AS.lt)
  replace X1 := X1.ext E6
  replace AS := AS.ext E6
  replace AO := AO.ext E6
  replace AW := AW.ext E6
  replace AX := AX.ext E6
  replace AP := AP.ext E6
  have Fs := D6 (Or.inr (C.w 30 rfl)) (ty := (.array .long)) (by decide)
  have Fl := D6 (Or.inr (C.w 32 rfl)) (ty := .int) (by decide)
  have Ft := D6 (Or.inr (C.w 35 rfl)) (ty := (.array .boolean)) (by decide)
  have Fd := D6 (Or.inr (C.w 37 rfl)) (ty := (.array .long)) (by decide)
  have Fi := D6 (Or.inr (C.w 43 rfl)) (ty := .boolean) (by decide)
  replace R := R.dup C (pc' := 224) at_223 rfl rfl
  replace R := R.aload C (pc' := 226) at_224 rfl rfl rfl
  replace R := R.aload C (pc' := 228) at_226 rfl rfl rfl
  obtain ⟨_, h7, R', rfl, K7, E7, sh, st, z_sh, z_st, Fs, Fl, Ft, Ah, At⟩ := R.callI C (y := (⟨"com/example/lacuna_tensor/lacunatensor/Broadcast", "<init>", "([J[J)V"⟩ : MethodName)) rfl (C.w 14 rfl) (C.w 15 rfl) (C.w 13 rfl) (C.w 16 rfl) (by decide) a [(.ref O), (.ref S)] [(.ref a)] rfl (con_init l Z a0 hw a O S ld hld (own_put ld 2 (own_put ld 1 (own_put ld 0 (fun _ => 0) o0) o1) o2) (updN (updN (updN (fun _ => 0) 0 s0) 1 s1) 2 s2) h6 n0 R.size gg_a (Ne.symm ne_S_a) (Ne.symm ne_O_a) A6 Fs Fl Ft Fd Fi X1 AS AO) 1 (Nat.le_of_eq rfl) (by decide) (by decide) (by decide) (by decide) (lenOf pd_2 rfl) rfl (pc' := 231) at_228 rfl
  clear R
  replace R := R'.as (st' := [(.ref a)]) rfl
  clear R'
  have l_P : P < h6.size := AP.lt
  have l_X : X < h6.size := AX.lt
  replace AS := AS.keep K7 (ninS ne_S_a nin0)
  replace AO := AO.keep K7 (ninS ne_O_a nin0)
  replace AW := AW.keep K7 (ninS ne_W_a nin0)
  replace AX := AX.keep K7 (ninS ne_X_a nin0)
  replace AP := AP.keep K7 (ninS ne_P_a nin0)
  replace R := R.more (k' := 9) (n' := 29) (by decide) (by decide)
  replace R := R.astore C (Ls' := #[.val (.int mode), .val (.long q0), .second, .val (.long q1), .second, .val (.long q2), .second, .val (.long q3), .second, .val (.long q4), .second, .val (.int ld.toInt32), .val (.ref S), .val (.ref O), .val (.ref W), .val (.ref X), .val (.ref P), .val (.int (own_b em)), .val (.ref a), .unset]) (pc' := 233) at_231 rfl rfl rfl
  replace R := R.aload C (pc' := 235) at_233 rfl rfl rfl
  replace R := R.aload C (pc' := 237) at_235 rfl rfl rfl
  replace R := R.aload C (pc' := 239) at_237 rfl rfl rfl
  obtain ⟨_, h8, R', K8, HR⟩ := R.callV C (y := (⟨"com/example/lacuna_tensor/lacunatensor/Broadcast", "firstPlacement", "([J[J)Z"⟩ : MethodName)) E7 (C.w 44 rfl) (C.w 45 rfl) (C.w 47 rfl) (C.w 46 rfl) (C.w 13 rfl) (C.w 48 rfl) (by decide) [(.ref W), (.ref P)] [] rfl (con_fp l Z a0 hw a W P sh st ld hld (updN (updN (updN (fun _ => 0) 0 s0) 1 s1) 2 s2) (own_put ld 2 (own_put ld 1 (own_put ld 0 (fun _ => 0) w0) w1) w2) (updN (updN (updN (fun _ => 0) 0 (-9223372036854775808)) 1 (-9223372036854775808)) 2 (-9223372036854775808)) (own_str ld (own_put ld 2 (own_put ld 1 (own_put ld 0 (fun _ => 0) o0) o1) o2) (updN (updN (updN (fun _ => 0) 0 s0) 1 s1) 2 s2)) h7 n0 R.size gg_P ne_P_a (Nat.ne_of_lt (Nat.lt_of_lt_of_le l_P z_sh)) (Nat.ne_of_lt (Nat.lt_of_lt_of_le l_P z_st)) (Ne.symm ne_W_P) Fs Fl Ft Ah At AW AP) 0 (Nat.le_of_eq rfl) (by decide) (by decide) (by decide) (by decide) (lenOf pd_5 rfl) rfl (pc' := 242) at_239 rfl
  replace R := R'
  clear R'
  obtain ⟨l0, l1, l2⟩ := own_len3 hld (fun _ => 0) o0 o1 o2
  obtain ⟨p0, p1, p2⟩ := own_put3 hld (fun _ => 0) w0 w1 w2
  obtain ⟨zz0, y0⟩ := own_fin A0
  obtain ⟨z1, y1⟩ := own_fin A1
  obtain ⟨z2, y2⟩ := own_fin A2
  have c0 : own_str ld (own_put ld 2 (own_put ld 1 (own_put ld 0 (fun _ => 0) o0) o1) o2) (updN (updN (updN (fun _ => 0) 0 s0) 1 s1) 2 s2) 0 = decide (¬ (if 0 < ld then (1 : Int64) else o0) = s0) := by rw [own_str, l0]; rfl
  have c1 : own_str ld (own_put ld 2 (own_put ld 1 (own_put ld 0 (fun _ => 0) o0) o1) o2) (updN (updN (updN (fun _ => 0) 0 s0) 1 s1) 2 s2) 1 = decide (¬ (if 1 < ld then (1 : Int64) else o1) = s1) := by rw [own_str, l1]; rfl
  have c2 : own_str ld (own_put ld 2 (own_put ld 1 (own_put ld 0 (fun _ => 0) o0) o1) o2) (updN (updN (updN (fun _ => 0) 0 s0) 1 s1) 2 s2) 2 = decide (¬ (if 2 < ld then (1 : Int64) else o2) = s2) := by rw [own_str, l2]; rfl
  rcases HR with ⟨rfl, i, hi, u1, u2⟩ | ⟨rfl, hq, AQ⟩
  · skip
    have hem : em = true := by
      rw [h_em]
      match i, hi, u2 with
      | 0, _, q2 => rw [decide_eq_true (show s0 = 0 from q2)]; rfl
      | 1, _, q2 => rw [decide_eq_true (show s1 = 0 from q2), Bool.or_true]; rfl
      | 2, _, q2 => rw [decide_eq_true (show s2 = 0 from q2), Bool.or_true]
    rw [hem] at R
    replace R := R.as (st' := [(.int (own_b false))]) rfl
    replace R := R.istore C (Ls' := #[.val (.int mode), .val (.long q0), .second, .val (.long q1), .second, .val (.long q2), .second, .val (.long q3), .second, .val (.long q4), .second, .val (.int ld.toInt32), .val (.ref S), .val (.ref O), .val (.ref W), .val (.ref X), .val (.ref P), .val (.int (own_b true)), .val (.ref a), .val (.int (own_b false))]) (pc' := 244) at_242 rfl rfl
    replace R := R.iload C (pc' := 246) at_244 rfl rfl
    replace R := R.ifN C (pc' := 249) at_246 rfl rfl
    replace R := R.iload C (pc' := 251) at_249 rfl rfl
    replace R := R.dia C (b := true) (pc' := 259) at_251 at_254 at_255 at_258 rfl rfl
    exact R.retZ (b := true) C at_259 rfl (by decide) (by decide)
  · skip
    have hem : em = false := by
      rw [h_em]
      have d0 : ¬ s0 = 0 := fun q => hq 0 (by decide) ⟨by rw [c0]; exact decide_eq_true (zz0 q), q⟩
      have d1 : ¬ s1 = 0 := fun q => hq 1 (by decide) ⟨by rw [c1]; exact decide_eq_true (z1 q), q⟩
      have d2 : ¬ s2 = 0 := fun q => hq 2 (by decide) ⟨by rw [c2]; exact decide_eq_true (z2 q), q⟩
      rw [decide_eq_false d0, decide_eq_false d1, decide_eq_false d2]; rfl
    rw [hem] at R
    replace R := R.as (st' := [(.int (own_b true))]) rfl
    replace R := R.istore C (Ls' := #[.val (.int mode), .val (.long q0), .second, .val (.long q1), .second, .val (.long q2), .second, .val (.long q3), .second, .val (.long q4), .second, .val (.int ld.toInt32), .val (.ref S), .val (.ref O), .val (.ref W), .val (.ref X), .val (.ref P), .val (.int (own_b false)), .val (.ref a), .val (.int (own_b true))]) (pc' := 244) at_242 rfl rfl
    replace R := R.iload C (pc' := 246) at_244 rfl rfl
    replace R := R.ifY C (pc' := 260) at_246 rfl rfl
    replace R := R.iload C (pc' := 262) at_260 rfl rfl
    replace R := R.ifN C (pc' := 265) at_262 rfl rfl
    replace AX := AX.keep K8 (ninS ne_X_P nin0)
    have v0 : own_pt ld (own_str ld (own_put ld 2 (own_put ld 1 (own_put ld 0 (fun _ => 0) o0) o1) o2) (updN (updN (updN (fun _ => 0) 0 s0) 1 s1) 2 s2)) (own_put ld 2 (own_put ld 1 (own_put ld 0 (fun _ => 0) w0) w1) w2) 0 = e0 := by
      rw [own_pt, c0, ← y0]
      by_cases t : 0 < ld
      · simp only [t, decide_true, Bool.or_true, if_true]
      · rw [p0 t]
    replace R := R.aload C (pc' := 267) at_265 rfl rfl rfl
    replace R := R.iconst C (pc' := 268) at_267 (v := (0 : Int32)) rfl rfl
    replace R := R.laload C (v := (.long e0)) AQ (i := 0) rfl (by decide) (congrArg Value.long v0) (pc' := 269) at_268 rfl
    replace R := R.aload C (pc' := 271) at_269 rfl rfl rfl
    replace R := R.iconst C (pc' := 272) at_271 (v := (0 : Int32)) rfl rfl
    replace R := R.laload C (v := (.long e0)) AX (i := 0) rfl (by decide) rfl (pc' := 273) at_272 rfl
    replace R := R.lcmp C (pc' := 274) at_273 rfl
    replace R := R.ifN C (pc' := 277) at_274 (by rw [lcmp_ne]; simp) rfl
    have v1 : own_pt ld (own_str ld (own_put ld 2 (own_put ld 1 (own_put ld 0 (fun _ => 0) o0) o1) o2) (updN (updN (updN (fun _ => 0) 0 s0) 1 s1) 2 s2)) (own_put ld 2 (own_put ld 1 (own_put ld 0 (fun _ => 0) w0) w1) w2) 1 = e1 := by
      rw [own_pt, c1, ← y1]
      by_cases t : 1 < ld
      · simp only [t, decide_true, Bool.or_true, if_true]
      · rw [p1 t]
    replace R := R.aload C (pc' := 279) at_277 rfl rfl rfl
    replace R := R.iconst C (pc' := 280) at_279 (v := (1 : Int32)) rfl rfl
    replace R := R.laload C (v := (.long e1)) AQ (i := 1) rfl (by decide) (congrArg Value.long v1) (pc' := 281) at_280 rfl
    replace R := R.aload C (pc' := 283) at_281 rfl rfl rfl
    replace R := R.iconst C (pc' := 284) at_283 (v := (1 : Int32)) rfl rfl
    replace R := R.laload C (v := (.long e1)) AX (i := 1) rfl (by decide) rfl (pc' := 285) at_284 rfl
    replace R := R.lcmp C (pc' := 286) at_285 rfl
    replace R := R.ifN C (pc' := 289) at_286 (by rw [lcmp_ne]; simp) rfl
    have v2 : own_pt ld (own_str ld (own_put ld 2 (own_put ld 1 (own_put ld 0 (fun _ => 0) o0) o1) o2) (updN (updN (updN (fun _ => 0) 0 s0) 1 s1) 2 s2)) (own_put ld 2 (own_put ld 1 (own_put ld 0 (fun _ => 0) w0) w1) w2) 2 = e2 := by
      rw [own_pt, c2, ← y2]
      by_cases t : 2 < ld
      · simp only [t, decide_true, Bool.or_true, if_true]
      · rw [p2 t]
    replace R := R.aload C (pc' := 291) at_289 rfl rfl rfl
    replace R := R.iconst C (pc' := 292) at_291 (v := (2 : Int32)) rfl rfl
    replace R := R.laload C (v := (.long e2)) AQ (i := 2) rfl (by decide) (congrArg Value.long v2) (pc' := 293) at_292 rfl
    replace R := R.aload C (pc' := 295) at_293 rfl rfl rfl
    replace R := R.iconst C (pc' := 296) at_295 (v := (2 : Int32)) rfl rfl
    replace R := R.laload C (v := (.long e2)) AX (i := 2) rfl (by decide) rfl (pc' := 297) at_296 rfl
    replace R := R.lcmp C (pc' := 298) at_297 rfl
    replace R := R.ifN C (pc' := 301) at_298 (by rw [lcmp_ne]; simp) rfl
    replace R := R.iconst C (pc' := 302) at_301 (v := (1 : Int32)) rfl rfl
    replace R := R.goto C (pc' := 306) at_302 rfl
    exact R.retZ (b := true) C at_306 rfl (by decide) (by decide)
set_option maxRecDepth 65536 in
set_option maxHeartbeats 40000000 in
theorem comes_1 {Post : Tables → Env → Array Value → State → Outcome → State → Prop} (hpost : ∀ tb e args s v u, (limb_1_1.after args s (.returned v) u = true ∧ limb_1_2.after args s (.returned v) u = true ∧ True) → FrameEnd s (.returned v) u (Jvm.fieldLocs frame_1_writes args s ++ Jvm.arrayLocs frame_1_arrays args s ++ Jvm.staticLocs frame_1_statics s) 32 128 → Post tb e args s (.returned v) u) :
    ArmFor flags0 classFile x code maxLocals ret World_1 tables_1 room_1 Calls_1 rest_1 Pre_1 Post := by
  intro l hfl _ _ p e ha hc hk s m args below hf hA hF happ hP
  obtain ⟨hcalls, hrest, hpre⟩ := hP
  obtain ⟨-, -, -, hnamed, -, -, -, hat⟩ := (Spec.applies_iff hf).mp happ
  obtain ⟨hg, hn⟩ := and_e (Cond.before_iff.mp (show (Jvm.Cond.and given_1 narrow_1).before args s = true from hpre))
  obtain ⟨h1, q0⟩ := and_e hg
  obtain ⟨k0, q1⟩ := and_e q0
  obtain ⟨k1, q2⟩ := and_e q1
  obtain ⟨k2, q3⟩ := and_e q2
  obtain ⟨k3, q4⟩ := and_e q3
  obtain ⟨k4, q5⟩ := and_e q4
  have k5 := q5
  obtain ⟨w0, w1, w2, w3, w4, w5, rfl⟩ : ∃ w0 w1 w2 w3 w4 w5 : Value, args = #[w0, w1, w2, w3, w4, w5] := by
    have hs : args.size = 6 := by simpa [Cond.value, given_1] using h1
    obtain ⟨L⟩ := args
    match L, hs with
    | [w0, w1, w2, w3, w4, w5], _ => exact ⟨w0, w1, w2, w3, w4, w5, rfl⟩
  have hw := fun d (hd : d ∈ tables_1) => atoms_spec (ws := Jvm.Cond.code x code maxLocals ret :: tables_1) hat d (List.mem_cons_of_mem _ hd)
  obtain ⟨i0, e0⟩ := is_v k0
  obtain rfl : w0 = (.int i0) := Option.some.inj e0
  obtain ⟨i1, e1⟩ := isL_v k1
  obtain rfl : w1 = (.long i1) := Option.some.inj e1
  obtain ⟨i2, e2⟩ := isL_v k2
  obtain rfl : w2 = (.long i2) := Option.some.inj e2
  obtain ⟨i3, e3⟩ := isL_v k3
  obtain rfl : w3 = (.long i3) := Option.some.inj e3
  obtain ⟨i4, e4⟩ := isL_v k4
  obtain rfl : w4 = (.long i4) := Option.some.inj e4
  obtain ⟨i5, e5⟩ := isL_v k5
  obtain rfl : w5 = (.long i5) := Option.some.inj e5
  obtain ⟨n, o, h1, h2, h3, _, L, rfl, ⟨rfl, N⟩, hq⟩ := con0 l s _ hw i0 i1 i2 i3 i4 i5 s.heap s.heap.size (Nat.le_refl _)  tables_1 p e ha hc hk s m _ below hf ((Spec.applies_iff_loose hf).mp happ).1 ⟨rfl, State.Warmed39.refl s, rfl⟩ trivial
  refine ⟨n, _, h1, h2, h3, hpost _ _ _ _ _ _ ⟨Cond.after_iff.mpr rfl, Cond.after_iff.mpr (eq_i res_at (Term.int_eval (1)) rfl), trivial⟩ ⟨hq.1, hq.2.1, (hq.2.2.sift fun y hy => Or.inr (N y hy)).mono (by decide) (by decide)⟩⟩
theorem main_1_1 : Claimed_1_1 := comes_1 fun _ _ _ _ _ _ h hF => ⟨h.1, hF⟩
theorem main_1_2 : Claimed_1_2 := comes_1 fun _ _ _ _ _ _ h hF => ⟨h.2.1, hF⟩
end Jvm.Pilot.@@N@@
namespace Jvm.Pilot.@@N@@
open Jvm Jvm.ClassFile Sem Op Lib Jvm.Free Jvm.Stand Jvm.Pilot.@@N@@.Jvm.D
/-! MADE BY PROGRAM (witnessworld.py) out of the Statement's table words and the real class files: 15 classes; the members and pool entries that the words name. The judged class is class 1, her method 2. -/
namespace start1
open Jvm.ClassFile
def u (s : String) : CpInfo := .utf8 (stringToUtf16 s)
/-- a pool by its gaps: so many unusable entries, then the entry; so many at the end -/
def gap : Nat → List CpInfo → List CpInfo
  | 0, r => r
  | n + 1, r => .unusable :: gap n r
def poolList (es : List (Nat × CpInfo)) (last : Nat) : List CpInfo := es.foldr (fun e r => gap e.1 (e.2 :: r)) (gap last [])
def pool (es : List (Nat × CpInfo)) (last : Nat) : Array CpInfo := ⟨poolList es last⟩
def fileOf (pool : Array CpInfo) (this : Nat) (attrs : Array Attribute := #[]) (ms : Array MethodInfo := #[]) (fl : Nat := 33) (sup : Nat := 0) (ifs : Array Nat := #[]) (fds : Array FieldInfo := #[]) : ClassFile where
  minorVersion := 0
  majorVersion := 65
  constantPool := pool
  accessFlags := fl
  thisClass := this
  superClass := sup
  interfaces := ifs
  fields := fds
  methods := ms
  attributes := attrs
def plain (name : String) (sup : Option ClassId) : Class where
  name := name
  kind := .ordinary
  loader := none
  accessFlags := 33
  super := sup
  interfaces := #[]
  cf := none
  fields := #[]
  methods := #[]
  instanceTypes := #[]
  staticTypes := #[]
  resolved := #[]
  callSites := []
  init := .initialized
  statics := none
  mirror := none

def pool0 : Array CpInfo := pool [(5, u "<init>"), (0, u "()V"), (1, .class_ 10), (1, u "java/lang/Object"), (85, u "clone"), (0, u "()Ljava/lang/Object;")] 26

def k0c0 : Code := { maxStack := 0, maxLocals := 1, code := object_method_1_code, exceptionTable := #[], attributes := #[] }
def k0m0 : Method := { name := "<init>", desc := "()V", sig := { parameters := [], returnType := none }, accessFlags := 1, code := some k0c0 }
def k0m1 : Method := { name := "clone", desc := "()Ljava/lang/Object;", sig := { parameters := [], returnType := some (.object "java/lang/Object") }, accessFlags := 260, code := none }
/-- java/lang/Object -/
def k0 : Class := { plain "java/lang/Object" none with
  accessFlags := 33
  interfaces := #[]
  cf := some (fileOf pool0 8 #[] #[{ accessFlags := 1, nameIndex := 5, descriptorIndex := 6, attributes := #[] }, { accessFlags := 260, nameIndex := 96, descriptorIndex := 97, attributes := #[] }] 33 0 #[] #[])
  fields := #[]
  methods := #[k0m0, k0m1]
  instanceTypes := #[]
  staticTypes := #[]
  resolved := Array.replicate 124 none
  statics := none }

def pool1 : Array CpInfo := pool [(2, .class_ 4), (1, u "java/lang/Object"), (0, u "<init>"), (0, u "()V"), (0, .long 3), (3, .long 9223372036854775807), (1, .methodref 14 15), (0, .class_ 16), (0, .nameAndType 17 18), (0, u "java/lang/Math"), (0, u "max"), (0, u "(JJ)J"), (0, .methodref 20 21), (0, .class_ 22), (0, .nameAndType 23 24), (0, u "com/example/lacuna_tensor/lacunatensor/BroadcastFirstPlacementPinLaw"), (0, u "axis"), (0, u "(IIIJJ[J[J[J[J)V"), (0, .long 9223372036854775808), (1, .class_ 28), (0, u "com/example/lacuna_tensor/lacunatensor/Broadcast"), (0, .methodref 27 30), (0, .nameAndType 5 31), (0, u "([J[J)V"), (0, .methodref 27 33), (0, .nameAndType 34 35), (0, u "firstPlacement"), (0, u "([J[J)Z"), (3, u "law"), (0, u "(IJJJJJ)Z")] 4

def k1m0 : Method := { name := "<init>", desc := "()V", sig := { parameters := [], returnType := none }, accessFlags := 2, code := none }
def k1c1 : Code := { maxStack := 4, maxLocals := 19, code := method_2_code, exceptionTable := #[], attributes := #[] }
def k1m1 : Method := { name := "axis", desc := "(IIIJJ[J[J[J[J)V", sig := { parameters := [.int, .int, .int, .long, .long, (.array .long), (.array .long), (.array .long), (.array .long)], returnType := none }, accessFlags := 10, code := some k1c1 }
def k1c2 : Code := { maxStack := 11, maxLocals := 20, code := code, exceptionTable := #[], attributes := #[] }
def k1m2 : Method := { name := "law", desc := "(IJJJJJ)Z", sig := { parameters := [.int, .long, .long, .long, .long, .long], returnType := some .boolean }, accessFlags := 9, code := some k1c2 }
/-- com/example/lacuna_tensor/lacunatensor/BroadcastFirstPlacementPinLaw -/
def k1 : Class := { plain "com/example/lacuna_tensor/lacunatensor/BroadcastFirstPlacementPinLaw" (some 0) with
  accessFlags := 49
  interfaces := #[]
  cf := some (fileOf pool1 20 #[] #[{ accessFlags := 2, nameIndex := 5, descriptorIndex := 6, attributes := #[] }, { accessFlags := 10, nameIndex := 23, descriptorIndex := 24, attributes := #[] }, { accessFlags := 9, nameIndex := 39, descriptorIndex := 40, attributes := #[] }] 49 2 #[] #[])
  fields := #[]
  methods := #[k1m0, k1m1, k1m2]
  instanceTypes := #[]
  staticTypes := #[]
  resolved := Array.replicate 45 none
  statics := none }

def pool2 : Array CpInfo := pool [(1, .class_ 2), (0, u "java/lang/Math"), (1, .class_ 6), (1, u "java/lang/Object"), (0, u "<init>"), (0, u "()V"), (89, .class_ 100), (1, u "java/lang/Math$RandomNumberGeneratorHolder"), (20, u "(JJ)J"), (50, u "negativeZeroFloatBits"), (0, u "J"), (2, u "negativeZeroDoubleBits"), (21, u "max"), (46, u "$assertionsDisabled"), (0, u "Z"), (91, u "twoToTheDoubleScaleDown"), (0, u "D"), (4, u "twoToTheDoubleScaleUp"), (9, u "E"), (3, u "PI"), (2, u "TAU"), (2, u "DEGREES_TO_RADIANS"), (0, u "RADIANS_TO_DEGREES")] 94

def k2m0 : Method := { name := "<init>", desc := "()V", sig := { parameters := [], returnType := none }, accessFlags := 2, code := none }
def k2c1 : Code := { maxStack := 4, maxLocals := 4, code := jdk_29_method_66_code, exceptionTable := #[], attributes := #[] }
def k2m1 : Method := { name := "max", desc := "(JJ)J", sig := { parameters := [.long, .long], returnType := some .long }, accessFlags := 9, code := some k2c1 }
/-- java/lang/Math -/
def k2 : Class := { plain "java/lang/Math" (some 0) with
  accessFlags := 49
  interfaces := #[]
  cf := some (fileOf pool2 1 #[.nestMembers #[98]] #[{ accessFlags := 2, nameIndex := 7, descriptorIndex := 8, attributes := #[] }, { accessFlags := 9, nameIndex := 198, descriptorIndex := 121, attributes := #[] }] 49 4 #[] #[{ accessFlags := 25, nameIndex := 354, descriptorIndex := 339, attributes := #[] }, { accessFlags := 25, nameIndex := 358, descriptorIndex := 339, attributes := #[] }, { accessFlags := 25, nameIndex := 361, descriptorIndex := 339, attributes := #[] }, { accessFlags := 26, nameIndex := 364, descriptorIndex := 339, attributes := #[] }, { accessFlags := 26, nameIndex := 365, descriptorIndex := 339, attributes := #[] }, { accessFlags := 26, nameIndex := 172, descriptorIndex := 173, attributes := #[] }, { accessFlags := 26, nameIndex := 176, descriptorIndex := 173, attributes := #[] }, { accessFlags := 8, nameIndex := 344, descriptorIndex := 339, attributes := #[] }, { accessFlags := 8, nameIndex := 338, descriptorIndex := 339, attributes := #[] }, { accessFlags := 4120, nameIndex := 245, descriptorIndex := 246, attributes := #[] }])
  fields := #[{ name := "E", type := .double, accessFlags := 25, slot := 0, constantValue := 0 }, { name := "PI", type := .double, accessFlags := 25, slot := 1, constantValue := 0 }, { name := "TAU", type := .double, accessFlags := 25, slot := 2, constantValue := 0 }, { name := "DEGREES_TO_RADIANS", type := .double, accessFlags := 26, slot := 3, constantValue := 0 }, { name := "RADIANS_TO_DEGREES", type := .double, accessFlags := 26, slot := 4, constantValue := 0 }, { name := "negativeZeroFloatBits", type := .long, accessFlags := 26, slot := 5, constantValue := 0 }, { name := "negativeZeroDoubleBits", type := .long, accessFlags := 26, slot := 6, constantValue := 0 }, { name := "twoToTheDoubleScaleUp", type := .double, accessFlags := 8, slot := 7, constantValue := 0 }, { name := "twoToTheDoubleScaleDown", type := .double, accessFlags := 8, slot := 8, constantValue := 0 }, { name := "$assertionsDisabled", type := .boolean, accessFlags := 4120, slot := 9, constantValue := 0 }]
  methods := #[k2m0, k2m1]
  instanceTypes := #[]
  staticTypes := #[.double, .double, .double, .double, .double, .long, .long, .double, .double, .boolean]
  resolved := Array.replicate 460 none
  statics := none }

def pool3 : Array CpInfo := pool [(1, .methodref 2 3), (0, .class_ 4), (0, .nameAndType 5 6), (0, u "java/lang/Object"), (0, u "<init>"), (0, u "()V"), (0, .methodref 8 9), (0, .class_ 10), (0, .nameAndType 11 12), (0, u "[J"), (0, u "clone"), (0, u "()Ljava/lang/Object;"), (0, .fieldref 14 15), (0, .class_ 16), (0, .nameAndType 17 10), (0, u "com/example/lacuna_tensor/lacunatensor/Broadcast"), (0, u "shape"), (0, .fieldref 14 19), (0, .nameAndType 20 21), (0, u "lead"), (0, u "I"), (0, .fieldref 14 23), (0, .nameAndType 24 25), (0, u "stretched"), (0, u "[Z"), (0, .fieldref 14 27), (0, .nameAndType 28 10), (0, u "strides"), (0, .methodref 30 31), (0, .class_ 32), (0, .nameAndType 33 34), (0, u "com/example/lacuna_tensor/lacunatensor/Shapes"), (0, u "alignedLength"), (0, u "([JII)J"), (0, .fieldref 14 36), (0, .nameAndType 37 38), (0, u "identity"), (0, u "Z"), (14, u "([J[J)V"), (14, u "firstPlacement"), (0, u "([J[J)Z")] 4

def k3c0 : Code := { maxStack := 6, maxLocals := 9, code := prog_13_method_1_code, exceptionTable := #[], attributes := #[] }
def k3m0 : Method := { name := "<init>", desc := "([J[J)V", sig := { parameters := [(.array .long), (.array .long)], returnType := none }, accessFlags := 0, code := some k3c0 }
def k3c1 : Code := { maxStack := 5, maxLocals := 4, code := prog_13_method_7_code, exceptionTable := #[], attributes := #[] }
def k3m1 : Method := { name := "firstPlacement", desc := "([J[J)Z", sig := { parameters := [(.array .long), (.array .long)], returnType := some .boolean }, accessFlags := 0, code := some k3c1 }
/-- com/example/lacuna_tensor/lacunatensor/Broadcast -/
def k3 : Class := { plain "com/example/lacuna_tensor/lacunatensor/Broadcast" (some 0) with
  accessFlags := 48
  interfaces := #[]
  cf := some (fileOf pool3 14 #[] #[{ accessFlags := 0, nameIndex := 5, descriptorIndex := 53, attributes := #[] }, { accessFlags := 0, nameIndex := 68, descriptorIndex := 69, attributes := #[] }] 48 2 #[] #[{ accessFlags := 18, nameIndex := 17, descriptorIndex := 10, attributes := #[] }, { accessFlags := 18, nameIndex := 20, descriptorIndex := 21, attributes := #[] }, { accessFlags := 18, nameIndex := 24, descriptorIndex := 25, attributes := #[] }, { accessFlags := 18, nameIndex := 28, descriptorIndex := 10, attributes := #[] }, { accessFlags := 18, nameIndex := 37, descriptorIndex := 38, attributes := #[] }])
  fields := #[{ name := "shape", type := (.array .long), accessFlags := 18, slot := 0, constantValue := 0 }, { name := "lead", type := .int, accessFlags := 18, slot := 1, constantValue := 0 }, { name := "stretched", type := (.array .boolean), accessFlags := 18, slot := 2, constantValue := 0 }, { name := "strides", type := (.array .long), accessFlags := 18, slot := 3, constantValue := 0 }, { name := "identity", type := .boolean, accessFlags := 18, slot := 4, constantValue := 0 }]
  methods := #[k3m0, k3m1]
  instanceTypes := #[(.array .long), .int, (.array .boolean), (.array .long), .boolean]
  staticTypes := #[]
  resolved := Array.replicate 74 none
  statics := none }

def pool4 : Array CpInfo := pool [(1, .class_ 2), (0, u "java/lang/Cloneable"), (0, .class_ 4), (0, u "java/lang/Object")] 2

/-- java/lang/Cloneable -/
def k4 : Class := { plain "java/lang/Cloneable" (some 0) with
  accessFlags := 1537
  interfaces := #[]
  cf := some (fileOf pool4 1 #[] #[] 1537 3 #[] #[])
  fields := #[]
  methods := #[]
  instanceTypes := #[]
  staticTypes := #[]
  resolved := Array.replicate 7 none
  statics := none }

def pool5 : Array CpInfo := pool [(2, .class_ 4), (1, u "java/lang/Object"), (0, u "<init>"), (0, u "()V"), (11, .class_ 20), (1, u "com/example/lacuna_tensor/lacunatensor/Shapes"), (51, u "alignedLength"), (0, u "([JII)J"), (239, .class_ 314), (0, u "com/example/lacuna_tensor/lacunatensor/Shapes$CellMap")] 101

def k5m0 : Method := { name := "<init>", desc := "()V", sig := { parameters := [], returnType := none }, accessFlags := 2, code := none }
def k5c1 : Code := { maxStack := 3, maxLocals := 4, code := prog_153_method_6_code, exceptionTable := #[], attributes := #[] }
def k5m1 : Method := { name := "alignedLength", desc := "([JII)J", sig := { parameters := [(.array .long), .int, .int], returnType := some .long }, accessFlags := 8, code := some k5c1 }
/-- com/example/lacuna_tensor/lacunatensor/Shapes -/
def k5 : Class := { plain "com/example/lacuna_tensor/lacunatensor/Shapes" (some 0) with
  accessFlags := 48
  interfaces := #[]
  cf := some (fileOf pool5 18 #[.nestMembers #[313]] #[{ accessFlags := 2, nameIndex := 5, descriptorIndex := 6, attributes := #[] }, { accessFlags := 8, nameIndex := 72, descriptorIndex := 73, attributes := #[] }] 48 2 #[] #[])
  fields := #[]
  methods := #[k5m0, k5m1]
  instanceTypes := #[]
  staticTypes := #[]
  resolved := Array.replicate 416 none
  statics := none }

def pool6 : Array CpInfo := pool [(1, u "java/io/Serializable"), (0, .class_ 1), (0, u "java/lang/Object"), (0, .class_ 3)] 3

/-- java/io/Serializable -/
def k6 : Class := { plain "java/io/Serializable" (some 0) with
  accessFlags := 1537
  interfaces := #[]
  cf := some (fileOf pool6 2 #[] #[] 1537 4 #[] #[])
  fields := #[]
  methods := #[]
  instanceTypes := #[]
  staticTypes := #[]
  resolved := Array.replicate 8 none
  statics := none }

/-- the primitive boolean -/
def k7 : Class := { plain "boolean" none with kind := .primitive 'Z', accessFlags := 0x411 }
/-- [Z -/
def k8 : Class := { plain "[Z" (some 0) with kind := .array 7 .boolean, interfaces := #[4, 6], accessFlags := 1041 }

/-- the primitive byte -/
def k9 : Class := { plain "byte" none with kind := .primitive 'B', accessFlags := 0x411 }
/-- [B -/
def k10 : Class := { plain "[B" (some 0) with kind := .array 9 .byte, interfaces := #[4, 6], accessFlags := 1041 }

/-- the primitive int -/
def k11 : Class := { plain "int" none with kind := .primitive 'I', accessFlags := 0x411 }
/-- [I -/
def k12 : Class := { plain "[I" (some 0) with kind := .array 11 .int, interfaces := #[4, 6], accessFlags := 1041 }

/-- the primitive long -/
def k13 : Class := { plain "long" none with kind := .primitive 'J', accessFlags := 0x411 }
/-- [J -/
def k14 : Class := { plain "[J" (some 0) with kind := .array 13 .long, interfaces := #[4, 6], accessFlags := 1041 }

def heap : Heap := #[]
def classes : Array Class := #[k0, k1, k2, k3, k4, k5, k6, k7, k8, k9, k10, k11, k12, k13, k14]
def interned : List (Array UInt16 × Addr) := []
def slotsUsed : Nat := 0
def theMethod : MethodId := ⟨1, 2⟩
def args0 : Array Value := #[.int 5, .long 7, .long 3, .long 1, .long 2, .long 9]
def aboutOver (below : List Frame) : State where
  vm := { classes := classes, interned := interned.toArray }
  heap := heap
  slotsUsed := slotsUsed
  threads := #[{ frames := .invoking theMethod args0 :: below }]
def below0 : List Frame := [.native { method := ⟨0, 0⟩, args := #[] }]
def about1 : State := aboutOver below0
def p0 : Program := .bare "" "" ""
def e0 : Env := launch0.env 0 0 0
theorem w_frames : about1.frames = Frame.invoking theMethod args0 :: below0 := rfl
set_option maxRecDepth 65536 in
theorem w_args : argsFit about1.vm theMethod args0 = true := by decide +kernel
set_option maxRecDepth 65536 in
theorem w_heap : heapFits about1 = true := by decide +kernel
set_option maxRecDepth 65536 in
theorem w_runnable : about1.curStatus? = some .runnable := by decide +kernel
set_option maxRecDepth 65536 in
theorem w_alone : about1.alone = true := by decide +kernel
set_option maxRecDepth 65536 in
theorem w_named : about1.methodNamed? x = some theMethod := by decide +kernel
set_option maxRecDepth 65536 in
theorem w_hears : about1.hears theMethod below0 = true := by decide +kernel
set_option maxRecDepth 65536 in
theorem w_ripe : about1.ripe theMethod args0 below0 = true := by decide +kernel
theorem w_running : about1.status = .running := rfl
set_option maxRecDepth 65536 in
theorem w_room : about1.hasRoom e0.platform room_1 = true :=
  launch0.hasRoom_least _ room_1 (by decide +kernel) (by decide +kernel) (by decide +kernel) (by decide +kernel) (by decide +kernel) (by decide +kernel)
theorem allAtoms_all (ts : List Jvm.Cond) (a : Array Jvm.Value) (st : Jvm.State) : (allAtoms ts).before a st = ts.all (fun c => c.before a st) := by
  induction ts with
  | nil => rfl
  | cons c t ih =>
    show (Jvm.Cond.and c (allAtoms t)).before a st = _
    rw [Jvm.Cond.before_and, ih, List.all_cons]
def words1 : List Jvm.Cond := Jvm.Cond.code x code maxLocals ret :: tables_1
/-- a 'code' word, met by the world's own term for the bytes: nothing is compared byte by byte -/
theorem code_word {y : MethodName} {bytes : ByteArray} {mx : Nat} {rt : Option FieldType} {a : Array Value} {s : State} {m : MethodId} {meth : Method} {c : Code} (h1 : s.methodNamed? y = some m) (h2 : s.vm.method? m = some meth) (h3 : meth.code = some c) (h4 : c.code = bytes)
    (h5 : (c.maxLocals == mx && c.exceptionTable.isEmpty && decide (c.maxStack ≤ mostOperands) && decide (meth.sig.returnType = rt) && !meth.locks && decide (parseMethodDescriptor y.desc = some meth.sig)) = true) : (Jvm.Cond.code y bytes mx rt).before a s = true := by
  simp only [Bool.and_eq_true, beq_iff_eq, Bool.not_eq_true', decide_eq_true_eq] at h5
  obtain ⟨⟨⟨⟨⟨g1, g2⟩, g3⟩, g4⟩, g5⟩, g6⟩ := h5
  simp [Cond.before, Cond.holds, Cond.value, h1, h2, h3, h4, g1, g2, g3, g4, g5, g6]
def isCode : Jvm.Cond → Bool
  | .code _ _ _ _ => true
  | _ => false
theorem all_split {L : List Jvm.Cond} {P : Jvm.Cond → Bool} (h1 : L.all (fun c => isCode c || P c) = true) (h2 : ∀ c ∈ L.filter isCode, P c = true) : L.all P = true := by
  refine List.all_eq_true.mpr fun c hc => ?_
  have h := List.all_eq_true.mp h1 c hc
  rcases Bool.eq_false_or_eq_true (isCode c) with hi | hi
  · exact h2 c (List.mem_filter.mpr ⟨hc, hi⟩)
  · simpa [hi] using h
set_option maxRecDepth 65536 in
theorem w_c0 : (Jvm.Cond.code x code maxLocals ret).before args0 about1 = true := code_word (m := ⟨1, 2⟩) (meth := k1m2) (c := k1c2) (by decide +kernel) rfl rfl rfl (by decide +kernel)
set_option maxRecDepth 65536 in
theorem w_c1 : (Jvm.Cond.code ({ cls := "com/example/lacuna_tensor/lacunatensor/BroadcastFirstPlacementPinLaw", name := "axis", desc := "(IIIJJ[J[J[J[J)V" } : Jvm.MethodName) method_2_code (19 : Nat) (Option.none : Option Jvm.ClassFile.FieldType)).before args0 about1 = true := code_word (m := ⟨1, 1⟩) (meth := k1m1) (c := k1c1) (by decide +kernel) rfl rfl rfl (by decide +kernel)
set_option maxRecDepth 65536 in
theorem w_c2 : (Jvm.Cond.code ({ cls := "java/lang/Math", name := "max", desc := "(JJ)J" } : Jvm.MethodName) jdk_29_method_66_code (4 : Nat) (Option.some Jvm.ClassFile.FieldType.long)).before args0 about1 = true := code_word (m := ⟨2, 1⟩) (meth := k2m1) (c := k2c1) (by decide +kernel) rfl rfl rfl (by decide +kernel)
set_option maxRecDepth 65536 in
theorem w_c3 : (Jvm.Cond.code ({ cls := "com/example/lacuna_tensor/lacunatensor/Broadcast", name := "<init>", desc := "([J[J)V" } : Jvm.MethodName) prog_13_method_1_code (9 : Nat) (Option.none : Option Jvm.ClassFile.FieldType)).before args0 about1 = true := code_word (m := ⟨3, 0⟩) (meth := k3m0) (c := k3c0) (by decide +kernel) rfl rfl rfl (by decide +kernel)
set_option maxRecDepth 65536 in
theorem w_c4 : (Jvm.Cond.code ({ cls := "java/lang/Object", name := "<init>", desc := "()V" } : Jvm.MethodName) object_method_1_code (1 : Nat) (Option.none : Option Jvm.ClassFile.FieldType)).before args0 about1 = true := code_word (m := ⟨0, 0⟩) (meth := k0m0) (c := k0c0) (by decide +kernel) rfl rfl rfl (by decide +kernel)
set_option maxRecDepth 65536 in
theorem w_c5 : (Jvm.Cond.code ({ cls := "com/example/lacuna_tensor/lacunatensor/Shapes", name := "alignedLength", desc := "([JII)J" } : Jvm.MethodName) prog_153_method_6_code (4 : Nat) (Option.some Jvm.ClassFile.FieldType.long)).before args0 about1 = true := code_word (m := ⟨5, 1⟩) (meth := k5m1) (c := k5c1) (by decide +kernel) rfl rfl rfl (by decide +kernel)
set_option maxRecDepth 65536 in
theorem w_c6 : (Jvm.Cond.code ({ cls := "com/example/lacuna_tensor/lacunatensor/Broadcast", name := "firstPlacement", desc := "([J[J)Z" } : Jvm.MethodName) prog_13_method_7_code (4 : Nat) (Option.some Jvm.ClassFile.FieldType.boolean)).before args0 about1 = true := code_word (m := ⟨3, 1⟩) (meth := k3m1) (c := k3c1) (by decide +kernel) rfl rfl rfl (by decide +kernel)
def codes1 : List Jvm.Cond := [Jvm.Cond.code x code maxLocals ret, Jvm.Cond.code ({ cls := "com/example/lacuna_tensor/lacunatensor/BroadcastFirstPlacementPinLaw", name := "axis", desc := "(IIIJJ[J[J[J[J)V" } : Jvm.MethodName) method_2_code (19 : Nat) (Option.none : Option Jvm.ClassFile.FieldType), Jvm.Cond.code ({ cls := "java/lang/Math", name := "max", desc := "(JJ)J" } : Jvm.MethodName) jdk_29_method_66_code (4 : Nat) (Option.some Jvm.ClassFile.FieldType.long), Jvm.Cond.code ({ cls := "com/example/lacuna_tensor/lacunatensor/Broadcast", name := "<init>", desc := "([J[J)V" } : Jvm.MethodName) prog_13_method_1_code (9 : Nat) (Option.none : Option Jvm.ClassFile.FieldType), Jvm.Cond.code ({ cls := "java/lang/Object", name := "<init>", desc := "()V" } : Jvm.MethodName) object_method_1_code (1 : Nat) (Option.none : Option Jvm.ClassFile.FieldType), Jvm.Cond.code ({ cls := "com/example/lacuna_tensor/lacunatensor/Shapes", name := "alignedLength", desc := "([JII)J" } : Jvm.MethodName) prog_153_method_6_code (4 : Nat) (Option.some Jvm.ClassFile.FieldType.long), Jvm.Cond.code ({ cls := "com/example/lacuna_tensor/lacunatensor/Broadcast", name := "firstPlacement", desc := "([J[J)Z" } : Jvm.MethodName) prog_13_method_7_code (4 : Nat) (Option.some Jvm.ClassFile.FieldType.boolean)]
set_option maxRecDepth 65536 in
theorem codes_eq : words1.filter isCode = codes1 := rfl
theorem w_codes : ∀ c ∈ words1.filter isCode, c.before args0 about1 = true := by
  rw [codes_eq]
  intro c hc
  simp only [codes1, List.mem_cons, List.not_mem_nil, or_false] at hc
  rcases hc with rfl | rfl | rfl | rfl | rfl | rfl | rfl
  · exact w_c0
  · exact w_c1
  · exact w_c2
  · exact w_c3
  · exact w_c4
  · exact w_c5
  · exact w_c6
set_option maxRecDepth 65536 in
theorem w_t1 : (words1.take 24).all (fun c => isCode c || c.before args0 about1) = true := by decide +kernel
set_option maxRecDepth 65536 in
theorem w_t2 : ((words1.drop 24).take 24).all (fun c => isCode c || c.before args0 about1) = true := by decide +kernel
set_option maxRecDepth 65536 in
theorem w_t3 : ((words1.drop 24).drop 24).all (fun c => isCode c || c.before args0 about1) = true := by decide +kernel
theorem w_tables : (allAtoms (Jvm.Cond.code x code maxLocals ret :: tables_1)).before args0 about1 = true := by
  rw [allAtoms_all]
  show words1.all (fun c => c.before args0 about1) = true
  refine all_split ?_ w_codes
  rw [← List.take_append_drop 24 words1, List.all_append, w_t1, ← List.take_append_drop 24 (words1.drop 24), List.all_append, w_t2, w_t3]
  rfl
set_option maxRecDepth 65536 in
theorem w_case : (Jvm.Cond.and given_1 narrow_1).before args0 about1 = true := by decide +kernel
theorem w_applies : (headSpec (Jvm.Cond.code x code maxLocals ret :: tables_1) room_1).applies x e0.platform about1 = true :=
  (Spec.applies_iff w_frames).mpr ⟨w_running, w_runnable, w_alone, w_named, w_hears, w_ripe, w_room, w_tables⟩
theorem atStart : AtStart classFile x code maxLocals ret World_1 tables_1 room_1 Calls_1 rest_1 Pre_1 launch0 p0 e0 about1 theMethod args0 below0 :=
  ⟨lists_1, trivial, launch0.admits_env _ _ _, launch0.least_env, fairChoices_fair.cas, fairChoices_fair.clock, w_frames, w_args, w_heap, w_applies, trivial, trivial, w_case⟩
end start1
theorem witness_1 : WitnessClaimed_1 := ⟨start1.p0, start1.e0, start1.about1, start1.theMethod, start1.args0, start1.below0, start1.atStart⟩
end Jvm.Pilot.@@N@@

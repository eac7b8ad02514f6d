import JvmDerived
import JvmDerived.Pilot.@@N@@Statement
import JvmDerived.Pilot.@@N@@Code
set_option linter.unusedVariables false
set_option linter.unusedSimpArgs false
namespace Jvm.RoadKit
open Sem ClassFile Op Lib Jvm.Stand Jvm.Free Jvm.LawKit
section New
variable {p : Program} {l : Launch} {e : Env} {R : Room} {s : State} {m : MethodId} {args : Array Value} {below : List Frame} {meth : Method} {c : Code} {T : State} {locs : List Loc} {cells slots : Nat}
theorem retI (X : Stand p l e R s m args below meth c T locs cells slots) (hx : p.tables.exec = Jvm.exec) {pc : Nat} {Ls : Array Slot} {z : Int32} {rest : List Value} (hret : meth.sig.returnType = some .int) (hd : decode c.code pc = .ok (.ireturn, 1)) {fs : List Frame}
    (hl : ∀ (f : JFrame) (acts : List Action), f.method = m → f.locked = none → f.entered = [] → (doReturn e (T.setTop f) acts (some (.int z))).1 = T.setFrames fs) : Steps p.tables e below (T.setTop (mkF m pc Ls (.int z :: rest))) (T.setFrames fs) :=
  retOut X hx hret rfl (Or.inl ⟨rfl, Or.inl rfl, _, rfl⟩) hd hl
end New
end Jvm.RoadKit
namespace Jvm.Own
open Sem ClassFile Op Lib Jvm.Stand Jvm.Free Jvm.LawKit Jvm.RoadKit
/-- from here the run comes to a state that meets F -/
def Go (tb : Tables) (e : Env) (below : List Frame) (F : State → Prop) (T : State) (g : JFrame) : Prop := ∃ t, Steps tb e below (T.setTop g) t ∧ F t
section Steps0
variable {tb : Tables} {e : Env} {below : List Frame} {F : State → Prop} {T T' : State} {g g' : JFrame}
theorem Go.st (q : ∀ t, Steps tb e below (T'.setTop g') t → Steps tb e below (T.setTop g) t) (k : Go tb e below F T' g') : Go tb e below F T g := by
  obtain ⟨t, h1, h2⟩ := k
  exact ⟨t, q t h1, h2⟩
theorem Go.tr (q : Steps tb e below (T.setTop g) (T'.setTop g')) (k : Go tb e below F T' g') : Go tb e below F T g := by
  obtain ⟨t, h1, h2⟩ := k
  exact ⟨t, q.trans h1, h2⟩
end Steps0
section Steps
variable {tb : Tables} [Ours tb] {e : Env} {below : List Frame} {F : State → Prop} {T T' : State} {m : MethodId} {c : Code} {pc pc' : Nat} {Ls Ls' : Array Slot} {sk : List Value}
theorem s_iload (h : At T m c below) (hx : tb.exec = Jvm.exec) {k : Nat} {v : Int32} (hd : decode c.code pc = .ok (.iload k, 2)) (hp : pc + 2 = pc') (hl : Ls[k]? = some (.val (.int v)))  (q : Go tb e below F T (mkF m pc' Ls ((.int v) :: sk))) : Go tb e below F T (mkF m pc Ls (sk)) := by
  subst hp; exact Go.st (fun _ r => XS.iload (g := mkF m pc Ls (sk)) h hx rfl hd hl  r) q
theorem s_iloadN (h : At T m c below) (hx : tb.exec = Jvm.exec) {k : Fin 4} {v : Int32} (hd : decode c.code pc = .ok (.iload_n k, 1)) (hp : pc + 1 = pc') (hl : Ls[k.val]? = some (.val (.int v)))  (q : Go tb e below F T (mkF m pc' Ls ((.int v) :: sk))) : Go tb e below F T (mkF m pc Ls (sk)) := by
  subst hp; exact Go.st (fun _ r => XS.iloadN (g := mkF m pc Ls (sk)) h hx rfl hd hl  r) q
theorem s_istore (h : At T m c below) (hx : tb.exec = Jvm.exec) {k : Nat} {v : Int32} (hd : decode c.code pc = .ok (.istore k, 2)) (hp : pc + 2 = pc')  (hl : storeLocals Ls k (.int v) = some Ls') (q : Go tb e below F T (mkF m pc' Ls' (sk))) : Go tb e below F T (mkF m pc Ls ((.int v) :: sk)) := by
  subst hp; exact Go.st (fun _ r => XS.istore (g := mkF m pc Ls ((.int v) :: sk)) h hx rfl hd rfl  hl r) q
theorem s_istoreN (h : At T m c below) (hx : tb.exec = Jvm.exec) {k : Fin 4} {v : Int32} (hd : decode c.code pc = .ok (.istore_n k, 1)) (hp : pc + 1 = pc')  (hl : storeLocals Ls k.val (.int v) = some Ls') (q : Go tb e below F T (mkF m pc' Ls' (sk))) : Go tb e below F T (mkF m pc Ls ((.int v) :: sk)) := by
  subst hp; exact Go.st (fun _ r => XS.istoreN (g := mkF m pc Ls ((.int v) :: sk)) h hx rfl hd rfl  hl r) q
theorem s_lload (h : At T m c below) (hx : tb.exec = Jvm.exec) {k : Nat} {v : Int64} (hd : decode c.code pc = .ok (.lload k, 2)) (hp : pc + 2 = pc') (hl : Ls[k]? = some (.val (.long v)))  (q : Go tb e below F T (mkF m pc' Ls ((.long v) :: sk))) : Go tb e below F T (mkF m pc Ls (sk)) := by
  subst hp; exact Go.st (fun _ r => XS.lload (g := mkF m pc Ls (sk)) h hx rfl hd hl  r) q
theorem s_lloadN (h : At T m c below) (hx : tb.exec = Jvm.exec) {k : Fin 4} {v : Int64} (hd : decode c.code pc = .ok (.lload_n k, 1)) (hp : pc + 1 = pc') (hl : Ls[k.val]? = some (.val (.long v)))  (q : Go tb e below F T (mkF m pc' Ls ((.long v) :: sk))) : Go tb e below F T (mkF m pc Ls (sk)) := by
  subst hp; exact Go.st (fun _ r => XS.lloadN (g := mkF m pc Ls (sk)) h hx rfl hd hl  r) q
theorem s_lstore (h : At T m c below) (hx : tb.exec = Jvm.exec) {k : Nat} {v : Int64} (hd : decode c.code pc = .ok (.lstore k, 2)) (hp : pc + 2 = pc')  (hl : storeLocals Ls k (.long v) = some Ls') (q : Go tb e below F T (mkF m pc' Ls' (sk))) : Go tb e below F T (mkF m pc Ls ((.long v) :: sk)) := by
  subst hp; exact Go.st (fun _ r => XS.lstore (g := mkF m pc Ls ((.long v) :: sk)) h hx rfl hd rfl  hl r) q
theorem s_lstoreN (h : At T m c below) (hx : tb.exec = Jvm.exec) {k : Fin 4} {v : Int64} (hd : decode c.code pc = .ok (.lstore_n k, 1)) (hp : pc + 1 = pc')  (hl : storeLocals Ls k.val (.long v) = some Ls') (q : Go tb e below F T (mkF m pc' Ls' (sk))) : Go tb e below F T (mkF m pc Ls ((.long v) :: sk)) := by
  subst hp; exact Go.st (fun _ r => XS.lstoreN (g := mkF m pc Ls ((.long v) :: sk)) h hx rfl hd rfl  hl r) q
theorem s_dload (h : At T m c below) (hx : tb.exec = Jvm.exec) {k : Nat} {v : UInt64} (hd : decode c.code pc = .ok (.dload k, 2)) (hp : pc + 2 = pc') (hl : Ls[k]? = some (.val (.double v)))  (q : Go tb e below F T (mkF m pc' Ls ((.double v) :: sk))) : Go tb e below F T (mkF m pc Ls (sk)) := by
  subst hp; exact Go.st (fun _ r => XS.dload (g := mkF m pc Ls (sk)) h hx rfl hd hl  r) q
theorem s_dloadN (h : At T m c below) (hx : tb.exec = Jvm.exec) {k : Fin 4} {v : UInt64} (hd : decode c.code pc = .ok (.dload_n k, 1)) (hp : pc + 1 = pc') (hl : Ls[k.val]? = some (.val (.double v)))  (q : Go tb e below F T (mkF m pc' Ls ((.double v) :: sk))) : Go tb e below F T (mkF m pc Ls (sk)) := by
  subst hp; exact Go.st (fun _ r => XS.dloadN (g := mkF m pc Ls (sk)) h hx rfl hd hl  r) q
theorem s_dstore (h : At T m c below) (hx : tb.exec = Jvm.exec) {k : Nat} {v : UInt64} (hd : decode c.code pc = .ok (.dstore k, 2)) (hp : pc + 2 = pc')  (hl : storeLocals Ls k (.double v) = some Ls') (q : Go tb e below F T (mkF m pc' Ls' (sk))) : Go tb e below F T (mkF m pc Ls ((.double v) :: sk)) := by
  subst hp; exact Go.st (fun _ r => XS.dstore (g := mkF m pc Ls ((.double v) :: sk)) h hx rfl hd rfl  hl r) q
theorem s_dstoreN (h : At T m c below) (hx : tb.exec = Jvm.exec) {k : Fin 4} {v : UInt64} (hd : decode c.code pc = .ok (.dstore_n k, 1)) (hp : pc + 1 = pc')  (hl : storeLocals Ls k.val (.double v) = some Ls') (q : Go tb e below F T (mkF m pc' Ls' (sk))) : Go tb e below F T (mkF m pc Ls ((.double v) :: sk)) := by
  subst hp; exact Go.st (fun _ r => XS.dstoreN (g := mkF m pc Ls ((.double v) :: sk)) h hx rfl hd rfl  hl r) q
theorem s_aload (h : At T m c below) (hx : tb.exec = Jvm.exec) {k : Nat} {v : Value} (hd : decode c.code pc = .ok (.aload k, 2)) (hp : pc + 2 = pc') (hl : Ls[k]? = some (.val (v))) (hv : v.isRef = true) (q : Go tb e below F T (mkF m pc' Ls ((v) :: sk))) : Go tb e below F T (mkF m pc Ls (sk)) := by
  subst hp; exact Go.st (fun _ r => XS.aload (g := mkF m pc Ls (sk)) h hx rfl hd hl hv r) q
theorem s_aloadN (h : At T m c below) (hx : tb.exec = Jvm.exec) {k : Fin 4} {v : Value} (hd : decode c.code pc = .ok (.aload_n k, 1)) (hp : pc + 1 = pc') (hl : Ls[k.val]? = some (.val (v))) (hv : v.isRef = true) (q : Go tb e below F T (mkF m pc' Ls ((v) :: sk))) : Go tb e below F T (mkF m pc Ls (sk)) := by
  subst hp; exact Go.st (fun _ r => XS.aloadN (g := mkF m pc Ls (sk)) h hx rfl hd hl hv r) q
theorem s_astore (h : At T m c below) (hx : tb.exec = Jvm.exec) {k : Nat} {v : Value} (hd : decode c.code pc = .ok (.astore k, 2)) (hp : pc + 2 = pc') (hv : v.isRef = true) (hl : storeLocals Ls k (v) = some Ls') (q : Go tb e below F T (mkF m pc' Ls' (sk))) : Go tb e below F T (mkF m pc Ls ((v) :: sk)) := by
  subst hp; exact Go.st (fun _ r => XS.astore (g := mkF m pc Ls ((v) :: sk)) h hx rfl hd rfl hv hl r) q
theorem s_astoreN (h : At T m c below) (hx : tb.exec = Jvm.exec) {k : Fin 4} {v : Value} (hd : decode c.code pc = .ok (.astore_n k, 1)) (hp : pc + 1 = pc') (hv : v.isRef = true) (hl : storeLocals Ls k.val (v) = some Ls') (q : Go tb e below F T (mkF m pc' Ls' (sk))) : Go tb e below F T (mkF m pc Ls ((v) :: sk)) := by
  subst hp; exact Go.st (fun _ r => XS.astoreN (g := mkF m pc Ls ((v) :: sk)) h hx rfl hd rfl hv hl r) q
theorem s_iconst (h : At T m c below) (hx : tb.exec = Jvm.exec) {i : Int} {v : Int32} (hd : decode c.code pc = .ok (.iconst i, 1)) (hp : pc + 1 = pc') (hv : Int32.ofInt i = v) (q : Go tb e below F T (mkF m pc' Ls ((.int v) :: sk))) : Go tb e below F T (mkF m pc Ls sk) := by
  subst hp hv; exact Go.st (fun _ r => XS.iconst (g := mkF m pc Ls sk) h hx rfl hd r) q
theorem s_bipush (h : At T m c below) (hx : tb.exec = Jvm.exec) {i : Int} {v : Int32} (hd : decode c.code pc = .ok (.bipush i, 2)) (hp : pc + 2 = pc') (hv : (Int8.ofInt i).toInt32 = v) (q : Go tb e below F T (mkF m pc' Ls ((.int v) :: sk))) : Go tb e below F T (mkF m pc Ls sk) := by
  subst hp hv; exact Go.st (fun _ r => XS.bipush (g := mkF m pc Ls sk) h hx rfl hd r) q
theorem s_sipush (h : At T m c below) (hx : tb.exec = Jvm.exec) {i : Int} {v : Int32} (hd : decode c.code pc = .ok (.sipush i, 3)) (hp : pc + 3 = pc') (hv : (Int16.ofInt i).toInt32 = v) (q : Go tb e below F T (mkF m pc' Ls ((.int v) :: sk))) : Go tb e below F T (mkF m pc Ls sk) := by
  subst hp hv; exact Go.st (fun _ r => XS.sipush (g := mkF m pc Ls sk) h hx rfl hd r) q
theorem s_aconst_null (h : At T m c below) (hx : tb.exec = Jvm.exec) (hd : decode c.code pc = .ok (.aconst_null, 1)) (hp : pc + 1 = pc') (q : Go tb e below F T (mkF m pc' Ls (.null :: sk))) : Go tb e below F T (mkF m pc Ls sk) := by
  subst hp; exact Go.st (fun _ r => XS.aconstNull (g := mkF m pc Ls sk) h hx rfl hd r) q
theorem s_iadd (h : At T m c below) (hx : tb.exec = Jvm.exec) {x y z : Int32} (hd : decode c.code pc = .ok (.iadd, 1)) (hp : pc + 1 = pc') (hv : x + y = z) (q : Go tb e below F T (mkF m pc' Ls (.int z :: sk))) : Go tb e below F T (mkF m pc Ls (.int y :: .int x :: sk)) := by
  subst hp hv; exact Go.st (fun _ r => XS.iadd (g := mkF m pc Ls (.int y :: .int x :: sk)) h hx rfl hd rfl r) q
theorem s_isub (h : At T m c below) (hx : tb.exec = Jvm.exec) {x y z : Int32} (hd : decode c.code pc = .ok (.isub, 1)) (hp : pc + 1 = pc') (hv : x - y = z) (q : Go tb e below F T (mkF m pc' Ls (.int z :: sk))) : Go tb e below F T (mkF m pc Ls (.int y :: .int x :: sk)) := by
  subst hp hv; exact Go.st (fun _ r => XS.isub (g := mkF m pc Ls (.int y :: .int x :: sk)) h hx rfl hd rfl r) q
theorem s_imul (h : At T m c below) (hx : tb.exec = Jvm.exec) {x y z : Int32} (hd : decode c.code pc = .ok (.imul, 1)) (hp : pc + 1 = pc') (hv : x * y = z) (q : Go tb e below F T (mkF m pc' Ls (.int z :: sk))) : Go tb e below F T (mkF m pc Ls (.int y :: .int x :: sk)) := by
  subst hp hv; exact Go.st (fun _ r => XS.imul (g := mkF m pc Ls (.int y :: .int x :: sk)) h hx rfl hd rfl r) q
theorem s_iand (h : At T m c below) (hx : tb.exec = Jvm.exec) {x y z : Int32} (hd : decode c.code pc = .ok (.iand, 1)) (hp : pc + 1 = pc') (hv : x &&& y = z) (q : Go tb e below F T (mkF m pc' Ls (.int z :: sk))) : Go tb e below F T (mkF m pc Ls (.int y :: .int x :: sk)) := by
  subst hp hv; exact Go.st (fun _ r => XS.iand (g := mkF m pc Ls (.int y :: .int x :: sk)) h hx rfl hd rfl r) q
theorem s_ior (h : At T m c below) (hx : tb.exec = Jvm.exec) {x y z : Int32} (hd : decode c.code pc = .ok (.ior, 1)) (hp : pc + 1 = pc') (hv : x ||| y = z) (q : Go tb e below F T (mkF m pc' Ls (.int z :: sk))) : Go tb e below F T (mkF m pc Ls (.int y :: .int x :: sk)) := by
  subst hp hv; exact Go.st (fun _ r => XS.ior (g := mkF m pc Ls (.int y :: .int x :: sk)) h hx rfl hd rfl r) q
theorem s_ixor (h : At T m c below) (hx : tb.exec = Jvm.exec) {x y z : Int32} (hd : decode c.code pc = .ok (.ixor, 1)) (hp : pc + 1 = pc') (hv : x ^^^ y = z) (q : Go tb e below F T (mkF m pc' Ls (.int z :: sk))) : Go tb e below F T (mkF m pc Ls (.int y :: .int x :: sk)) := by
  subst hp hv; exact Go.st (fun _ r => XS.ixor (g := mkF m pc Ls (.int y :: .int x :: sk)) h hx rfl hd rfl r) q
theorem s_ishl (h : At T m c below) (hx : tb.exec = Jvm.exec) {x y z : Int32} (hd : decode c.code pc = .ok (.ishl, 1)) (hp : pc + 1 = pc') (hv : x <<< (y &&& 31) = z) (q : Go tb e below F T (mkF m pc' Ls (.int z :: sk))) : Go tb e below F T (mkF m pc Ls (.int y :: .int x :: sk)) := by
  subst hp hv; exact Go.st (fun _ r => XS.ishl (g := mkF m pc Ls (.int y :: .int x :: sk)) h hx rfl hd rfl r) q
theorem s_ishr (h : At T m c below) (hx : tb.exec = Jvm.exec) {x y z : Int32} (hd : decode c.code pc = .ok (.ishr, 1)) (hp : pc + 1 = pc') (hv : x >>> (y &&& 31) = z) (q : Go tb e below F T (mkF m pc' Ls (.int z :: sk))) : Go tb e below F T (mkF m pc Ls (.int y :: .int x :: sk)) := by
  subst hp hv; exact Go.st (fun _ r => XS.ishr (g := mkF m pc Ls (.int y :: .int x :: sk)) h hx rfl hd rfl r) q
theorem s_iushr (h : At T m c below) (hx : tb.exec = Jvm.exec) {x y z : Int32} (hd : decode c.code pc = .ok (.iushr, 1)) (hp : pc + 1 = pc') (hv : (x.toUInt32 >>> (y &&& 31).toUInt32).toInt32 = z) (q : Go tb e below F T (mkF m pc' Ls (.int z :: sk))) : Go tb e below F T (mkF m pc Ls (.int y :: .int x :: sk)) := by
  subst hp hv; exact Go.st (fun _ r => XS.iushr (g := mkF m pc Ls (.int y :: .int x :: sk)) h hx rfl hd rfl r) q
theorem s_ladd (h : At T m c below) (hx : tb.exec = Jvm.exec) {x y z : Int64} (hd : decode c.code pc = .ok (.ladd, 1)) (hp : pc + 1 = pc') (hv : x + y = z) (q : Go tb e below F T (mkF m pc' Ls (.long z :: sk))) : Go tb e below F T (mkF m pc Ls (.long y :: .long x :: sk)) := by
  subst hp hv; exact Go.st (fun _ r => XS.ladd (g := mkF m pc Ls (.long y :: .long x :: sk)) h hx rfl hd rfl r) q
theorem s_lsub (h : At T m c below) (hx : tb.exec = Jvm.exec) {x y z : Int64} (hd : decode c.code pc = .ok (.lsub, 1)) (hp : pc + 1 = pc') (hv : x - y = z) (q : Go tb e below F T (mkF m pc' Ls (.long z :: sk))) : Go tb e below F T (mkF m pc Ls (.long y :: .long x :: sk)) := by
  subst hp hv; exact Go.st (fun _ r => XS.lsub (g := mkF m pc Ls (.long y :: .long x :: sk)) h hx rfl hd rfl r) q
theorem s_lmul (h : At T m c below) (hx : tb.exec = Jvm.exec) {x y z : Int64} (hd : decode c.code pc = .ok (.lmul, 1)) (hp : pc + 1 = pc') (hv : x * y = z) (q : Go tb e below F T (mkF m pc' Ls (.long z :: sk))) : Go tb e below F T (mkF m pc Ls (.long y :: .long x :: sk)) := by
  subst hp hv; exact Go.st (fun _ r => XS.lmul (g := mkF m pc Ls (.long y :: .long x :: sk)) h hx rfl hd rfl r) q
theorem s_land (h : At T m c below) (hx : tb.exec = Jvm.exec) {x y z : Int64} (hd : decode c.code pc = .ok (.land, 1)) (hp : pc + 1 = pc') (hv : x &&& y = z) (q : Go tb e below F T (mkF m pc' Ls (.long z :: sk))) : Go tb e below F T (mkF m pc Ls (.long y :: .long x :: sk)) := by
  subst hp hv; exact Go.st (fun _ r => XS.land (g := mkF m pc Ls (.long y :: .long x :: sk)) h hx rfl hd rfl r) q
theorem s_lor (h : At T m c below) (hx : tb.exec = Jvm.exec) {x y z : Int64} (hd : decode c.code pc = .ok (.lor, 1)) (hp : pc + 1 = pc') (hv : x ||| y = z) (q : Go tb e below F T (mkF m pc' Ls (.long z :: sk))) : Go tb e below F T (mkF m pc Ls (.long y :: .long x :: sk)) := by
  subst hp hv; exact Go.st (fun _ r => XS.lor (g := mkF m pc Ls (.long y :: .long x :: sk)) h hx rfl hd rfl r) q
theorem s_lxor (h : At T m c below) (hx : tb.exec = Jvm.exec) {x y z : Int64} (hd : decode c.code pc = .ok (.lxor, 1)) (hp : pc + 1 = pc') (hv : x ^^^ y = z) (q : Go tb e below F T (mkF m pc' Ls (.long z :: sk))) : Go tb e below F T (mkF m pc Ls (.long y :: .long x :: sk)) := by
  subst hp hv; exact Go.st (fun _ r => XS.lxor (g := mkF m pc Ls (.long y :: .long x :: sk)) h hx rfl hd rfl r) q
theorem s_lshl (h : At T m c below) (hx : tb.exec = Jvm.exec) {x z : Int64} {y : Int32} (hd : decode c.code pc = .ok (.lshl, 1)) (hp : pc + 1 = pc') (hv : x <<< (y &&& 0x3f).toInt64 = z) (q : Go tb e below F T (mkF m pc' Ls (.long z :: sk))) : Go tb e below F T (mkF m pc Ls (.int y :: .long x :: sk)) := by
  subst hp hv; exact Go.st (fun _ r => XS.lshl (g := mkF m pc Ls (.int y :: .long x :: sk)) h hx rfl hd rfl r) q
theorem s_lshr (h : At T m c below) (hx : tb.exec = Jvm.exec) {x z : Int64} {y : Int32} (hd : decode c.code pc = .ok (.lshr, 1)) (hp : pc + 1 = pc') (hv : x >>> (y &&& 0x3f).toInt64 = z) (q : Go tb e below F T (mkF m pc' Ls (.long z :: sk))) : Go tb e below F T (mkF m pc Ls (.int y :: .long x :: sk)) := by
  subst hp hv; exact Go.st (fun _ r => XS.lshr (g := mkF m pc Ls (.int y :: .long x :: sk)) h hx rfl hd rfl r) q
theorem s_lushr (h : At T m c below) (hx : tb.exec = Jvm.exec) {x z : Int64} {y : Int32} (hd : decode c.code pc = .ok (.lushr, 1)) (hp : pc + 1 = pc') (hv : (x.toUInt64 >>> (y &&& 0x3f).toInt64.toUInt64).toInt64 = z) (q : Go tb e below F T (mkF m pc' Ls (.long z :: sk))) : Go tb e below F T (mkF m pc Ls (.int y :: .long x :: sk)) := by
  subst hp hv; exact Go.st (fun _ r => XS.lushr (g := mkF m pc Ls (.int y :: .long x :: sk)) h hx rfl hd rfl r) q
theorem s_ineg (h : At T m c below) (hx : tb.exec = Jvm.exec) {x : Int32} {z : Int32} (hd : decode c.code pc = .ok (.ineg, 1)) (hp : pc + 1 = pc') (hv : -x = z) (q : Go tb e below F T (mkF m pc' Ls (.int z :: sk))) : Go tb e below F T (mkF m pc Ls (.int x :: sk)) := by
  subst hp hv; exact Go.st (fun _ r => XS.ineg (g := mkF m pc Ls (.int x :: sk)) h hx rfl hd rfl r) q
theorem s_lneg (h : At T m c below) (hx : tb.exec = Jvm.exec) {x : Int64} {z : Int64} (hd : decode c.code pc = .ok (.lneg, 1)) (hp : pc + 1 = pc') (hv : -x = z) (q : Go tb e below F T (mkF m pc' Ls (.long z :: sk))) : Go tb e below F T (mkF m pc Ls (.long x :: sk)) := by
  subst hp hv; exact Go.st (fun _ r => XS.lneg (g := mkF m pc Ls (.long x :: sk)) h hx rfl hd rfl r) q
theorem s_i2l (h : At T m c below) (hx : tb.exec = Jvm.exec) {x : Int32} {z : Int64} (hd : decode c.code pc = .ok (.i2l, 1)) (hp : pc + 1 = pc') (hv : x.toInt64 = z) (q : Go tb e below F T (mkF m pc' Ls (.long z :: sk))) : Go tb e below F T (mkF m pc Ls (.int x :: sk)) := by
  subst hp hv; exact Go.st (fun _ r => XS.i2l (g := mkF m pc Ls (.int x :: sk)) h hx rfl hd rfl r) q
theorem s_l2i (h : At T m c below) (hx : tb.exec = Jvm.exec) {x : Int64} {z : Int32} (hd : decode c.code pc = .ok (.l2i, 1)) (hp : pc + 1 = pc') (hv : x.toInt32 = z) (q : Go tb e below F T (mkF m pc' Ls (.int z :: sk))) : Go tb e below F T (mkF m pc Ls (.long x :: sk)) := by
  subst hp hv; exact Go.st (fun _ r => XS.l2i (g := mkF m pc Ls (.long x :: sk)) h hx rfl hd rfl r) q
theorem s_i2b (h : At T m c below) (hx : tb.exec = Jvm.exec) {x : Int32} {z : Int32} (hd : decode c.code pc = .ok (.i2b, 1)) (hp : pc + 1 = pc') (hv : x.toInt8.toInt32 = z) (q : Go tb e below F T (mkF m pc' Ls (.int z :: sk))) : Go tb e below F T (mkF m pc Ls (.int x :: sk)) := by
  subst hp hv; exact Go.st (fun _ r => XS.i2b (g := mkF m pc Ls (.int x :: sk)) h hx rfl hd rfl r) q
theorem s_i2s (h : At T m c below) (hx : tb.exec = Jvm.exec) {x : Int32} {z : Int32} (hd : decode c.code pc = .ok (.i2s, 1)) (hp : pc + 1 = pc') (hv : x.toInt16.toInt32 = z) (q : Go tb e below F T (mkF m pc' Ls (.int z :: sk))) : Go tb e below F T (mkF m pc Ls (.int x :: sk)) := by
  subst hp hv; exact Go.st (fun _ r => XS.i2s (g := mkF m pc Ls (.int x :: sk)) h hx rfl hd rfl r) q
theorem s_i2c (h : At T m c below) (hx : tb.exec = Jvm.exec) {x : Int32} {z : Int32} (hd : decode c.code pc = .ok (.i2c, 1)) (hp : pc + 1 = pc') (hv : x.toUInt32.toUInt16.toUInt32.toInt32 = z) (q : Go tb e below F T (mkF m pc' Ls (.int z :: sk))) : Go tb e below F T (mkF m pc Ls (.int x :: sk)) := by
  subst hp hv; exact Go.st (fun _ r => XS.i2c (g := mkF m pc Ls (.int x :: sk)) h hx rfl hd rfl r) q
theorem s_lcmp (h : At T m c below) (hx : tb.exec = Jvm.exec) {x y : Int64} {z : Int32} (hd : decode c.code pc = .ok (.lcmp, 1)) (hp : pc + 1 = pc') (hv : lcmpW x y = z) (q : Go tb e below F T (mkF m pc' Ls (.int z :: sk))) : Go tb e below F T (mkF m pc Ls (.long y :: .long x :: sk)) := by
  subst hp hv; exact Go.st (fun _ r => XS.lcmp (g := mkF m pc Ls (.long y :: .long x :: sk)) h hx rfl hd rfl r) q
theorem s_idiv (h : At T m c below) (hx : tb.exec = Jvm.exec) {x y z : Int32} (hd : decode c.code pc = .ok (.idiv, 1)) (hp : pc + 1 = pc') (hy : ¬ y = 0) (hv : x / y = z) (q : Go tb e below F T (mkF m pc' Ls (.int z :: sk))) : Go tb e below F T (mkF m pc Ls (.int y :: .int x :: sk)) := by
  subst hp hv; exact Go.st (fun _ r => XS.idiv (g := mkF m pc Ls (.int y :: .int x :: sk)) h hx rfl hd rfl hy r) q
theorem s_irem (h : At T m c below) (hx : tb.exec = Jvm.exec) {x y z : Int32} (hd : decode c.code pc = .ok (.irem, 1)) (hp : pc + 1 = pc') (hy : ¬ y = 0) (hv : x % y = z) (q : Go tb e below F T (mkF m pc' Ls (.int z :: sk))) : Go tb e below F T (mkF m pc Ls (.int y :: .int x :: sk)) := by
  subst hp; rw [← irem_eq_mod x y] at hv; subst hv; exact Go.st (fun _ r => XS.irem (g := mkF m pc Ls (.int y :: .int x :: sk)) h hx rfl hd rfl hy r) q
theorem s_ldiv (h : At T m c below) (hx : tb.exec = Jvm.exec) {x y z : Int64} (hd : decode c.code pc = .ok (.ldiv, 1)) (hp : pc + 1 = pc') (hy : ¬ y = 0) (hv : x / y = z) (q : Go tb e below F T (mkF m pc' Ls (.long z :: sk))) : Go tb e below F T (mkF m pc Ls (.long y :: .long x :: sk)) := by
  subst hp hv; exact Go.st (fun _ r => XS.ldiv (g := mkF m pc Ls (.long y :: .long x :: sk)) h hx rfl hd rfl hy r) q
theorem s_lrem (h : At T m c below) (hx : tb.exec = Jvm.exec) {x y z : Int64} (hd : decode c.code pc = .ok (.lrem, 1)) (hp : pc + 1 = pc') (hy : ¬ y = 0) (hv : x % y = z) (q : Go tb e below F T (mkF m pc' Ls (.long z :: sk))) : Go tb e below F T (mkF m pc Ls (.long y :: .long x :: sk)) := by
  subst hp; rw [← lrem_mod x y] at hv; subst hv; exact Go.st (fun _ r => XS.lrem (g := mkF m pc Ls (.long y :: .long x :: sk)) h hx rfl hd rfl hy r) q
theorem s_dup (h : At T m c below) (hx : tb.exec = Jvm.exec) {v : Value} (hd : decode c.code pc = .ok (.dup, 1)) (hp : pc + 1 = pc') (hc : v.category = 1) (q : Go tb e below F T (mkF m pc' Ls (v :: v :: sk))) : Go tb e below F T (mkF m pc Ls (v :: sk)) := by
  subst hp; exact Go.st (fun _ r => XS.dup (g := mkF m pc Ls (v :: sk)) h hx rfl hd rfl hc r) q
theorem s_pop (h : At T m c below) (hx : tb.exec = Jvm.exec) {v : Value} (hd : decode c.code pc = .ok (.pop, 1)) (hp : pc + 1 = pc') (hc : v.category = 1) (q : Go tb e below F T (mkF m pc' Ls (sk))) : Go tb e below F T (mkF m pc Ls (v :: sk)) := by
  subst hp; exact Go.st (fun _ r => XS.pop (g := mkF m pc Ls (v :: sk)) h hx rfl hd rfl hc r) q
theorem s_dup_x1 (h : At T m c below) (hx : tb.exec = Jvm.exec) {v w : Value} (hd : decode c.code pc = .ok (.dup_x1, 1)) (hp : pc + 1 = pc') (hc : v.category = 1) (hc' : w.category = 1) (q : Go tb e below F T (mkF m pc' Ls (v :: w :: v :: sk))) : Go tb e below F T (mkF m pc Ls (v :: w :: sk)) := by
  subst hp; exact Go.st (fun _ r => XS.dupX1 (g := mkF m pc Ls (v :: w :: sk)) h hx rfl hd rfl hc hc' r) q
theorem s_iinc (h : At T m c below) (hx : tb.exec = Jvm.exec) {k : Nat} {i : Int} (hd : decode c.code pc = .ok (.iinc k i, 3)) (hp : pc + 3 = pc') {x z : Int32} (hl : Ls[k]? = some (.val (.int x))) (hv : x + Int32.ofInt i = z) (hs : storeLocals Ls k (.int z) = some Ls') (q : Go tb e below F T (mkF m pc' Ls' (sk))) : Go tb e below F T (mkF m pc Ls (sk)) := by
  subst hp hv; exact Go.st (fun _ r => XS.iinc (g := mkF m pc Ls (sk)) h hx rfl hd hl hs r) q
theorem s_lconst (h : At T m c below) (hx : tb.exec = Jvm.exec) {i : Fin 2} {v : Int64} (hd : decode c.code pc = .ok (.lconst i, 1)) (hp : pc + 1 = pc') (hv : Int64.ofNat i = v) (q : Go tb e below F T (mkF m pc' Ls (.long v :: sk))) : Go tb e below F T (mkF m pc Ls (sk)) := by
  subst hp hv; exact Go.st (fun _ r => XS.lconst (g := mkF m pc Ls (sk)) h hx rfl hd  r) q
theorem s_i2d (h : At T m c below) (hx : tb.exec = Jvm.exec) {x : Int32} {z : UInt64} (hd : decode c.code pc = .ok (.i2d, 1)) (hp : pc + 1 = pc') (hv : FP.i2d x = z) (q : Go tb e below F T (mkF m pc' Ls (.double z :: sk))) : Go tb e below F T (mkF m pc Ls (.int x :: sk)) := by
  subst hp; exact Go.st (fun _ r => XS.i2dS (g := mkF m pc Ls (.int x :: sk)) h hx rfl hd rfl hv r) q
theorem s_l2d (h : At T m c below) (hx : tb.exec = Jvm.exec) {x : Int64} {z : UInt64} (hd : decode c.code pc = .ok (.l2d, 1)) (hp : pc + 1 = pc') (hv : FP.l2d x = z) (q : Go tb e below F T (mkF m pc' Ls (.double z :: sk))) : Go tb e below F T (mkF m pc Ls (.long x :: sk)) := by
  subst hp; exact Go.st (fun _ r => XS.l2dS (g := mkF m pc Ls (.long x :: sk)) h hx rfl hd rfl hv r) q
theorem s_d2i (h : At T m c below) (hx : tb.exec = Jvm.exec) {x : UInt64} {z : Int32} (hd : decode c.code pc = .ok (.d2i, 1)) (hp : pc + 1 = pc') (hv : FP.d2i x = z) (q : Go tb e below F T (mkF m pc' Ls (.int z :: sk))) : Go tb e below F T (mkF m pc Ls (.double x :: sk)) := by
  subst hp; exact Go.st (fun _ r => XS.d2iS (g := mkF m pc Ls (.double x :: sk)) h hx rfl hd rfl hv r) q
theorem s_d2l (h : At T m c below) (hx : tb.exec = Jvm.exec) {x : UInt64} {z : Int64} (hd : decode c.code pc = .ok (.d2l, 1)) (hp : pc + 1 = pc') (hv : FP.d2l x = z) (q : Go tb e below F T (mkF m pc' Ls (.long z :: sk))) : Go tb e below F T (mkF m pc Ls (.double x :: sk)) := by
  subst hp; exact Go.st (fun _ r => XS.d2lS (g := mkF m pc Ls (.double x :: sk)) h hx rfl hd rfl hv r) q
theorem s_dneg (h : At T m c below) (hx : tb.exec = Jvm.exec) {x z : UInt64} (hd : decode c.code pc = .ok (.dneg, 1)) (hp : pc + 1 = pc') (hv : FP.dneg x = z) (q : Go tb e below F T (mkF m pc' Ls (.double z :: sk))) : Go tb e below F T (mkF m pc Ls (.double x :: sk)) := by
  subst hp; exact Go.st (fun _ r => XS.dnegS (g := mkF m pc Ls (.double x :: sk)) h hx rfl hd rfl hv r) q
theorem s_dcmpl (h : At T m c below) (hx : tb.exec = Jvm.exec) {x y : UInt64} {z : Int32} (hd : decode c.code pc = .ok (.dcmp .l, 1)) (hp : pc + 1 = pc') (hv : cmpValue (FP.dcmp x y) .l = z) (q : Go tb e below F T (mkF m pc' Ls (.int z :: sk))) : Go tb e below F T (mkF m pc Ls (.double y :: .double x :: sk)) := by
  subst hp; exact Go.st (fun _ r => XS.dcmpS (g := mkF m pc Ls (.double y :: .double x :: sk)) h hx rfl hd rfl hv r) q
theorem s_dcmpg (h : At T m c below) (hx : tb.exec = Jvm.exec) {x y : UInt64} {z : Int32} (hd : decode c.code pc = .ok (.dcmp .g, 1)) (hp : pc + 1 = pc') (hv : cmpValue (FP.dcmp x y) .g = z) (q : Go tb e below F T (mkF m pc' Ls (.int z :: sk))) : Go tb e below F T (mkF m pc Ls (.double y :: .double x :: sk)) := by
  subst hp; exact Go.st (fun _ r => XS.dcmpS (g := mkF m pc Ls (.double y :: .double x :: sk)) h hx rfl hd rfl hv r) q
theorem s_dadd (h : At T m c below) (hx : tb.exec = Jvm.exec) {x y z : UInt64} (hd : decode c.code pc = .ok (.dadd, 1)) (hp : pc + 1 = pc') (hn : Jvm.Free.Fl.NoNaN64 (FP.dadd x y)) (hv : FP.dadd x y = z) (q : Go tb e below F T (mkF m pc' Ls (.double z :: sk))) : Go tb e below F T (mkF m pc Ls (.double y :: .double x :: sk)) := by
  subst hp; exact Go.st (fun _ r => XS.daddS (g := mkF m pc Ls (.double y :: .double x :: sk)) h hx rfl hd rfl hn hv r) q
theorem s_dsub (h : At T m c below) (hx : tb.exec = Jvm.exec) {x y z : UInt64} (hd : decode c.code pc = .ok (.dsub, 1)) (hp : pc + 1 = pc') (hn : Jvm.Free.Fl.NoNaN64 (FP.dsub x y)) (hv : FP.dsub x y = z) (q : Go tb e below F T (mkF m pc' Ls (.double z :: sk))) : Go tb e below F T (mkF m pc Ls (.double y :: .double x :: sk)) := by
  subst hp; exact Go.st (fun _ r => XS.dsubS (g := mkF m pc Ls (.double y :: .double x :: sk)) h hx rfl hd rfl hn hv r) q
theorem s_dmul (h : At T m c below) (hx : tb.exec = Jvm.exec) {x y z : UInt64} (hd : decode c.code pc = .ok (.dmul, 1)) (hp : pc + 1 = pc') (hn : Jvm.Free.Fl.NoNaN64 (FP.dmul x y)) (hv : FP.dmul x y = z) (q : Go tb e below F T (mkF m pc' Ls (.double z :: sk))) : Go tb e below F T (mkF m pc Ls (.double y :: .double x :: sk)) := by
  subst hp; exact Go.st (fun _ r => XS.dmulS (g := mkF m pc Ls (.double y :: .double x :: sk)) h hx rfl hd rfl hn hv r) q
theorem s_ddiv (h : At T m c below) (hx : tb.exec = Jvm.exec) {x y z : UInt64} (hd : decode c.code pc = .ok (.ddiv, 1)) (hp : pc + 1 = pc') (hn : Jvm.Free.Fl.NoNaN64 (FP.ddiv x y)) (hv : FP.ddiv x y = z) (q : Go tb e below F T (mkF m pc' Ls (.double z :: sk))) : Go tb e below F T (mkF m pc Ls (.double y :: .double x :: sk)) := by
  subst hp; exact Go.st (fun _ r => XS.ddivS (g := mkF m pc Ls (.double y :: .double x :: sk)) h hx rfl hd rfl hn hv r) q
theorem s_dconst0 (h : At T m c below) (hx : tb.exec = Jvm.exec) {v : UInt64} (hd : decode c.code pc = .ok (.dconst 0, 1)) (hp : pc + 1 = pc') (hv : FP.dconst0 = v) (q : Go tb e below F T (mkF m pc' Ls (.double v :: sk))) : Go tb e below F T (mkF m pc Ls (sk)) := by
  subst hp; exact Go.st (fun _ r => XS.dconst0 (g := mkF m pc Ls (sk)) h hx rfl hd hv r) q
theorem s_dconst1 (h : At T m c below) (hx : tb.exec = Jvm.exec) {v : UInt64} (hd : decode c.code pc = .ok (.dconst 1, 1)) (hp : pc + 1 = pc') (hv : FP.dconst1 = v) (q : Go tb e below F T (mkF m pc' Ls (.double v :: sk))) : Go tb e below F T (mkF m pc Ls (sk)) := by
  subst hp; exact Go.st (fun _ r => XS.dconst1 (g := mkF m pc Ls (sk)) h hx rfl hd hv r) q
theorem s_goto (h : At T m c below) (hx : tb.exec = Jvm.exec) {o : Int} (hd : decode c.code pc = .ok (.goto o, 3)) (ho : 0 ≤ (pc : Int) + o) (hp : ((pc : Int) + o).toNat = pc') (q : Go tb e below F T (mkF m pc' Ls sk)) : Go tb e below F T (mkF m pc Ls sk) :=
  Go.st (fun _ r => XS.goto (g := mkF m pc Ls sk) h hx rfl (pc0 := pc) (pc' := pc') rfl hd ho hp r) q
theorem s_ifY (h : At T m c below) (hx : tb.exec = Jvm.exec) {cd : ClassFile.Cond} {o : Int} {x : Int32} (hd : decode c.code pc = .ok (.ifCond cd o, 3)) (hc : ifCond.holds cd x = true) (ho : 0 ≤ (pc : Int) + o) (hp : ((pc : Int) + o).toNat = pc') (q : Go tb e below F T (mkF m pc' Ls sk)) : Go tb e below F T (mkF m pc Ls (.int x :: sk)) :=
  Go.st (fun _ r => XS.ifYes (g := mkF m pc Ls (.int x :: sk)) h hx rfl (pc0 := pc) (pc' := pc') rfl hd rfl hc ho hp r) q
theorem s_ifN (h : At T m c below) (hx : tb.exec = Jvm.exec) {cd : ClassFile.Cond} {o : Int} {x : Int32} (hd : decode c.code pc = .ok (.ifCond cd o, 3)) (hp : pc + 3 = pc') (hc : ifCond.holds cd x = false) (q : Go tb e below F T (mkF m pc' Ls sk)) : Go tb e below F T (mkF m pc Ls (.int x :: sk)) := by
  subst hp; exact Go.st (fun _ r => XS.ifNo (g := mkF m pc Ls (.int x :: sk)) h hx rfl hd rfl hc r) q
theorem s_icmpY (h : At T m c below) (hx : tb.exec = Jvm.exec) {cd : ClassFile.Cond} {o : Int} {x y : Int32} (hd : decode c.code pc = .ok (.if_icmp cd o, 3)) (hc : if_icmp.holds cd x y = true) (ho : 0 ≤ (pc : Int) + o) (hp : ((pc : Int) + o).toNat = pc') (q : Go tb e below F T (mkF m pc' Ls sk)) : Go tb e below F T (mkF m pc Ls (.int y :: .int x :: sk)) :=
  Go.st (fun _ r => XS.icmpYes (g := mkF m pc Ls (.int y :: .int x :: sk)) h hx rfl (pc0 := pc) (pc' := pc') rfl hd rfl hc ho hp r) q
theorem s_icmpN (h : At T m c below) (hx : tb.exec = Jvm.exec) {cd : ClassFile.Cond} {o : Int} {x y : Int32} (hd : decode c.code pc = .ok (.if_icmp cd o, 3)) (hp : pc + 3 = pc') (hc : if_icmp.holds cd x y = false) (q : Go tb e below F T (mkF m pc' Ls sk)) : Go tb e below F T (mkF m pc Ls (.int y :: .int x :: sk)) := by
  subst hp; exact Go.st (fun _ r => XS.icmpNo (g := mkF m pc Ls (.int y :: .int x :: sk)) h hx rfl hd rfl hc r) q
theorem s_ifnullY (h : At T m c below) (hx : tb.exec = Jvm.exec) {o : Int} (hd : decode c.code pc = .ok (.ifnull o, 3)) (ho : 0 ≤ (pc : Int) + o) (hp : ((pc : Int) + o).toNat = pc') (q : Go tb e below F T (mkF m pc' Ls sk)) : Go tb e below F T (mkF m pc Ls (.null :: sk)) :=
  Go.st (fun _ r => XS.ifnullYes (g := mkF m pc Ls (.null :: sk)) h hx rfl (pc0 := pc) (pc' := pc') rfl hd rfl ho hp r) q
theorem s_ifnullN (h : At T m c below) (hx : tb.exec = Jvm.exec) {o : Int} {b : Addr} (hd : decode c.code pc = .ok (.ifnull o, 3)) (hp : pc + 3 = pc') (q : Go tb e below F T (mkF m pc' Ls sk)) : Go tb e below F T (mkF m pc Ls ((.ref b) :: sk)) := by
  subst hp; exact Go.st (fun _ r => XS.ifnullNo (g := mkF m pc Ls ((.ref b) :: sk)) h hx rfl hd rfl r) q
theorem s_ifnonnullY (h : At T m c below) (hx : tb.exec = Jvm.exec) {o : Int} {b : Addr} (hd : decode c.code pc = .ok (.ifnonnull o, 3)) (ho : 0 ≤ (pc : Int) + o) (hp : ((pc : Int) + o).toNat = pc') (q : Go tb e below F T (mkF m pc' Ls sk)) : Go tb e below F T (mkF m pc Ls ((.ref b) :: sk)) :=
  Go.st (fun _ r => XS.ifnonnullYes (g := mkF m pc Ls ((.ref b) :: sk)) h hx rfl (pc0 := pc) (pc' := pc') rfl hd rfl ho hp r) q
theorem s_ifnonnullN (h : At T m c below) (hx : tb.exec = Jvm.exec) {o : Int} (hd : decode c.code pc = .ok (.ifnonnull o, 3)) (hp : pc + 3 = pc') (q : Go tb e below F T (mkF m pc' Ls sk)) : Go tb e below F T (mkF m pc Ls (.null :: sk)) := by
  subst hp; exact Go.st (fun _ r => XS.ifnonnullNo (g := mkF m pc Ls (.null :: sk)) h hx rfl hd rfl r) q
end Steps
end Jvm.Own
namespace Jvm.Own
open Sem ClassFile Op Lib Bundle Jvm.Stand Jvm.Free Jvm.LawKit Jvm.RoadKit
section Ends
variable {tb : Tables} {e : Env} {below : List Frame} {F : State → Prop} {T t : State} {g : JFrame}
theorem Go.fin (h : Steps tb e below (T.setTop g) t) (k : F t) : Go tb e below F T g := ⟨t, h, k⟩
theorem fin_of {P : State → Outcome → Prop} (k : ∀ F : State → Prop, (∀ t o, t.status = .running → Ended t below o → P t o → F t) → Go tb e below F T g) : ∃ s₂ o, Steps tb e below (T.setTop g) s₂ ∧ s₂.status = .running ∧ Ended s₂ below o ∧ P s₂ o := by
  obtain ⟨t, h1, o, h2, h3, h4⟩ := k (fun t => ∃ o, t.status = .running ∧ Ended t below o ∧ P t o) fun t o h2 h3 h4 => ⟨o, h2, h3, h4⟩
  exact ⟨t, o, h1, h2, h3, h4⟩
end Ends
theorem cat_of_ref {v : Value} (h : v.isRef = true) : v.category = 1 := by rcases ref_cases h with rfl | ⟨a, rfl⟩ <;> rfl
theorem own_fits_ref {v : Value} {t : FieldType} (ht : t.isReference = true) (h : v.isRef = true) : fits t v = true := by rcases ref_cases h with rfl | ⟨a, rfl⟩ <;> cases t <;> first | rfl | (cases ht)
theorem own_narrow_ref {v : Value} {t : FieldType} (h : v.isRef = true) : narrow t v = v := by rcases ref_cases h with rfl | ⟨a, rfl⟩ <;> cases t <;> rfl
theorem wideOn {Z s : State} {vm0 vm1 : Vm} {n : Nat} {own : String} {k : ClassId} (hZ : Z.Warmed39 vm0) (hS : (s.setVm vm0).Since vm1 n) (hown : vm0.findClass own = some k) : Z.Warmed39 vm1 ∧ vm1.findClass own = some k :=
  ⟨State.Warmed39.trans (t := s.setVm vm0) hZ hS.1, by rw [hS.1.alike.findClass]; exact hown⟩
section BackX
variable {p : Program} {l : Launch} {e : Env} {R : Room} {s : State} {args : Array Value} {below : List Frame} {Z : State} {a0 : Array Value} {EL : List (String × Nat)} {h : Heap} {vm0 : Vm}
/-- what pays a call of a body that may load literals, whose objects xs are no literal's -/
theorem backX {y : MethodName} {bytes : ByteArray} {maxL : Nat} {ret : Option FieldType} {rm : Room} {len W : Nat} {as' : Array Value} {Q : Option Value → Heap → List Loc → Prop} {xs : List Addr}
    (hM : MetFree l y (head1 [Cond.code y bytes maxL ret] rm) (fun a U => a = as' ∧ Z.Warmed39 U.vm ∧ U.heap = h ∧ CHv Z EL U.vm h ∧ ∀ x ∈ xs, Safe Z EL U.vm h x) (fun _ _ _ _ _ => True) (fun _ U o U' => ∃ v L, o = .returned v ∧ Q v U'.heap L ∧ CHr Z EL U.vm U.heap U'.vm U'.heap ∧ ReturnedEndW U o U' L rm.cells rm.slots))
    (hZ : Z.Warmed39 vm0) (wc : (Cond.code y bytes maxL ret).before a0 Z = true) (wz : (Cond.initialized y.cls).before a0 Z = true) (hf : rm.frames + 1 ≤ R.frames) (hl : W + (maxL + 11) + rm.locals ≤ R.locals) (hEL : EW Z a0 EL) (H : CHv Z EL vm0 h) (hs : ∀ x ∈ xs, x < h.size ∧ Safe Z EL vm0 h x) :
    BackS l R p e below (s.setVm vm0) args y len W (fun A a => a = as' ∧ A.U.heap = h ∧ A.cells + rm.cells ≤ R.cells ∧ A.slots + rm.slots ≤ R.slots)
      (fun A _ v B => ∃ L, Q v B.U.heap L ∧ B.locs = A.locs ++ L ∧ B.cells = A.cells + rm.cells ∧ B.slots = A.slots + rm.slots ∧ CHr Z EL vm0 h B.U.vm B.U.heap) := by
  refine BackS.of_freeW (bytes := bytes) (maxL := maxL) (ret := ret) (E := fun _ first o t L k n => k = rm.cells ∧ n = rm.slots ∧ (∃ v, o = .returned v ∧ Q v t.heap L) ∧ CHr Z EL first.vm first.heap t.vm t.heap) hM hf hl ?_ ?_ (fun _ _ _ _ _ _ _ _ _ => trivial) ?_ ?_
  · intro m meth c A a Y hp
    have hU : Z.Warmed39 A.U.vm := wtrans (s := s.setVm vm0) hZ Y.warmed
    exact ⟨by show (Cond.and _ .tt).before a A.U = true; rw [Cond.before_and, mv hU wc]; rfl, mv hU wc, mv hU wz, hp.2.2.1, hp.2.2.2⟩
  · intro m meth c A a g mk Y hp
    have K := CHv.at Y hZ hEL H
    exact ⟨hp.1, wtrans (s := s.setVm vm0) hZ Y.warmed, hp.2.1, K.1, fun x hx => K.safe (hs x hx).1 (hs x hx).2⟩
  · intro _ _ _ _ ⟨v, L, h1, h2, h3, h4⟩
    exact ⟨L, _, _, h4, rfl, rfl, ⟨v, h1, h2⟩, h3⟩
  · intro m meth c A a g mk v t L k n Y hp _ _ ⟨e1, e2, ⟨v', e3, e4⟩, e5⟩
    cases e3; subst e1 e2
    refine ⟨L, e4, rfl, rfl, rfl, (CHv.at Y hZ hEL H).trans ?_⟩
    rw [← hp.2.1]; exact e5
end BackX
/-! small numbers -/
theorem eq32 {a b : Int32} (h : a.toInt = b.toInt) : a = b := Int32.toInt_inj.mp h
theorem chr_nar {c : Int32} (h : ¬ c < 0 ∧ ¬ (255 : Int32) < c) : nar .char c = c := by
  have q := c_i2c c
  have e1 : (255 : Int32).toInt = 255 := rfl
  have e0 : (0 : Int32).toInt = 0 := rfl
  have h1 := h.1; have h2 := h.2
  rw [Int32.lt_iff_toInt_lt] at h1 h2
  exact eq32 (by show c.toUInt32.toUInt16.toUInt32.toInt32.toInt = _; omega)
theorem chr_i2c {c : Int32} (h : ¬ c < 0 ∧ ¬ (255 : Int32) < c) : c.toUInt32.toUInt16.toUInt32.toInt32 = c := chr_nar h
theorem chr_mask (x : Int32) : ¬ (x &&& 255) < 0 ∧ ¬ (255 : Int32) < (x &&& 255) := by
  have q := c_mask x 255 8 (by decide) (by decide)
  have e1 : (255 : Int32).toInt = 255 := rfl
  have e0 : (0 : Int32).toInt = 0 := rfl
  rw [Int32.lt_iff_toInt_lt, Int32.lt_iff_toInt_lt]
  omega
theorem chr_lit {k : Nat} (h : k < 256) : ¬ (Int32.ofNat k) < 0 ∧ ¬ (255 : Int32) < (Int32.ofNat k) := by
  have q : (Int32.ofNat k).toInt = k := Int32.toInt_ofNat_small (by omega)
  have e1 : (255 : Int32).toInt = 255 := rfl
  have e0 : (0 : Int32).toInt = 0 := rfl
  rw [Int32.lt_iff_toInt_lt, Int32.lt_iff_toInt_lt]
  omega
theorem chr_up {cs : List Int32} (h : ∀ c ∈ cs, ¬ c < 0 ∧ ¬ (255 : Int32) < c) : ∀ c ∈ cs, ¬ c < 0 ∧ ¬ (65535 : Int32) < c := fun c hc => ⟨(h c hc).1, fun q => (h c hc).2 (by rw [Int32.lt_iff_toInt_lt] at q ⊢; have e1 : (65535 : Int32).toInt = 65535 := rfl; have e2 : (255 : Int32).toInt = 255 := rfl; omega)⟩
theorem bit01 (P : Prop) [Decidable P] : (if P then (0 : Int32) else 1) = 0 ∨ (if P then (0 : Int32) else 1) = 1 := by by_cases h : P <;> simp [h]
theorem nar_b {x : Int32} (h : x = 0 ∨ x = 1) : nar .boolean x = x := by rcases h with rfl | rfl <;> decide
theorem narZ {k : Int32} (h : k = 0 ∨ k = 1) : narrow .boolean (.int k) = .int k := by rcases h with rfl | rfl <;> decide
theorem fitZ {k : Int32} (h : k = 0 ∨ k = 1) : fits .boolean (.int k) = true := by rcases h with rfl | rfl <;> decide
end Jvm.Own
namespace Jvm.Pilot.@@N@@
open Jvm Jvm.ClassFile Sem Op Lib Jvm.Free Jvm.Stand Jvm.LawKit Jvm.RoadKit Jvm.Own Bundle Jvm.Pilot.@@N@@.Jvm.D
open Jvm.Free.Fl
section Round
open FP.Core
theorem cval : val64 (4607182418804521008 : UInt64) = .fin false 4503599631874096 (-52) := by decide +kernel
theorem dshape {r : Int64} (h0 : 0 ≤ r.toInt) (hr : B53 r) : ∃ c q, val64 (l2d r) = .fin false c q ∧ b64.qmin ≤ q ∧ ((inUnits c q b64.qmin : Nat) : Int) = r.toInt * (one64 : Int) := by
  obtain ⟨c, q, er⟩ := l2d_shape r
  rw [decide_eq_false (by omega)] at er
  have wr := DInt_zval (l2d_whole hr)
  have hf := val64_fits (l2d r)
  rw [er] at hf wr
  exact ⟨c, q, er, hf.2.1, wr⟩
theorem pround {c : Nat} {q : Int} : inUnits (c * 4503599631874096) (q + -52) (b64.qmin - 52) = inUnits c q b64.qmin * 4503599631874096 := by
  unfold inUnits; rw [show (q + -52 - (b64.qmin - 52)).toNat = (q - b64.qmin).toNat by omega]; ac_rfl
theorem prod_le {r d : Int64} (h0 : 0 ≤ r.toInt) (hr : B53 r) (hd : B53 d) (h : r.toInt * 4503599631874096 ≤ d.toInt * 4503599627370496) : zval b64 (val64 (dmul (l2d r) (4607182418804521008 : UInt64))) ≤ zval b64 (val64 (l2d d)) := by
  obtain ⟨c, q, er, hq, wr⟩ := dshape h0 hr
  rw [val64_dmul, er, cval]
  refine zval_round_le good_b64 (s := (false != false)) (c := c * 4503599631874096) (q := q + -52) (val64_fits _) (DInt_ne_nan (l2d_whole hd)) (e0 := b64.qmin - 52) (by omega) (by omega) ?_
  rw [DInt_zval (l2d_whole hd), show (b64.qmin - (b64.qmin - 52)).toNat = 52 by omega, pround]
  show ((inUnits c q b64.qmin * 4503599631874096 : Nat) : Int) ≤ _
  rw [Int.natCast_mul, wr]
  have q1 := Int.mul_le_mul_of_nonneg_right h (Int.natCast_nonneg one64)
  rw [show ((2 ^ 52 : Nat) : Int) = 4503599627370496 by decide +kernel]
  show r.toInt * (one64 : Int) * 4503599631874096 ≤ _
  rw [Int.mul_right_comm, Int.mul_right_comm d.toInt]
  exact q1
theorem prod_ge {r d : Int64} (h0 : 0 ≤ r.toInt) (hr : B53 r) (hd : B53 d) (h : d.toInt * 4503599627370496 ≤ r.toInt * 4503599631874096) : zval b64 (val64 (l2d d)) ≤ zval b64 (val64 (dmul (l2d r) (4607182418804521008 : UInt64))) := by
  obtain ⟨c, q, er, hq, wr⟩ := dshape h0 hr
  rw [val64_dmul, er, cval]
  refine zval_round_ge good_b64 (s := (false != false)) (c := c * 4503599631874096) (q := q + -52) (val64_fits _) (DInt_ne_nan (l2d_whole hd)) (e0 := b64.qmin - 52) (by omega) (by omega) ?_
  rw [DInt_zval (l2d_whole hd), show (b64.qmin - (b64.qmin - 52)).toNat = 52 by omega, pround]
  show _ ≤ ((inUnits c q b64.qmin * 4503599631874096 : Nat) : Int)
  rw [Int.natCast_mul, wr]
  have q1 := Int.mul_le_mul_of_nonneg_right h (Int.natCast_nonneg one64)
  rw [show ((2 ^ 52 : Nat) : Int) = 4503599627370496 by decide +kernel]
  show _ ≤ r.toInt * (one64 : Int) * 4503599631874096
  rw [Int.mul_right_comm r.toInt, Int.mul_right_comm d.toInt]
  exact q1
theorem cfin : Fin64 (4607182418804521008 : UInt64) := by unfold Fin64; decide
theorem pnn (r : Int64) : NoNaN64 (FP.dmul (FP.l2d r) (4607182418804521008 : UInt64)) := Jvm.Free.Fl.dmul_out (Jvm.Free.Fl.l2d_fin r) cfin
theorem cmpS (a b : UInt64) (ha : val64 a ≠ .nan) (hb : val64 b ≠ .nan) : (0 < cmpValue (FP.dcmp a b) .l ↔ zval b64 (val64 b) < zval b64 (val64 a)) := by
  show (0 < cmpValue (dcmp a b) .l ↔ _)
  rw [dcmp_zval ha hb, ← compare_gt_iff]
  cases compare (zval b64 (val64 a)) (zval b64 (val64 b)) <;> simp only [cmpValue] <;> decide
theorem zlt {a b : Int64} (ha : B53 a) (hb : B53 b) (h : a.toInt < b.toInt) : zval b64 (val64 (l2d a)) < zval b64 (val64 (l2d b)) := by
  rw [DInt_zval (l2d_whole ha), DInt_zval (l2d_whole hb)]
  exact Int.mul_lt_mul_of_pos_right h (by have := one64_pos; omega)
theorem sq_neg (a : Int64) : dmul (dneg (l2d a)) (dneg (l2d a)) = dmul (l2d a) (l2d a) := by
  have e : dmul (l2d a) (dneg (l2d a)) = dneg (dmul (l2d a) (l2d a)) := by rw [dmul_comm, dmul_dneg]
  rw [dmul_dneg, e]
  refine dneg_dneg ?_
  rw [val64_dmul]
  obtain ⟨c, q, er⟩ := l2d_shape a
  rw [er]
  exact roundRatio_ne_nan _ _ _ _ _
end Round
def In (a : Int64) : Prop := 0 ≤ a.toInt ∧ a.toInt < 33554432
theorem sqI {a : Int64} (h : In a) : (a * a).toInt = a.toInt * a.toInt ∧ 0 ≤ a.toInt * a.toInt ∧ a.toInt * a.toInt ≤ 1125899839733761 := by
  have q1 : a.toInt * a.toInt ≤ 33554431 * 33554431 := Int.mul_le_mul (by have := h.2; omega) (by have := h.2; omega) h.1 (by decide)
  have q2 := Int.mul_nonneg h.1 h.1
  have q3 := c_lmul a a
  have q4 := rng64 (a * a)
  generalize a.toInt * a.toInt = z at *
  omega
theorem sqD {a : Int64} (h : In a) : FP.dmul (FP.l2d a) (FP.l2d a) = FP.l2d (a * a) := by
  have h1 := h.1; have h2 := h.2
  refine dmul_k (A := 33554432) (B := 33554432) (by omega) (by omega) (by omega) (by omega) (by decide) (by decide) (by decide) ?_ ?_ <;>
  · rintro ⟨rfl, z⟩; exact absurd z (by decide)
theorem sqX {P : Prop} [Decidable P] {a : Int64} (h : In a) : FP.dmul (if P then (FP.l2d a) else (FP.dneg (FP.l2d a))) (if P then (FP.l2d a) else (FP.dneg (FP.l2d a))) = FP.l2d (a * a) := by
  by_cases p : P
  · rw [if_pos p]; exact sqD h
  · rw [if_neg p, show FP.dneg (FP.l2d a) = FP.Core.dneg (FP.Core.l2d a) from FP.dneg_core (FP.Core.l2d_notNaN a)]; exact (sq_neg a).trans (sqD h)
theorem sqB {a : Int64} (h : In a) : B53 (a * a) := by
  have q := sqI h
  generalize a.toInt * a.toInt = z at q
  exact ⟨by omega, by omega⟩
theorem d2I {a b : Int64} (h : In a) (g : In b) : (a * a + b * b).toInt = (a * a).toInt + (b * b).toInt ∧ B53 (a * a + b * b) ∧ 0 ≤ (a * a).toInt ∧ 0 ≤ (b * b).toInt ∧ (a * a).toInt ≤ 1125899839733761 ∧ (b * b).toInt ≤ 1125899839733761 := by
  have q := sqI h
  have r := sqI g
  have e := add64 (sqB h) (sqB g)
  generalize a.toInt * a.toInt = z at q
  generalize b.toInt * b.toInt = w at r
  exact ⟨e, ⟨by omega, by omega⟩, by omega, by omega, by omega, by omega⟩
theorem law1 {a b r : Int64} (ha : In a) (hb : In b) (hr : In r) (h : ¬ (0 : Int32) < lcmpW ((a * a + b * b) - r * r) ((r * r) / (2000000000 : Int64))) : ¬ (0 : Int32) < cmpValue (FP.dcmp (FP.l2d (a * a + b * b)) (FP.dmul (FP.l2d (r * r)) (4607182418804521008 : UInt64))) .l := by
  obtain ⟨e, B, -⟩ := d2I ha hb
  have q := sqI hr
  have e2 := sub64 B (sqB hr)
  have e3 := (c_ldiv (r * r) 2000000000 2000000000 (by decide) (by decide)).1 (by omega)
  rw [lw_gt, Int64.lt_iff_toInt_lt, e2, e3] at h
  have hn : FP.Core.val64 (FP.dmul (FP.l2d (r * r)) (4607182418804521008 : UInt64)) ≠ .nan := val64_no.mp (pnn _)
  rw [cmpS _ _ (FP.Core.l2d_fin _).ne_nan hn]
  have k := prod_ge (r := r * r) (d := a * a + b * b) (by omega) (sqB hr) B (by omega)
  exact fun z => absurd z (Int.not_lt.mpr k)
theorem law2 {a b r : Int64} (ha : In a) (hb : In b) (hr : In r) (h : ¬ lcmpW ((a * a + b * b) - r * r) ((2 : Int64) + (r * r) / (500000000 : Int64)) < (0 : Int32)) : (0 : Int32) < cmpValue (FP.dcmp (FP.l2d (a * a + b * b)) (FP.dmul (FP.l2d (r * r)) (4607182418804521008 : UInt64))) .l := by
  obtain ⟨e, B, -⟩ := d2I ha hb
  have q := sqI hr
  have e2 := sub64 B (sqB hr)
  have e3 := (c_ldiv (r * r) 500000000 500000000 (by decide) (by decide)).1 (by omega)
  have e4 : ((2 : Int64) + (r * r) / (500000000 : Int64)).toInt = 2 + (r * r).toInt / 500000000 := by
    rw [add64 ⟨by decide, by decide⟩ ⟨by omega, by omega⟩, e3]; rfl
  rw [lw_lt, Int64.lt_iff_toInt_lt, e2, e4] at h
  have e5 : ((a * a + b * b) - 1).toInt = (a * a + b * b).toInt - 1 := sub64 B ⟨by decide, by decide⟩
  have B' : B53 ((a * a + b * b) - 1) := by have := B.2; exact ⟨by omega, by omega⟩
  have hn : FP.Core.val64 (FP.dmul (FP.l2d (r * r)) (4607182418804521008 : UInt64)) ≠ .nan := val64_no.mp (pnn _)
  rw [cmpS _ _ (FP.Core.l2d_fin _).ne_nan hn]
  have k := prod_le (r := r * r) (d := (a * a + b * b) - 1) (by omega) (sqB hr) B' (by omega)
  exact Int.lt_of_le_of_lt k (zlt B' B (by omega))
theorem in_mask (x m : Int32) (k : Nat) (hk : k ≤ 25) (hm : m.toBitVec.toNat = 2 ^ k - 1) : In ((x &&& m).toInt64) := by
  have e := c_mask x m k (by omega) hm
  have q : (2 ^ k : Nat) ≤ 33554432 := Nat.pow_le_pow_right (by decide) hk
  have p := Nat.two_pow_pos k
  unfold In
  rw [c_i2l, e]
  generalize (2 ^ k : Nat) = n at *
  have q1 := Int.emod_nonneg x.toInt (b := (n : Int)) (by omega)
  have q2 := Int.emod_lt_of_pos x.toInt (b := (n : Int)) (by omega)
  omega
theorem in_max {r a : Int64} (hr : In r) (ha : In a) {x : Int64} (h : (x = r - a ∧ ¬ r - a < 0) ∨ (x = 0 ∧ r - a < 0)) : In x := by
  have e : (r - a).toInt = r.toInt - a.toInt := sub64 ⟨by have := hr.1; omega, by have := hr.2; omega⟩ ⟨by have := ha.1; omega, by have := ha.2; omega⟩
  rcases h with ⟨rfl, h⟩ | ⟨rfl, -⟩
  · rw [Int64.lt_iff_toInt_lt] at h
    have h0 : (0 : Int64).toInt = 0 := rfl
    unfold In at *; omega
  · exact ⟨by decide, by decide⟩
theorem d_jdk_29_m66_0 : decode jdk_29_method_66_code 0 = .ok (.lload_n 0, 1) := by decide +kernel
theorem d_jdk_29_m66_1 : decode jdk_29_method_66_code 1 = .ok (.lload_n 2, 1) := by decide +kernel
theorem d_jdk_29_m66_2 : decode jdk_29_method_66_code 2 = .ok (.lcmp, 1) := by decide +kernel
theorem d_jdk_29_m66_3 : decode jdk_29_method_66_code 3 = .ok (.ifCond .lt 7, 3) := by decide +kernel
theorem d_jdk_29_m66_10 : decode jdk_29_method_66_code 10 = .ok (.lload_n 2, 1) := by decide +kernel
theorem d_jdk_29_m66_11 : decode jdk_29_method_66_code 11 = .ok (.lreturn, 1) := by decide +kernel
theorem d_jdk_29_m66_6 : decode jdk_29_method_66_code 6 = .ok (.lload_n 0, 1) := by decide +kernel
theorem d_jdk_29_m66_7 : decode jdk_29_method_66_code 7 = .ok (.goto 4, 3) := by decide +kernel
def QM (Z : State) (ja jb : Int64) (h0 : Heap) (n0 : Nat) (v : Option Value) (h : Heap) (L : List Loc) : Prop := (∃ r : Int64, v = some (.long r) ∧ ((r = ja ∧ ¬ ja < jb) ∨ (r = jb ∧ ja < jb))) ∧ Fr n0 L ∧ h = h0
set_option maxRecDepth 65536 in
set_option maxHeartbeats 40000000 in
theorem rmM (l : Launch) (Z : State) (a0 : Array Value) (hw : ∀ d ∈ tables_1, d.before a0 Z = true) (ws : List Jvm.Cond) (ja jb : Int64) (h0 : Heap) (n0 : Nat) (X00 : Old Z n0 h0)  :
    MetFree l (⟨"java/lang/Math", "max", "(JJ)J"⟩ : MethodName) (head1 (Jvm.Cond.code (⟨"java/lang/Math", "max", "(JJ)J"⟩ : MethodName) jdk_29_method_66_code 4 (some .long) :: ws) ({ frames := 0, cells := 0, slots := 0, locals := 0 } : Room)) (fun aa U => aa = #[(.long ja), (.long jb)] ∧ Z.Warmed39 U.vm ∧ U.heap = h0) (fun _ _ _ _ _ => True) (fun _ U o U' => ∃ v L, o = .returned v ∧ QM Z ja jb h0 n0 v U'.heap L ∧ FrameEnd U o U' L ({ frames := 0, cells := 0, slots := 0, locals := 0 } : Room).cells ({ frames := 0, cells := 0, slots := 0, locals := 0 } : Room).slots) := by
  refine MetFree.of_bodySF (Jvm.Free.JP.mathPlain rfl (by decide +kernel)) hisR ?_
  intro p e s m args below meth c s₁ Bd hml0 hP hK
  obtain ⟨rfl, hZ, hh⟩ := hP
  have hx := Bd.exec
  have hby := Bd.bytes
  have hml : c.maxLocals = 4 := hml0
  have hown : s.vm.findClass "java/lang/Math" = some m.cls := findClass_of_methodNamed Bd.named
  have hnm := (name_of_methodNamed Bd.named Bd.method).1
  have X0 : Stand p l e ({ frames := 0, cells := 0, slots := 0, locals := 0 } : Room) s m #[(.long ja), (.long jb)] below meth c s₁ [] 0 0 := Stand.of_body Bd
  have e0 : s₁.heap = h0 := by rw [← hh, Bd.state]; rfl
  have N0 := Fr.nil n0
  have K0 := Keep.refl h0 []
  have ef : entryFrame m #[(.long ja), (.long jb)] 4 = mkF m 0 #[.val (.long ja), .second, .val (.long jb), .second] [] := (by first | (simp [entryFrame, mkF, argsToLocals, Value.category]; done) | rfl : entryFrame m #[(.long ja), (.long jb)] 4 = mkF m 0 #[.val (.long ja), .second, .val (.long jb), .second] [])
  rw [ef]
  refine fin_of fun Kx hF => ?_
  show Go p.tables e below Kx s₁ (mkF m 0 #[.val (.long ja), .second, .val (.long jb), .second] [])
  refine s_lloadN (pc' := 1) X0.here hx (hb hby d_jdk_29_m66_0) rfl rfl ?_
  refine s_lloadN (pc' := 2) X0.here hx (hb hby d_jdk_29_m66_1) rfl rfl ?_
  refine s_lcmp (pc' := 3) X0.here hx (hb hby d_jdk_29_m66_2) rfl rfl ?_
  by_cases hc1 : (lcmpW ja jb) < (0 : Int32)
  · skip
    refine s_ifY (pc' := 10) X0.here hx (hb hby d_jdk_29_m66_3) ((if0 _ _).trans (tlt hc1).1) (by decide) (by decide) ?_
    refine s_lloadN (pc' := 11) X0.here hx (hb hby d_jdk_29_m66_10) rfl rfl ?_
    obtain ⟨fs, hr, hrun, hended, hW, hsame⟩ := X0.leave (v := (some (.long jb))) (fun h => by rw [Bd.returns] at h; cases h)
    refine Go.fin (retOut X0 hx Bd.returns rfl (Or.inr (Or.inl ⟨rfl, rfl, _, rfl⟩)) (hb hby d_jdk_29_m66_11) hr) (hF _ _ hrun hended ⟨_, _, rfl, ?_, ⟨_, rfl⟩, hW, hsame.mono (by decide) (by decide)⟩)
    · show QM Z ja jb h0 n0 ((some (.long jb)) : Option Value) s₁.heap _
      rw [e0]
      exact ⟨⟨_, rfl, Or.inr ⟨rfl, (lw_lt _ _).mp hc1⟩⟩, N0, rfl⟩
  · skip
    refine s_ifN (pc' := 6) X0.here hx (hb hby d_jdk_29_m66_3) rfl ((if0 _ _).trans (flt hc1).1) ?_
    refine s_lloadN (pc' := 7) X0.here hx (hb hby d_jdk_29_m66_6) rfl rfl ?_
    refine s_goto (pc' := 11) X0.here hx (hb hby d_jdk_29_m66_7) (by decide) (by decide) ?_
    obtain ⟨fs, hr, hrun, hended, hW, hsame⟩ := X0.leave (v := (some (.long ja))) (fun h => by rw [Bd.returns] at h; cases h)
    refine Go.fin (retOut X0 hx Bd.returns rfl (Or.inr (Or.inl ⟨rfl, rfl, _, rfl⟩)) (hb hby d_jdk_29_m66_11) hr) (hF _ _ hrun hended ⟨_, _, rfl, ?_, ⟨_, rfl⟩, hW, hsame.mono (by decide) (by decide)⟩)
    · show QM Z ja jb h0 n0 ((some (.long ja)) : Option Value) s₁.heap _
      rw [e0]
      exact ⟨⟨_, rfl, Or.inl ⟨rfl, fun z => hc1 ((lw_lt _ _).mpr z)⟩⟩, N0, rfl⟩
theorem pn_0 : plainName "com/example/wildebeest/wildebeest/simulation/Reach" = true := by first | (simp [plainName, overriddenIn]; done) | decide +kernel
theorem d_prog_22_m2_0 : decode prog_22_method_2_code 0 = .ok (.dload_n 0, 1) := by decide +kernel
theorem d_prog_22_m2_1 : decode prog_22_method_2_code 1 = .ok (.dload_n 0, 1) := by decide +kernel
theorem d_prog_22_m2_2 : decode prog_22_method_2_code 2 = .ok (.dmul, 1) := by decide +kernel
theorem d_prog_22_m2_3 : decode prog_22_method_2_code 3 = .ok (.dload_n 2, 1) := by decide +kernel
theorem d_prog_22_m2_4 : decode prog_22_method_2_code 4 = .ok (.dload_n 2, 1) := by decide +kernel
theorem d_prog_22_m2_5 : decode prog_22_method_2_code 5 = .ok (.dmul, 1) := by decide +kernel
theorem d_prog_22_m2_6 : decode prog_22_method_2_code 6 = .ok (.dadd, 1) := by decide +kernel
theorem d_prog_22_m2_7 : decode prog_22_method_2_code 7 = .ok (.dload 4, 2) := by decide +kernel
theorem d_prog_22_m2_9 : decode prog_22_method_2_code 9 = .ok (.dload 4, 2) := by decide +kernel
theorem d_prog_22_m2_11 : decode prog_22_method_2_code 11 = .ok (.dmul, 1) := by decide +kernel
theorem d_prog_22_m2_12 : decode prog_22_method_2_code 12 = .ok (.ldc2_w 9, 3) := by decide +kernel
theorem d_prog_22_m2_15 : decode prog_22_method_2_code 15 = .ok (.dmul, 1) := by decide +kernel
theorem d_prog_22_m2_16 : decode prog_22_method_2_code 16 = .ok (.dcmp .l, 1) := by decide +kernel
theorem d_prog_22_m2_17 : decode prog_22_method_2_code 17 = .ok (.ifCond .le 7, 3) := by decide +kernel
theorem d_prog_22_m2_20 : decode prog_22_method_2_code 20 = .ok (.iconst 1, 1) := by decide +kernel
theorem d_prog_22_m2_21 : decode prog_22_method_2_code 21 = .ok (.goto 4, 3) := by decide +kernel
theorem d_prog_22_m2_25 : decode prog_22_method_2_code 25 = .ok (.ireturn, 1) := by decide +kernel
theorem d_prog_22_m2_24 : decode prog_22_method_2_code 24 = .ok (.iconst 0, 1) := by decide +kernel
def QB (Z : State) (dx dy rd : UInt64) (xx yy rr2 : Int64) (h0 : Heap) (n0 : Nat) (v : Option Value) (h : Heap) (L : List Loc) : Prop := (∃ r : Int32, v = some (.int r) ∧ ((r = 1 ∧ (0 : Int32) < cmpValue (FP.dcmp (FP.l2d (xx + yy)) (FP.dmul (FP.l2d rr2) (4607182418804521008 : UInt64))) .l) ∨ (r = 0 ∧ ¬ (0 : Int32) < cmpValue (FP.dcmp (FP.l2d (xx + yy)) (FP.dmul (FP.l2d rr2) (4607182418804521008 : UInt64))) .l))) ∧ Fr n0 L ∧ h = h0
set_option maxRecDepth 65536 in
set_option maxHeartbeats 40000000 in
theorem rmB (l : Launch) (Z : State) (a0 : Array Value) (hw : ∀ d ∈ tables_1, d.before a0 Z = true) (ws : List Jvm.Cond) (dx dy rd : UInt64) (xx yy rr2 : Int64) (h0 : Heap) (n0 : Nat) (X00 : Old Z n0 h0) (hxx : FP.dmul dx dx = FP.l2d xx) (hyy : FP.dmul dy dy = FP.l2d yy) (hrr : FP.dmul rd rd = FP.l2d rr2) (b1 : B53 xx) (b2 : B53 yy) :
    MetFree l (⟨"com/example/wildebeest/wildebeest/simulation/Reach", "isBeyond", "(DDD)Z"⟩ : MethodName) (head1 (Jvm.Cond.code (⟨"com/example/wildebeest/wildebeest/simulation/Reach", "isBeyond", "(DDD)Z"⟩ : MethodName) prog_22_method_2_code 6 (some .boolean) :: ws) ({ frames := 0, cells := 0, slots := 0, locals := 0 } : Room)) (fun aa U => aa = #[(.double dx), (.double dy), (.double rd)] ∧ Z.Warmed39 U.vm ∧ U.heap = h0) (fun _ _ _ _ _ => True) (fun _ U o U' => ∃ v L, o = .returned v ∧ QB Z dx dy rd xx yy rr2 h0 n0 v U'.heap L ∧ FrameEnd U o U' L ({ frames := 0, cells := 0, slots := 0, locals := 0 } : Room).cells ({ frames := 0, cells := 0, slots := 0, locals := 0 } : Room).slots) := by
  refine MetFree.of_bodySF (plainFor_of_name pn_0) hisR ?_
  intro p e s m args below meth c s₁ Bd hml0 hP hK
  obtain ⟨rfl, hZ, hh⟩ := hP
  have hx := Bd.exec
  have hby := Bd.bytes
  have hml : c.maxLocals = 6 := hml0
  have hown : s.vm.findClass "com/example/wildebeest/wildebeest/simulation/Reach" = some m.cls := findClass_of_methodNamed Bd.named
  have hnm := (name_of_methodNamed Bd.named Bd.method).1
  have X0 : Stand p l e ({ frames := 0, cells := 0, slots := 0, locals := 0 } : Room) s m #[(.double dx), (.double dy), (.double rd)] below meth c s₁ [] 0 0 := Stand.of_body Bd
  have e0 : s₁.heap = h0 := by rw [← hh, Bd.state]; rfl
  have N0 := Fr.nil n0
  have K0 := Keep.refl h0 []
  have ef : entryFrame m #[(.double dx), (.double dy), (.double rd)] 6 = mkF m 0 #[.val (.double dx), .second, .val (.double dy), .second, .val (.double rd), .second] [] := (by first | (simp [entryFrame, mkF, argsToLocals, Value.category]; done) | rfl : entryFrame m #[(.double dx), (.double dy), (.double rd)] 6 = mkF m 0 #[.val (.double dx), .second, .val (.double dy), .second, .val (.double rd), .second] [])
  rw [ef]
  refine fin_of fun Kx hF => ?_
  show Go p.tables e below Kx s₁ (mkF m 0 #[.val (.double dx), .second, .val (.double dy), .second, .val (.double rd), .second] [])
  refine s_dloadN (pc' := 1) X0.here hx (hb hby d_prog_22_m2_0) rfl rfl ?_
  refine s_dloadN (pc' := 2) X0.here hx (hb hby d_prog_22_m2_1) rfl rfl ?_
  refine s_dmul (pc' := 3) (z := (FP.l2d xx)) X0.here hx (hb hby d_prog_22_m2_2) rfl (nn_w hxx) hxx ?_
  refine s_dloadN (pc' := 4) X0.here hx (hb hby d_prog_22_m2_3) rfl rfl ?_
  refine s_dloadN (pc' := 5) X0.here hx (hb hby d_prog_22_m2_4) rfl rfl ?_
  refine s_dmul (pc' := 6) (z := (FP.l2d yy)) X0.here hx (hb hby d_prog_22_m2_5) rfl (nn_w hyy) hyy ?_
  refine s_dadd (pc' := 7) (z := (FP.l2d (xx + yy))) X0.here hx (hb hby d_prog_22_m2_6) rfl (nn_w (dadd_w b1 b2)) (dadd_w b1 b2) ?_
  refine s_dload (pc' := 9) X0.here hx (hb hby d_prog_22_m2_7) rfl rfl ?_
  refine s_dload (pc' := 11) X0.here hx (hb hby d_prog_22_m2_9) rfl rfl ?_
  refine s_dmul (pc' := 12) (z := (FP.l2d rr2)) X0.here hx (hb hby d_prog_22_m2_11) rfl (nn_w hrr) hrr ?_
  refine Go.st (X0.ldc2DoubleC hx hown (mvT hZ (hw _ (List.mem_of_getElem? (i := 5) rfl))) (g := (mkF m 12 #[.val (.double dx), .second, .val (.double dy), .second, .val (.double rd), .second] [(.double (FP.l2d rr2)), (.double (FP.l2d (xx + yy)))])) rfl (hb hby d_prog_22_m2_12)) ?_
  show Go p.tables e below Kx s₁ (mkF m 15 #[.val (.double dx), .second, .val (.double dy), .second, .val (.double rd), .second] [(.double (4607182418804521008 : UInt64)), (.double (FP.l2d rr2)), (.double (FP.l2d (xx + yy)))])
  refine s_dmul (pc' := 16) (z := (FP.dmul (FP.l2d rr2) (4607182418804521008 : UInt64))) X0.here hx (hb hby d_prog_22_m2_15) rfl (pnn _) rfl ?_
  refine s_dcmpl (pc' := 17) X0.here hx (hb hby d_prog_22_m2_16) rfl rfl ?_
  by_cases hc2 : (0 : Int32) < (cmpValue (FP.dcmp (FP.l2d (xx + yy)) (FP.dmul (FP.l2d rr2) (4607182418804521008 : UInt64))) .l)
  · skip
    refine s_ifN (pc' := 20) X0.here hx (hb hby d_prog_22_m2_17) rfl ((if0 _ _).trans (tlt hc2).2.2.2) ?_
    refine s_iconst (pc' := 21) (v := (1 : Int32)) X0.here hx (hb hby d_prog_22_m2_20) rfl rfl ?_
    refine s_goto (pc' := 25) X0.here hx (hb hby d_prog_22_m2_21) (by decide) (by decide) ?_
    obtain ⟨fs, hr, hrun, hended, hW, hsame⟩ := X0.leave (v := (some (.int (1 : Int32)))) (fun h => by rw [Bd.returns] at h; cases h)
    refine Go.fin (retN X0 hx (t := .boolean) Bd.returns (by simp) (hb hby d_prog_22_m2_25) hr) (hF _ _ hrun hended ⟨_, _, rfl, ?_, ⟨_, rfl⟩, hW, hsame.mono (by decide) (by decide)⟩)
    · show QB Z dx dy rd xx yy rr2 h0 n0 ((some (.int (1 : Int32))) : Option Value) s₁.heap _
      rw [e0]
      exact ⟨⟨_, rfl, Or.inl ⟨rfl, hc2⟩⟩, N0, rfl⟩
  · skip
    refine s_ifY (pc' := 24) X0.here hx (hb hby d_prog_22_m2_17) ((if0 _ _).trans (flt hc2).2.2.2) (by decide) (by decide) ?_
    refine s_iconst (pc' := 25) (v := (0 : Int32)) X0.here hx (hb hby d_prog_22_m2_24) rfl rfl ?_
    obtain ⟨fs, hr, hrun, hended, hW, hsame⟩ := X0.leave (v := (some (.int (0 : Int32)))) (fun h => by rw [Bd.returns] at h; cases h)
    refine Go.fin (retN X0 hx (t := .boolean) Bd.returns (by simp) (hb hby d_prog_22_m2_25) hr) (hF _ _ hrun hended ⟨_, _, rfl, ?_, ⟨_, rfl⟩, hW, hsame.mono (by decide) (by decide)⟩)
    · show QB Z dx dy rd xx yy rr2 h0 n0 ((some (.int (0 : Int32))) : Option Value) s₁.heap _
      rw [e0]
      exact ⟨⟨_, rfl, Or.inr ⟨rfl, hc2⟩⟩, N0, rfl⟩
theorem pn_1 : plainName "com/example/wildebeest/wildebeest/simulation/ReachIsBeyondPinLaw" = true := by first | (simp [plainName, overriddenIn]; done) | decide +kernel
theorem pd_0 : parseMethodDescriptor "(DDD)Z" = some ⟨[.double, .double, .double], some .boolean⟩ := by decide +kernel
theorem pd_1 : parseMethodDescriptor "(JJ)J" = some ⟨[.long, .long], some .long⟩ := by decide +kernel
def QL (Z : State) (p0 p1 p2 p3 : Int32) (h0 : Heap) (n0 : Nat) (v : Option Value) (h : Heap) (L : List Loc) : Prop := v = some (.int 1) ∧ Fr n0 L
set_option maxRecDepth 65536 in
set_option maxHeartbeats 40000000 in
theorem rmL (l : Launch) (Z : State) (a0 : Array Value) (hw : ∀ d ∈ tables_1, d.before a0 Z = true) (ws : List Jvm.Cond) (p0 p1 p2 p3 : Int32) (h0 : Heap) (n0 : Nat) (X00 : Old Z n0 h0)  :
    MetFree l x (head1 (Jvm.Cond.code x code maxLocals ret :: ws) room_1) (fun aa U => aa = #[(.int p0), (.int p1), (.int p2), (.int p3)] ∧ Z.Warmed39 U.vm ∧ U.heap = h0) (fun _ _ _ _ _ => True) (fun _ U o U' => ∃ v L, o = .returned v ∧ QL Z p0 p1 p2 p3 h0 n0 v U'.heap L ∧ FrameEnd U o U' L room_1.cells room_1.slots) := by
  refine MetFree.of_bodySF (plainFor_of_name pn_1) hisR ?_
  intro p e s m args below meth c s₁ Bd hml0 hP hK
  obtain ⟨rfl, hZ, hh⟩ := hP
  have hx := Bd.exec
  have hby := Bd.bytes
  have hml : c.maxLocals = 20 := hml0
  have hown : s.vm.findClass "com/example/wildebeest/wildebeest/simulation/ReachIsBeyondPinLaw" = some m.cls := findClass_of_methodNamed Bd.named
  have hnm := (name_of_methodNamed Bd.named Bd.method).1
  have X0 : Stand p l e room_1 s m #[(.int p0), (.int p1), (.int p2), (.int p3)] below meth c s₁ [] 0 0 := Stand.of_body Bd
  have e0 : s₁.heap = h0 := by rw [← hh, Bd.state]; rfl
  have N0 := Fr.nil n0
  have K0 := Keep.refl h0 []
  have ef : entryFrame m #[(.int p0), (.int p1), (.int p2), (.int p3)] maxLocals = mkF m 0 #[.val (.int p0), .val (.int p1), .val (.int p2), .val (.int p3), .unset, .unset, .unset, .unset, .unset, .unset, .unset, .unset, .unset, .unset, .unset, .unset, .unset, .unset, .unset, .unset] [] := (by first | (simp [entryFrame, mkF, argsToLocals, Value.category, maxLocals]; done) | rfl : entryFrame m #[(.int p0), (.int p1), (.int p2), (.int p3)] maxLocals = mkF m 0 #[.val (.int p0), .val (.int p1), .val (.int p2), .val (.int p3), .unset, .unset, .unset, .unset, .unset, .unset, .unset, .unset, .unset, .unset, .unset, .unset, .unset, .unset, .unset, .unset] [])
  rw [ef]
  refine fin_of fun Kx hF => ?_
  show Go p.tables e below Kx s₁ (mkF m 0 #[.val (.int p0), .val (.int p1), .val (.int p2), .val (.int p3), .unset, .unset, .unset, .unset, .unset, .unset, .unset, .unset, .unset, .unset, .unset, .unset, .unset, .unset, .unset, .unset] [])
  refine s_iloadN (pc' := 1) X0.here hx (hb hby at_0) rfl rfl ?_
  refine Go.st (X0.ldcInt hx hown (mvT hZ (hw _ (List.mem_of_getElem? (i := 0) rfl))) (g := (mkF m 1 #[.val (.int p0), .val (.int p1), .val (.int p2), .val (.int p3), .unset, .unset, .unset, .unset, .unset, .unset, .unset, .unset, .unset, .unset, .unset, .unset, .unset, .unset, .unset, .unset] [(.int p2)])) rfl (hb hby at_1)) ?_
  show Go p.tables e below Kx s₁ (mkF m 3 #[.val (.int p0), .val (.int p1), .val (.int p2), .val (.int p3), .unset, .unset, .unset, .unset, .unset, .unset, .unset, .unset, .unset, .unset, .unset, .unset, .unset, .unset, .unset, .unset] [(.int (33554431 : Int32)), (.int p2)])
  refine s_iand (pc' := 4) X0.here hx (hb hby at_3) rfl rfl ?_
  refine s_i2l (pc' := 5) X0.here hx (hb hby at_4) rfl rfl ?_
  have hrr : In ((p2 &&& (33554431 : Int32)).toInt64) := in_mask p2 33554431 25 (by decide) (by decide)
  revert hrr
  generalize ((p2 &&& (33554431 : Int32)).toInt64) = rr
  intro hrr
  show Go p.tables e below Kx s₁ (mkF m 5 #[.val (.int p0), .val (.int p1), .val (.int p2), .val (.int p3), .unset, .unset, .unset, .unset, .unset, .unset, .unset, .unset, .unset, .unset, .unset, .unset, .unset, .unset, .unset, .unset] [(.long rr)])
  refine s_lstore (pc' := 7) (Ls' := #[.val (.int p0), .val (.int p1), .val (.int p2), .val (.int p3), .val (.long rr), .second, .unset, .unset, .unset, .unset, .unset, .unset, .unset, .unset, .unset, .unset, .unset, .unset, .unset, .unset]) X0.here hx (hb hby at_5) rfl  rfl ?_
  refine s_iloadN (pc' := 8) X0.here hx (hb hby at_7) rfl rfl ?_
  refine s_iconst (pc' := 9) (v := (3 : Int32)) X0.here hx (hb hby at_8) rfl rfl ?_
  refine s_iand (pc' := 10) X0.here hx (hb hby at_9) rfl rfl ?_
  generalize (p3 &&& (3 : Int32)) = md
  show Go p.tables e below Kx s₁ (mkF m 10 #[.val (.int p0), .val (.int p1), .val (.int p2), .val (.int p3), .val (.long rr), .second, .unset, .unset, .unset, .unset, .unset, .unset, .unset, .unset, .unset, .unset, .unset, .unset, .unset, .unset] [(.int md)])
  refine s_istore (pc' := 12) (Ls' := #[.val (.int p0), .val (.int p1), .val (.int p2), .val (.int p3), .val (.long rr), .second, .val (.int md), .unset, .unset, .unset, .unset, .unset, .unset, .unset, .unset, .unset, .unset, .unset, .unset, .unset]) X0.here hx (hb hby at_10) rfl  rfl ?_
  have J98 : ∀ (ax ay : Int64) (TJ98 : State) (LJ98 : List Loc), Stand p l e room_1 s m #[(.int p0), (.int p1), (.int p2), (.int p3)] below meth c TJ98 LJ98 0 0 → Fr n0 LJ98 → TJ98.heap = h0 → In ax → In ay → Go p.tables e below Kx TJ98 (mkF m 98 #[.val (.int p0), .val (.int p1), .val (.int p2), .val (.int p3), .val (.long rr), .second, .val (.int md), .val (.long ax), .second, .val (.long ay), .second, .unset, .unset, .unset, .unset, .unset, .unset, .unset, .unset, .unset] []) := by
    intro ax ay TJ98 LJ98 XJ98 NJ98 eJ98 hax hay
    show Go p.tables e below Kx TJ98 (mkF m 98 #[.val (.int p0), .val (.int p1), .val (.int p2), .val (.int p3), .val (.long rr), .second, .val (.int md), .val (.long ax), .second, .val (.long ay), .second, .unset, .unset, .unset, .unset, .unset, .unset, .unset, .unset, .unset] [])
    refine s_iloadN (pc' := 99) XJ98.here hx (hb hby at_98) rfl rfl ?_
    refine s_iconst (pc' := 100) (v := (2 : Int32)) XJ98.here hx (hb hby at_99) rfl rfl ?_
    refine s_ishr (pc' := 101) XJ98.here hx (hb hby at_100) rfl rfl ?_
    refine s_iconst (pc' := 102) (v := (1 : Int32)) XJ98.here hx (hb hby at_101) rfl rfl ?_
    refine s_iand (pc' := 103) XJ98.here hx (hb hby at_102) rfl rfl ?_
    suffices J4 : Go p.tables e below Kx TJ98 (mkF m 116 #[.val (.int p0), .val (.int p1), .val (.int p2), .val (.int p3), .val (.long rr), .second, .val (.int md), .val (.long ax), .second, .val (.long ay), .second, .unset, .unset, .unset, .unset, .unset, .unset, .unset, .unset, .unset] [(.double (if ((p3 >>> ((2 : Int32) &&& 31)) &&& (1 : Int32)) = (0 : Int32) then (FP.l2d ax) else (FP.dneg (FP.l2d ax))))]) by
      by_cases hc3 : ((p3 >>> ((2 : Int32) &&& 31)) &&& (1 : Int32)) = (0 : Int32)
      · skip
        simp only [if_pos hc3] at J4
        refine s_ifY (pc' := 113) XJ98.here hx (hb hby at_103) ((if0 _ _).trans (teq hc3).1) (by decide) (by decide) ?_
        refine s_lload (pc' := 115) XJ98.here hx (hb hby at_113) rfl rfl ?_
        refine s_l2d (pc' := 116) XJ98.here hx (hb hby at_115) rfl rfl ?_
        exact J4
      · skip
        simp only [if_neg hc3] at J4
        refine s_ifN (pc' := 106) XJ98.here hx (hb hby at_103) rfl ((if0 _ _).trans (feq hc3).1) ?_
        refine s_lload (pc' := 108) XJ98.here hx (hb hby at_106) rfl rfl ?_
        refine s_l2d (pc' := 109) XJ98.here hx (hb hby at_108) rfl rfl ?_
        refine s_dneg (pc' := 110) XJ98.here hx (hb hby at_109) rfl rfl ?_
        refine s_goto (pc' := 116) XJ98.here hx (hb hby at_110) (by decide) (by decide) ?_
        exact J4
    have hdx : FP.dmul (if ((p3 >>> ((2 : Int32) &&& 31)) &&& (1 : Int32)) = (0 : Int32) then (FP.l2d ax) else (FP.dneg (FP.l2d ax))) (if ((p3 >>> ((2 : Int32) &&& 31)) &&& (1 : Int32)) = (0 : Int32) then (FP.l2d ax) else (FP.dneg (FP.l2d ax))) = FP.l2d (ax * ax) := sqX hax
    revert hdx
    generalize (if ((p3 >>> ((2 : Int32) &&& 31)) &&& (1 : Int32)) = (0 : Int32) then (FP.l2d ax) else (FP.dneg (FP.l2d ax))) = dx
    intro hdx
    show Go p.tables e below Kx TJ98 (mkF m 116 #[.val (.int p0), .val (.int p1), .val (.int p2), .val (.int p3), .val (.long rr), .second, .val (.int md), .val (.long ax), .second, .val (.long ay), .second, .unset, .unset, .unset, .unset, .unset, .unset, .unset, .unset, .unset] [(.double dx)])
    refine s_dstore (pc' := 118) (Ls' := #[.val (.int p0), .val (.int p1), .val (.int p2), .val (.int p3), .val (.long rr), .second, .val (.int md), .val (.long ax), .second, .val (.long ay), .second, .val (.double dx), .second, .unset, .unset, .unset, .unset, .unset, .unset, .unset]) XJ98.here hx (hb hby at_116) rfl  rfl ?_
    refine s_iloadN (pc' := 119) XJ98.here hx (hb hby at_118) rfl rfl ?_
    refine s_iconst (pc' := 120) (v := (3 : Int32)) XJ98.here hx (hb hby at_119) rfl rfl ?_
    refine s_ishr (pc' := 121) XJ98.here hx (hb hby at_120) rfl rfl ?_
    refine s_iconst (pc' := 122) (v := (1 : Int32)) XJ98.here hx (hb hby at_121) rfl rfl ?_
    refine s_iand (pc' := 123) XJ98.here hx (hb hby at_122) rfl rfl ?_
    suffices J6 : Go p.tables e below Kx TJ98 (mkF m 136 #[.val (.int p0), .val (.int p1), .val (.int p2), .val (.int p3), .val (.long rr), .second, .val (.int md), .val (.long ax), .second, .val (.long ay), .second, .val (.double dx), .second, .unset, .unset, .unset, .unset, .unset, .unset, .unset] [(.double (if ((p3 >>> ((3 : Int32) &&& 31)) &&& (1 : Int32)) = (0 : Int32) then (FP.l2d ay) else (FP.dneg (FP.l2d ay))))]) by
      by_cases hc5 : ((p3 >>> ((3 : Int32) &&& 31)) &&& (1 : Int32)) = (0 : Int32)
      · skip
        simp only [if_pos hc5] at J6
        refine s_ifY (pc' := 133) XJ98.here hx (hb hby at_123) ((if0 _ _).trans (teq hc5).1) (by decide) (by decide) ?_
        refine s_lload (pc' := 135) XJ98.here hx (hb hby at_133) rfl rfl ?_
        refine s_l2d (pc' := 136) XJ98.here hx (hb hby at_135) rfl rfl ?_
        exact J6
      · skip
        simp only [if_neg hc5] at J6
        refine s_ifN (pc' := 126) XJ98.here hx (hb hby at_123) rfl ((if0 _ _).trans (feq hc5).1) ?_
        refine s_lload (pc' := 128) XJ98.here hx (hb hby at_126) rfl rfl ?_
        refine s_l2d (pc' := 129) XJ98.here hx (hb hby at_128) rfl rfl ?_
        refine s_dneg (pc' := 130) XJ98.here hx (hb hby at_129) rfl rfl ?_
        refine s_goto (pc' := 136) XJ98.here hx (hb hby at_130) (by decide) (by decide) ?_
        exact J6
    have hdy : FP.dmul (if ((p3 >>> ((3 : Int32) &&& 31)) &&& (1 : Int32)) = (0 : Int32) then (FP.l2d ay) else (FP.dneg (FP.l2d ay))) (if ((p3 >>> ((3 : Int32) &&& 31)) &&& (1 : Int32)) = (0 : Int32) then (FP.l2d ay) else (FP.dneg (FP.l2d ay))) = FP.l2d (ay * ay) := sqX hay
    revert hdy
    generalize (if ((p3 >>> ((3 : Int32) &&& 31)) &&& (1 : Int32)) = (0 : Int32) then (FP.l2d ay) else (FP.dneg (FP.l2d ay))) = dy
    intro hdy
    show Go p.tables e below Kx TJ98 (mkF m 136 #[.val (.int p0), .val (.int p1), .val (.int p2), .val (.int p3), .val (.long rr), .second, .val (.int md), .val (.long ax), .second, .val (.long ay), .second, .val (.double dx), .second, .unset, .unset, .unset, .unset, .unset, .unset, .unset] [(.double dy)])
    refine s_dstore (pc' := 138) (Ls' := #[.val (.int p0), .val (.int p1), .val (.int p2), .val (.int p3), .val (.long rr), .second, .val (.int md), .val (.long ax), .second, .val (.long ay), .second, .val (.double dx), .second, .val (.double dy), .second, .unset, .unset, .unset, .unset, .unset]) XJ98.here hx (hb hby at_136) rfl  rfl ?_
    refine s_lload (pc' := 140) XJ98.here hx (hb hby at_138) rfl rfl ?_
    refine s_lload (pc' := 142) XJ98.here hx (hb hby at_140) rfl rfl ?_
    refine s_lmul (pc' := 143) XJ98.here hx (hb hby at_142) rfl rfl ?_
    refine s_lload (pc' := 145) XJ98.here hx (hb hby at_143) rfl rfl ?_
    refine s_lload (pc' := 147) XJ98.here hx (hb hby at_145) rfl rfl ?_
    refine s_lmul (pc' := 148) XJ98.here hx (hb hby at_147) rfl rfl ?_
    refine s_ladd (pc' := 149) XJ98.here hx (hb hby at_148) rfl rfl ?_
    refine s_lstore (pc' := 151) (Ls' := #[.val (.int p0), .val (.int p1), .val (.int p2), .val (.int p3), .val (.long rr), .second, .val (.int md), .val (.long ax), .second, .val (.long ay), .second, .val (.double dx), .second, .val (.double dy), .second, .val (.long ((ax * ax) + (ay * ay))), .second, .unset, .unset, .unset]) XJ98.here hx (hb hby at_149) rfl  rfl ?_
    refine s_lload (pc' := 153) XJ98.here hx (hb hby at_151) rfl rfl ?_
    refine s_lload (pc' := 155) XJ98.here hx (hb hby at_153) rfl rfl ?_
    refine s_lmul (pc' := 156) XJ98.here hx (hb hby at_155) rfl rfl ?_
    refine s_lstore (pc' := 158) (Ls' := #[.val (.int p0), .val (.int p1), .val (.int p2), .val (.int p3), .val (.long rr), .second, .val (.int md), .val (.long ax), .second, .val (.long ay), .second, .val (.double dx), .second, .val (.double dy), .second, .val (.long ((ax * ax) + (ay * ay))), .second, .val (.long (rr * rr)), .second, .unset]) XJ98.here hx (hb hby at_156) rfl  rfl ?_
    refine s_dload (pc' := 160) XJ98.here hx (hb hby at_158) rfl rfl ?_
    refine s_dload (pc' := 162) XJ98.here hx (hb hby at_160) rfl rfl ?_
    refine s_lload (pc' := 164) XJ98.here hx (hb hby at_162) rfl rfl ?_
    refine s_l2d (pc' := 165) XJ98.here hx (hb hby at_164) rfl rfl ?_
    obtain ⟨_, _, ⟨T7, L7, k7, n7⟩, -, X7, ⟨Lc7, hQ7, l7, y7, z7⟩, st7⟩ := Jvm.LawKit.callS XJ98 hx (y := (⟨"com/example/wildebeest/wildebeest/simulation/Reach", "isBeyond", "(DDD)Z"⟩ : MethodName)) hown (mvT hZ (hw _ (List.mem_of_getElem? (i := 1) rfl))) (mvT hZ (hw _ (List.mem_of_getElem? (i := 2) rfl))) (mvT hZ (hw _ (List.mem_of_getElem? (i := 3) rfl))) (mvT hZ (hw _ (List.mem_of_getElem? (i := 4) rfl))) (by decide) (backOf (W := 0) (rmB l Z a0 hw [] dx dy (FP.l2d rr) (ax * ax) (ay * ay) (rr * rr) h0 n0 X00 hdx hdy (sqD hrr) (sqB hax) (sqB hay)) hZ (hw _ (List.mem_of_getElem? (i := 4) rfl)) (hw _ (List.mem_of_getElem? (i := 3) rfl)) (by decide) (by decide)) (g := (mkF m 165 #[.val (.int p0), .val (.int p1), .val (.int p2), .val (.int p3), .val (.long rr), .second, .val (.int md), .val (.long ax), .second, .val (.long ay), .second, .val (.double dx), .second, .val (.double dy), .second, .val (.long ((ax * ax) + (ay * ay))), .second, .val (.long (rr * rr)), .second, .unset] [(.double (FP.l2d rr)), (.double dy), (.double dx)])) rfl (by rw [hml]; rfl) (argsL := [(.double dx), (.double dy), (.double (FP.l2d rr))]) (rest := []) (lenOf pd_0 rfl) rfl (by show 2 * 0 + _ ≤ _; exact Nat.le_of_eq rfl) (hb hby at_165) (fun _ _ => ⟨rfl, eJ98, (by decide : 0 + 0 ≤ _), (by decide : 0 + 0 ≤ _)⟩)
    dsimp only [Pt.U, Pt.locs, Pt.cells, Pt.slots] at X7 l7 y7 z7 st7 hQ7
    rw [l7, y7, z7] at X7
    obtain ⟨⟨r7, rfl, hr7⟩, Nq7, hE7⟩ := hQ7
    rcases hr7 with ⟨rfl, hr7⟩ | ⟨rfl, hr7⟩
    · skip
      have N7 := Fr.app NJ98 Nq7
      refine Go.st st7 ?_
      show Go p.tables e below Kx T7 (mkF m 168 #[.val (.int p0), .val (.int p1), .val (.int p2), .val (.int p3), .val (.long rr), .second, .val (.int md), .val (.long ax), .second, .val (.long ay), .second, .val (.double dx), .second, .val (.double dy), .second, .val (.long ((ax * ax) + (ay * ay))), .second, .val (.long (rr * rr)), .second, .unset] [(.int (1 : Int32))])
      refine s_istore (pc' := 170) (Ls' := #[.val (.int p0), .val (.int p1), .val (.int p2), .val (.int p3), .val (.long rr), .second, .val (.int md), .val (.long ax), .second, .val (.long ay), .second, .val (.double dx), .second, .val (.double dy), .second, .val (.long ((ax * ax) + (ay * ay))), .second, .val (.long (rr * rr)), .second, .val (.int (1 : Int32))]) X7.here hx (hb hby at_168) rfl  rfl ?_
      refine s_lload (pc' := 172) X7.here hx (hb hby at_170) rfl rfl ?_
      refine s_lload (pc' := 174) X7.here hx (hb hby at_172) rfl rfl ?_
      refine s_lsub (pc' := 175) X7.here hx (hb hby at_174) rfl rfl ?_
      refine s_lload (pc' := 177) X7.here hx (hb hby at_175) rfl rfl ?_
      refine Go.st (X7.ldc2Long hx hown (mvT hZ (hw _ (List.mem_of_getElem? (i := 6) rfl))) (g := (mkF m 177 #[.val (.int p0), .val (.int p1), .val (.int p2), .val (.int p3), .val (.long rr), .second, .val (.int md), .val (.long ax), .second, .val (.long ay), .second, .val (.double dx), .second, .val (.double dy), .second, .val (.long ((ax * ax) + (ay * ay))), .second, .val (.long (rr * rr)), .second, .val (.int (1 : Int32))] [(.long (rr * rr)), (.long (((ax * ax) + (ay * ay)) - (rr * rr)))])) rfl (hb hby at_177)) ?_
      show Go p.tables e below Kx T7 (mkF m 180 #[.val (.int p0), .val (.int p1), .val (.int p2), .val (.int p3), .val (.long rr), .second, .val (.int md), .val (.long ax), .second, .val (.long ay), .second, .val (.double dx), .second, .val (.double dy), .second, .val (.long ((ax * ax) + (ay * ay))), .second, .val (.long (rr * rr)), .second, .val (.int (1 : Int32))] [(.long (2000000000 : Int64)), (.long (rr * rr)), (.long (((ax * ax) + (ay * ay)) - (rr * rr)))])
      refine s_ldiv (pc' := 181) X7.here hx (hb hby at_180) rfl (by decide) rfl ?_
      refine s_lcmp (pc' := 182) X7.here hx (hb hby at_181) rfl rfl ?_
      by_cases hc8 : (0 : Int32) < (lcmpW (((ax * ax) + (ay * ay)) - (rr * rr)) ((rr * rr) / (2000000000 : Int64)))
      · skip
        refine s_ifY (pc' := 196) X7.here hx (hb hby at_182) ((if0 _ _).trans (tlt hc8).2.2.1) (by decide) (by decide) ?_
        refine s_lload (pc' := 198) X7.here hx (hb hby at_196) rfl rfl ?_
        refine s_lload (pc' := 200) X7.here hx (hb hby at_198) rfl rfl ?_
        refine s_lsub (pc' := 201) X7.here hx (hb hby at_200) rfl rfl ?_
        refine Go.st (X7.ldc2Long hx hown (mvT hZ (hw _ (List.mem_of_getElem? (i := 7) rfl))) (g := (mkF m 201 #[.val (.int p0), .val (.int p1), .val (.int p2), .val (.int p3), .val (.long rr), .second, .val (.int md), .val (.long ax), .second, .val (.long ay), .second, .val (.double dx), .second, .val (.double dy), .second, .val (.long ((ax * ax) + (ay * ay))), .second, .val (.long (rr * rr)), .second, .val (.int (1 : Int32))] [(.long (((ax * ax) + (ay * ay)) - (rr * rr)))])) rfl (hb hby at_201)) ?_
        show Go p.tables e below Kx T7 (mkF m 204 #[.val (.int p0), .val (.int p1), .val (.int p2), .val (.int p3), .val (.long rr), .second, .val (.int md), .val (.long ax), .second, .val (.long ay), .second, .val (.double dx), .second, .val (.double dy), .second, .val (.long ((ax * ax) + (ay * ay))), .second, .val (.long (rr * rr)), .second, .val (.int (1 : Int32))] [(.long (2 : Int64)), (.long (((ax * ax) + (ay * ay)) - (rr * rr)))])
        refine s_lload (pc' := 206) X7.here hx (hb hby at_204) rfl rfl ?_
        refine Go.st (X7.ldc2Long hx hown (mvT hZ (hw _ (List.mem_of_getElem? (i := 8) rfl))) (g := (mkF m 206 #[.val (.int p0), .val (.int p1), .val (.int p2), .val (.int p3), .val (.long rr), .second, .val (.int md), .val (.long ax), .second, .val (.long ay), .second, .val (.double dx), .second, .val (.double dy), .second, .val (.long ((ax * ax) + (ay * ay))), .second, .val (.long (rr * rr)), .second, .val (.int (1 : Int32))] [(.long (rr * rr)), (.long (2 : Int64)), (.long (((ax * ax) + (ay * ay)) - (rr * rr)))])) rfl (hb hby at_206)) ?_
        show Go p.tables e below Kx T7 (mkF m 209 #[.val (.int p0), .val (.int p1), .val (.int p2), .val (.int p3), .val (.long rr), .second, .val (.int md), .val (.long ax), .second, .val (.long ay), .second, .val (.double dx), .second, .val (.double dy), .second, .val (.long ((ax * ax) + (ay * ay))), .second, .val (.long (rr * rr)), .second, .val (.int (1 : Int32))] [(.long (500000000 : Int64)), (.long (rr * rr)), (.long (2 : Int64)), (.long (((ax * ax) + (ay * ay)) - (rr * rr)))])
        refine s_ldiv (pc' := 210) X7.here hx (hb hby at_209) rfl (by decide) rfl ?_
        refine s_ladd (pc' := 211) X7.here hx (hb hby at_210) rfl rfl ?_
        refine s_lcmp (pc' := 212) X7.here hx (hb hby at_211) rfl rfl ?_
        by_cases hc9 : (lcmpW (((ax * ax) + (ay * ay)) - (rr * rr)) ((2 : Int64) + ((rr * rr) / (500000000 : Int64)))) < (0 : Int32)
        · skip
          refine s_ifY (pc' := 218) X7.here hx (hb hby at_212) ((if0 _ _).trans (tlt hc9).1) (by decide) (by decide) ?_
          refine s_iconst (pc' := 219) (v := (1 : Int32)) X7.here hx (hb hby at_218) rfl rfl ?_
          obtain ⟨fs, hr, hrun, hended, hW, hsame⟩ := X7.leave (v := (some (.int (1 : Int32)))) (fun h => by rw [Bd.returns] at h; cases h)
          refine Go.fin (retN X7 hx (t := .boolean) Bd.returns (by simp) (hb hby at_219) hr) (hF _ _ hrun hended ⟨_, _, rfl, ?_, ⟨_, rfl⟩, hW, hsame.mono (by decide) (by decide)⟩)
          · show QL Z p0 p1 p2 p3 h0 n0 ((some (.int (1 : Int32))) : Option Value) T7.heap _
            rw [hE7]
            exact ⟨rfl, N7⟩
        · skip
          refine s_ifN (pc' := 215) X7.here hx (hb hby at_212) rfl ((if0 _ _).trans (flt hc9).1) ?_
          refine s_iload (pc' := 217) X7.here hx (hb hby at_215) rfl rfl ?_
          obtain ⟨fs, hr, hrun, hended, hW, hsame⟩ := X7.leave (v := (some (.int (1 : Int32)))) (fun h => by rw [Bd.returns] at h; cases h)
          refine Go.fin (retN X7 hx (t := .boolean) Bd.returns (by simp) (hb hby at_217) hr) (hF _ _ hrun hended ⟨_, _, rfl, ?_, ⟨_, rfl⟩, hW, hsame.mono (by decide) (by decide)⟩)
          · show QL Z p0 p1 p2 p3 h0 n0 ((some (.int (1 : Int32))) : Option Value) T7.heap _
            rw [hE7]
            exact ⟨rfl, N7⟩
      · skip
        refine s_ifN (pc' := 185) X7.here hx (hb hby at_182) rfl ((if0 _ _).trans (flt hc8).2.2.1) ?_
        exact absurd hr7 (law1 hax hay hrr hc8)
    · skip
      have N7 := Fr.app NJ98 Nq7
      refine Go.st st7 ?_
      show Go p.tables e below Kx T7 (mkF m 168 #[.val (.int p0), .val (.int p1), .val (.int p2), .val (.int p3), .val (.long rr), .second, .val (.int md), .val (.long ax), .second, .val (.long ay), .second, .val (.double dx), .second, .val (.double dy), .second, .val (.long ((ax * ax) + (ay * ay))), .second, .val (.long (rr * rr)), .second, .unset] [(.int (0 : Int32))])
      refine s_istore (pc' := 170) (Ls' := #[.val (.int p0), .val (.int p1), .val (.int p2), .val (.int p3), .val (.long rr), .second, .val (.int md), .val (.long ax), .second, .val (.long ay), .second, .val (.double dx), .second, .val (.double dy), .second, .val (.long ((ax * ax) + (ay * ay))), .second, .val (.long (rr * rr)), .second, .val (.int (0 : Int32))]) X7.here hx (hb hby at_168) rfl  rfl ?_
      refine s_lload (pc' := 172) X7.here hx (hb hby at_170) rfl rfl ?_
      refine s_lload (pc' := 174) X7.here hx (hb hby at_172) rfl rfl ?_
      refine s_lsub (pc' := 175) X7.here hx (hb hby at_174) rfl rfl ?_
      refine s_lload (pc' := 177) X7.here hx (hb hby at_175) rfl rfl ?_
      refine Go.st (X7.ldc2Long hx hown (mvT hZ (hw _ (List.mem_of_getElem? (i := 6) rfl))) (g := (mkF m 177 #[.val (.int p0), .val (.int p1), .val (.int p2), .val (.int p3), .val (.long rr), .second, .val (.int md), .val (.long ax), .second, .val (.long ay), .second, .val (.double dx), .second, .val (.double dy), .second, .val (.long ((ax * ax) + (ay * ay))), .second, .val (.long (rr * rr)), .second, .val (.int (0 : Int32))] [(.long (rr * rr)), (.long (((ax * ax) + (ay * ay)) - (rr * rr)))])) rfl (hb hby at_177)) ?_
      show Go p.tables e below Kx T7 (mkF m 180 #[.val (.int p0), .val (.int p1), .val (.int p2), .val (.int p3), .val (.long rr), .second, .val (.int md), .val (.long ax), .second, .val (.long ay), .second, .val (.double dx), .second, .val (.double dy), .second, .val (.long ((ax * ax) + (ay * ay))), .second, .val (.long (rr * rr)), .second, .val (.int (0 : Int32))] [(.long (2000000000 : Int64)), (.long (rr * rr)), (.long (((ax * ax) + (ay * ay)) - (rr * rr)))])
      refine s_ldiv (pc' := 181) X7.here hx (hb hby at_180) rfl (by decide) rfl ?_
      refine s_lcmp (pc' := 182) X7.here hx (hb hby at_181) rfl rfl ?_
      by_cases hc10 : (0 : Int32) < (lcmpW (((ax * ax) + (ay * ay)) - (rr * rr)) ((rr * rr) / (2000000000 : Int64)))
      · skip
        refine s_ifY (pc' := 196) X7.here hx (hb hby at_182) ((if0 _ _).trans (tlt hc10).2.2.1) (by decide) (by decide) ?_
        refine s_lload (pc' := 198) X7.here hx (hb hby at_196) rfl rfl ?_
        refine s_lload (pc' := 200) X7.here hx (hb hby at_198) rfl rfl ?_
        refine s_lsub (pc' := 201) X7.here hx (hb hby at_200) rfl rfl ?_
        refine Go.st (X7.ldc2Long hx hown (mvT hZ (hw _ (List.mem_of_getElem? (i := 7) rfl))) (g := (mkF m 201 #[.val (.int p0), .val (.int p1), .val (.int p2), .val (.int p3), .val (.long rr), .second, .val (.int md), .val (.long ax), .second, .val (.long ay), .second, .val (.double dx), .second, .val (.double dy), .second, .val (.long ((ax * ax) + (ay * ay))), .second, .val (.long (rr * rr)), .second, .val (.int (0 : Int32))] [(.long (((ax * ax) + (ay * ay)) - (rr * rr)))])) rfl (hb hby at_201)) ?_
        show Go p.tables e below Kx T7 (mkF m 204 #[.val (.int p0), .val (.int p1), .val (.int p2), .val (.int p3), .val (.long rr), .second, .val (.int md), .val (.long ax), .second, .val (.long ay), .second, .val (.double dx), .second, .val (.double dy), .second, .val (.long ((ax * ax) + (ay * ay))), .second, .val (.long (rr * rr)), .second, .val (.int (0 : Int32))] [(.long (2 : Int64)), (.long (((ax * ax) + (ay * ay)) - (rr * rr)))])
        refine s_lload (pc' := 206) X7.here hx (hb hby at_204) rfl rfl ?_
        refine Go.st (X7.ldc2Long hx hown (mvT hZ (hw _ (List.mem_of_getElem? (i := 8) rfl))) (g := (mkF m 206 #[.val (.int p0), .val (.int p1), .val (.int p2), .val (.int p3), .val (.long rr), .second, .val (.int md), .val (.long ax), .second, .val (.long ay), .second, .val (.double dx), .second, .val (.double dy), .second, .val (.long ((ax * ax) + (ay * ay))), .second, .val (.long (rr * rr)), .second, .val (.int (0 : Int32))] [(.long (rr * rr)), (.long (2 : Int64)), (.long (((ax * ax) + (ay * ay)) - (rr * rr)))])) rfl (hb hby at_206)) ?_
        show Go p.tables e below Kx T7 (mkF m 209 #[.val (.int p0), .val (.int p1), .val (.int p2), .val (.int p3), .val (.long rr), .second, .val (.int md), .val (.long ax), .second, .val (.long ay), .second, .val (.double dx), .second, .val (.double dy), .second, .val (.long ((ax * ax) + (ay * ay))), .second, .val (.long (rr * rr)), .second, .val (.int (0 : Int32))] [(.long (500000000 : Int64)), (.long (rr * rr)), (.long (2 : Int64)), (.long (((ax * ax) + (ay * ay)) - (rr * rr)))])
        refine s_ldiv (pc' := 210) X7.here hx (hb hby at_209) rfl (by decide) rfl ?_
        refine s_ladd (pc' := 211) X7.here hx (hb hby at_210) rfl rfl ?_
        refine s_lcmp (pc' := 212) X7.here hx (hb hby at_211) rfl rfl ?_
        by_cases hc11 : (lcmpW (((ax * ax) + (ay * ay)) - (rr * rr)) ((2 : Int64) + ((rr * rr) / (500000000 : Int64)))) < (0 : Int32)
        · skip
          refine s_ifY (pc' := 218) X7.here hx (hb hby at_212) ((if0 _ _).trans (tlt hc11).1) (by decide) (by decide) ?_
          refine s_iconst (pc' := 219) (v := (1 : Int32)) X7.here hx (hb hby at_218) rfl rfl ?_
          obtain ⟨fs, hr, hrun, hended, hW, hsame⟩ := X7.leave (v := (some (.int (1 : Int32)))) (fun h => by rw [Bd.returns] at h; cases h)
          refine Go.fin (retN X7 hx (t := .boolean) Bd.returns (by simp) (hb hby at_219) hr) (hF _ _ hrun hended ⟨_, _, rfl, ?_, ⟨_, rfl⟩, hW, hsame.mono (by decide) (by decide)⟩)
          · show QL Z p0 p1 p2 p3 h0 n0 ((some (.int (1 : Int32))) : Option Value) T7.heap _
            rw [hE7]
            exact ⟨rfl, N7⟩
        · skip
          refine s_ifN (pc' := 215) X7.here hx (hb hby at_212) rfl ((if0 _ _).trans (flt hc11).1) ?_
          exact absurd (law2 hax hay hrr hc11) hr7
      · skip
        refine s_ifN (pc' := 185) X7.here hx (hb hby at_182) rfl ((if0 _ _).trans (flt hc10).2.2.1) ?_
        refine s_iload (pc' := 187) X7.here hx (hb hby at_185) rfl rfl ?_
        refine s_ifN (pc' := 190) X7.here hx (hb hby at_187) rfl ((if0 _ _).trans (teq (by decide)).2) ?_
        refine s_iconst (pc' := 191) (v := (1 : Int32)) X7.here hx (hb hby at_190) rfl rfl ?_
        refine s_goto (pc' := 195) X7.here hx (hb hby at_191) (by decide) (by decide) ?_
        obtain ⟨fs, hr, hrun, hended, hW, hsame⟩ := X7.leave (v := (some (.int (1 : Int32)))) (fun h => by rw [Bd.returns] at h; cases h)
        refine Go.fin (retN X7 hx (t := .boolean) Bd.returns (by simp) (hb hby at_195) hr) (hF _ _ hrun hended ⟨_, _, rfl, ?_, ⟨_, rfl⟩, hW, hsame.mono (by decide) (by decide)⟩)
        · show QL Z p0 p1 p2 p3 h0 n0 ((some (.int (1 : Int32))) : Option Value) T7.heap _
          rw [hE7]
          exact ⟨rfl, N7⟩
  refine s_iload (pc' := 14) X0.here hx (hb hby at_12) rfl rfl ?_
  by_cases hc12 : md = (0 : Int32)
  · skip
    refine s_ifN (pc' := 17) X0.here hx (hb hby at_14) rfl ((if0 _ _).trans (teq hc12).2) ?_
    refine s_iloadN (pc' := 18) X0.here hx (hb hby at_17) rfl rfl ?_
    refine Go.st (X0.ldcInt hx hown (mvT hZ (hw _ (List.mem_of_getElem? (i := 0) rfl))) (g := (mkF m 18 #[.val (.int p0), .val (.int p1), .val (.int p2), .val (.int p3), .val (.long rr), .second, .val (.int md), .unset, .unset, .unset, .unset, .unset, .unset, .unset, .unset, .unset, .unset, .unset, .unset, .unset] [(.int p0)])) rfl (hb hby at_18)) ?_
    show Go p.tables e below Kx s₁ (mkF m 20 #[.val (.int p0), .val (.int p1), .val (.int p2), .val (.int p3), .val (.long rr), .second, .val (.int md), .unset, .unset, .unset, .unset, .unset, .unset, .unset, .unset, .unset, .unset, .unset, .unset, .unset] [(.int (33554431 : Int32)), (.int p0)])
    refine s_iand (pc' := 21) X0.here hx (hb hby at_20) rfl rfl ?_
    refine s_i2l (pc' := 22) X0.here hx (hb hby at_21) rfl rfl ?_
    refine s_lstore (pc' := 24) (Ls' := #[.val (.int p0), .val (.int p1), .val (.int p2), .val (.int p3), .val (.long rr), .second, .val (.int md), .val (.long ((p0 &&& (33554431 : Int32)).toInt64)), .second, .unset, .unset, .unset, .unset, .unset, .unset, .unset, .unset, .unset, .unset, .unset]) X0.here hx (hb hby at_22) rfl  rfl ?_
    refine s_iloadN (pc' := 25) X0.here hx (hb hby at_24) rfl rfl ?_
    refine Go.st (X0.ldcInt hx hown (mvT hZ (hw _ (List.mem_of_getElem? (i := 0) rfl))) (g := (mkF m 25 #[.val (.int p0), .val (.int p1), .val (.int p2), .val (.int p3), .val (.long rr), .second, .val (.int md), .val (.long ((p0 &&& (33554431 : Int32)).toInt64)), .second, .unset, .unset, .unset, .unset, .unset, .unset, .unset, .unset, .unset, .unset, .unset] [(.int p1)])) rfl (hb hby at_25)) ?_
    show Go p.tables e below Kx s₁ (mkF m 27 #[.val (.int p0), .val (.int p1), .val (.int p2), .val (.int p3), .val (.long rr), .second, .val (.int md), .val (.long ((p0 &&& (33554431 : Int32)).toInt64)), .second, .unset, .unset, .unset, .unset, .unset, .unset, .unset, .unset, .unset, .unset, .unset] [(.int (33554431 : Int32)), (.int p1)])
    refine s_iand (pc' := 28) X0.here hx (hb hby at_27) rfl rfl ?_
    refine s_i2l (pc' := 29) X0.here hx (hb hby at_28) rfl rfl ?_
    refine s_lstore (pc' := 31) (Ls' := #[.val (.int p0), .val (.int p1), .val (.int p2), .val (.int p3), .val (.long rr), .second, .val (.int md), .val (.long ((p0 &&& (33554431 : Int32)).toInt64)), .second, .val (.long ((p1 &&& (33554431 : Int32)).toInt64)), .second, .unset, .unset, .unset, .unset, .unset, .unset, .unset, .unset, .unset]) X0.here hx (hb hby at_29) rfl  rfl ?_
    refine s_goto (pc' := 98) X0.here hx (hb hby at_31) (by decide) (by decide) ?_
    exact J98 ((p0 &&& (33554431 : Int32)).toInt64) ((p1 &&& (33554431 : Int32)).toInt64) _ _ X0 N0 e0 (in_mask p0 33554431 25 (by decide) (by decide)) (in_mask p1 33554431 25 (by decide) (by decide))
  · skip
    refine s_ifY (pc' := 34) X0.here hx (hb hby at_14) ((if0 _ _).trans (feq hc12).2) (by decide) (by decide) ?_
    refine s_iload (pc' := 36) X0.here hx (hb hby at_34) rfl rfl ?_
    refine s_iconst (pc' := 37) (v := (1 : Int32)) X0.here hx (hb hby at_36) rfl rfl ?_
    by_cases hc13 : md = (1 : Int32)
    · skip
      refine s_icmpN (pc' := 40) X0.here hx (hb hby at_37) rfl (teq hc13).2 ?_
      refine s_iloadN (pc' := 41) X0.here hx (hb hby at_40) rfl rfl ?_
      refine s_sipush (pc' := 44) (v := (4095 : Int32)) X0.here hx (hb hby at_41) rfl rfl ?_
      refine s_iand (pc' := 45) X0.here hx (hb hby at_44) rfl rfl ?_
      refine s_i2l (pc' := 46) X0.here hx (hb hby at_45) rfl rfl ?_
      refine s_lstore (pc' := 48) (Ls' := #[.val (.int p0), .val (.int p1), .val (.int p2), .val (.int p3), .val (.long rr), .second, .val (.int md), .val (.long ((p0 &&& (4095 : Int32)).toInt64)), .second, .unset, .unset, .unset, .unset, .unset, .unset, .unset, .unset, .unset, .unset, .unset]) X0.here hx (hb hby at_46) rfl  rfl ?_
      refine s_lload (pc' := 50) X0.here hx (hb hby at_48) rfl rfl ?_
      refine s_lstore (pc' := 52) (Ls' := #[.val (.int p0), .val (.int p1), .val (.int p2), .val (.int p3), .val (.long rr), .second, .val (.int md), .val (.long ((p0 &&& (4095 : Int32)).toInt64)), .second, .val (.long rr), .second, .unset, .unset, .unset, .unset, .unset, .unset, .unset, .unset, .unset]) X0.here hx (hb hby at_50) rfl  rfl ?_
      refine s_goto (pc' := 98) X0.here hx (hb hby at_52) (by decide) (by decide) ?_
      exact J98 ((p0 &&& (4095 : Int32)).toInt64) rr _ _ X0 N0 e0 (in_mask p0 4095 12 (by decide) (by decide)) hrr
    · skip
      refine s_icmpY (pc' := 55) X0.here hx (hb hby at_37) (feq hc13).2 (by decide) (by decide) ?_
      refine s_iload (pc' := 57) X0.here hx (hb hby at_55) rfl rfl ?_
      refine s_iconst (pc' := 58) (v := (2 : Int32)) X0.here hx (hb hby at_57) rfl rfl ?_
      by_cases hc14 : md = (2 : Int32)
      · skip
        refine s_icmpN (pc' := 61) X0.here hx (hb hby at_58) rfl (teq hc14).2 ?_
        refine s_lload (pc' := 63) X0.here hx (hb hby at_61) rfl rfl ?_
        refine s_lstore (pc' := 65) (Ls' := #[.val (.int p0), .val (.int p1), .val (.int p2), .val (.int p3), .val (.long rr), .second, .val (.int md), .val (.long rr), .second, .unset, .unset, .unset, .unset, .unset, .unset, .unset, .unset, .unset, .unset, .unset]) X0.here hx (hb hby at_63) rfl  rfl ?_
        refine s_iloadN (pc' := 66) X0.here hx (hb hby at_65) rfl rfl ?_
        refine s_sipush (pc' := 69) (v := (4095 : Int32)) X0.here hx (hb hby at_66) rfl rfl ?_
        refine s_iand (pc' := 70) X0.here hx (hb hby at_69) rfl rfl ?_
        refine s_i2l (pc' := 71) X0.here hx (hb hby at_70) rfl rfl ?_
        refine s_lstore (pc' := 73) (Ls' := #[.val (.int p0), .val (.int p1), .val (.int p2), .val (.int p3), .val (.long rr), .second, .val (.int md), .val (.long rr), .second, .val (.long ((p0 &&& (4095 : Int32)).toInt64)), .second, .unset, .unset, .unset, .unset, .unset, .unset, .unset, .unset, .unset]) X0.here hx (hb hby at_71) rfl  rfl ?_
        refine s_goto (pc' := 98) X0.here hx (hb hby at_73) (by decide) (by decide) ?_
        exact J98 rr ((p0 &&& (4095 : Int32)).toInt64) _ _ X0 N0 e0 hrr (in_mask p0 4095 12 (by decide) (by decide))
      · skip
        refine s_icmpY (pc' := 76) X0.here hx (hb hby at_58) (feq hc14).2 (by decide) (by decide) ?_
        refine s_lload (pc' := 78) X0.here hx (hb hby at_76) rfl rfl ?_
        refine s_iloadN (pc' := 79) X0.here hx (hb hby at_78) rfl rfl ?_
        refine s_sipush (pc' := 82) (v := (4095 : Int32)) X0.here hx (hb hby at_79) rfl rfl ?_
        refine s_iand (pc' := 83) X0.here hx (hb hby at_82) rfl rfl ?_
        refine s_i2l (pc' := 84) X0.here hx (hb hby at_83) rfl rfl ?_
        refine s_lsub (pc' := 85) X0.here hx (hb hby at_84) rfl rfl ?_
        refine s_lconst (pc' := 86) (v := (0 : Int64)) X0.here hx (hb hby at_85) rfl rfl ?_
        obtain ⟨_, _, ⟨T15, L15, k15, n15⟩, -, X15, ⟨Lc15, hQ15, l15, y15, z15⟩, st15⟩ := Jvm.LawKit.callS X0 hx (y := (⟨"java/lang/Math", "max", "(JJ)J"⟩ : MethodName)) hown (mvT hZ (hw _ (List.mem_of_getElem? (i := 9) rfl))) (mvT hZ (hw _ (List.mem_of_getElem? (i := 10) rfl))) (mvT hZ (hw _ (List.mem_of_getElem? (i := 11) rfl))) (mvT hZ (hw _ (List.mem_of_getElem? (i := 12) rfl))) (by decide) (backOf (W := 0) (rmM l Z a0 hw [] (rr - ((p0 &&& (4095 : Int32)).toInt64)) (0 : Int64) h0 n0 X00 ) hZ (hw _ (List.mem_of_getElem? (i := 12) rfl)) (hw _ (List.mem_of_getElem? (i := 11) rfl)) (by decide) (by decide)) (g := (mkF m 86 #[.val (.int p0), .val (.int p1), .val (.int p2), .val (.int p3), .val (.long rr), .second, .val (.int md), .unset, .unset, .unset, .unset, .unset, .unset, .unset, .unset, .unset, .unset, .unset, .unset, .unset] [(.long (0 : Int64)), (.long (rr - ((p0 &&& (4095 : Int32)).toInt64)))])) rfl (by rw [hml]; rfl) (argsL := [(.long (rr - ((p0 &&& (4095 : Int32)).toInt64))), (.long (0 : Int64))]) (rest := []) (lenOf pd_1 rfl) rfl (by show 2 * 0 + _ ≤ _; exact Nat.le_of_eq rfl) (hb hby at_86) (fun _ _ => ⟨rfl, e0, (by decide : 0 + 0 ≤ _), (by decide : 0 + 0 ≤ _)⟩)
        dsimp only [Pt.U, Pt.locs, Pt.cells, Pt.slots] at X15 l15 y15 z15 st15 hQ15
        rw [l15, y15, z15] at X15
        obtain ⟨⟨r15, rfl, hr15⟩, Nq15, hE15⟩ := hQ15
        have hi15 : In r15 := in_max hrr (in_mask p0 4095 12 (by decide) (by decide)) hr15
        have N15 := Fr.app N0 Nq15
        refine Go.st st15 ?_
        show Go p.tables e below Kx T15 (mkF m 89 #[.val (.int p0), .val (.int p1), .val (.int p2), .val (.int p3), .val (.long rr), .second, .val (.int md), .unset, .unset, .unset, .unset, .unset, .unset, .unset, .unset, .unset, .unset, .unset, .unset, .unset] [(.long r15)])
        refine s_lstore (pc' := 91) (Ls' := #[.val (.int p0), .val (.int p1), .val (.int p2), .val (.int p3), .val (.long rr), .second, .val (.int md), .val (.long r15), .second, .unset, .unset, .unset, .unset, .unset, .unset, .unset, .unset, .unset, .unset, .unset]) X15.here hx (hb hby at_89) rfl  rfl ?_
        refine s_iloadN (pc' := 92) X15.here hx (hb hby at_91) rfl rfl ?_
        refine Go.st (X15.ldcInt hx hown (mvT hZ (hw _ (List.mem_of_getElem? (i := 13) rfl))) (g := (mkF m 92 #[.val (.int p0), .val (.int p1), .val (.int p2), .val (.int p3), .val (.long rr), .second, .val (.int md), .val (.long r15), .second, .unset, .unset, .unset, .unset, .unset, .unset, .unset, .unset, .unset, .unset, .unset] [(.int p1)])) rfl (hb hby at_92)) ?_
        show Go p.tables e below Kx T15 (mkF m 94 #[.val (.int p0), .val (.int p1), .val (.int p2), .val (.int p3), .val (.long rr), .second, .val (.int md), .val (.long r15), .second, .unset, .unset, .unset, .unset, .unset, .unset, .unset, .unset, .unset, .unset, .unset] [(.int (65535 : Int32)), (.int p1)])
        refine s_iand (pc' := 95) X15.here hx (hb hby at_94) rfl rfl ?_
        refine s_i2l (pc' := 96) X15.here hx (hb hby at_95) rfl rfl ?_
        refine s_lstore (pc' := 98) (Ls' := #[.val (.int p0), .val (.int p1), .val (.int p2), .val (.int p3), .val (.long rr), .second, .val (.int md), .val (.long r15), .second, .val (.long ((p1 &&& (65535 : Int32)).toInt64)), .second, .unset, .unset, .unset, .unset, .unset, .unset, .unset, .unset, .unset]) X15.here hx (hb hby at_96) rfl  rfl ?_
        exact J98 r15 ((p1 &&& (65535 : Int32)).toInt64) _ _ X15 N15 hE15 hi15 (in_mask p1 65535 16 (by decide) (by decide))
set_option maxRecDepth 65536 in
set_option maxHeartbeats 40000000 in
theorem comes_1 {Post : Tables → Env → Array Value → State → Outcome → State → Prop} (hpost : ∀ tb e args s v u, (limb_1_1.after args s (.returned v) u = true ∧ limb_1_2.after args s (.returned v) u = true ∧ True) → FrameEnd s (.returned v) u (Jvm.fieldLocs frame_1_writes args s ++ Jvm.arrayLocs frame_1_arrays args s ++ Jvm.staticLocs frame_1_statics s) 0 0 → Post tb e args s (.returned v) u) :
    ArmFor flags0 classFile x code maxLocals ret World_1 tables_1 room_1 Calls_1 rest_1 Pre_1 Post := by
  intro l hfl _ _ p e ha hc hk s m args below hf hA hF happ hP
  obtain ⟨hcalls, hrest, hpre⟩ := hP
  obtain ⟨-, -, -, hnamed, -, -, -, hat⟩ := (Spec.applies_iff hf).mp happ
  obtain ⟨hg, hn⟩ := and_e (Cond.before_iff.mp (show (Jvm.Cond.and given_1 narrow_1).before args s = true from hpre))
  obtain ⟨hcount, hgs⟩ := and_e hg
  obtain ⟨hi0, hgs'⟩ := and_e hgs
  obtain ⟨hi1, hgs''⟩ := and_e hgs'
  obtain ⟨hi2, hgs'''⟩ := and_e hgs''
  have hi3 := hgs'''
  obtain ⟨w0, w1, w2, w3, rfl⟩ : ∃ w0 w1 w2 w3 : Value, args = #[w0, w1, w2, w3] := by
    have hs : args.size = 4 := by simpa [Cond.value, given_1] using hcount
    obtain ⟨L⟩ := args
    match L, hs with
    | [w0, w1, w2, w3], _ => exact ⟨w0, w1, w2, w3, rfl⟩
  have hw := fun d (hd : d ∈ tables_1) => atoms_spec (ws := Jvm.Cond.code x code maxLocals ret :: tables_1) hat d (List.mem_cons_of_mem _ hd)
  have hfit : Fit s := fun {y c} hc i hi => by
    obtain ⟨ha, rfl⟩ := Array.getElem?_eq_some_iff.mp hc
    have q := List.all_eq_true.mp ((Array.all_eq_true_iff_forall_mem.mp hF) _ (Array.getElem_mem ha)) i (List.mem_range.mpr hi)
    simpa [Array.getElem?_eq_getElem hi] using q
  obtain ⟨i0, ei0⟩ := is_v hi0
  obtain rfl : w0 = (.int i0) := Option.some.inj ei0
  obtain ⟨i1, ei1⟩ := is_v hi1
  obtain rfl : w1 = (.int i1) := Option.some.inj ei1
  obtain ⟨i2, ei2⟩ := is_v hi2
  obtain rfl : w2 = (.int i2) := Option.some.inj ei2
  obtain ⟨i3, ei3⟩ := is_v hi3
  obtain rfl : w3 = (.int i3) := Option.some.inj ei3
  obtain ⟨n, o, h1, h2, h3, _, L, rfl, ⟨rfl, N⟩, hq⟩ := rmL l s _ hw tables_1 i0 i1 i2 i3 s.heap s.heap.size (Old.start s) p e ha hc hk s m _ below hf ((Spec.applies_iff_loose hf).mp happ).1 ⟨rfl, State.Warmed39.refl s, rfl⟩ trivial
  refine ⟨n, _, h1, h2, h3, hpost _ _ _ _ _ _ ⟨Cond.after_iff.mpr rfl, Cond.after_iff.mpr (eq_i res_at (Term.int_eval (1)) rfl), trivial⟩ ⟨hq.1, hq.2.1, (hq.2.2.sift fun y hy => Or.inr (N y hy)).mono (by decide) (by decide)⟩⟩
theorem main_1_1 : Claimed_1_1 := comes_1 fun _ _ _ _ _ _ h hF => ⟨h.1, hF⟩
theorem main_1_2 : Claimed_1_2 := comes_1 fun _ _ _ _ _ _ h hF => ⟨h.2.1, hF⟩
end Jvm.Pilot.@@N@@
namespace Jvm.Pilot.@@N@@
open Jvm Jvm.ClassFile Sem Op Lib Jvm.Free Jvm.Stand Jvm.Pilot.@@N@@.Jvm.D
/-! MADE BY PROGRAM (witnessworld.py) out of the Statement's table words and the real class files: 10 classes; the members and pool entries that the words name. The judged class is class 1, her method 1. -/
namespace start1
open Jvm.ClassFile
def u (s : String) : CpInfo := .utf8 (stringToUtf16 s)
/-- a pool by its gaps: so many unusable entries, then the entry; so many at the end -/
def gap : Nat → List CpInfo → List CpInfo
  | 0, r => r
  | n + 1, r => .unusable :: gap n r
def poolList (es : List (Nat × CpInfo)) (last : Nat) : List CpInfo := es.foldr (fun e r => gap e.1 (e.2 :: r)) (gap last [])
def pool (es : List (Nat × CpInfo)) (last : Nat) : Array CpInfo := ⟨poolList es last⟩
def fileOf (pool : Array CpInfo) (this : Nat) (attrs : Array Attribute := #[]) (ms : Array MethodInfo := #[]) (fl : Nat := 33) (sup : Nat := 0) (ifs : Array Nat := #[]) (fds : Array FieldInfo := #[]) : ClassFile where
  minorVersion := 0
  majorVersion := 65
  constantPool := pool
  accessFlags := fl
  thisClass := this
  superClass := sup
  interfaces := ifs
  fields := fds
  methods := ms
  attributes := attrs
def plain (name : String) (sup : Option ClassId) : Class where
  name := name
  kind := .ordinary
  loader := none
  accessFlags := 33
  super := sup
  interfaces := #[]
  cf := none
  fields := #[]
  methods := #[]
  instanceTypes := #[]
  staticTypes := #[]
  resolved := #[]
  callSites := []
  init := .initialized
  statics := none
  mirror := none

def pool0 : Array CpInfo := pool [(5, u "<init>"), (0, u "()V"), (1, .class_ 10), (1, u "java/lang/Object")] 113

def k0m0 : Method := { name := "<init>", desc := "()V", sig := { parameters := [], returnType := none }, accessFlags := 1, code := none }
/-- java/lang/Object -/
def k0 : Class := { plain "java/lang/Object" none with
  accessFlags := 33
  interfaces := #[]
  cf := some (fileOf pool0 8 #[] #[{ accessFlags := 1, nameIndex := 5, descriptorIndex := 6, attributes := #[] }] 33 0 #[] #[])
  fields := #[]
  methods := #[k0m0]
  instanceTypes := #[]
  staticTypes := #[]
  resolved := Array.replicate 124 none
  statics := none }

def pool1 : Array CpInfo := pool [(2, .class_ 4), (1, u "java/lang/Object"), (0, u "<init>"), (0, u "()V"), (0, .integer 33554431), (0, .methodref 9 10), (0, .class_ 11), (0, .nameAndType 12 13), (0, u "java/lang/Math"), (0, u "max"), (0, u "(JJ)J"), (0, .integer 65535), (0, .methodref 16 17), (0, .class_ 18), (0, .nameAndType 19 20), (0, u "com/example/wildebeest/wildebeest/simulation/Reach"), (0, u "isBeyond"), (0, u "(DDD)Z"), (0, .long 2000000000), (1, .long 2), (1, .long 500000000), (1, .class_ 28), (0, u "com/example/wildebeest/wildebeest/simulation/ReachIsBeyondPinLaw"), (2, u "law"), (0, u "(IIII)Z")] 3

def k1m0 : Method := { name := "<init>", desc := "()V", sig := { parameters := [], returnType := none }, accessFlags := 2, code := none }
def k1c1 : Code := { maxStack := 8, maxLocals := 20, code := code, exceptionTable := #[], attributes := #[] }
def k1m1 : Method := { name := "law", desc := "(IIII)Z", sig := { parameters := [.int, .int, .int, .int], returnType := some .boolean }, accessFlags := 9, code := some k1c1 }
/-- com/example/wildebeest/wildebeest/simulation/ReachIsBeyondPinLaw -/
def k1 : Class := { plain "com/example/wildebeest/wildebeest/simulation/ReachIsBeyondPinLaw" (some 0) with
  accessFlags := 49
  interfaces := #[]
  cf := some (fileOf pool1 27 #[] #[{ accessFlags := 2, nameIndex := 5, descriptorIndex := 6, attributes := #[] }, { accessFlags := 9, nameIndex := 31, descriptorIndex := 32, attributes := #[] }] 49 2 #[] #[])
  fields := #[]
  methods := #[k1m0, k1m1]
  instanceTypes := #[]
  staticTypes := #[]
  resolved := Array.replicate 36 none
  statics := none }

def pool2 : Array CpInfo := pool [(2, .class_ 4), (1, u "java/lang/Object"), (0, u "<init>"), (0, u "()V"), (0, .class_ 8), (0, u "com/example/wildebeest/wildebeest/simulation/Reach"), (0, .double 4607182418804521008), (1, u "SLACK"), (0, u "D"), (5, u "isBeyond"), (0, u "(DDD)Z")] 3

def k2m0 : Method := { name := "<init>", desc := "()V", sig := { parameters := [], returnType := none }, accessFlags := 2, code := none }
def k2c1 : Code := { maxStack := 6, maxLocals := 6, code := prog_22_method_2_code, exceptionTable := #[], attributes := #[] }
def k2m1 : Method := { name := "isBeyond", desc := "(DDD)Z", sig := { parameters := [.double, .double, .double], returnType := some .boolean }, accessFlags := 8, code := some k2c1 }
/-- com/example/wildebeest/wildebeest/simulation/Reach -/
def k2 : Class := { plain "com/example/wildebeest/wildebeest/simulation/Reach" (some 0) with
  accessFlags := 48
  interfaces := #[]
  cf := some (fileOf pool2 7 #[] #[{ accessFlags := 2, nameIndex := 5, descriptorIndex := 6, attributes := #[] }, { accessFlags := 8, nameIndex := 18, descriptorIndex := 19, attributes := #[] }] 48 2 #[] #[{ accessFlags := 26, nameIndex := 11, descriptorIndex := 12, attributes := #[] }])
  fields := #[{ name := "SLACK", type := .double, accessFlags := 26, slot := 0, constantValue := 0 }]
  methods := #[k2m0, k2m1]
  instanceTypes := #[]
  staticTypes := #[.double]
  resolved := Array.replicate 23 none
  statics := none }

def pool3 : Array CpInfo := pool [(1, .class_ 2), (0, u "java/lang/Math"), (1, .class_ 6), (1, u "java/lang/Object"), (0, u "<init>"), (0, u "()V"), (89, .class_ 100), (1, u "java/lang/Math$RandomNumberGeneratorHolder"), (20, u "(JJ)J"), (50, u "negativeZeroFloatBits"), (0, u "J"), (2, u "negativeZeroDoubleBits"), (21, u "max"), (46, u "$assertionsDisabled"), (0, u "Z"), (91, u "twoToTheDoubleScaleDown"), (0, u "D"), (4, u "twoToTheDoubleScaleUp"), (9, u "E"), (3, u "PI"), (2, u "TAU"), (2, u "DEGREES_TO_RADIANS"), (0, u "RADIANS_TO_DEGREES")] 94

def k3m0 : Method := { name := "<init>", desc := "()V", sig := { parameters := [], returnType := none }, accessFlags := 2, code := none }
def k3c1 : Code := { maxStack := 4, maxLocals := 4, code := jdk_29_method_66_code, exceptionTable := #[], attributes := #[] }
def k3m1 : Method := { name := "max", desc := "(JJ)J", sig := { parameters := [.long, .long], returnType := some .long }, accessFlags := 9, code := some k3c1 }
/-- java/lang/Math -/
def k3 : Class := { plain "java/lang/Math" (some 0) with
  accessFlags := 49
  interfaces := #[]
  cf := some (fileOf pool3 1 #[.nestMembers #[98]] #[{ accessFlags := 2, nameIndex := 7, descriptorIndex := 8, attributes := #[] }, { accessFlags := 9, nameIndex := 198, descriptorIndex := 121, attributes := #[] }] 49 4 #[] #[{ accessFlags := 25, nameIndex := 354, descriptorIndex := 339, attributes := #[] }, { accessFlags := 25, nameIndex := 358, descriptorIndex := 339, attributes := #[] }, { accessFlags := 25, nameIndex := 361, descriptorIndex := 339, attributes := #[] }, { accessFlags := 26, nameIndex := 364, descriptorIndex := 339, attributes := #[] }, { accessFlags := 26, nameIndex := 365, descriptorIndex := 339, attributes := #[] }, { accessFlags := 26, nameIndex := 172, descriptorIndex := 173, attributes := #[] }, { accessFlags := 26, nameIndex := 176, descriptorIndex := 173, attributes := #[] }, { accessFlags := 8, nameIndex := 344, descriptorIndex := 339, attributes := #[] }, { accessFlags := 8, nameIndex := 338, descriptorIndex := 339, attributes := #[] }, { accessFlags := 4120, nameIndex := 245, descriptorIndex := 246, attributes := #[] }])
  fields := #[{ name := "E", type := .double, accessFlags := 25, slot := 0, constantValue := 0 }, { name := "PI", type := .double, accessFlags := 25, slot := 1, constantValue := 0 }, { name := "TAU", type := .double, accessFlags := 25, slot := 2, constantValue := 0 }, { name := "DEGREES_TO_RADIANS", type := .double, accessFlags := 26, slot := 3, constantValue := 0 }, { name := "RADIANS_TO_DEGREES", type := .double, accessFlags := 26, slot := 4, constantValue := 0 }, { name := "negativeZeroFloatBits", type := .long, accessFlags := 26, slot := 5, constantValue := 0 }, { name := "negativeZeroDoubleBits", type := .long, accessFlags := 26, slot := 6, constantValue := 0 }, { name := "twoToTheDoubleScaleUp", type := .double, accessFlags := 8, slot := 7, constantValue := 0 }, { name := "twoToTheDoubleScaleDown", type := .double, accessFlags := 8, slot := 8, constantValue := 0 }, { name := "$assertionsDisabled", type := .boolean, accessFlags := 4120, slot := 9, constantValue := 0 }]
  methods := #[k3m0, k3m1]
  instanceTypes := #[]
  staticTypes := #[.double, .double, .double, .double, .double, .long, .long, .double, .double, .boolean]
  resolved := Array.replicate 460 none
  statics := none }

def pool4 : Array CpInfo := pool [(1, u "java/lang/Cloneable"), (0, .class_ 1), (0, u "java/lang/Object"), (0, .class_ 3)] 3

/-- java/lang/Cloneable -/
def k4 : Class := { plain "java/lang/Cloneable" (some 0) with
  accessFlags := 1537
  interfaces := #[]
  cf := some (fileOf pool4 2 #[] #[] 1537 4 #[] #[])
  fields := #[]
  methods := #[]
  instanceTypes := #[]
  staticTypes := #[]
  resolved := Array.replicate 8 none
  statics := none }

def pool5 : Array CpInfo := pool [(1, u "java/io/Serializable"), (0, .class_ 1), (0, u "java/lang/Object"), (0, .class_ 3)] 3

/-- java/io/Serializable -/
def k5 : Class := { plain "java/io/Serializable" (some 0) with
  accessFlags := 1537
  interfaces := #[]
  cf := some (fileOf pool5 2 #[] #[] 1537 4 #[] #[])
  fields := #[]
  methods := #[]
  instanceTypes := #[]
  staticTypes := #[]
  resolved := Array.replicate 8 none
  statics := none }

/-- the primitive byte -/
def k6 : Class := { plain "byte" none with kind := .primitive 'B', accessFlags := 0x411 }
/-- [B -/
def k7 : Class := { plain "[B" (some 0) with kind := .array 6 .byte, interfaces := #[4, 5], accessFlags := 1041 }

/-- the primitive int -/
def k8 : Class := { plain "int" none with kind := .primitive 'I', accessFlags := 0x411 }
/-- [I -/
def k9 : Class := { plain "[I" (some 0) with kind := .array 8 .int, interfaces := #[4, 5], accessFlags := 1041 }

def heap : Heap := #[]
def classes : Array Class := #[k0, k1, k2, k3, k4, k5, k6, k7, k8, k9]
def interned : List (Array UInt16 × Addr) := []
def slotsUsed : Nat := 0
def theMethod : MethodId := ⟨1, 1⟩
def args0 : Array Value := #[.int 5, .int 7, .int 3, .int 2]
def aboutOver (below : List Frame) : State where
  vm := { classes := classes, interned := interned.toArray }
  heap := heap
  slotsUsed := slotsUsed
  threads := #[{ frames := .invoking theMethod args0 :: below }]
def below0 : List Frame := [.native { method := ⟨0, 0⟩, args := #[] }]
def about1 : State := aboutOver below0
def p0 : Program := .bare "" "" ""
def e0 : Env := launch0.env 0 0 0
theorem w_frames : about1.frames = Frame.invoking theMethod args0 :: below0 := rfl
set_option maxRecDepth 65536 in
theorem w_args : argsFit about1.vm theMethod args0 = true := by decide +kernel
set_option maxRecDepth 65536 in
theorem w_heap : heapFits about1 = true := by decide +kernel
set_option maxRecDepth 65536 in
theorem w_runnable : about1.curStatus? = some .runnable := by decide +kernel
set_option maxRecDepth 65536 in
theorem w_alone : about1.alone = true := by decide +kernel
set_option maxRecDepth 65536 in
theorem w_named : about1.methodNamed? x = some theMethod := by decide +kernel
set_option maxRecDepth 65536 in
theorem w_hears : about1.hears theMethod below0 = true := by decide +kernel
set_option maxRecDepth 65536 in
theorem w_ripe : about1.ripe theMethod args0 below0 = true := by decide +kernel
theorem w_running : about1.status = .running := rfl
set_option maxRecDepth 65536 in
theorem w_room : about1.hasRoom e0.platform room_1 = true :=
  launch0.hasRoom_least _ room_1 (by decide +kernel) (by decide +kernel) (by decide +kernel) (by decide +kernel) (by decide +kernel) (by decide +kernel)
theorem allAtoms_all (ts : List Jvm.Cond) (a : Array Jvm.Value) (st : Jvm.State) : (allAtoms ts).before a st = ts.all (fun c => c.before a st) := by
  induction ts with
  | nil => rfl
  | cons c t ih =>
    show (Jvm.Cond.and c (allAtoms t)).before a st = _
    rw [Jvm.Cond.before_and, ih, List.all_cons]
def words1 : List Jvm.Cond := Jvm.Cond.code x code maxLocals ret :: tables_1
/-- a 'code' word, met by the world's own term for the bytes: nothing is compared byte by byte -/
theorem code_word {y : MethodName} {bytes : ByteArray} {mx : Nat} {rt : Option FieldType} {a : Array Value} {s : State} {m : MethodId} {meth : Method} {c : Code} (h1 : s.methodNamed? y = some m) (h2 : s.vm.method? m = some meth) (h3 : meth.code = some c) (h4 : c.code = bytes)
    (h5 : (c.maxLocals == mx && c.exceptionTable.isEmpty && decide (c.maxStack ≤ mostOperands) && decide (meth.sig.returnType = rt) && !meth.locks && decide (parseMethodDescriptor y.desc = some meth.sig)) = true) : (Jvm.Cond.code y bytes mx rt).before a s = true := by
  simp only [Bool.and_eq_true, beq_iff_eq, Bool.not_eq_true', decide_eq_true_eq] at h5
  obtain ⟨⟨⟨⟨⟨g1, g2⟩, g3⟩, g4⟩, g5⟩, g6⟩ := h5
  simp [Cond.before, Cond.holds, Cond.value, h1, h2, h3, h4, g1, g2, g3, g4, g5, g6]
def isCode : Jvm.Cond → Bool
  | .code _ _ _ _ => true
  | _ => false
theorem all_split {L : List Jvm.Cond} {P : Jvm.Cond → Bool} (h1 : L.all (fun c => isCode c || P c) = true) (h2 : ∀ c ∈ L.filter isCode, P c = true) : L.all P = true := by
  refine List.all_eq_true.mpr fun c hc => ?_
  have h := List.all_eq_true.mp h1 c hc
  rcases Bool.eq_false_or_eq_true (isCode c) with hi | hi
  · exact h2 c (List.mem_filter.mpr ⟨hc, hi⟩)
  · simpa [hi] using h
set_option maxRecDepth 65536 in
theorem w_c0 : (Jvm.Cond.code x code maxLocals ret).before args0 about1 = true := code_word (m := ⟨1, 1⟩) (meth := k1m1) (c := k1c1) (by decide +kernel) rfl rfl rfl (by decide +kernel)
set_option maxRecDepth 65536 in
theorem w_c1 : (Jvm.Cond.code ({ cls := "com/example/wildebeest/wildebeest/simulation/Reach", name := "isBeyond", desc := "(DDD)Z" } : Jvm.MethodName) prog_22_method_2_code (6 : Nat) (Option.some Jvm.ClassFile.FieldType.boolean)).before args0 about1 = true := code_word (m := ⟨2, 1⟩) (meth := k2m1) (c := k2c1) (by decide +kernel) rfl rfl rfl (by decide +kernel)
set_option maxRecDepth 65536 in
theorem w_c2 : (Jvm.Cond.code ({ cls := "java/lang/Math", name := "max", desc := "(JJ)J" } : Jvm.MethodName) jdk_29_method_66_code (4 : Nat) (Option.some Jvm.ClassFile.FieldType.long)).before args0 about1 = true := code_word (m := ⟨3, 1⟩) (meth := k3m1) (c := k3c1) (by decide +kernel) rfl rfl rfl (by decide +kernel)
def codes1 : List Jvm.Cond := [Jvm.Cond.code x code maxLocals ret, Jvm.Cond.code ({ cls := "com/example/wildebeest/wildebeest/simulation/Reach", name := "isBeyond", desc := "(DDD)Z" } : Jvm.MethodName) prog_22_method_2_code (6 : Nat) (Option.some Jvm.ClassFile.FieldType.boolean), Jvm.Cond.code ({ cls := "java/lang/Math", name := "max", desc := "(JJ)J" } : Jvm.MethodName) jdk_29_method_66_code (4 : Nat) (Option.some Jvm.ClassFile.FieldType.long)]
set_option maxRecDepth 65536 in
theorem codes_eq : words1.filter isCode = codes1 := rfl
theorem w_codes : ∀ c ∈ words1.filter isCode, c.before args0 about1 = true := by
  rw [codes_eq]
  intro c hc
  simp only [codes1, List.mem_cons, List.not_mem_nil, or_false] at hc
  rcases hc with rfl | rfl | rfl
  · exact w_c0
  · exact w_c1
  · exact w_c2
set_option maxRecDepth 65536 in
theorem w_t1 : words1.all (fun c => isCode c || c.before args0 about1) = true := by decide +kernel
theorem w_tables : (allAtoms (Jvm.Cond.code x code maxLocals ret :: tables_1)).before args0 about1 = true := by
  rw [allAtoms_all]
  show words1.all (fun c => c.before args0 about1) = true
  refine all_split ?_ w_codes
  rw [w_t1]
set_option maxRecDepth 65536 in
theorem w_case : (Jvm.Cond.and given_1 narrow_1).before args0 about1 = true := by decide +kernel
theorem w_applies : (headSpec (Jvm.Cond.code x code maxLocals ret :: tables_1) room_1).applies x e0.platform about1 = true :=
  (Spec.applies_iff w_frames).mpr ⟨w_running, w_runnable, w_alone, w_named, w_hears, w_ripe, w_room, w_tables⟩
theorem atStart : AtStart classFile x code maxLocals ret World_1 tables_1 room_1 Calls_1 rest_1 Pre_1 launch0 p0 e0 about1 theMethod args0 below0 :=
  ⟨lists_1, trivial, launch0.admits_env _ _ _, launch0.least_env, fairChoices_fair.cas, fairChoices_fair.clock, w_frames, w_args, w_heap, w_applies, trivial, trivial, w_case⟩
end start1
theorem witness_1 : WitnessClaimed_1 := ⟨start1.p0, start1.e0, start1.about1, start1.theMethod, start1.args0, start1.below0, start1.atStart⟩
end Jvm.Pilot.@@N@@

import JvmDerived
import JvmDerived.Pilot.@@N@@Statement
import JvmDerived.Pilot.@@N@@Code
set_option linter.unusedVariables false
set_option linter.unusedSimpArgs false
namespace Jvm.RoadKit
open Sem ClassFile Op Lib Jvm.Stand Jvm.Free Jvm.LawKit
section New
variable {p : Program} {l : Launch} {e : Env} {R : Room} {s : State} {m : MethodId} {args : Array Value} {below : List Frame} {meth : Method} {c : Code} {T : State} {locs : List Loc} {cells slots : Nat}
theorem retI (X : Stand p l e R s m args below meth c T locs cells slots) (hx : p.tables.exec = Jvm.exec) {pc : Nat} {Ls : Array Slot} {z : Int32} {rest : List Value} (hret : meth.sig.returnType = some .int) (hd : decode c.code pc = .ok (.ireturn, 1)) {fs : List Frame}
    (hl : ∀ (f : JFrame) (acts : List Action), f.method = m → f.locked = none → f.entered = [] → (doReturn e (T.setTop f) acts (some (.int z))).1 = T.setFrames fs) : Steps p.tables e below (T.setTop (mkF m pc Ls (.int z :: rest))) (T.setFrames fs) :=
  retOut X hx hret rfl (Or.inl ⟨rfl, Or.inl rfl, _, rfl⟩) hd hl
end New
end Jvm.RoadKit
namespace Jvm.Own
open Sem ClassFile Op Lib Jvm.Stand Jvm.Free Jvm.LawKit Jvm.RoadKit
/-- from here the run comes to a state that meets F -/
def Go (tb : Tables) (e : Env) (below : List Frame) (F : State → Prop) (T : State) (g : JFrame) : Prop := ∃ t, Steps tb e below (T.setTop g) t ∧ F t
section Steps0
variable {tb : Tables} {e : Env} {below : List Frame} {F : State → Prop} {T T' : State} {g g' : JFrame}
theorem Go.st (q : ∀ t, Steps tb e below (T'.setTop g') t → Steps tb e below (T.setTop g) t) (k : Go tb e below F T' g') : Go tb e below F T g := by
  obtain ⟨t, h1, h2⟩ := k
  exact ⟨t, q t h1, h2⟩
theorem Go.tr (q : Steps tb e below (T.setTop g) (T'.setTop g')) (k : Go tb e below F T' g') : Go tb e below F T g := by
  obtain ⟨t, h1, h2⟩ := k
  exact ⟨t, q.trans h1, h2⟩
end Steps0
section Steps
variable {tb : Tables} [Ours tb] {e : Env} {below : List Frame} {F : State → Prop} {T T' : State} {m : MethodId} {c : Code} {pc pc' : Nat} {Ls Ls' : Array Slot} {sk : List Value}
theorem s_iload (h : At T m c below) (hx : tb.exec = Jvm.exec) {k : Nat} {v : Int32} (hd : decode c.code pc = .ok (.iload k, 2)) (hp : pc + 2 = pc') (hl : Ls[k]? = some (.val (.int v)))  (q : Go tb e below F T (mkF m pc' Ls ((.int v) :: sk))) : Go tb e below F T (mkF m pc Ls (sk)) := by
  subst hp; exact Go.st (fun _ r => XS.iload (g := mkF m pc Ls (sk)) h hx rfl hd hl  r) q
theorem s_iloadN (h : At T m c below) (hx : tb.exec = Jvm.exec) {k : Fin 4} {v : Int32} (hd : decode c.code pc = .ok (.iload_n k, 1)) (hp : pc + 1 = pc') (hl : Ls[k.val]? = some (.val (.int v)))  (q : Go tb e below F T (mkF m pc' Ls ((.int v) :: sk))) : Go tb e below F T (mkF m pc Ls (sk)) := by
  subst hp; exact Go.st (fun _ r => XS.iloadN (g := mkF m pc Ls (sk)) h hx rfl hd hl  r) q
theorem s_istore (h : At T m c below) (hx : tb.exec = Jvm.exec) {k : Nat} {v : Int32} (hd : decode c.code pc = .ok (.istore k, 2)) (hp : pc + 2 = pc')  (hl : storeLocals Ls k (.int v) = some Ls') (q : Go tb e below F T (mkF m pc' Ls' (sk))) : Go tb e below F T (mkF m pc Ls ((.int v) :: sk)) := by
  subst hp; exact Go.st (fun _ r => XS.istore (g := mkF m pc Ls ((.int v) :: sk)) h hx rfl hd rfl  hl r) q
theorem s_istoreN (h : At T m c below) (hx : tb.exec = Jvm.exec) {k : Fin 4} {v : Int32} (hd : decode c.code pc = .ok (.istore_n k, 1)) (hp : pc + 1 = pc')  (hl : storeLocals Ls k.val (.int v) = some Ls') (q : Go tb e below F T (mkF m pc' Ls' (sk))) : Go tb e below F T (mkF m pc Ls ((.int v) :: sk)) := by
  subst hp; exact Go.st (fun _ r => XS.istoreN (g := mkF m pc Ls ((.int v) :: sk)) h hx rfl hd rfl  hl r) q
theorem s_lload (h : At T m c below) (hx : tb.exec = Jvm.exec) {k : Nat} {v : Int64} (hd : decode c.code pc = .ok (.lload k, 2)) (hp : pc + 2 = pc') (hl : Ls[k]? = some (.val (.long v)))  (q : Go tb e below F T (mkF m pc' Ls ((.long v) :: sk))) : Go tb e below F T (mkF m pc Ls (sk)) := by
  subst hp; exact Go.st (fun _ r => XS.lload (g := mkF m pc Ls (sk)) h hx rfl hd hl  r) q
theorem s_lloadN (h : At T m c below) (hx : tb.exec = Jvm.exec) {k : Fin 4} {v : Int64} (hd : decode c.code pc = .ok (.lload_n k, 1)) (hp : pc + 1 = pc') (hl : Ls[k.val]? = some (.val (.long v)))  (q : Go tb e below F T (mkF m pc' Ls ((.long v) :: sk))) : Go tb e below F T (mkF m pc Ls (sk)) := by
  subst hp; exact Go.st (fun _ r => XS.lloadN (g := mkF m pc Ls (sk)) h hx rfl hd hl  r) q
theorem s_lstore (h : At T m c below) (hx : tb.exec = Jvm.exec) {k : Nat} {v : Int64} (hd : decode c.code pc = .ok (.lstore k, 2)) (hp : pc + 2 = pc')  (hl : storeLocals Ls k (.long v) = some Ls') (q : Go tb e below F T (mkF m pc' Ls' (sk))) : Go tb e below F T (mkF m pc Ls ((.long v) :: sk)) := by
  subst hp; exact Go.st (fun _ r => XS.lstore (g := mkF m pc Ls ((.long v) :: sk)) h hx rfl hd rfl  hl r) q
theorem s_lstoreN (h : At T m c below) (hx : tb.exec = Jvm.exec) {k : Fin 4} {v : Int64} (hd : decode c.code pc = .ok (.lstore_n k, 1)) (hp : pc + 1 = pc')  (hl : storeLocals Ls k.val (.long v) = some Ls') (q : Go tb e below F T (mkF m pc' Ls' (sk))) : Go tb e below F T (mkF m pc Ls ((.long v) :: sk)) := by
  subst hp; exact Go.st (fun _ r => XS.lstoreN (g := mkF m pc Ls ((.long v) :: sk)) h hx rfl hd rfl  hl r) q
theorem s_dload (h : At T m c below) (hx : tb.exec = Jvm.exec) {k : Nat} {v : UInt64} (hd : decode c.code pc = .ok (.dload k, 2)) (hp : pc + 2 = pc') (hl : Ls[k]? = some (.val (.double v)))  (q : Go tb e below F T (mkF m pc' Ls ((.double v) :: sk))) : Go tb e below F T (mkF m pc Ls (sk)) := by
  subst hp; exact Go.st (fun _ r => XS.dload (g := mkF m pc Ls (sk)) h hx rfl hd hl  r) q
theorem s_dloadN (h : At T m c below) (hx : tb.exec = Jvm.exec) {k : Fin 4} {v : UInt64} (hd : decode c.code pc = .ok (.dload_n k, 1)) (hp : pc + 1 = pc') (hl : Ls[k.val]? = some (.val (.double v)))  (q : Go tb e below F T (mkF m pc' Ls ((.double v) :: sk))) : Go tb e below F T (mkF m pc Ls (sk)) := by
  subst hp; exact Go.st (fun _ r => XS.dloadN (g := mkF m pc Ls (sk)) h hx rfl hd hl  r) q
theorem s_dstore (h : At T m c below) (hx : tb.exec = Jvm.exec) {k : Nat} {v : UInt64} (hd : decode c.code pc = .ok (.dstore k, 2)) (hp : pc + 2 = pc')  (hl : storeLocals Ls k (.double v) = some Ls') (q : Go tb e below F T (mkF m pc' Ls' (sk))) : Go tb e below F T (mkF m pc Ls ((.double v) :: sk)) := by
  subst hp; exact Go.st (fun _ r => XS.dstore (g := mkF m pc Ls ((.double v) :: sk)) h hx rfl hd rfl  hl r) q
theorem s_dstoreN (h : At T m c below) (hx : tb.exec = Jvm.exec) {k : Fin 4} {v : UInt64} (hd : decode c.code pc = .ok (.dstore_n k, 1)) (hp : pc + 1 = pc')  (hl : storeLocals Ls k.val (.double v) = some Ls') (q : Go tb e below F T (mkF m pc' Ls' (sk))) : Go tb e below F T (mkF m pc Ls ((.double v) :: sk)) := by
  subst hp; exact Go.st (fun _ r => XS.dstoreN (g := mkF m pc Ls ((.double v) :: sk)) h hx rfl hd rfl  hl r) q
theorem s_aload (h : At T m c below) (hx : tb.exec = Jvm.exec) {k : Nat} {v : Value} (hd : decode c.code pc = .ok (.aload k, 2)) (hp : pc + 2 = pc') (hl : Ls[k]? = some (.val (v))) (hv : v.isRef = true) (q : Go tb e below F T (mkF m pc' Ls ((v) :: sk))) : Go tb e below F T (mkF m pc Ls (sk)) := by
  subst hp; exact Go.st (fun _ r => XS.aload (g := mkF m pc Ls (sk)) h hx rfl hd hl hv r) q
theorem s_aloadN (h : At T m c below) (hx : tb.exec = Jvm.exec) {k : Fin 4} {v : Value} (hd : decode c.code pc = .ok (.aload_n k, 1)) (hp : pc + 1 = pc') (hl : Ls[k.val]? = some (.val (v))) (hv : v.isRef = true) (q : Go tb e below F T (mkF m pc' Ls ((v) :: sk))) : Go tb e below F T (mkF m pc Ls (sk)) := by
  subst hp; exact Go.st (fun _ r => XS.aloadN (g := mkF m pc Ls (sk)) h hx rfl hd hl hv r) q
theorem s_astore (h : At T m c below) (hx : tb.exec = Jvm.exec) {k : Nat} {v : Value} (hd : decode c.code pc = .ok (.astore k, 2)) (hp : pc + 2 = pc') (hv : v.isRef = true) (hl : storeLocals Ls k (v) = some Ls') (q : Go tb e below F T (mkF m pc' Ls' (sk))) : Go tb e below F T (mkF m pc Ls ((v) :: sk)) := by
  subst hp; exact Go.st (fun _ r => XS.astore (g := mkF m pc Ls ((v) :: sk)) h hx rfl hd rfl hv hl r) q
theorem s_astoreN (h : At T m c below) (hx : tb.exec = Jvm.exec) {k : Fin 4} {v : Value} (hd : decode c.code pc = .ok (.astore_n k, 1)) (hp : pc + 1 = pc') (hv : v.isRef = true) (hl : storeLocals Ls k.val (v) = some Ls') (q : Go tb e below F T (mkF m pc' Ls' (sk))) : Go tb e below F T (mkF m pc Ls ((v) :: sk)) := by
  subst hp; exact Go.st (fun _ r => XS.astoreN (g := mkF m pc Ls ((v) :: sk)) h hx rfl hd rfl hv hl r) q
theorem s_iconst (h : At T m c below) (hx : tb.exec = Jvm.exec) {i : Int} {v : Int32} (hd : decode c.code pc = .ok (.iconst i, 1)) (hp : pc + 1 = pc') (hv : Int32.ofInt i = v) (q : Go tb e below F T (mkF m pc' Ls ((.int v) :: sk))) : Go tb e below F T (mkF m pc Ls sk) := by
  subst hp hv; exact Go.st (fun _ r => XS.iconst (g := mkF m pc Ls sk) h hx rfl hd r) q
theorem s_bipush (h : At T m c below) (hx : tb.exec = Jvm.exec) {i : Int} {v : Int32} (hd : decode c.code pc = .ok (.bipush i, 2)) (hp : pc + 2 = pc') (hv : (Int8.ofInt i).toInt32 = v) (q : Go tb e below F T (mkF m pc' Ls ((.int v) :: sk))) : Go tb e below F T (mkF m pc Ls sk) := by
  subst hp hv; exact Go.st (fun _ r => XS.bipush (g := mkF m pc Ls sk) h hx rfl hd r) q
theorem s_sipush (h : At T m c below) (hx : tb.exec = Jvm.exec) {i : Int} {v : Int32} (hd : decode c.code pc = .ok (.sipush i, 3)) (hp : pc + 3 = pc') (hv : (Int16.ofInt i).toInt32 = v) (q : Go tb e below F T (mkF m pc' Ls ((.int v) :: sk))) : Go tb e below F T (mkF m pc Ls sk) := by
  subst hp hv; exact Go.st (fun _ r => XS.sipush (g := mkF m pc Ls sk) h hx rfl hd r) q
theorem s_aconst_null (h : At T m c below) (hx : tb.exec = Jvm.exec) (hd : decode c.code pc = .ok (.aconst_null, 1)) (hp : pc + 1 = pc') (q : Go tb e below F T (mkF m pc' Ls (.null :: sk))) : Go tb e below F T (mkF m pc Ls sk) := by
  subst hp; exact Go.st (fun _ r => XS.aconstNull (g := mkF m pc Ls sk) h hx rfl hd r) q
theorem s_iadd (h : At T m c below) (hx : tb.exec = Jvm.exec) {x y z : Int32} (hd : decode c.code pc = .ok (.iadd, 1)) (hp : pc + 1 = pc') (hv : x + y = z) (q : Go tb e below F T (mkF m pc' Ls (.int z :: sk))) : Go tb e below F T (mkF m pc Ls (.int y :: .int x :: sk)) := by
  subst hp hv; exact Go.st (fun _ r => XS.iadd (g := mkF m pc Ls (.int y :: .int x :: sk)) h hx rfl hd rfl r) q
theorem s_isub (h : At T m c below) (hx : tb.exec = Jvm.exec) {x y z : Int32} (hd : decode c.code pc = .ok (.isub, 1)) (hp : pc + 1 = pc') (hv : x - y = z) (q : Go tb e below F T (mkF m pc' Ls (.int z :: sk))) : Go tb e below F T (mkF m pc Ls (.int y :: .int x :: sk)) := by
  subst hp hv; exact Go.st (fun _ r => XS.isub (g := mkF m pc Ls (.int y :: .int x :: sk)) h hx rfl hd rfl r) q
theorem s_imul (h : At T m c below) (hx : tb.exec = Jvm.exec) {x y z : Int32} (hd : decode c.code pc = .ok (.imul, 1)) (hp : pc + 1 = pc') (hv : x * y = z) (q : Go tb e below F T (mkF m pc' Ls (.int z :: sk))) : Go tb e below F T (mkF m pc Ls (.int y :: .int x :: sk)) := by
  subst hp hv; exact Go.st (fun _ r => XS.imul (g := mkF m pc Ls (.int y :: .int x :: sk)) h hx rfl hd rfl r) q
theorem s_iand (h : At T m c below) (hx : tb.exec = Jvm.exec) {x y z : Int32} (hd : decode c.code pc = .ok (.iand, 1)) (hp : pc + 1 = pc') (hv : x &&& y = z) (q : Go tb e below F T (mkF m pc' Ls (.int z :: sk))) : Go tb e below F T (mkF m pc Ls (.int y :: .int x :: sk)) := by
  subst hp hv; exact Go.st (fun _ r => XS.iand (g := mkF m pc Ls (.int y :: .int x :: sk)) h hx rfl hd rfl r) q
theorem s_ior (h : At T m c below) (hx : tb.exec = Jvm.exec) {x y z : Int32} (hd : decode c.code pc = .ok (.ior, 1)) (hp : pc + 1 = pc') (hv : x ||| y = z) (q : Go tb e below F T (mkF m pc' Ls (.int z :: sk))) : Go tb e below F T (mkF m pc Ls (.int y :: .int x :: sk)) := by
  subst hp hv; exact Go.st (fun _ r => XS.ior (g := mkF m pc Ls (.int y :: .int x :: sk)) h hx rfl hd rfl r) q
theorem s_ixor (h : At T m c below) (hx : tb.exec = Jvm.exec) {x y z : Int32} (hd : decode c.code pc = .ok (.ixor, 1)) (hp : pc + 1 = pc') (hv : x ^^^ y = z) (q : Go tb e below F T (mkF m pc' Ls (.int z :: sk))) : Go tb e below F T (mkF m pc Ls (.int y :: .int x :: sk)) := by
  subst hp hv; exact Go.st (fun _ r => XS.ixor (g := mkF m pc Ls (.int y :: .int x :: sk)) h hx rfl hd rfl r) q
theorem s_ishl (h : At T m c below) (hx : tb.exec = Jvm.exec) {x y z : Int32} (hd : decode c.code pc = .ok (.ishl, 1)) (hp : pc + 1 = pc') (hv : x <<< (y &&& 31) = z) (q : Go tb e below F T (mkF m pc' Ls (.int z :: sk))) : Go tb e below F T (mkF m pc Ls (.int y :: .int x :: sk)) := by
  subst hp hv; exact Go.st (fun _ r => XS.ishl (g := mkF m pc Ls (.int y :: .int x :: sk)) h hx rfl hd rfl r) q
theorem s_ishr (h : At T m c below) (hx : tb.exec = Jvm.exec) {x y z : Int32} (hd : decode c.code pc = .ok (.ishr, 1)) (hp : pc + 1 = pc') (hv : x >>> (y &&& 31) = z) (q : Go tb e below F T (mkF m pc' Ls (.int z :: sk))) : Go tb e below F T (mkF m pc Ls (.int y :: .int x :: sk)) := by
  subst hp hv; exact Go.st (fun _ r => XS.ishr (g := mkF m pc Ls (.int y :: .int x :: sk)) h hx rfl hd rfl r) q
theorem s_iushr (h : At T m c below) (hx : tb.exec = Jvm.exec) {x y z : Int32} (hd : decode c.code pc = .ok (.iushr, 1)) (hp : pc + 1 = pc') (hv : (x.toUInt32 >>> (y &&& 31).toUInt32).toInt32 = z) (q : Go tb e below F T (mkF m pc' Ls (.int z :: sk))) : Go tb e below F T (mkF m pc Ls (.int y :: .int x :: sk)) := by
  subst hp hv; exact Go.st (fun _ r => XS.iushr (g := mkF m pc Ls (.int y :: .int x :: sk)) h hx rfl hd rfl r) q
theorem s_ladd (h : At T m c below) (hx : tb.exec = Jvm.exec) {x y z : Int64} (hd : decode c.code pc = .ok (.ladd, 1)) (hp : pc + 1 = pc') (hv : x + y = z) (q : Go tb e below F T (mkF m pc' Ls (.long z :: sk))) : Go tb e below F T (mkF m pc Ls (.long y :: .long x :: sk)) := by
  subst hp hv; exact Go.st (fun _ r => XS.ladd (g := mkF m pc Ls (.long y :: .long x :: sk)) h hx rfl hd rfl r) q
theorem s_lsub (h : At T m c below) (hx : tb.exec = Jvm.exec) {x y z : Int64} (hd : decode c.code pc = .ok (.lsub, 1)) (hp : pc + 1 = pc') (hv : x - y = z) (q : Go tb e below F T (mkF m pc' Ls (.long z :: sk))) : Go tb e below F T (mkF m pc Ls (.long y :: .long x :: sk)) := by
  subst hp hv; exact Go.st (fun _ r => XS.lsub (g := mkF m pc Ls (.long y :: .long x :: sk)) h hx rfl hd rfl r) q
theorem s_lmul (h : At T m c below) (hx : tb.exec = Jvm.exec) {x y z : Int64} (hd : decode c.code pc = .ok (.lmul, 1)) (hp : pc + 1 = pc') (hv : x * y = z) (q : Go tb e below F T (mkF m pc' Ls (.long z :: sk))) : Go tb e below F T (mkF m pc Ls (.long y :: .long x :: sk)) := by
  subst hp hv; exact Go.st (fun _ r => XS.lmul (g := mkF m pc Ls (.long y :: .long x :: sk)) h hx rfl hd rfl r) q
theorem s_land (h : At T m c below) (hx : tb.exec = Jvm.exec) {x y z : Int64} (hd : decode c.code pc = .ok (.land, 1)) (hp : pc + 1 = pc') (hv : x &&& y = z) (q : Go tb e below F T (mkF m pc' Ls (.long z :: sk))) : Go tb e below F T (mkF m pc Ls (.long y :: .long x :: sk)) := by
  subst hp hv; exact Go.st (fun _ r => XS.land (g := mkF m pc Ls (.long y :: .long x :: sk)) h hx rfl hd rfl r) q
theorem s_lor (h : At T m c below) (hx : tb.exec = Jvm.exec) {x y z : Int64} (hd : decode c.code pc = .ok (.lor, 1)) (hp : pc + 1 = pc') (hv : x ||| y = z) (q : Go tb e below F T (mkF m pc' Ls (.long z :: sk))) : Go tb e below F T (mkF m pc Ls (.long y :: .long x :: sk)) := by
  subst hp hv; exact Go.st (fun _ r => XS.lor (g := mkF m pc Ls (.long y :: .long x :: sk)) h hx rfl hd rfl r) q
theorem s_lxor (h : At T m c below) (hx : tb.exec = Jvm.exec) {x y z : Int64} (hd : decode c.code pc = .ok (.lxor, 1)) (hp : pc + 1 = pc') (hv : x ^^^ y = z) (q : Go tb e below F T (mkF m pc' Ls (.long z :: sk))) : Go tb e below F T (mkF m pc Ls (.long y :: .long x :: sk)) := by
  subst hp hv; exact Go.st (fun _ r => XS.lxor (g := mkF m pc Ls (.long y :: .long x :: sk)) h hx rfl hd rfl r) q
theorem s_lshl (h : At T m c below) (hx : tb.exec = Jvm.exec) {x z : Int64} {y : Int32} (hd : decode c.code pc = .ok (.lshl, 1)) (hp : pc + 1 = pc') (hv : x <<< (y &&& 0x3f).toInt64 = z) (q : Go tb e below F T (mkF m pc' Ls (.long z :: sk))) : Go tb e below F T (mkF m pc Ls (.int y :: .long x :: sk)) := by
  subst hp hv; exact Go.st (fun _ r => XS.lshl (g := mkF m pc Ls (.int y :: .long x :: sk)) h hx rfl hd rfl r) q
theorem s_lshr (h : At T m c below) (hx : tb.exec = Jvm.exec) {x z : Int64} {y : Int32} (hd : decode c.code pc = .ok (.lshr, 1)) (hp : pc + 1 = pc') (hv : x >>> (y &&& 0x3f).toInt64 = z) (q : Go tb e below F T (mkF m pc' Ls (.long z :: sk))) : Go tb e below F T (mkF m pc Ls (.int y :: .long x :: sk)) := by
  subst hp hv; exact Go.st (fun _ r => XS.lshr (g := mkF m pc Ls (.int y :: .long x :: sk)) h hx rfl hd rfl r) q
theorem s_lushr (h : At T m c below) (hx : tb.exec = Jvm.exec) {x z : Int64} {y : Int32} (hd : decode c.code pc = .ok (.lushr, 1)) (hp : pc + 1 = pc') (hv : (x.toUInt64 >>> (y &&& 0x3f).toInt64.toUInt64).toInt64 = z) (q : Go tb e below F T (mkF m pc' Ls (.long z :: sk))) : Go tb e below F T (mkF m pc Ls (.int y :: .long x :: sk)) := by
  subst hp hv; exact Go.st (fun _ r => XS.lushr (g := mkF m pc Ls (.int y :: .long x :: sk)) h hx rfl hd rfl r) q
theorem s_ineg (h : At T m c below) (hx : tb.exec = Jvm.exec) {x : Int32} {z : Int32} (hd : decode c.code pc = .ok (.ineg, 1)) (hp : pc + 1 = pc') (hv : -x = z) (q : Go tb e below F T (mkF m pc' Ls (.int z :: sk))) : Go tb e below F T (mkF m pc Ls (.int x :: sk)) := by
  subst hp hv; exact Go.st (fun _ r => XS.ineg (g := mkF m pc Ls (.int x :: sk)) h hx rfl hd rfl r) q
theorem s_lneg (h : At T m c below) (hx : tb.exec = Jvm.exec) {x : Int64} {z : Int64} (hd : decode c.code pc = .ok (.lneg, 1)) (hp : pc + 1 = pc') (hv : -x = z) (q : Go tb e below F T (mkF m pc' Ls (.long z :: sk))) : Go tb e below F T (mkF m pc Ls (.long x :: sk)) := by
  subst hp hv; exact Go.st (fun _ r => XS.lneg (g := mkF m pc Ls (.long x :: sk)) h hx rfl hd rfl r) q
theorem s_i2l (h : At T m c below) (hx : tb.exec = Jvm.exec) {x : Int32} {z : Int64} (hd : decode c.code pc = .ok (.i2l, 1)) (hp : pc + 1 = pc') (hv : x.toInt64 = z) (q : Go tb e below F T (mkF m pc' Ls (.long z :: sk))) : Go tb e below F T (mkF m pc Ls (.int x :: sk)) := by
  subst hp hv; exact Go.st (fun _ r => XS.i2l (g := mkF m pc Ls (.int x :: sk)) h hx rfl hd rfl r) q
theorem s_l2i (h : At T m c below) (hx : tb.exec = Jvm.exec) {x : Int64} {z : Int32} (hd : decode c.code pc = .ok (.l2i, 1)) (hp : pc + 1 = pc') (hv : x.toInt32 = z) (q : Go tb e below F T (mkF m pc' Ls (.int z :: sk))) : Go tb e below F T (mkF m pc Ls (.long x :: sk)) := by
  subst hp hv; exact Go.st (fun _ r => XS.l2i (g := mkF m pc Ls (.long x :: sk)) h hx rfl hd rfl r) q
theorem s_i2b (h : At T m c below) (hx : tb.exec = Jvm.exec) {x : Int32} {z : Int32} (hd : decode c.code pc = .ok (.i2b, 1)) (hp : pc + 1 = pc') (hv : x.toInt8.toInt32 = z) (q : Go tb e below F T (mkF m pc' Ls (.int z :: sk))) : Go tb e below F T (mkF m pc Ls (.int x :: sk)) := by
  subst hp hv; exact Go.st (fun _ r => XS.i2b (g := mkF m pc Ls (.int x :: sk)) h hx rfl hd rfl r) q
theorem s_i2s (h : At T m c below) (hx : tb.exec = Jvm.exec) {x : Int32} {z : Int32} (hd : decode c.code pc = .ok (.i2s, 1)) (hp : pc + 1 = pc') (hv : x.toInt16.toInt32 = z) (q : Go tb e below F T (mkF m pc' Ls (.int z :: sk))) : Go tb e below F T (mkF m pc Ls (.int x :: sk)) := by
  subst hp hv; exact Go.st (fun _ r => XS.i2s (g := mkF m pc Ls (.int x :: sk)) h hx rfl hd rfl r) q
theorem s_i2c (h : At T m c below) (hx : tb.exec = Jvm.exec) {x : Int32} {z : Int32} (hd : decode c.code pc = .ok (.i2c, 1)) (hp : pc + 1 = pc') (hv : x.toUInt32.toUInt16.toUInt32.toInt32 = z) (q : Go tb e below F T (mkF m pc' Ls (.int z :: sk))) : Go tb e below F T (mkF m pc Ls (.int x :: sk)) := by
  subst hp hv; exact Go.st (fun _ r => XS.i2c (g := mkF m pc Ls (.int x :: sk)) h hx rfl hd rfl r) q
theorem s_lcmp (h : At T m c below) (hx : tb.exec = Jvm.exec) {x y : Int64} {z : Int32} (hd : decode c.code pc = .ok (.lcmp, 1)) (hp : pc + 1 = pc') (hv : lcmpW x y = z) (q : Go tb e below F T (mkF m pc' Ls (.int z :: sk))) : Go tb e below F T (mkF m pc Ls (.long y :: .long x :: sk)) := by
  subst hp hv; exact Go.st (fun _ r => XS.lcmp (g := mkF m pc Ls (.long y :: .long x :: sk)) h hx rfl hd rfl r) q
theorem s_idiv (h : At T m c below) (hx : tb.exec = Jvm.exec) {x y z : Int32} (hd : decode c.code pc = .ok (.idiv, 1)) (hp : pc + 1 = pc') (hy : ¬ y = 0) (hv : x / y = z) (q : Go tb e below F T (mkF m pc' Ls (.int z :: sk))) : Go tb e below F T (mkF m pc Ls (.int y :: .int x :: sk)) := by
  subst hp hv; exact Go.st (fun _ r => XS.idiv (g := mkF m pc Ls (.int y :: .int x :: sk)) h hx rfl hd rfl hy r) q
theorem s_irem (h : At T m c below) (hx : tb.exec = Jvm.exec) {x y z : Int32} (hd : decode c.code pc = .ok (.irem, 1)) (hp : pc + 1 = pc') (hy : ¬ y = 0) (hv : x % y = z) (q : Go tb e below F T (mkF m pc' Ls (.int z :: sk))) : Go tb e below F T (mkF m pc Ls (.int y :: .int x :: sk)) := by
  subst hp; rw [← irem_eq_mod x y] at hv; subst hv; exact Go.st (fun _ r => XS.irem (g := mkF m pc Ls (.int y :: .int x :: sk)) h hx rfl hd rfl hy r) q
theorem s_ldiv (h : At T m c below) (hx : tb.exec = Jvm.exec) {x y z : Int64} (hd : decode c.code pc = .ok (.ldiv, 1)) (hp : pc + 1 = pc') (hy : ¬ y = 0) (hv : x / y = z) (q : Go tb e below F T (mkF m pc' Ls (.long z :: sk))) : Go tb e below F T (mkF m pc Ls (.long y :: .long x :: sk)) := by
  subst hp hv; exact Go.st (fun _ r => XS.ldiv (g := mkF m pc Ls (.long y :: .long x :: sk)) h hx rfl hd rfl hy r) q
theorem s_lrem (h : At T m c below) (hx : tb.exec = Jvm.exec) {x y z : Int64} (hd : decode c.code pc = .ok (.lrem, 1)) (hp : pc + 1 = pc') (hy : ¬ y = 0) (hv : x % y = z) (q : Go tb e below F T (mkF m pc' Ls (.long z :: sk))) : Go tb e below F T (mkF m pc Ls (.long y :: .long x :: sk)) := by
  subst hp; rw [← lrem_mod x y] at hv; subst hv; exact Go.st (fun _ r => XS.lrem (g := mkF m pc Ls (.long y :: .long x :: sk)) h hx rfl hd rfl hy r) q
theorem s_dup (h : At T m c below) (hx : tb.exec = Jvm.exec) {v : Value} (hd : decode c.code pc = .ok (.dup, 1)) (hp : pc + 1 = pc') (hc : v.category = 1) (q : Go tb e below F T (mkF m pc' Ls (v :: v :: sk))) : Go tb e below F T (mkF m pc Ls (v :: sk)) := by
  subst hp; exact Go.st (fun _ r => XS.dup (g := mkF m pc Ls (v :: sk)) h hx rfl hd rfl hc r) q
theorem s_pop (h : At T m c below) (hx : tb.exec = Jvm.exec) {v : Value} (hd : decode c.code pc = .ok (.pop, 1)) (hp : pc + 1 = pc') (hc : v.category = 1) (q : Go tb e below F T (mkF m pc' Ls (sk))) : Go tb e below F T (mkF m pc Ls (v :: sk)) := by
  subst hp; exact Go.st (fun _ r => XS.pop (g := mkF m pc Ls (v :: sk)) h hx rfl hd rfl hc r) q
theorem s_dup_x1 (h : At T m c below) (hx : tb.exec = Jvm.exec) {v w : Value} (hd : decode c.code pc = .ok (.dup_x1, 1)) (hp : pc + 1 = pc') (hc : v.category = 1) (hc' : w.category = 1) (q : Go tb e below F T (mkF m pc' Ls (v :: w :: v :: sk))) : Go tb e below F T (mkF m pc Ls (v :: w :: sk)) := by
  subst hp; exact Go.st (fun _ r => XS.dupX1 (g := mkF m pc Ls (v :: w :: sk)) h hx rfl hd rfl hc hc' r) q
theorem s_iinc (h : At T m c below) (hx : tb.exec = Jvm.exec) {k : Nat} {i : Int} (hd : decode c.code pc = .ok (.iinc k i, 3)) (hp : pc + 3 = pc') {x z : Int32} (hl : Ls[k]? = some (.val (.int x))) (hv : x + Int32.ofInt i = z) (hs : storeLocals Ls k (.int z) = some Ls') (q : Go tb e below F T (mkF m pc' Ls' (sk))) : Go tb e below F T (mkF m pc Ls (sk)) := by
  subst hp hv; exact Go.st (fun _ r => XS.iinc (g := mkF m pc Ls (sk)) h hx rfl hd hl hs r) q
theorem s_lconst (h : At T m c below) (hx : tb.exec = Jvm.exec) {i : Fin 2} {v : Int64} (hd : decode c.code pc = .ok (.lconst i, 1)) (hp : pc + 1 = pc') (hv : Int64.ofNat i = v) (q : Go tb e below F T (mkF m pc' Ls (.long v :: sk))) : Go tb e below F T (mkF m pc Ls (sk)) := by
  subst hp hv; exact Go.st (fun _ r => XS.lconst (g := mkF m pc Ls (sk)) h hx rfl hd  r) q
theorem s_i2d (h : At T m c below) (hx : tb.exec = Jvm.exec) {x : Int32} {z : UInt64} (hd : decode c.code pc = .ok (.i2d, 1)) (hp : pc + 1 = pc') (hv : FP.i2d x = z) (q : Go tb e below F T (mkF m pc' Ls (.double z :: sk))) : Go tb e below F T (mkF m pc Ls (.int x :: sk)) := by
  subst hp; exact Go.st (fun _ r => XS.i2dS (g := mkF m pc Ls (.int x :: sk)) h hx rfl hd rfl hv r) q
theorem s_l2d (h : At T m c below) (hx : tb.exec = Jvm.exec) {x : Int64} {z : UInt64} (hd : decode c.code pc = .ok (.l2d, 1)) (hp : pc + 1 = pc') (hv : FP.l2d x = z) (q : Go tb e below F T (mkF m pc' Ls (.double z :: sk))) : Go tb e below F T (mkF m pc Ls (.long x :: sk)) := by
  subst hp; exact Go.st (fun _ r => XS.l2dS (g := mkF m pc Ls (.long x :: sk)) h hx rfl hd rfl hv r) q
theorem s_d2i (h : At T m c below) (hx : tb.exec = Jvm.exec) {x : UInt64} {z : Int32} (hd : decode c.code pc = .ok (.d2i, 1)) (hp : pc + 1 = pc') (hv : FP.d2i x = z) (q : Go tb e below F T (mkF m pc' Ls (.int z :: sk))) : Go tb e below F T (mkF m pc Ls (.double x :: sk)) := by
  subst hp; exact Go.st (fun _ r => XS.d2iS (g := mkF m pc Ls (.double x :: sk)) h hx rfl hd rfl hv r) q
theorem s_d2l (h : At T m c below) (hx : tb.exec = Jvm.exec) {x : UInt64} {z : Int64} (hd : decode c.code pc = .ok (.d2l, 1)) (hp : pc + 1 = pc') (hv : FP.d2l x = z) (q : Go tb e below F T (mkF m pc' Ls (.long z :: sk))) : Go tb e below F T (mkF m pc Ls (.double x :: sk)) := by
  subst hp; exact Go.st (fun _ r => XS.d2lS (g := mkF m pc Ls (.double x :: sk)) h hx rfl hd rfl hv r) q
theorem s_dneg (h : At T m c below) (hx : tb.exec = Jvm.exec) {x z : UInt64} (hd : decode c.code pc = .ok (.dneg, 1)) (hp : pc + 1 = pc') (hv : FP.dneg x = z) (q : Go tb e below F T (mkF m pc' Ls (.double z :: sk))) : Go tb e below F T (mkF m pc Ls (.double x :: sk)) := by
  subst hp; exact Go.st (fun _ r => XS.dnegS (g := mkF m pc Ls (.double x :: sk)) h hx rfl hd rfl hv r) q
theorem s_dcmpl (h : At T m c below) (hx : tb.exec = Jvm.exec) {x y : UInt64} {z : Int32} (hd : decode c.code pc = .ok (.dcmp .l, 1)) (hp : pc + 1 = pc') (hv : cmpValue (FP.dcmp x y) .l = z) (q : Go tb e below F T (mkF m pc' Ls (.int z :: sk))) : Go tb e below F T (mkF m pc Ls (.double y :: .double x :: sk)) := by
  subst hp; exact Go.st (fun _ r => XS.dcmpS (g := mkF m pc Ls (.double y :: .double x :: sk)) h hx rfl hd rfl hv r) q
theorem s_dcmpg (h : At T m c below) (hx : tb.exec = Jvm.exec) {x y : UInt64} {z : Int32} (hd : decode c.code pc = .ok (.dcmp .g, 1)) (hp : pc + 1 = pc') (hv : cmpValue (FP.dcmp x y) .g = z) (q : Go tb e below F T (mkF m pc' Ls (.int z :: sk))) : Go tb e below F T (mkF m pc Ls (.double y :: .double x :: sk)) := by
  subst hp; exact Go.st (fun _ r => XS.dcmpS (g := mkF m pc Ls (.double y :: .double x :: sk)) h hx rfl hd rfl hv r) q
theorem s_dadd (h : At T m c below) (hx : tb.exec = Jvm.exec) {x y z : UInt64} (hd : decode c.code pc = .ok (.dadd, 1)) (hp : pc + 1 = pc') (hn : Jvm.Free.Fl.NoNaN64 (FP.dadd x y)) (hv : FP.dadd x y = z) (q : Go tb e below F T (mkF m pc' Ls (.double z :: sk))) : Go tb e below F T (mkF m pc Ls (.double y :: .double x :: sk)) := by
  subst hp; exact Go.st (fun _ r => XS.daddS (g := mkF m pc Ls (.double y :: .double x :: sk)) h hx rfl hd rfl hn hv r) q
theorem s_dsub (h : At T m c below) (hx : tb.exec = Jvm.exec) {x y z : UInt64} (hd : decode c.code pc = .ok (.dsub, 1)) (hp : pc + 1 = pc') (hn : Jvm.Free.Fl.NoNaN64 (FP.dsub x y)) (hv : FP.dsub x y = z) (q : Go tb e below F T (mkF m pc' Ls (.double z :: sk))) : Go tb e below F T (mkF m pc Ls (.double y :: .double x :: sk)) := by
  subst hp; exact Go.st (fun _ r => XS.dsubS (g := mkF m pc Ls (.double y :: .double x :: sk)) h hx rfl hd rfl hn hv r) q
theorem s_dmul (h : At T m c below) (hx : tb.exec = Jvm.exec) {x y z : UInt64} (hd : decode c.code pc = .ok (.dmul, 1)) (hp : pc + 1 = pc') (hn : Jvm.Free.Fl.NoNaN64 (FP.dmul x y)) (hv : FP.dmul x y = z) (q : Go tb e below F T (mkF m pc' Ls (.double z :: sk))) : Go tb e below F T (mkF m pc Ls (.double y :: .double x :: sk)) := by
  subst hp; exact Go.st (fun _ r => XS.dmulS (g := mkF m pc Ls (.double y :: .double x :: sk)) h hx rfl hd rfl hn hv r) q
theorem s_ddiv (h : At T m c below) (hx : tb.exec = Jvm.exec) {x y z : UInt64} (hd : decode c.code pc = .ok (.ddiv, 1)) (hp : pc + 1 = pc') (hn : Jvm.Free.Fl.NoNaN64 (FP.ddiv x y)) (hv : FP.ddiv x y = z) (q : Go tb e below F T (mkF m pc' Ls (.double z :: sk))) : Go tb e below F T (mkF m pc Ls (.double y :: .double x :: sk)) := by
  subst hp; exact Go.st (fun _ r => XS.ddivS (g := mkF m pc Ls (.double y :: .double x :: sk)) h hx rfl hd rfl hn hv r) q
theorem s_dconst0 (h : At T m c below) (hx : tb.exec = Jvm.exec) {v : UInt64} (hd : decode c.code pc = .ok (.dconst 0, 1)) (hp : pc + 1 = pc') (hv : FP.dconst0 = v) (q : Go tb e below F T (mkF m pc' Ls (.double v :: sk))) : Go tb e below F T (mkF m pc Ls (sk)) := by
  subst hp; exact Go.st (fun _ r => XS.dconst0 (g := mkF m pc Ls (sk)) h hx rfl hd hv r) q
theorem s_dconst1 (h : At T m c below) (hx : tb.exec = Jvm.exec) {v : UInt64} (hd : decode c.code pc = .ok (.dconst 1, 1)) (hp : pc + 1 = pc') (hv : FP.dconst1 = v) (q : Go tb e below F T (mkF m pc' Ls (.double v :: sk))) : Go tb e below F T (mkF m pc Ls (sk)) := by
  subst hp; exact Go.st (fun _ r => XS.dconst1 (g := mkF m pc Ls (sk)) h hx rfl hd hv r) q
theorem s_goto (h : At T m c below) (hx : tb.exec = Jvm.exec) {o : Int} (hd : decode c.code pc = .ok (.goto o, 3)) (ho : 0 ≤ (pc : Int) + o) (hp : ((pc : Int) + o).toNat = pc') (q : Go tb e below F T (mkF m pc' Ls sk)) : Go tb e below F T (mkF m pc Ls sk) :=
  Go.st (fun _ r => XS.goto (g := mkF m pc Ls sk) h hx rfl (pc0 := pc) (pc' := pc') rfl hd ho hp r) q
theorem s_ifY (h : At T m c below) (hx : tb.exec = Jvm.exec) {cd : ClassFile.Cond} {o : Int} {x : Int32} (hd : decode c.code pc = .ok (.ifCond cd o, 3)) (hc : ifCond.holds cd x = true) (ho : 0 ≤ (pc : Int) + o) (hp : ((pc : Int) + o).toNat = pc') (q : Go tb e below F T (mkF m pc' Ls sk)) : Go tb e below F T (mkF m pc Ls (.int x :: sk)) :=
  Go.st (fun _ r => XS.ifYes (g := mkF m pc Ls (.int x :: sk)) h hx rfl (pc0 := pc) (pc' := pc') rfl hd rfl hc ho hp r) q
theorem s_ifN (h : At T m c below) (hx : tb.exec = Jvm.exec) {cd : ClassFile.Cond} {o : Int} {x : Int32} (hd : decode c.code pc = .ok (.ifCond cd o, 3)) (hp : pc + 3 = pc') (hc : ifCond.holds cd x = false) (q : Go tb e below F T (mkF m pc' Ls sk)) : Go tb e below F T (mkF m pc Ls (.int x :: sk)) := by
  subst hp; exact Go.st (fun _ r => XS.ifNo (g := mkF m pc Ls (.int x :: sk)) h hx rfl hd rfl hc r) q
theorem s_icmpY (h : At T m c below) (hx : tb.exec = Jvm.exec) {cd : ClassFile.Cond} {o : Int} {x y : Int32} (hd : decode c.code pc = .ok (.if_icmp cd o, 3)) (hc : if_icmp.holds cd x y = true) (ho : 0 ≤ (pc : Int) + o) (hp : ((pc : Int) + o).toNat = pc') (q : Go tb e below F T (mkF m pc' Ls sk)) : Go tb e below F T (mkF m pc Ls (.int y :: .int x :: sk)) :=
  Go.st (fun _ r => XS.icmpYes (g := mkF m pc Ls (.int y :: .int x :: sk)) h hx rfl (pc0 := pc) (pc' := pc') rfl hd rfl hc ho hp r) q
theorem s_icmpN (h : At T m c below) (hx : tb.exec = Jvm.exec) {cd : ClassFile.Cond} {o : Int} {x y : Int32} (hd : decode c.code pc = .ok (.if_icmp cd o, 3)) (hp : pc + 3 = pc') (hc : if_icmp.holds cd x y = false) (q : Go tb e below F T (mkF m pc' Ls sk)) : Go tb e below F T (mkF m pc Ls (.int y :: .int x :: sk)) := by
  subst hp; exact Go.st (fun _ r => XS.icmpNo (g := mkF m pc Ls (.int y :: .int x :: sk)) h hx rfl hd rfl hc r) q
theorem s_ifnullY (h : At T m c below) (hx : tb.exec = Jvm.exec) {o : Int} (hd : decode c.code pc = .ok (.ifnull o, 3)) (ho : 0 ≤ (pc : Int) + o) (hp : ((pc : Int) + o).toNat = pc') (q : Go tb e below F T (mkF m pc' Ls sk)) : Go tb e below F T (mkF m pc Ls (.null :: sk)) :=
  Go.st (fun _ r => XS.ifnullYes (g := mkF m pc Ls (.null :: sk)) h hx rfl (pc0 := pc) (pc' := pc') rfl hd rfl ho hp r) q
theorem s_ifnullN (h : At T m c below) (hx : tb.exec = Jvm.exec) {o : Int} {b : Addr} (hd : decode c.code pc = .ok (.ifnull o, 3)) (hp : pc + 3 = pc') (q : Go tb e below F T (mkF m pc' Ls sk)) : Go tb e below F T (mkF m pc Ls ((.ref b) :: sk)) := by
  subst hp; exact Go.st (fun _ r => XS.ifnullNo (g := mkF m pc Ls ((.ref b) :: sk)) h hx rfl hd rfl r) q
theorem s_ifnonnullY (h : At T m c below) (hx : tb.exec = Jvm.exec) {o : Int} {b : Addr} (hd : decode c.code pc = .ok (.ifnonnull o, 3)) (ho : 0 ≤ (pc : Int) + o) (hp : ((pc : Int) + o).toNat = pc') (q : Go tb e below F T (mkF m pc' Ls sk)) : Go tb e below F T (mkF m pc Ls ((.ref b) :: sk)) :=
  Go.st (fun _ r => XS.ifnonnullYes (g := mkF m pc Ls ((.ref b) :: sk)) h hx rfl (pc0 := pc) (pc' := pc') rfl hd rfl ho hp r) q
theorem s_ifnonnullN (h : At T m c below) (hx : tb.exec = Jvm.exec) {o : Int} (hd : decode c.code pc = .ok (.ifnonnull o, 3)) (hp : pc + 3 = pc') (q : Go tb e below F T (mkF m pc' Ls sk)) : Go tb e below F T (mkF m pc Ls (.null :: sk)) := by
  subst hp; exact Go.st (fun _ r => XS.ifnonnullNo (g := mkF m pc Ls (.null :: sk)) h hx rfl hd rfl r) q
end Steps
end Jvm.Own
namespace Jvm.Own
open Sem ClassFile Op Lib Bundle Jvm.Stand Jvm.Free Jvm.LawKit Jvm.RoadKit
section Ends
variable {tb : Tables} {e : Env} {below : List Frame} {F : State → Prop} {T t : State} {g : JFrame}
theorem Go.fin (h : Steps tb e below (T.setTop g) t) (k : F t) : Go tb e below F T g := ⟨t, h, k⟩
theorem fin_of {P : State → Outcome → Prop} (k : ∀ F : State → Prop, (∀ t o, t.status = .running → Ended t below o → P t o → F t) → Go tb e below F T g) : ∃ s₂ o, Steps tb e below (T.setTop g) s₂ ∧ s₂.status = .running ∧ Ended s₂ below o ∧ P s₂ o := by
  obtain ⟨t, h1, o, h2, h3, h4⟩ := k (fun t => ∃ o, t.status = .running ∧ Ended t below o ∧ P t o) fun t o h2 h3 h4 => ⟨o, h2, h3, h4⟩
  exact ⟨t, o, h1, h2, h3, h4⟩
end Ends
theorem cat_of_ref {v : Value} (h : v.isRef = true) : v.category = 1 := by rcases ref_cases h with rfl | ⟨a, rfl⟩ <;> rfl
theorem own_fits_ref {v : Value} {t : FieldType} (ht : t.isReference = true) (h : v.isRef = true) : fits t v = true := by rcases ref_cases h with rfl | ⟨a, rfl⟩ <;> cases t <;> first | rfl | (cases ht)
theorem own_narrow_ref {v : Value} {t : FieldType} (h : v.isRef = true) : narrow t v = v := by rcases ref_cases h with rfl | ⟨a, rfl⟩ <;> cases t <;> rfl
theorem wideOn {Z s : State} {vm0 vm1 : Vm} {n : Nat} {own : String} {k : ClassId} (hZ : Z.Warmed39 vm0) (hS : (s.setVm vm0).Since vm1 n) (hown : vm0.findClass own = some k) : Z.Warmed39 vm1 ∧ vm1.findClass own = some k :=
  ⟨State.Warmed39.trans (t := s.setVm vm0) hZ hS.1, by rw [hS.1.alike.findClass]; exact hown⟩
section BackX
variable {p : Program} {l : Launch} {e : Env} {R : Room} {s : State} {args : Array Value} {below : List Frame} {Z : State} {a0 : Array Value} {EL : List (String × Nat)} {h : Heap} {vm0 : Vm}
/-- what pays a call of a body that may load literals, whose objects xs are no literal's -/
theorem backX {y : MethodName} {bytes : ByteArray} {maxL : Nat} {ret : Option FieldType} {rm : Room} {len W : Nat} {as' : Array Value} {Q : Option Value → Heap → List Loc → Prop} {xs : List Addr}
    (hM : MetFree l y (head1 [Cond.code y bytes maxL ret] rm) (fun a U => a = as' ∧ Z.Warmed39 U.vm ∧ U.heap = h ∧ CHv Z EL U.vm h ∧ ∀ x ∈ xs, Safe Z EL U.vm h x) (fun _ _ _ _ _ => True) (fun _ U o U' => ∃ v L, o = .returned v ∧ Q v U'.heap L ∧ CHr Z EL U.vm U.heap U'.vm U'.heap ∧ ReturnedEndW U o U' L rm.cells rm.slots))
    (hZ : Z.Warmed39 vm0) (wc : (Cond.code y bytes maxL ret).before a0 Z = true) (wz : (Cond.initialized y.cls).before a0 Z = true) (hf : rm.frames + 1 ≤ R.frames) (hl : W + (maxL + 11) + rm.locals ≤ R.locals) (hEL : EW Z a0 EL) (H : CHv Z EL vm0 h) (hs : ∀ x ∈ xs, x < h.size ∧ Safe Z EL vm0 h x) :
    BackS l R p e below (s.setVm vm0) args y len W (fun A a => a = as' ∧ A.U.heap = h ∧ A.cells + rm.cells ≤ R.cells ∧ A.slots + rm.slots ≤ R.slots)
      (fun A _ v B => ∃ L, Q v B.U.heap L ∧ B.locs = A.locs ++ L ∧ B.cells = A.cells + rm.cells ∧ B.slots = A.slots + rm.slots ∧ CHr Z EL vm0 h B.U.vm B.U.heap) := by
  refine BackS.of_freeW (bytes := bytes) (maxL := maxL) (ret := ret) (E := fun _ first o t L k n => k = rm.cells ∧ n = rm.slots ∧ (∃ v, o = .returned v ∧ Q v t.heap L) ∧ CHr Z EL first.vm first.heap t.vm t.heap) hM hf hl ?_ ?_ (fun _ _ _ _ _ _ _ _ _ => trivial) ?_ ?_
  · intro m meth c A a Y hp
    have hU : Z.Warmed39 A.U.vm := wtrans (s := s.setVm vm0) hZ Y.warmed
    exact ⟨by show (Cond.and _ .tt).before a A.U = true; rw [Cond.before_and, mv hU wc]; rfl, mv hU wc, mv hU wz, hp.2.2.1, hp.2.2.2⟩
  · intro m meth c A a g mk Y hp
    have K := CHv.at Y hZ hEL H
    exact ⟨hp.1, wtrans (s := s.setVm vm0) hZ Y.warmed, hp.2.1, K.1, fun x hx => K.safe (hs x hx).1 (hs x hx).2⟩
  · intro _ _ _ _ ⟨v, L, h1, h2, h3, h4⟩
    exact ⟨L, _, _, h4, rfl, rfl, ⟨v, h1, h2⟩, h3⟩
  · intro m meth c A a g mk v t L k n Y hp _ _ ⟨e1, e2, ⟨v', e3, e4⟩, e5⟩
    cases e3; subst e1 e2
    refine ⟨L, e4, rfl, rfl, rfl, (CHv.at Y hZ hEL H).trans ?_⟩
    rw [← hp.2.1]; exact e5
end BackX
/-! small numbers -/
theorem eq32 {a b : Int32} (h : a.toInt = b.toInt) : a = b := Int32.toInt_inj.mp h
theorem chr_nar {c : Int32} (h : ¬ c < 0 ∧ ¬ (255 : Int32) < c) : nar .char c = c := by
  have q := c_i2c c
  have e1 : (255 : Int32).toInt = 255 := rfl
  have e0 : (0 : Int32).toInt = 0 := rfl
  have h1 := h.1; have h2 := h.2
  rw [Int32.lt_iff_toInt_lt] at h1 h2
  exact eq32 (by show c.toUInt32.toUInt16.toUInt32.toInt32.toInt = _; omega)
theorem chr_i2c {c : Int32} (h : ¬ c < 0 ∧ ¬ (255 : Int32) < c) : c.toUInt32.toUInt16.toUInt32.toInt32 = c := chr_nar h
theorem chr_mask (x : Int32) : ¬ (x &&& 255) < 0 ∧ ¬ (255 : Int32) < (x &&& 255) := by
  have q := c_mask x 255 8 (by decide) (by decide)
  have e1 : (255 : Int32).toInt = 255 := rfl
  have e0 : (0 : Int32).toInt = 0 := rfl
  rw [Int32.lt_iff_toInt_lt, Int32.lt_iff_toInt_lt]
  omega
theorem chr_lit {k : Nat} (h : k < 256) : ¬ (Int32.ofNat k) < 0 ∧ ¬ (255 : Int32) < (Int32.ofNat k) := by
  have q : (Int32.ofNat k).toInt = k := Int32.toInt_ofNat_small (by omega)
  have e1 : (255 : Int32).toInt = 255 := rfl
  have e0 : (0 : Int32).toInt = 0 := rfl
  rw [Int32.lt_iff_toInt_lt, Int32.lt_iff_toInt_lt]
  omega
theorem chr_up {cs : List Int32} (h : ∀ c ∈ cs, ¬ c < 0 ∧ ¬ (255 : Int32) < c) : ∀ c ∈ cs, ¬ c < 0 ∧ ¬ (65535 : Int32) < c := fun c hc => ⟨(h c hc).1, fun q => (h c hc).2 (by rw [Int32.lt_iff_toInt_lt] at q ⊢; have e1 : (65535 : Int32).toInt = 65535 := rfl; have e2 : (255 : Int32).toInt = 255 := rfl; omega)⟩
theorem bit01 (P : Prop) [Decidable P] : (if P then (0 : Int32) else 1) = 0 ∨ (if P then (0 : Int32) else 1) = 1 := by by_cases h : P <;> simp [h]
theorem nar_b {x : Int32} (h : x = 0 ∨ x = 1) : nar .boolean x = x := by rcases h with rfl | rfl <;> decide
theorem narZ {k : Int32} (h : k = 0 ∨ k = 1) : narrow .boolean (.int k) = .int k := by rcases h with rfl | rfl <;> decide
theorem fitZ {k : Int32} (h : k = 0 ∨ k = 1) : fits .boolean (.int k) = true := by rcases h with rfl | rfl <;> decide
end Jvm.Own
namespace Jvm.Pilot.@@N@@
open Jvm Jvm.ClassFile Sem Op Lib Jvm.Free Jvm.Stand Jvm.LawKit Jvm.RoadKit Jvm.Own Bundle Jvm.Pilot.@@N@@.Jvm.D
open Jvm.Free.Fl
/-- one turn of averagePrecision -/
def stp (S : UInt64) (a b r : Int32) : UInt64 := if b < a then FP.dadd S (FP.ddiv (FP.i2d a) (FP.i2d r)) else S
/-- the two sums that a turn makes are no NaN -/
def ok (S : UInt64) (a b r : Int32) : Prop := b < a → NoNaN64 (FP.ddiv (FP.i2d a) (FP.i2d r)) ∧ NoNaN64 (FP.dadd S (FP.ddiv (FP.i2d a) (FP.i2d r)))
theorem stp_pos {S : UInt64} {a b r : Int32} (h : b < a) : FP.dadd S (FP.ddiv (FP.i2d a) (FP.i2d r)) = stp S a b r := (if_pos h).symm
theorem stp_neg {S : UInt64} {a b r : Int32} (h : ¬ b < a) : S = stp S a b r := (if_neg h).symm
def up (c x : Int32) : Int32 := c + (if x = 0 then 0 else 1)
theorem pn_0 : plainName "com/example/kingfisher/kingfisher/eval/TopicRanking" = true := by first | (simp [plainName, overriddenIn]; done) | decide +kernel
theorem d_prog_21_m1_0 : decode prog_21_method_1_code 0 = .ok (.aload_n 0, 1) := by decide +kernel
theorem d_prog_21_m1_1 : decode prog_21_method_1_code 1 = .ok (.invokespecial 1, 3) := by decide +kernel
theorem d_prog_21_m1_4 : decode prog_21_method_1_code 4 = .ok (.aload_n 0, 1) := by decide +kernel
theorem d_prog_21_m1_5 : decode prog_21_method_1_code 5 = .ok (.aload_n 1, 1) := by decide +kernel
theorem d_prog_21_m1_6 : decode prog_21_method_1_code 6 = .ok (.arraylength, 1) := by decide +kernel
theorem d_prog_21_m1_7 : decode prog_21_method_1_code 7 = .ok (.iconst 1, 1) := by decide +kernel
theorem d_prog_21_m1_8 : decode prog_21_method_1_code 8 = .ok (.iadd, 1) := by decide +kernel
theorem d_prog_21_m1_9 : decode prog_21_method_1_code 9 = .ok (.newarray .int, 2) := by decide +kernel
theorem d_prog_21_m1_11 : decode prog_21_method_1_code 11 = .ok (.putfield 7, 3) := by decide +kernel
theorem d_prog_21_m1_14 : decode prog_21_method_1_code 14 = .ok (.iconst 1, 1) := by decide +kernel
theorem d_prog_21_m1_15 : decode prog_21_method_1_code 15 = .ok (.istore_n 3, 1) := by decide +kernel
theorem d_prog_21_m1_16 : decode prog_21_method_1_code 16 = .ok (.iload_n 3, 1) := by decide +kernel
theorem d_prog_21_m1_17 : decode prog_21_method_1_code 17 = .ok (.aload_n 1, 1) := by decide +kernel
theorem d_prog_21_m1_18 : decode prog_21_method_1_code 18 = .ok (.arraylength, 1) := by decide +kernel
theorem d_prog_21_m1_19 : decode prog_21_method_1_code 19 = .ok (.if_icmp .gt 37, 3) := by decide +kernel
theorem d_prog_21_m1_22 : decode prog_21_method_1_code 22 = .ok (.aload_n 0, 1) := by decide +kernel
theorem d_prog_21_m1_23 : decode prog_21_method_1_code 23 = .ok (.getfield 7, 3) := by decide +kernel
theorem d_prog_21_m1_26 : decode prog_21_method_1_code 26 = .ok (.iload_n 3, 1) := by decide +kernel
theorem d_prog_21_m1_27 : decode prog_21_method_1_code 27 = .ok (.aload_n 0, 1) := by decide +kernel
theorem d_prog_21_m1_28 : decode prog_21_method_1_code 28 = .ok (.getfield 7, 3) := by decide +kernel
theorem d_prog_21_m1_31 : decode prog_21_method_1_code 31 = .ok (.iload_n 3, 1) := by decide +kernel
theorem d_prog_21_m1_32 : decode prog_21_method_1_code 32 = .ok (.iconst 1, 1) := by decide +kernel
theorem d_prog_21_m1_33 : decode prog_21_method_1_code 33 = .ok (.isub, 1) := by decide +kernel
theorem d_prog_21_m1_34 : decode prog_21_method_1_code 34 = .ok (.iaload, 1) := by decide +kernel
theorem d_prog_21_m1_35 : decode prog_21_method_1_code 35 = .ok (.aload_n 1, 1) := by decide +kernel
theorem d_prog_21_m1_36 : decode prog_21_method_1_code 36 = .ok (.iload_n 3, 1) := by decide +kernel
theorem d_prog_21_m1_37 : decode prog_21_method_1_code 37 = .ok (.iconst 1, 1) := by decide +kernel
theorem d_prog_21_m1_38 : decode prog_21_method_1_code 38 = .ok (.isub, 1) := by decide +kernel
theorem d_prog_21_m1_39 : decode prog_21_method_1_code 39 = .ok (.baload, 1) := by decide +kernel
theorem d_prog_21_m1_40 : decode prog_21_method_1_code 40 = .ok (.ifCond .eq 7, 3) := by decide +kernel
theorem d_prog_21_m1_47 : decode prog_21_method_1_code 47 = .ok (.iconst 0, 1) := by decide +kernel
theorem d_prog_21_m1_43 : decode prog_21_method_1_code 43 = .ok (.iconst 1, 1) := by decide +kernel
theorem d_prog_21_m1_44 : decode prog_21_method_1_code 44 = .ok (.goto 4, 3) := by decide +kernel
theorem d_prog_21_m1_48 : decode prog_21_method_1_code 48 = .ok (.iadd, 1) := by decide +kernel
theorem d_prog_21_m1_49 : decode prog_21_method_1_code 49 = .ok (.iastore, 1) := by decide +kernel
theorem d_prog_21_m1_50 : decode prog_21_method_1_code 50 = .ok (.iinc 3 1, 3) := by decide +kernel
theorem d_prog_21_m1_53 : decode prog_21_method_1_code 53 = .ok (.goto (-37), 3) := by decide +kernel
theorem d_prog_21_m1_56 : decode prog_21_method_1_code 56 = .ok (.aload_n 0, 1) := by decide +kernel
theorem d_prog_21_m1_57 : decode prog_21_method_1_code 57 = .ok (.iload_n 2, 1) := by decide +kernel
theorem d_prog_21_m1_58 : decode prog_21_method_1_code 58 = .ok (.putfield 13, 3) := by decide +kernel
theorem d_prog_21_m1_61 : decode prog_21_method_1_code 61 = .ok (.return_, 1) := by decide +kernel
def QN (Z : State) (a b : Addr) (kb : ClassId) (x1 x2 x3 x4 rc : Int32) (h0 : Heap) (n0 : Nat) (v : Option Value) (h : Heap) (L : List Loc) : Prop := v = none ∧ Fr n0 L ∧ Keep h0 h [a] ∧ Exa Z h a "com/example/kingfisher/kingfisher/eval/TopicRanking" ∧ Fld Z h a "com/example/kingfisher/kingfisher/eval/TopicRanking" "relevantCount" "I" (.int rc) ∧ ∃ (t : Addr) (k : ClassId), Fld Z h a "com/example/kingfisher/kingfisher/eval/TopicRanking" "relevantWithin" "[I" (.ref t) ∧ Arv Z h t k .int (5 : Int32) [(.int (0 : Int32)), (.int ((0 : Int32) + (if x1 = (0 : Int32) then (0 : Int32) else (1 : Int32)))), (.int (((0 : Int32) + (if x1 = (0 : Int32) then (0 : Int32) else (1 : Int32))) + (if x2 = (0 : Int32) then (0 : Int32) else (1 : Int32)))), (.int ((((0 : Int32) + (if x1 = (0 : Int32) then (0 : Int32) else (1 : Int32))) + (if x2 = (0 : Int32) then (0 : Int32) else (1 : Int32))) + (if x3 = (0 : Int32) then (0 : Int32) else (1 : Int32)))), (.int (((((0 : Int32) + (if x1 = (0 : Int32) then (0 : Int32) else (1 : Int32))) + (if x2 = (0 : Int32) then (0 : Int32) else (1 : Int32))) + (if x3 = (0 : Int32) then (0 : Int32) else (1 : Int32))) + (if x4 = (0 : Int32) then (0 : Int32) else (1 : Int32))))] (.int (0 : Int32))
set_option maxRecDepth 65536 in
set_option maxHeartbeats 40000000 in
theorem rmN (l : Launch) (Z : State) (a0 : Array Value) (hw : ∀ d ∈ tables_1, d.before a0 Z = true) (ws : List Jvm.Cond) (a b : Addr) (kb : ClassId) (x1 x2 x3 x4 rc : Int32) (h0 : Heap) (n0 : Nat) (X00 : Old Z n0 h0) (ge_a : n0 ≤ a) (hne : b ≠ a) (E : Exa Z h0 a "com/example/kingfisher/kingfisher/eval/TopicRanking") (F1 : Fld Z h0 a "com/example/kingfisher/kingfisher/eval/TopicRanking" "relevantWithin" "[I" .null) (F2 : Fld Z h0 a "com/example/kingfisher/kingfisher/eval/TopicRanking" "relevantCount" "I" (.int (0 : Int32))) (VB : Arv Z h0 b kb .boolean (4 : Int32) [(.int x1), (.int x2), (.int x3), (.int x4)] (.int (0 : Int32))) :
    MetFree l (⟨"com/example/kingfisher/kingfisher/eval/TopicRanking", "<init>", "([ZI)V"⟩ : MethodName) (head1 (Jvm.Cond.code (⟨"com/example/kingfisher/kingfisher/eval/TopicRanking", "<init>", "([ZI)V"⟩ : MethodName) prog_21_method_1_code 4 none :: ws) ({ frames := 1, cells := 1, slots := 5, locals := 20 } : Room)) (fun aa U => aa = #[(.ref a), (.ref b), (.int rc)] ∧ Z.Warmed39 U.vm ∧ U.heap = h0) (fun _ _ _ _ _ => True) (fun _ U o U' => ∃ v L, o = .returned v ∧ QN Z a b kb x1 x2 x3 x4 rc h0 n0 v U'.heap L ∧ FrameEnd U o U' L ({ frames := 1, cells := 1, slots := 5, locals := 20 } : Room).cells ({ frames := 1, cells := 1, slots := 5, locals := 20 } : Room).slots) := by
  refine MetFree.of_bodySF (plainFor_of_name pn_0) hisR ?_
  intro p e s m args below meth c s₁ Bd hml0 hP hK
  obtain ⟨rfl, hZ, hh⟩ := hP
  have hx := Bd.exec
  have hby := Bd.bytes
  have hml : c.maxLocals = 4 := hml0
  have hown : s.vm.findClass "com/example/kingfisher/kingfisher/eval/TopicRanking" = some m.cls := findClass_of_methodNamed Bd.named
  have hnm := (name_of_methodNamed Bd.named Bd.method).1
  have X0 : Stand p l e ({ frames := 1, cells := 1, slots := 5, locals := 20 } : Room) s m #[(.ref a), (.ref b), (.int rc)] below meth c s₁ [] 0 0 := Stand.of_body Bd
  have e0 : s₁.heap = h0 := by rw [← hh, Bd.state]; rfl
  have N0 := Fr.nil n0
  have K0 := Keep.refl h0 [a]
  have ef : entryFrame m #[(.ref a), (.ref b), (.int rc)] 4 = mkF m 0 #[.val (.ref a), .val (.ref b), .val (.int rc), .unset] [] := (by first | (simp [entryFrame, mkF, argsToLocals, Value.category]; done) | rfl : entryFrame m #[(.ref a), (.ref b), (.int rc)] 4 = mkF m 0 #[.val (.ref a), .val (.ref b), .val (.int rc), .unset] [])
  rw [ef]
  refine fin_of fun Kx hF => ?_
  show Go p.tables e below Kx s₁ (mkF m 0 #[.val (.ref a), .val (.ref b), .val (.int rc), .unset] [])
  refine s_aloadN (pc' := 1) X0.here hx (hb hby d_prog_21_m1_0) rfl rfl rfl ?_
  obtain ⟨T1, X1, e1, st1⟩ := initO X0 hx hZ hown (hw _ (List.mem_of_getElem? (i := 8) rfl)) (hw _ (List.mem_of_getElem? (i := 9) rfl)) (hw _ (List.mem_of_getElem? (i := 10) rfl)) e0 (g := (mkF m 1 #[.val (.ref a), .val (.ref b), .val (.int rc), .unset] [(.ref a)])) rfl (by rw [hml]; rfl) rfl (hb hby d_prog_21_m1_1) (by decide) (W := 0) (by show 2 * 0 + _ ≤ _; exact Nat.le_of_eq rfl) (by decide)
  refine Go.st st1 ?_
  show Go p.tables e below Kx T1 (mkF m 4 #[.val (.ref a), .val (.ref b), .val (.int rc), .unset] [])
  refine s_aloadN (pc' := 5) X1.here hx (hb hby d_prog_21_m1_4) rfl rfl rfl ?_
  refine s_aloadN (pc' := 6) X1.here hx (hb hby d_prog_21_m1_5) rfl rfl rfl ?_
  obtain ⟨cl2, Ar2, Aq2, As2, An2, Ah2, Ag2⟩ := id VB
  refine Go.st (X1.arraylength hx (by rw [e1]; exact Ar2.1) (State.isArrayOf_alike hZ.alike Ar2.2.1) (g := (mkF m 6 #[.val (.ref a), .val (.ref b), .val (.int rc), .unset] [(.ref b), (.ref a)])) rfl rfl (hb hby d_prog_21_m1_6)) ?_
  rw [len_of As2 An2]
  show Go p.tables e below Kx T1 (mkF m 7 #[.val (.ref a), .val (.ref b), .val (.int rc), .unset] [(.int (4 : Int32)), (.ref a)])
  refine s_iconst (pc' := 8) (v := (1 : Int32)) X1.here hx (hb hby d_prog_21_m1_7) rfl rfl ?_
  refine s_iadd (pc' := 9) (z := (5 : Int32)) X1.here hx (hb hby d_prog_21_m1_8) rfl (by decide) ?_
  obtain ⟨T3, h3, k3, X3, e3, E3, A3, st3⟩ := newP X1 hx hZ (hw _ (List.mem_of_getElem? (i := 11) rfl)) e1 (g := (mkF m 9 #[.val (.ref a), .val (.ref b), .val (.int rc), .unset] [(.int (5 : Int32)), (.ref a)])) rfl (hb hby d_prog_21_m1_9) rfl (by decide) (cap := 5) (by decide) (by decide) (by decide) (by decide)
  obtain ⟨b3, g3⟩ : ∃ z, z = h0.size := ⟨_, rfl⟩
  rw [← g3] at A3 st3
  have sz3 : h0.size ≤ b3 := Nat.le_trans K0.1 (Nat.le_of_eq g3.symm)
  have ge3 : n0 ≤ b3 := Nat.le_trans (X00.1 ▸ X00.2.1) (Nat.le_of_eq g3.symm)
  have K3 : Keep h0 h3 [a] := K0.ext E3
  have O3 : Old Z n0 h3 := X00.ext E3
  have V3 : Arv Z h3 b3 k3 .int (5 : Int32) [(.int (0 : Int32)), (.int (0 : Int32)), (.int (0 : Int32)), (.int (0 : Int32)), (.int (0 : Int32))] (.int (0 : Int32)) := (Arv.new A3 (by decide)).pad (pad_rep [] (.int (0 : Int32)) 5)
  refine Go.st st3 ?_
  show Go p.tables e below Kx T3 (mkF m 11 #[.val (.ref a), .val (.ref b), .val (.int rc), .unset] [(.ref b3), (.ref a)])
  have f4 : Fld Z h3 a "com/example/kingfisher/kingfisher/eval/TopicRanking" "relevantWithin" "[I" .null := (F1.ext E3)
  have f5 : Exa Z h3 a "com/example/kingfisher/kingfisher/eval/TopicRanking" := (E.ext E3)
  obtain ⟨T6, h6, X6, e6, W6, st6⟩ := putF X3 hx hZ hown (host := "") (Or.inl (hw _ (List.mem_of_getElem? (i := 12) rfl))) Via.refl e3 f4 f5 (Or.inr ⟨(hw _ (List.mem_of_getElem? (i := 13) rfl)), rfl, hnm⟩) (hw _ (List.mem_of_getElem? (i := 3) rfl)) (ty := (.array .int)) (by decide) rfl rfl (g := (mkF m 11 #[.val (.ref a), .val (.ref b), .val (.int rc), .unset] [(.ref b3), (.ref a)])) rfl rfl (hb hby d_prog_21_m1_11)
  have Fw6 : Fld Z h6 a "com/example/kingfisher/kingfisher/eval/TopicRanking" "relevantWithin" "[I" (.ref b3) := f4.same W6
  have K6 : Keep h0 h6 [a] := K3.wr W6 (Or.inl (List.mem_of_getElem? (i := 0) rfl))
  have O6 : Old Z n0 h6 := O3.wr W6 ge_a
  have N6 := Fr.snoc X6 N0 ge_a
  refine Go.st st6 ?_
  show Go p.tables e below Kx T6 (mkF m 14 #[.val (.ref a), .val (.ref b), .val (.int rc), .unset] [])
  refine s_iconst (pc' := 15) (v := (1 : Int32)) X6.here hx (hb hby d_prog_21_m1_14) rfl rfl ?_
  refine s_istoreN (pc' := 16) (Ls' := #[.val (.ref a), .val (.ref b), .val (.int rc), .val (.int (1 : Int32))]) X6.here hx (hb hby d_prog_21_m1_15) rfl  rfl ?_
  refine s_iloadN (pc' := 17) X6.here hx (hb hby d_prog_21_m1_16) rfl rfl ?_
  refine s_aloadN (pc' := 18) X6.here hx (hb hby d_prog_21_m1_17) rfl rfl rfl ?_
  have f7 : Arv Z h6 b kb .boolean (4 : Int32) [(.int x1), (.int x2), (.int x3), (.int x4)] (.int (0 : Int32)) := ((VB.ext E3).other W6 hne)
  obtain ⟨cl8, Ar8, Aq8, As8, An8, Ah8, Ag8⟩ := id f7
  refine Go.st (X6.arraylength hx (by rw [e6]; exact Ar8.1) (State.isArrayOf_alike hZ.alike Ar8.2.1) (g := (mkF m 18 #[.val (.ref a), .val (.ref b), .val (.int rc), .val (.int (1 : Int32))] [(.ref b), (.int (1 : Int32))])) rfl rfl (hb hby d_prog_21_m1_18)) ?_
  rw [len_of As8 An8]
  show Go p.tables e below Kx T6 (mkF m 19 #[.val (.ref a), .val (.ref b), .val (.int rc), .val (.int (1 : Int32))] [(.int (4 : Int32)), (.int (1 : Int32))])
  refine s_icmpN (pc' := 22) X6.here hx (hb hby d_prog_21_m1_19) rfl (flt (by decide)).2.2.1 ?_
  refine s_aloadN (pc' := 23) X6.here hx (hb hby d_prog_21_m1_22) rfl rfl rfl ?_
  obtain ⟨T9, X9, e9, st9⟩ := getF X6 hx hZ hown (host := "") (Or.inl (hw _ (List.mem_of_getElem? (i := 12) rfl))) Via.refl e6 Fw6 (g := (mkF m 23 #[.val (.ref a), .val (.ref b), .val (.int rc), .val (.int (1 : Int32))] [(.ref a)])) rfl rfl (hb hby d_prog_21_m1_23)
  refine Go.st st9 ?_
  show Go p.tables e below Kx T9 (mkF m 26 #[.val (.ref a), .val (.ref b), .val (.int rc), .val (.int (1 : Int32))] [(.ref b3)])
  refine s_iloadN (pc' := 27) X9.here hx (hb hby d_prog_21_m1_26) rfl rfl ?_
  refine s_aloadN (pc' := 28) X9.here hx (hb hby d_prog_21_m1_27) rfl rfl rfl ?_
  obtain ⟨T10, X10, e10, st10⟩ := getF X9 hx hZ hown (host := "") (Or.inl (hw _ (List.mem_of_getElem? (i := 12) rfl))) Via.refl e9 Fw6 (g := (mkF m 28 #[.val (.ref a), .val (.ref b), .val (.int rc), .val (.int (1 : Int32))] [(.ref a), (.int (1 : Int32)), (.ref b3)])) rfl rfl (hb hby d_prog_21_m1_28)
  refine Go.st st10 ?_
  show Go p.tables e below Kx T10 (mkF m 31 #[.val (.ref a), .val (.ref b), .val (.int rc), .val (.int (1 : Int32))] [(.ref b3), (.int (1 : Int32)), (.ref b3)])
  refine s_iloadN (pc' := 32) X10.here hx (hb hby d_prog_21_m1_31) rfl rfl ?_
  refine s_iconst (pc' := 33) (v := (1 : Int32)) X10.here hx (hb hby d_prog_21_m1_32) rfl rfl ?_
  refine s_isub (pc' := 34) (z := (0 : Int32)) X10.here hx (hb hby d_prog_21_m1_33) rfl (by decide) ?_
  have f11 : Arv Z h6 b3 k3 .int (5 : Int32) [(.int (0 : Int32)), (.int (0 : Int32)), (.int (0 : Int32)), (.int (0 : Int32)), (.int (0 : Int32))] (.int (0 : Int32)) := (V3.other W6 (Ne.symm (Nat.ne_of_lt (Nat.lt_of_lt_of_le E.lt (Nat.le_of_eq g3.symm)))))
  obtain ⟨cl12, Ar12, Aq12, As12, An12, Ah12, Ag12⟩ := id f11
  have in13 := inb_of (j := (0 : Int32)) As12 (by decide)
  have at13 : cl12.slots[((0 : Int32)).toNatClampNeg]? = some (.int (0 : Int32)) := Ah12.at in13 rfl
  refine Go.st (X10.iaload hx (j := (0 : Int32)) (v := (.int (0 : Int32))) (by rw [e10]; exact Ar12.1) (State.isArrayOf_alike hZ.alike Ar12.2.1) Ar12.2.2 in13 at13 (g := (mkF m 34 #[.val (.ref a), .val (.ref b), .val (.int rc), .val (.int (1 : Int32))] [(.int (0 : Int32)), (.ref b3), (.int (1 : Int32)), (.ref b3)])) rfl rfl (hb hby d_prog_21_m1_34)) ?_
  show Go p.tables e below Kx T10 (mkF m 35 #[.val (.ref a), .val (.ref b), .val (.int rc), .val (.int (1 : Int32))] [(.int (0 : Int32)), (.int (1 : Int32)), (.ref b3)])
  refine s_aloadN (pc' := 36) X10.here hx (hb hby d_prog_21_m1_35) rfl rfl rfl ?_
  refine s_iloadN (pc' := 37) X10.here hx (hb hby d_prog_21_m1_36) rfl rfl ?_
  refine s_iconst (pc' := 38) (v := (1 : Int32)) X10.here hx (hb hby d_prog_21_m1_37) rfl rfl ?_
  refine s_isub (pc' := 39) (z := (0 : Int32)) X10.here hx (hb hby d_prog_21_m1_38) rfl (by decide) ?_
  obtain ⟨cl14, Ar14, Aq14, As14, An14, Ah14, Ag14⟩ := id f7
  have in15 := inb_of (j := (0 : Int32)) As14 (by decide)
  have at15 : cl14.slots[((0 : Int32)).toNatClampNeg]? = some (.int x1) := Ah14.at in15 rfl
  refine Go.st (X10.baloadBooleans hx (j := (0 : Int32)) (v := (.int x1)) (by rw [e10]; exact Ar14.1) (State.isArrayOf_alike hZ.alike Ar14.2.1) Ar14.2.2 in15 at15 (g := (mkF m 39 #[.val (.ref a), .val (.ref b), .val (.int rc), .val (.int (1 : Int32))] [(.int (0 : Int32)), (.ref b), (.int (0 : Int32)), (.int (1 : Int32)), (.ref b3)])) rfl rfl (hb hby d_prog_21_m1_39)) ?_
  show Go p.tables e below Kx T10 (mkF m 40 #[.val (.ref a), .val (.ref b), .val (.int rc), .val (.int (1 : Int32))] [(.int x1), (.int (0 : Int32)), (.int (1 : Int32)), (.ref b3)])
  suffices J17 : Go p.tables e below Kx T10 (mkF m 48 #[.val (.ref a), .val (.ref b), .val (.int rc), .val (.int (1 : Int32))] [(.int (if x1 = (0 : Int32) then (0 : Int32) else (1 : Int32))), (.int (0 : Int32)), (.int (1 : Int32)), (.ref b3)]) by
    by_cases hc16 : x1 = (0 : Int32)
    · skip
      simp only [if_pos hc16] at J17
      refine s_ifY (pc' := 47) X10.here hx (hb hby d_prog_21_m1_40) ((if0 _ _).trans (teq hc16).1) (by decide) (by decide) ?_
      refine s_iconst (pc' := 48) (v := (0 : Int32)) X10.here hx (hb hby d_prog_21_m1_47) rfl rfl ?_
      exact J17
    · skip
      simp only [if_neg hc16] at J17
      refine s_ifN (pc' := 43) X10.here hx (hb hby d_prog_21_m1_40) rfl ((if0 _ _).trans (feq hc16).1) ?_
      refine s_iconst (pc' := 44) (v := (1 : Int32)) X10.here hx (hb hby d_prog_21_m1_43) rfl rfl ?_
      refine s_goto (pc' := 48) X10.here hx (hb hby d_prog_21_m1_44) (by decide) (by decide) ?_
      exact J17
  refine s_iadd (pc' := 49) X10.here hx (hb hby d_prog_21_m1_48) rfl rfl ?_
  obtain ⟨cl18, Ar18, Aq18, As18, An18, Ah18, Ag18⟩ := id f11
  have in19 := inb_of (j := (1 : Int32)) As18 (by decide)
  obtain ⟨T19, h19, X19, e19, W19, st19⟩ := stI X10 hx hZ e10 Ar18 (j := (1 : Int32)) in19 (g := (mkF m 49 #[.val (.ref a), .val (.ref b), .val (.int rc), .val (.int (1 : Int32))] [(.int ((0 : Int32) + (if x1 = (0 : Int32) then (0 : Int32) else (1 : Int32)))), (.int (1 : Int32)), (.ref b3)])) rfl rfl (hb hby d_prog_21_m1_49)
  have V19 : Arv Z h19 b3 k3 .int (5 : Int32) [(.int (0 : Int32)), (.int ((0 : Int32) + (if x1 = (0 : Int32) then (0 : Int32) else (1 : Int32)))), (.int (0 : Int32)), (.int (0 : Int32)), (.int (0 : Int32))] (.int (0 : Int32)) := Arv.set Ar18 Aq18 As18 An18 Ah18 Ag18 rfl W19 1 rfl (Nat.le_of_ble_eq_true rfl)
  have K19 : Keep h0 h19 [a] := K6.wr W19 (Or.inr sz3)
  have O19 : Old Z n0 h19 := O6.wr W19 ge3
  have N19 := Fr.snoc X19 N6 ge3
  refine Go.st st19 ?_
  show Go p.tables e below Kx T19 (mkF m 50 #[.val (.ref a), .val (.ref b), .val (.int rc), .val (.int (1 : Int32))] [])
  refine s_iinc (pc' := 53) (Ls' := #[.val (.ref a), .val (.ref b), .val (.int rc), .val (.int (2 : Int32))]) (z := (2 : Int32)) X19.here hx (hb hby d_prog_21_m1_50) rfl rfl (by decide) rfl ?_
  refine s_goto (pc' := 16) X19.here hx (hb hby d_prog_21_m1_53) (by decide) (by decide) ?_
  refine s_iloadN (pc' := 17) X19.here hx (hb hby d_prog_21_m1_16) rfl rfl ?_
  refine s_aloadN (pc' := 18) X19.here hx (hb hby d_prog_21_m1_17) rfl rfl rfl ?_
  have f20 : Arv Z h19 b kb .boolean (4 : Int32) [(.int x1), (.int x2), (.int x3), (.int x4)] (.int (0 : Int32)) := (f7.other W19 (Nat.ne_of_lt (Nat.lt_of_lt_of_le VB.lt (Nat.le_of_eq g3.symm))))
  obtain ⟨cl21, Ar21, Aq21, As21, An21, Ah21, Ag21⟩ := id f20
  refine Go.st (X19.arraylength hx (by rw [e19]; exact Ar21.1) (State.isArrayOf_alike hZ.alike Ar21.2.1) (g := (mkF m 18 #[.val (.ref a), .val (.ref b), .val (.int rc), .val (.int (2 : Int32))] [(.ref b), (.int (2 : Int32))])) rfl rfl (hb hby d_prog_21_m1_18)) ?_
  rw [len_of As21 An21]
  show Go p.tables e below Kx T19 (mkF m 19 #[.val (.ref a), .val (.ref b), .val (.int rc), .val (.int (2 : Int32))] [(.int (4 : Int32)), (.int (2 : Int32))])
  refine s_icmpN (pc' := 22) X19.here hx (hb hby d_prog_21_m1_19) rfl (flt (by decide)).2.2.1 ?_
  refine s_aloadN (pc' := 23) X19.here hx (hb hby d_prog_21_m1_22) rfl rfl rfl ?_
  have f22 : Fld Z h19 a "com/example/kingfisher/kingfisher/eval/TopicRanking" "relevantWithin" "[I" (.ref b3) := (Fw6.other W19 (Or.inl (Nat.ne_of_lt (Nat.lt_of_lt_of_le E.lt (Nat.le_of_eq g3.symm)))))
  obtain ⟨T23, X23, e23, st23⟩ := getF X19 hx hZ hown (host := "") (Or.inl (hw _ (List.mem_of_getElem? (i := 12) rfl))) Via.refl e19 f22 (g := (mkF m 23 #[.val (.ref a), .val (.ref b), .val (.int rc), .val (.int (2 : Int32))] [(.ref a)])) rfl rfl (hb hby d_prog_21_m1_23)
  refine Go.st st23 ?_
  show Go p.tables e below Kx T23 (mkF m 26 #[.val (.ref a), .val (.ref b), .val (.int rc), .val (.int (2 : Int32))] [(.ref b3)])
  refine s_iloadN (pc' := 27) X23.here hx (hb hby d_prog_21_m1_26) rfl rfl ?_
  refine s_aloadN (pc' := 28) X23.here hx (hb hby d_prog_21_m1_27) rfl rfl rfl ?_
  obtain ⟨T24, X24, e24, st24⟩ := getF X23 hx hZ hown (host := "") (Or.inl (hw _ (List.mem_of_getElem? (i := 12) rfl))) Via.refl e23 f22 (g := (mkF m 28 #[.val (.ref a), .val (.ref b), .val (.int rc), .val (.int (2 : Int32))] [(.ref a), (.int (2 : Int32)), (.ref b3)])) rfl rfl (hb hby d_prog_21_m1_28)
  refine Go.st st24 ?_
  show Go p.tables e below Kx T24 (mkF m 31 #[.val (.ref a), .val (.ref b), .val (.int rc), .val (.int (2 : Int32))] [(.ref b3), (.int (2 : Int32)), (.ref b3)])
  refine s_iloadN (pc' := 32) X24.here hx (hb hby d_prog_21_m1_31) rfl rfl ?_
  refine s_iconst (pc' := 33) (v := (1 : Int32)) X24.here hx (hb hby d_prog_21_m1_32) rfl rfl ?_
  refine s_isub (pc' := 34) (z := (1 : Int32)) X24.here hx (hb hby d_prog_21_m1_33) rfl (by decide) ?_
  obtain ⟨cl25, Ar25, Aq25, As25, An25, Ah25, Ag25⟩ := id V19
  have in26 := inb_of (j := (1 : Int32)) As25 (by decide)
  have at26 : cl25.slots[((1 : Int32)).toNatClampNeg]? = some (.int ((0 : Int32) + (if x1 = (0 : Int32) then (0 : Int32) else (1 : Int32)))) := Ah25.at in26 rfl
  refine Go.st (X24.iaload hx (j := (1 : Int32)) (v := (.int ((0 : Int32) + (if x1 = (0 : Int32) then (0 : Int32) else (1 : Int32))))) (by rw [e24]; exact Ar25.1) (State.isArrayOf_alike hZ.alike Ar25.2.1) Ar25.2.2 in26 at26 (g := (mkF m 34 #[.val (.ref a), .val (.ref b), .val (.int rc), .val (.int (2 : Int32))] [(.int (1 : Int32)), (.ref b3), (.int (2 : Int32)), (.ref b3)])) rfl rfl (hb hby d_prog_21_m1_34)) ?_
  show Go p.tables e below Kx T24 (mkF m 35 #[.val (.ref a), .val (.ref b), .val (.int rc), .val (.int (2 : Int32))] [(.int ((0 : Int32) + (if x1 = (0 : Int32) then (0 : Int32) else (1 : Int32)))), (.int (2 : Int32)), (.ref b3)])
  refine s_aloadN (pc' := 36) X24.here hx (hb hby d_prog_21_m1_35) rfl rfl rfl ?_
  refine s_iloadN (pc' := 37) X24.here hx (hb hby d_prog_21_m1_36) rfl rfl ?_
  refine s_iconst (pc' := 38) (v := (1 : Int32)) X24.here hx (hb hby d_prog_21_m1_37) rfl rfl ?_
  refine s_isub (pc' := 39) (z := (1 : Int32)) X24.here hx (hb hby d_prog_21_m1_38) rfl (by decide) ?_
  obtain ⟨cl27, Ar27, Aq27, As27, An27, Ah27, Ag27⟩ := id f20
  have in28 := inb_of (j := (1 : Int32)) As27 (by decide)
  have at28 : cl27.slots[((1 : Int32)).toNatClampNeg]? = some (.int x2) := Ah27.at in28 rfl
  refine Go.st (X24.baloadBooleans hx (j := (1 : Int32)) (v := (.int x2)) (by rw [e24]; exact Ar27.1) (State.isArrayOf_alike hZ.alike Ar27.2.1) Ar27.2.2 in28 at28 (g := (mkF m 39 #[.val (.ref a), .val (.ref b), .val (.int rc), .val (.int (2 : Int32))] [(.int (1 : Int32)), (.ref b), (.int ((0 : Int32) + (if x1 = (0 : Int32) then (0 : Int32) else (1 : Int32)))), (.int (2 : Int32)), (.ref b3)])) rfl rfl (hb hby d_prog_21_m1_39)) ?_
  show Go p.tables e below Kx T24 (mkF m 40 #[.val (.ref a), .val (.ref b), .val (.int rc), .val (.int (2 : Int32))] [(.int x2), (.int ((0 : Int32) + (if x1 = (0 : Int32) then (0 : Int32) else (1 : Int32)))), (.int (2 : Int32)), (.ref b3)])
  suffices J30 : Go p.tables e below Kx T24 (mkF m 48 #[.val (.ref a), .val (.ref b), .val (.int rc), .val (.int (2 : Int32))] [(.int (if x2 = (0 : Int32) then (0 : Int32) else (1 : Int32))), (.int ((0 : Int32) + (if x1 = (0 : Int32) then (0 : Int32) else (1 : Int32)))), (.int (2 : Int32)), (.ref b3)]) by
    by_cases hc29 : x2 = (0 : Int32)
    · skip
      simp only [if_pos hc29] at J30
      refine s_ifY (pc' := 47) X24.here hx (hb hby d_prog_21_m1_40) ((if0 _ _).trans (teq hc29).1) (by decide) (by decide) ?_
      refine s_iconst (pc' := 48) (v := (0 : Int32)) X24.here hx (hb hby d_prog_21_m1_47) rfl rfl ?_
      exact J30
    · skip
      simp only [if_neg hc29] at J30
      refine s_ifN (pc' := 43) X24.here hx (hb hby d_prog_21_m1_40) rfl ((if0 _ _).trans (feq hc29).1) ?_
      refine s_iconst (pc' := 44) (v := (1 : Int32)) X24.here hx (hb hby d_prog_21_m1_43) rfl rfl ?_
      refine s_goto (pc' := 48) X24.here hx (hb hby d_prog_21_m1_44) (by decide) (by decide) ?_
      exact J30
  refine s_iadd (pc' := 49) X24.here hx (hb hby d_prog_21_m1_48) rfl rfl ?_
  obtain ⟨cl31, Ar31, Aq31, As31, An31, Ah31, Ag31⟩ := id V19
  have in32 := inb_of (j := (2 : Int32)) As31 (by decide)
  obtain ⟨T32, h32, X32, e32, W32, st32⟩ := stI X24 hx hZ e24 Ar31 (j := (2 : Int32)) in32 (g := (mkF m 49 #[.val (.ref a), .val (.ref b), .val (.int rc), .val (.int (2 : Int32))] [(.int (((0 : Int32) + (if x1 = (0 : Int32) then (0 : Int32) else (1 : Int32))) + (if x2 = (0 : Int32) then (0 : Int32) else (1 : Int32)))), (.int (2 : Int32)), (.ref b3)])) rfl rfl (hb hby d_prog_21_m1_49)
  have V32 : Arv Z h32 b3 k3 .int (5 : Int32) [(.int (0 : Int32)), (.int ((0 : Int32) + (if x1 = (0 : Int32) then (0 : Int32) else (1 : Int32)))), (.int (((0 : Int32) + (if x1 = (0 : Int32) then (0 : Int32) else (1 : Int32))) + (if x2 = (0 : Int32) then (0 : Int32) else (1 : Int32)))), (.int (0 : Int32)), (.int (0 : Int32))] (.int (0 : Int32)) := Arv.set Ar31 Aq31 As31 An31 Ah31 Ag31 rfl W32 2 rfl (Nat.le_of_ble_eq_true rfl)
  have K32 : Keep h0 h32 [a] := K19.wr W32 (Or.inr sz3)
  have O32 : Old Z n0 h32 := O19.wr W32 ge3
  have N32 := Fr.snoc X32 N19 ge3
  refine Go.st st32 ?_
  show Go p.tables e below Kx T32 (mkF m 50 #[.val (.ref a), .val (.ref b), .val (.int rc), .val (.int (2 : Int32))] [])
  refine s_iinc (pc' := 53) (Ls' := #[.val (.ref a), .val (.ref b), .val (.int rc), .val (.int (3 : Int32))]) (z := (3 : Int32)) X32.here hx (hb hby d_prog_21_m1_50) rfl rfl (by decide) rfl ?_
  refine s_goto (pc' := 16) X32.here hx (hb hby d_prog_21_m1_53) (by decide) (by decide) ?_
  refine s_iloadN (pc' := 17) X32.here hx (hb hby d_prog_21_m1_16) rfl rfl ?_
  refine s_aloadN (pc' := 18) X32.here hx (hb hby d_prog_21_m1_17) rfl rfl rfl ?_
  have f33 : Arv Z h32 b kb .boolean (4 : Int32) [(.int x1), (.int x2), (.int x3), (.int x4)] (.int (0 : Int32)) := (f20.other W32 (Nat.ne_of_lt (Nat.lt_of_lt_of_le VB.lt (Nat.le_of_eq g3.symm))))
  obtain ⟨cl34, Ar34, Aq34, As34, An34, Ah34, Ag34⟩ := id f33
  refine Go.st (X32.arraylength hx (by rw [e32]; exact Ar34.1) (State.isArrayOf_alike hZ.alike Ar34.2.1) (g := (mkF m 18 #[.val (.ref a), .val (.ref b), .val (.int rc), .val (.int (3 : Int32))] [(.ref b), (.int (3 : Int32))])) rfl rfl (hb hby d_prog_21_m1_18)) ?_
  rw [len_of As34 An34]
  show Go p.tables e below Kx T32 (mkF m 19 #[.val (.ref a), .val (.ref b), .val (.int rc), .val (.int (3 : Int32))] [(.int (4 : Int32)), (.int (3 : Int32))])
  refine s_icmpN (pc' := 22) X32.here hx (hb hby d_prog_21_m1_19) rfl (flt (by decide)).2.2.1 ?_
  refine s_aloadN (pc' := 23) X32.here hx (hb hby d_prog_21_m1_22) rfl rfl rfl ?_
  have f35 : Fld Z h32 a "com/example/kingfisher/kingfisher/eval/TopicRanking" "relevantWithin" "[I" (.ref b3) := (f22.other W32 (Or.inl (Nat.ne_of_lt (Nat.lt_of_lt_of_le E.lt (Nat.le_of_eq g3.symm)))))
  obtain ⟨T36, X36, e36, st36⟩ := getF X32 hx hZ hown (host := "") (Or.inl (hw _ (List.mem_of_getElem? (i := 12) rfl))) Via.refl e32 f35 (g := (mkF m 23 #[.val (.ref a), .val (.ref b), .val (.int rc), .val (.int (3 : Int32))] [(.ref a)])) rfl rfl (hb hby d_prog_21_m1_23)
  refine Go.st st36 ?_
  show Go p.tables e below Kx T36 (mkF m 26 #[.val (.ref a), .val (.ref b), .val (.int rc), .val (.int (3 : Int32))] [(.ref b3)])
  refine s_iloadN (pc' := 27) X36.here hx (hb hby d_prog_21_m1_26) rfl rfl ?_
  refine s_aloadN (pc' := 28) X36.here hx (hb hby d_prog_21_m1_27) rfl rfl rfl ?_
  obtain ⟨T37, X37, e37, st37⟩ := getF X36 hx hZ hown (host := "") (Or.inl (hw _ (List.mem_of_getElem? (i := 12) rfl))) Via.refl e36 f35 (g := (mkF m 28 #[.val (.ref a), .val (.ref b), .val (.int rc), .val (.int (3 : Int32))] [(.ref a), (.int (3 : Int32)), (.ref b3)])) rfl rfl (hb hby d_prog_21_m1_28)
  refine Go.st st37 ?_
  show Go p.tables e below Kx T37 (mkF m 31 #[.val (.ref a), .val (.ref b), .val (.int rc), .val (.int (3 : Int32))] [(.ref b3), (.int (3 : Int32)), (.ref b3)])
  refine s_iloadN (pc' := 32) X37.here hx (hb hby d_prog_21_m1_31) rfl rfl ?_
  refine s_iconst (pc' := 33) (v := (1 : Int32)) X37.here hx (hb hby d_prog_21_m1_32) rfl rfl ?_
  refine s_isub (pc' := 34) (z := (2 : Int32)) X37.here hx (hb hby d_prog_21_m1_33) rfl (by decide) ?_
  obtain ⟨cl38, Ar38, Aq38, As38, An38, Ah38, Ag38⟩ := id V32
  have in39 := inb_of (j := (2 : Int32)) As38 (by decide)
  have at39 : cl38.slots[((2 : Int32)).toNatClampNeg]? = some (.int (((0 : Int32) + (if x1 = (0 : Int32) then (0 : Int32) else (1 : Int32))) + (if x2 = (0 : Int32) then (0 : Int32) else (1 : Int32)))) := Ah38.at in39 rfl
  refine Go.st (X37.iaload hx (j := (2 : Int32)) (v := (.int (((0 : Int32) + (if x1 = (0 : Int32) then (0 : Int32) else (1 : Int32))) + (if x2 = (0 : Int32) then (0 : Int32) else (1 : Int32))))) (by rw [e37]; exact Ar38.1) (State.isArrayOf_alike hZ.alike Ar38.2.1) Ar38.2.2 in39 at39 (g := (mkF m 34 #[.val (.ref a), .val (.ref b), .val (.int rc), .val (.int (3 : Int32))] [(.int (2 : Int32)), (.ref b3), (.int (3 : Int32)), (.ref b3)])) rfl rfl (hb hby d_prog_21_m1_34)) ?_
  show Go p.tables e below Kx T37 (mkF m 35 #[.val (.ref a), .val (.ref b), .val (.int rc), .val (.int (3 : Int32))] [(.int (((0 : Int32) + (if x1 = (0 : Int32) then (0 : Int32) else (1 : Int32))) + (if x2 = (0 : Int32) then (0 : Int32) else (1 : Int32)))), (.int (3 : Int32)), (.ref b3)])
  refine s_aloadN (pc' := 36) X37.here hx (hb hby d_prog_21_m1_35) rfl rfl rfl ?_
  refine s_iloadN (pc' := 37) X37.here hx (hb hby d_prog_21_m1_36) rfl rfl ?_
  refine s_iconst (pc' := 38) (v := (1 : Int32)) X37.here hx (hb hby d_prog_21_m1_37) rfl rfl ?_
  refine s_isub (pc' := 39) (z := (2 : Int32)) X37.here hx (hb hby d_prog_21_m1_38) rfl (by decide) ?_
  obtain ⟨cl40, Ar40, Aq40, As40, An40, Ah40, Ag40⟩ := id f33
  have in41 := inb_of (j := (2 : Int32)) As40 (by decide)
  have at41 : cl40.slots[((2 : Int32)).toNatClampNeg]? = some (.int x3) := Ah40.at in41 rfl
  refine Go.st (X37.baloadBooleans hx (j := (2 : Int32)) (v := (.int x3)) (by rw [e37]; exact Ar40.1) (State.isArrayOf_alike hZ.alike Ar40.2.1) Ar40.2.2 in41 at41 (g := (mkF m 39 #[.val (.ref a), .val (.ref b), .val (.int rc), .val (.int (3 : Int32))] [(.int (2 : Int32)), (.ref b), (.int (((0 : Int32) + (if x1 = (0 : Int32) then (0 : Int32) else (1 : Int32))) + (if x2 = (0 : Int32) then (0 : Int32) else (1 : Int32)))), (.int (3 : Int32)), (.ref b3)])) rfl rfl (hb hby d_prog_21_m1_39)) ?_
  show Go p.tables e below Kx T37 (mkF m 40 #[.val (.ref a), .val (.ref b), .val (.int rc), .val (.int (3 : Int32))] [(.int x3), (.int (((0 : Int32) + (if x1 = (0 : Int32) then (0 : Int32) else (1 : Int32))) + (if x2 = (0 : Int32) then (0 : Int32) else (1 : Int32)))), (.int (3 : Int32)), (.ref b3)])
  suffices J43 : Go p.tables e below Kx T37 (mkF m 48 #[.val (.ref a), .val (.ref b), .val (.int rc), .val (.int (3 : Int32))] [(.int (if x3 = (0 : Int32) then (0 : Int32) else (1 : Int32))), (.int (((0 : Int32) + (if x1 = (0 : Int32) then (0 : Int32) else (1 : Int32))) + (if x2 = (0 : Int32) then (0 : Int32) else (1 : Int32)))), (.int (3 : Int32)), (.ref b3)]) by
    by_cases hc42 : x3 = (0 : Int32)
    · skip
      simp only [if_pos hc42] at J43
      refine s_ifY (pc' := 47) X37.here hx (hb hby d_prog_21_m1_40) ((if0 _ _).trans (teq hc42).1) (by decide) (by decide) ?_
      refine s_iconst (pc' := 48) (v := (0 : Int32)) X37.here hx (hb hby d_prog_21_m1_47) rfl rfl ?_
      exact J43
    · skip
      simp only [if_neg hc42] at J43
      refine s_ifN (pc' := 43) X37.here hx (hb hby d_prog_21_m1_40) rfl ((if0 _ _).trans (feq hc42).1) ?_
      refine s_iconst (pc' := 44) (v := (1 : Int32)) X37.here hx (hb hby d_prog_21_m1_43) rfl rfl ?_
      refine s_goto (pc' := 48) X37.here hx (hb hby d_prog_21_m1_44) (by decide) (by decide) ?_
      exact J43
  refine s_iadd (pc' := 49) X37.here hx (hb hby d_prog_21_m1_48) rfl rfl ?_
  obtain ⟨cl44, Ar44, Aq44, As44, An44, Ah44, Ag44⟩ := id V32
  have in45 := inb_of (j := (3 : Int32)) As44 (by decide)
  obtain ⟨T45, h45, X45, e45, W45, st45⟩ := stI X37 hx hZ e37 Ar44 (j := (3 : Int32)) in45 (g := (mkF m 49 #[.val (.ref a), .val (.ref b), .val (.int rc), .val (.int (3 : Int32))] [(.int ((((0 : Int32) + (if x1 = (0 : Int32) then (0 : Int32) else (1 : Int32))) + (if x2 = (0 : Int32) then (0 : Int32) else (1 : Int32))) + (if x3 = (0 : Int32) then (0 : Int32) else (1 : Int32)))), (.int (3 : Int32)), (.ref b3)])) rfl rfl (hb hby d_prog_21_m1_49)
  have V45 : Arv Z h45 b3 k3 .int (5 : Int32) [(.int (0 : Int32)), (.int ((0 : Int32) + (if x1 = (0 : Int32) then (0 : Int32) else (1 : Int32)))), (.int (((0 : Int32) + (if x1 = (0 : Int32) then (0 : Int32) else (1 : Int32))) + (if x2 = (0 : Int32) then (0 : Int32) else (1 : Int32)))), (.int ((((0 : Int32) + (if x1 = (0 : Int32) then (0 : Int32) else (1 : Int32))) + (if x2 = (0 : Int32) then (0 : Int32) else (1 : Int32))) + (if x3 = (0 : Int32) then (0 : Int32) else (1 : Int32)))), (.int (0 : Int32))] (.int (0 : Int32)) := Arv.set Ar44 Aq44 As44 An44 Ah44 Ag44 rfl W45 3 rfl (Nat.le_of_ble_eq_true rfl)
  have K45 : Keep h0 h45 [a] := K32.wr W45 (Or.inr sz3)
  have O45 : Old Z n0 h45 := O32.wr W45 ge3
  have N45 := Fr.snoc X45 N32 ge3
  refine Go.st st45 ?_
  show Go p.tables e below Kx T45 (mkF m 50 #[.val (.ref a), .val (.ref b), .val (.int rc), .val (.int (3 : Int32))] [])
  refine s_iinc (pc' := 53) (Ls' := #[.val (.ref a), .val (.ref b), .val (.int rc), .val (.int (4 : Int32))]) (z := (4 : Int32)) X45.here hx (hb hby d_prog_21_m1_50) rfl rfl (by decide) rfl ?_
  refine s_goto (pc' := 16) X45.here hx (hb hby d_prog_21_m1_53) (by decide) (by decide) ?_
  refine s_iloadN (pc' := 17) X45.here hx (hb hby d_prog_21_m1_16) rfl rfl ?_
  refine s_aloadN (pc' := 18) X45.here hx (hb hby d_prog_21_m1_17) rfl rfl rfl ?_
  have f46 : Arv Z h45 b kb .boolean (4 : Int32) [(.int x1), (.int x2), (.int x3), (.int x4)] (.int (0 : Int32)) := (f33.other W45 (Nat.ne_of_lt (Nat.lt_of_lt_of_le VB.lt (Nat.le_of_eq g3.symm))))
  obtain ⟨cl47, Ar47, Aq47, As47, An47, Ah47, Ag47⟩ := id f46
  refine Go.st (X45.arraylength hx (by rw [e45]; exact Ar47.1) (State.isArrayOf_alike hZ.alike Ar47.2.1) (g := (mkF m 18 #[.val (.ref a), .val (.ref b), .val (.int rc), .val (.int (4 : Int32))] [(.ref b), (.int (4 : Int32))])) rfl rfl (hb hby d_prog_21_m1_18)) ?_
  rw [len_of As47 An47]
  show Go p.tables e below Kx T45 (mkF m 19 #[.val (.ref a), .val (.ref b), .val (.int rc), .val (.int (4 : Int32))] [(.int (4 : Int32)), (.int (4 : Int32))])
  refine s_icmpN (pc' := 22) X45.here hx (hb hby d_prog_21_m1_19) rfl (flt (by decide)).2.2.1 ?_
  refine s_aloadN (pc' := 23) X45.here hx (hb hby d_prog_21_m1_22) rfl rfl rfl ?_
  have f48 : Fld Z h45 a "com/example/kingfisher/kingfisher/eval/TopicRanking" "relevantWithin" "[I" (.ref b3) := (f35.other W45 (Or.inl (Nat.ne_of_lt (Nat.lt_of_lt_of_le E.lt (Nat.le_of_eq g3.symm)))))
  obtain ⟨T49, X49, e49, st49⟩ := getF X45 hx hZ hown (host := "") (Or.inl (hw _ (List.mem_of_getElem? (i := 12) rfl))) Via.refl e45 f48 (g := (mkF m 23 #[.val (.ref a), .val (.ref b), .val (.int rc), .val (.int (4 : Int32))] [(.ref a)])) rfl rfl (hb hby d_prog_21_m1_23)
  refine Go.st st49 ?_
  show Go p.tables e below Kx T49 (mkF m 26 #[.val (.ref a), .val (.ref b), .val (.int rc), .val (.int (4 : Int32))] [(.ref b3)])
  refine s_iloadN (pc' := 27) X49.here hx (hb hby d_prog_21_m1_26) rfl rfl ?_
  refine s_aloadN (pc' := 28) X49.here hx (hb hby d_prog_21_m1_27) rfl rfl rfl ?_
  obtain ⟨T50, X50, e50, st50⟩ := getF X49 hx hZ hown (host := "") (Or.inl (hw _ (List.mem_of_getElem? (i := 12) rfl))) Via.refl e49 f48 (g := (mkF m 28 #[.val (.ref a), .val (.ref b), .val (.int rc), .val (.int (4 : Int32))] [(.ref a), (.int (4 : Int32)), (.ref b3)])) rfl rfl (hb hby d_prog_21_m1_28)
  refine Go.st st50 ?_
  show Go p.tables e below Kx T50 (mkF m 31 #[.val (.ref a), .val (.ref b), .val (.int rc), .val (.int (4 : Int32))] [(.ref b3), (.int (4 : Int32)), (.ref b3)])
  refine s_iloadN (pc' := 32) X50.here hx (hb hby d_prog_21_m1_31) rfl rfl ?_
  refine s_iconst (pc' := 33) (v := (1 : Int32)) X50.here hx (hb hby d_prog_21_m1_32) rfl rfl ?_
  refine s_isub (pc' := 34) (z := (3 : Int32)) X50.here hx (hb hby d_prog_21_m1_33) rfl (by decide) ?_
  obtain ⟨cl51, Ar51, Aq51, As51, An51, Ah51, Ag51⟩ := id V45
  have in52 := inb_of (j := (3 : Int32)) As51 (by decide)
  have at52 : cl51.slots[((3 : Int32)).toNatClampNeg]? = some (.int ((((0 : Int32) + (if x1 = (0 : Int32) then (0 : Int32) else (1 : Int32))) + (if x2 = (0 : Int32) then (0 : Int32) else (1 : Int32))) + (if x3 = (0 : Int32) then (0 : Int32) else (1 : Int32)))) := Ah51.at in52 rfl
  refine Go.st (X50.iaload hx (j := (3 : Int32)) (v := (.int ((((0 : Int32) + (if x1 = (0 : Int32) then (0 : Int32) else (1 : Int32))) + (if x2 = (0 : Int32) then (0 : Int32) else (1 : Int32))) + (if x3 = (0 : Int32) then (0 : Int32) else (1 : Int32))))) (by rw [e50]; exact Ar51.1) (State.isArrayOf_alike hZ.alike Ar51.2.1) Ar51.2.2 in52 at52 (g := (mkF m 34 #[.val (.ref a), .val (.ref b), .val (.int rc), .val (.int (4 : Int32))] [(.int (3 : Int32)), (.ref b3), (.int (4 : Int32)), (.ref b3)])) rfl rfl (hb hby d_prog_21_m1_34)) ?_
  show Go p.tables e below Kx T50 (mkF m 35 #[.val (.ref a), .val (.ref b), .val (.int rc), .val (.int (4 : Int32))] [(.int ((((0 : Int32) + (if x1 = (0 : Int32) then (0 : Int32) else (1 : Int32))) + (if x2 = (0 : Int32) then (0 : Int32) else (1 : Int32))) + (if x3 = (0 : Int32) then (0 : Int32) else (1 : Int32)))), (.int (4 : Int32)), (.ref b3)])
  refine s_aloadN (pc' := 36) X50.here hx (hb hby d_prog_21_m1_35) rfl rfl rfl ?_
  refine s_iloadN (pc' := 37) X50.here hx (hb hby d_prog_21_m1_36) rfl rfl ?_
  refine s_iconst (pc' := 38) (v := (1 : Int32)) X50.here hx (hb hby d_prog_21_m1_37) rfl rfl ?_
  refine s_isub (pc' := 39) (z := (3 : Int32)) X50.here hx (hb hby d_prog_21_m1_38) rfl (by decide) ?_
  obtain ⟨cl53, Ar53, Aq53, As53, An53, Ah53, Ag53⟩ := id f46
  have in54 := inb_of (j := (3 : Int32)) As53 (by decide)
  have at54 : cl53.slots[((3 : Int32)).toNatClampNeg]? = some (.int x4) := Ah53.at in54 rfl
  refine Go.st (X50.baloadBooleans hx (j := (3 : Int32)) (v := (.int x4)) (by rw [e50]; exact Ar53.1) (State.isArrayOf_alike hZ.alike Ar53.2.1) Ar53.2.2 in54 at54 (g := (mkF m 39 #[.val (.ref a), .val (.ref b), .val (.int rc), .val (.int (4 : Int32))] [(.int (3 : Int32)), (.ref b), (.int ((((0 : Int32) + (if x1 = (0 : Int32) then (0 : Int32) else (1 : Int32))) + (if x2 = (0 : Int32) then (0 : Int32) else (1 : Int32))) + (if x3 = (0 : Int32) then (0 : Int32) else (1 : Int32)))), (.int (4 : Int32)), (.ref b3)])) rfl rfl (hb hby d_prog_21_m1_39)) ?_
  show Go p.tables e below Kx T50 (mkF m 40 #[.val (.ref a), .val (.ref b), .val (.int rc), .val (.int (4 : Int32))] [(.int x4), (.int ((((0 : Int32) + (if x1 = (0 : Int32) then (0 : Int32) else (1 : Int32))) + (if x2 = (0 : Int32) then (0 : Int32) else (1 : Int32))) + (if x3 = (0 : Int32) then (0 : Int32) else (1 : Int32)))), (.int (4 : Int32)), (.ref b3)])
  suffices J56 : Go p.tables e below Kx T50 (mkF m 48 #[.val (.ref a), .val (.ref b), .val (.int rc), .val (.int (4 : Int32))] [(.int (if x4 = (0 : Int32) then (0 : Int32) else (1 : Int32))), (.int ((((0 : Int32) + (if x1 = (0 : Int32) then (0 : Int32) else (1 : Int32))) + (if x2 = (0 : Int32) then (0 : Int32) else (1 : Int32))) + (if x3 = (0 : Int32) then (0 : Int32) else (1 : Int32)))), (.int (4 : Int32)), (.ref b3)]) by
    by_cases hc55 : x4 = (0 : Int32)
    · skip
      simp only [if_pos hc55] at J56
      refine s_ifY (pc' := 47) X50.here hx (hb hby d_prog_21_m1_40) ((if0 _ _).trans (teq hc55).1) (by decide) (by decide) ?_
      refine s_iconst (pc' := 48) (v := (0 : Int32)) X50.here hx (hb hby d_prog_21_m1_47) rfl rfl ?_
      exact J56
    · skip
      simp only [if_neg hc55] at J56
      refine s_ifN (pc' := 43) X50.here hx (hb hby d_prog_21_m1_40) rfl ((if0 _ _).trans (feq hc55).1) ?_
      refine s_iconst (pc' := 44) (v := (1 : Int32)) X50.here hx (hb hby d_prog_21_m1_43) rfl rfl ?_
      refine s_goto (pc' := 48) X50.here hx (hb hby d_prog_21_m1_44) (by decide) (by decide) ?_
      exact J56
  refine s_iadd (pc' := 49) X50.here hx (hb hby d_prog_21_m1_48) rfl rfl ?_
  obtain ⟨cl57, Ar57, Aq57, As57, An57, Ah57, Ag57⟩ := id V45
  have in58 := inb_of (j := (4 : Int32)) As57 (by decide)
  obtain ⟨T58, h58, X58, e58, W58, st58⟩ := stI X50 hx hZ e50 Ar57 (j := (4 : Int32)) in58 (g := (mkF m 49 #[.val (.ref a), .val (.ref b), .val (.int rc), .val (.int (4 : Int32))] [(.int (((((0 : Int32) + (if x1 = (0 : Int32) then (0 : Int32) else (1 : Int32))) + (if x2 = (0 : Int32) then (0 : Int32) else (1 : Int32))) + (if x3 = (0 : Int32) then (0 : Int32) else (1 : Int32))) + (if x4 = (0 : Int32) then (0 : Int32) else (1 : Int32)))), (.int (4 : Int32)), (.ref b3)])) rfl rfl (hb hby d_prog_21_m1_49)
  have V58 : Arv Z h58 b3 k3 .int (5 : Int32) [(.int (0 : Int32)), (.int ((0 : Int32) + (if x1 = (0 : Int32) then (0 : Int32) else (1 : Int32)))), (.int (((0 : Int32) + (if x1 = (0 : Int32) then (0 : Int32) else (1 : Int32))) + (if x2 = (0 : Int32) then (0 : Int32) else (1 : Int32)))), (.int ((((0 : Int32) + (if x1 = (0 : Int32) then (0 : Int32) else (1 : Int32))) + (if x2 = (0 : Int32) then (0 : Int32) else (1 : Int32))) + (if x3 = (0 : Int32) then (0 : Int32) else (1 : Int32)))), (.int (((((0 : Int32) + (if x1 = (0 : Int32) then (0 : Int32) else (1 : Int32))) + (if x2 = (0 : Int32) then (0 : Int32) else (1 : Int32))) + (if x3 = (0 : Int32) then (0 : Int32) else (1 : Int32))) + (if x4 = (0 : Int32) then (0 : Int32) else (1 : Int32))))] (.int (0 : Int32)) := Arv.set Ar57 Aq57 As57 An57 Ah57 Ag57 rfl W58 4 rfl (Nat.le_of_ble_eq_true rfl)
  have K58 : Keep h0 h58 [a] := K45.wr W58 (Or.inr sz3)
  have O58 : Old Z n0 h58 := O45.wr W58 ge3
  have N58 := Fr.snoc X58 N45 ge3
  refine Go.st st58 ?_
  show Go p.tables e below Kx T58 (mkF m 50 #[.val (.ref a), .val (.ref b), .val (.int rc), .val (.int (4 : Int32))] [])
  refine s_iinc (pc' := 53) (Ls' := #[.val (.ref a), .val (.ref b), .val (.int rc), .val (.int (5 : Int32))]) (z := (5 : Int32)) X58.here hx (hb hby d_prog_21_m1_50) rfl rfl (by decide) rfl ?_
  refine s_goto (pc' := 16) X58.here hx (hb hby d_prog_21_m1_53) (by decide) (by decide) ?_
  refine s_iloadN (pc' := 17) X58.here hx (hb hby d_prog_21_m1_16) rfl rfl ?_
  refine s_aloadN (pc' := 18) X58.here hx (hb hby d_prog_21_m1_17) rfl rfl rfl ?_
  have f59 : Arv Z h58 b kb .boolean (4 : Int32) [(.int x1), (.int x2), (.int x3), (.int x4)] (.int (0 : Int32)) := (f46.other W58 (Nat.ne_of_lt (Nat.lt_of_lt_of_le VB.lt (Nat.le_of_eq g3.symm))))
  obtain ⟨cl60, Ar60, Aq60, As60, An60, Ah60, Ag60⟩ := id f59
  refine Go.st (X58.arraylength hx (by rw [e58]; exact Ar60.1) (State.isArrayOf_alike hZ.alike Ar60.2.1) (g := (mkF m 18 #[.val (.ref a), .val (.ref b), .val (.int rc), .val (.int (5 : Int32))] [(.ref b), (.int (5 : Int32))])) rfl rfl (hb hby d_prog_21_m1_18)) ?_
  rw [len_of As60 An60]
  show Go p.tables e below Kx T58 (mkF m 19 #[.val (.ref a), .val (.ref b), .val (.int rc), .val (.int (5 : Int32))] [(.int (4 : Int32)), (.int (5 : Int32))])
  refine s_icmpY (pc' := 56) X58.here hx (hb hby d_prog_21_m1_19) (tlt (by decide)).2.2.1 (by decide) (by decide) ?_
  refine s_aloadN (pc' := 57) X58.here hx (hb hby d_prog_21_m1_56) rfl rfl rfl ?_
  refine s_iloadN (pc' := 58) X58.here hx (hb hby d_prog_21_m1_57) rfl rfl ?_
  have f61 : Fld Z h58 a "com/example/kingfisher/kingfisher/eval/TopicRanking" "relevantCount" "I" (.int (0 : Int32)) := ((((((F2.ext E3).other W6 (Or.inr (slot_ne (Or.inr (hw _ (List.mem_of_getElem? (i := 15) rfl))) (Or.inr (hw _ (List.mem_of_getElem? (i := 13) rfl))) (by decide) (t := .int) (t' := (.array .int)) (by decide) (by decide)))).other W19 (Or.inl (Nat.ne_of_lt (Nat.lt_of_lt_of_le E.lt (Nat.le_of_eq g3.symm))))).other W32 (Or.inl (Nat.ne_of_lt (Nat.lt_of_lt_of_le E.lt (Nat.le_of_eq g3.symm))))).other W45 (Or.inl (Nat.ne_of_lt (Nat.lt_of_lt_of_le E.lt (Nat.le_of_eq g3.symm))))).other W58 (Or.inl (Nat.ne_of_lt (Nat.lt_of_lt_of_le E.lt (Nat.le_of_eq g3.symm)))))
  have f62 : Exa Z h58 a "com/example/kingfisher/kingfisher/eval/TopicRanking" := (((((f5.wr W6).wr W19).wr W32).wr W45).wr W58)
  obtain ⟨T63, h63, X63, e63, W63, st63⟩ := putF X58 hx hZ hown (host := "") (Or.inl (hw _ (List.mem_of_getElem? (i := 14) rfl))) Via.refl e58 f61 f62 (Or.inr ⟨(hw _ (List.mem_of_getElem? (i := 15) rfl)), rfl, hnm⟩) (hw _ (List.mem_of_getElem? (i := 3) rfl)) (ty := .int) (by decide) rfl rfl (g := (mkF m 58 #[.val (.ref a), .val (.ref b), .val (.int rc), .val (.int (5 : Int32))] [(.int rc), (.ref a)])) rfl rfl (hb hby d_prog_21_m1_58)
  have Fw63 : Fld Z h63 a "com/example/kingfisher/kingfisher/eval/TopicRanking" "relevantCount" "I" (.int rc) := f61.same W63
  have K63 : Keep h0 h63 [a] := K58.wr W63 (Or.inl (List.mem_of_getElem? (i := 0) rfl))
  have O63 : Old Z n0 h63 := O58.wr W63 ge_a
  have N63 := Fr.snoc X63 N58 ge_a
  refine Go.st st63 ?_
  show Go p.tables e below Kx T63 (mkF m 61 #[.val (.ref a), .val (.ref b), .val (.int rc), .val (.int (5 : Int32))] [])
  have f64 : Exa Z h63 a "com/example/kingfisher/kingfisher/eval/TopicRanking" := (f62.wr W63)
  have f65 : Fld Z h63 a "com/example/kingfisher/kingfisher/eval/TopicRanking" "relevantWithin" "[I" (.ref b3) := ((f48.other W58 (Or.inl (Nat.ne_of_lt (Nat.lt_of_lt_of_le E.lt (Nat.le_of_eq g3.symm))))).other W63 (Or.inr (slot_ne (Or.inr (hw _ (List.mem_of_getElem? (i := 13) rfl))) (Or.inr (hw _ (List.mem_of_getElem? (i := 15) rfl))) (by decide) (t := (.array .int)) (t' := .int) (by decide) (by decide))))
  have f66 : Arv Z h63 b3 k3 .int (5 : Int32) [(.int (0 : Int32)), (.int ((0 : Int32) + (if x1 = (0 : Int32) then (0 : Int32) else (1 : Int32)))), (.int (((0 : Int32) + (if x1 = (0 : Int32) then (0 : Int32) else (1 : Int32))) + (if x2 = (0 : Int32) then (0 : Int32) else (1 : Int32)))), (.int ((((0 : Int32) + (if x1 = (0 : Int32) then (0 : Int32) else (1 : Int32))) + (if x2 = (0 : Int32) then (0 : Int32) else (1 : Int32))) + (if x3 = (0 : Int32) then (0 : Int32) else (1 : Int32)))), (.int (((((0 : Int32) + (if x1 = (0 : Int32) then (0 : Int32) else (1 : Int32))) + (if x2 = (0 : Int32) then (0 : Int32) else (1 : Int32))) + (if x3 = (0 : Int32) then (0 : Int32) else (1 : Int32))) + (if x4 = (0 : Int32) then (0 : Int32) else (1 : Int32))))] (.int (0 : Int32)) := (V58.other W63 (Ne.symm (Nat.ne_of_lt (Nat.lt_of_lt_of_le E.lt (Nat.le_of_eq g3.symm)))))
  obtain ⟨fs, hr, hrun, hended, hW, hsame⟩ := X63.leave (v := none) (fun _ => rfl)
  refine Go.fin (X63.returnOut hx Bd.returns (hb hby d_prog_21_m1_61) hr) (hF _ _ hrun hended ⟨_, _, rfl, ?_, ⟨_, rfl⟩, hW, hsame.mono (by decide) (by decide)⟩)
  · show QN Z a b kb x1 x2 x3 x4 rc h0 n0 (none : Option Value) T63.heap _
    rw [e63]
    exact ⟨rfl, N63, K63, f64, Fw63, b3, _, f65, f66⟩
theorem d_prog_21_m2_0 : decode prog_21_method_2_code 0 = .ok (.aload_n 0, 1) := by decide +kernel
theorem d_prog_21_m2_1 : decode prog_21_method_2_code 1 = .ok (.getfield 7, 3) := by decide +kernel
theorem d_prog_21_m2_4 : decode prog_21_method_2_code 4 = .ok (.arraylength, 1) := by decide +kernel
theorem d_prog_21_m2_5 : decode prog_21_method_2_code 5 = .ok (.iconst 1, 1) := by decide +kernel
theorem d_prog_21_m2_6 : decode prog_21_method_2_code 6 = .ok (.isub, 1) := by decide +kernel
theorem d_prog_21_m2_7 : decode prog_21_method_2_code 7 = .ok (.ireturn, 1) := by decide +kernel
def QV (Z : State) (a t : Addr) (k : ClassId) (c1 c2 c3 c4 : Int32) (h0 : Heap) (n0 : Nat) (v : Option Value) (h : Heap) (L : List Loc) : Prop := v = some (.int 4) ∧ Fr n0 L ∧ h = h0
set_option maxRecDepth 65536 in
set_option maxHeartbeats 40000000 in
theorem rmV (l : Launch) (Z : State) (a0 : Array Value) (hw : ∀ d ∈ tables_1, d.before a0 Z = true) (ws : List Jvm.Cond) (a t : Addr) (k : ClassId) (c1 c2 c3 c4 : Int32) (h0 : Heap) (n0 : Nat) (X00 : Old Z n0 h0) (F1 : Fld Z h0 a "com/example/kingfisher/kingfisher/eval/TopicRanking" "relevantWithin" "[I" (.ref t)) (VT : Arv Z h0 t k .int (5 : Int32) [(.int (0 : Int32)), (.int c1), (.int c2), (.int c3), (.int c4)] (.int (0 : Int32))) :
    MetFree l (⟨"com/example/kingfisher/kingfisher/eval/TopicRanking", "retrieved", "()I"⟩ : MethodName) (head1 (Jvm.Cond.code (⟨"com/example/kingfisher/kingfisher/eval/TopicRanking", "retrieved", "()I"⟩ : MethodName) prog_21_method_2_code 1 (some .int) :: ws) ({ frames := 0, cells := 0, slots := 0, locals := 0 } : Room)) (fun aa U => aa = #[(.ref a)] ∧ Z.Warmed39 U.vm ∧ U.heap = h0) (fun _ _ _ _ _ => True) (fun _ U o U' => ∃ v L, o = .returned v ∧ QV Z a t k c1 c2 c3 c4 h0 n0 v U'.heap L ∧ FrameEnd U o U' L ({ frames := 0, cells := 0, slots := 0, locals := 0 } : Room).cells ({ frames := 0, cells := 0, slots := 0, locals := 0 } : Room).slots) := by
  refine MetFree.of_bodySF (plainFor_of_name pn_0) hisR ?_
  intro p e s m args below meth c s₁ Bd hml0 hP hK
  obtain ⟨rfl, hZ, hh⟩ := hP
  have hx := Bd.exec
  have hby := Bd.bytes
  have hml : c.maxLocals = 1 := hml0
  have hown : s.vm.findClass "com/example/kingfisher/kingfisher/eval/TopicRanking" = some m.cls := findClass_of_methodNamed Bd.named
  have hnm := (name_of_methodNamed Bd.named Bd.method).1
  have X0 : Stand p l e ({ frames := 0, cells := 0, slots := 0, locals := 0 } : Room) s m #[(.ref a)] below meth c s₁ [] 0 0 := Stand.of_body Bd
  have e0 : s₁.heap = h0 := by rw [← hh, Bd.state]; rfl
  have N0 := Fr.nil n0
  have K0 := Keep.refl h0 []
  have ef : entryFrame m #[(.ref a)] 1 = mkF m 0 #[.val (.ref a)] [] := (by first | (simp [entryFrame, mkF, argsToLocals, Value.category]; done) | rfl : entryFrame m #[(.ref a)] 1 = mkF m 0 #[.val (.ref a)] [])
  rw [ef]
  refine fin_of fun Kx hF => ?_
  show Go p.tables e below Kx s₁ (mkF m 0 #[.val (.ref a)] [])
  refine s_aloadN (pc' := 1) X0.here hx (hb hby d_prog_21_m2_0) rfl rfl rfl ?_
  obtain ⟨T67, X67, e67, st67⟩ := getF X0 hx hZ hown (host := "") (Or.inl (hw _ (List.mem_of_getElem? (i := 12) rfl))) Via.refl e0 F1 (g := (mkF m 1 #[.val (.ref a)] [(.ref a)])) rfl rfl (hb hby d_prog_21_m2_1)
  refine Go.st st67 ?_
  show Go p.tables e below Kx T67 (mkF m 4 #[.val (.ref a)] [(.ref t)])
  obtain ⟨cl68, Ar68, Aq68, As68, An68, Ah68, Ag68⟩ := id VT
  refine Go.st (X67.arraylength hx (by rw [e67]; exact Ar68.1) (State.isArrayOf_alike hZ.alike Ar68.2.1) (g := (mkF m 4 #[.val (.ref a)] [(.ref t)])) rfl rfl (hb hby d_prog_21_m2_4)) ?_
  rw [len_of As68 An68]
  show Go p.tables e below Kx T67 (mkF m 5 #[.val (.ref a)] [(.int (5 : Int32))])
  refine s_iconst (pc' := 6) (v := (1 : Int32)) X67.here hx (hb hby d_prog_21_m2_5) rfl rfl ?_
  refine s_isub (pc' := 7) (z := (4 : Int32)) X67.here hx (hb hby d_prog_21_m2_6) rfl (by decide) ?_
  obtain ⟨fs, hr, hrun, hended, hW, hsame⟩ := X67.leave (v := (some (.int (4 : Int32)))) (fun h => by rw [Bd.returns] at h; cases h)
  refine Go.fin (retI X67 hx Bd.returns (hb hby d_prog_21_m2_7) hr) (hF _ _ hrun hended ⟨_, _, rfl, ?_, ⟨_, rfl⟩, hW, hsame.mono (by decide) (by decide)⟩)
  · show QV Z a t k c1 c2 c3 c4 h0 n0 ((some (.int (4 : Int32))) : Option Value) T67.heap _
    rw [e67]
    exact ⟨rfl, N0, rfl⟩
theorem d_prog_21_m5_0 : decode prog_21_method_5_code 0 = .ok (.dconst 0, 1) := by decide +kernel
theorem d_prog_21_m5_1 : decode prog_21_method_5_code 1 = .ok (.dstore_n 1, 1) := by decide +kernel
theorem d_prog_21_m5_2 : decode prog_21_method_5_code 2 = .ok (.iconst 1, 1) := by decide +kernel
theorem d_prog_21_m5_3 : decode prog_21_method_5_code 3 = .ok (.istore_n 3, 1) := by decide +kernel
theorem d_prog_21_m5_4 : decode prog_21_method_5_code 4 = .ok (.iload_n 3, 1) := by decide +kernel
theorem d_prog_21_m5_5 : decode prog_21_method_5_code 5 = .ok (.aload_n 0, 1) := by decide +kernel
theorem pd_0 : parseMethodDescriptor "()I" = some ⟨[], some .int⟩ := by decide +kernel
theorem d_prog_21_m5_6 : decode prog_21_method_5_code 6 = .ok (.invokevirtual 17, 3) := by decide +kernel
theorem d_prog_21_m5_9 : decode prog_21_method_5_code 9 = .ok (.if_icmp .gt 39, 3) := by decide +kernel
theorem d_prog_21_m5_12 : decode prog_21_method_5_code 12 = .ok (.aload_n 0, 1) := by decide +kernel
theorem d_prog_21_m5_13 : decode prog_21_method_5_code 13 = .ok (.getfield 7, 3) := by decide +kernel
theorem d_prog_21_m5_16 : decode prog_21_method_5_code 16 = .ok (.iload_n 3, 1) := by decide +kernel
theorem d_prog_21_m5_17 : decode prog_21_method_5_code 17 = .ok (.iaload, 1) := by decide +kernel
theorem d_prog_21_m5_18 : decode prog_21_method_5_code 18 = .ok (.aload_n 0, 1) := by decide +kernel
theorem d_prog_21_m5_19 : decode prog_21_method_5_code 19 = .ok (.getfield 7, 3) := by decide +kernel
theorem d_prog_21_m5_22 : decode prog_21_method_5_code 22 = .ok (.iload_n 3, 1) := by decide +kernel
theorem d_prog_21_m5_23 : decode prog_21_method_5_code 23 = .ok (.iconst 1, 1) := by decide +kernel
theorem d_prog_21_m5_24 : decode prog_21_method_5_code 24 = .ok (.isub, 1) := by decide +kernel
theorem d_prog_21_m5_25 : decode prog_21_method_5_code 25 = .ok (.iaload, 1) := by decide +kernel
theorem d_prog_21_m5_42 : decode prog_21_method_5_code 42 = .ok (.iinc 3 1, 3) := by decide +kernel
theorem d_prog_21_m5_45 : decode prog_21_method_5_code 45 = .ok (.goto (-41), 3) := by decide +kernel
theorem d_prog_21_m5_48 : decode prog_21_method_5_code 48 = .ok (.dload_n 1, 1) := by decide +kernel
theorem d_prog_21_m5_49 : decode prog_21_method_5_code 49 = .ok (.aload_n 0, 1) := by decide +kernel
theorem d_prog_21_m5_50 : decode prog_21_method_5_code 50 = .ok (.getfield 13, 3) := by decide +kernel
theorem d_prog_21_m5_53 : decode prog_21_method_5_code 53 = .ok (.i2d, 1) := by decide +kernel
theorem d_prog_21_m5_54 : decode prog_21_method_5_code 54 = .ok (.ddiv, 1) := by decide +kernel
theorem d_prog_21_m5_55 : decode prog_21_method_5_code 55 = .ok (.dreturn, 1) := by decide +kernel
theorem d_prog_21_m5_26 : decode prog_21_method_5_code 26 = .ok (.if_icmp .le 16, 3) := by decide +kernel
theorem d_prog_21_m5_29 : decode prog_21_method_5_code 29 = .ok (.dload_n 1, 1) := by decide +kernel
theorem d_prog_21_m5_30 : decode prog_21_method_5_code 30 = .ok (.aload_n 0, 1) := by decide +kernel
theorem d_prog_21_m5_31 : decode prog_21_method_5_code 31 = .ok (.getfield 7, 3) := by decide +kernel
theorem d_prog_21_m5_34 : decode prog_21_method_5_code 34 = .ok (.iload_n 3, 1) := by decide +kernel
theorem d_prog_21_m5_35 : decode prog_21_method_5_code 35 = .ok (.iaload, 1) := by decide +kernel
theorem d_prog_21_m5_36 : decode prog_21_method_5_code 36 = .ok (.i2d, 1) := by decide +kernel
theorem d_prog_21_m5_37 : decode prog_21_method_5_code 37 = .ok (.iload_n 3, 1) := by decide +kernel
theorem d_prog_21_m5_38 : decode prog_21_method_5_code 38 = .ok (.i2d, 1) := by decide +kernel
theorem d_prog_21_m5_39 : decode prog_21_method_5_code 39 = .ok (.ddiv, 1) := by decide +kernel
theorem d_prog_21_m5_40 : decode prog_21_method_5_code 40 = .ok (.dadd, 1) := by decide +kernel
theorem d_prog_21_m5_41 : decode prog_21_method_5_code 41 = .ok (.dstore_n 1, 1) := by decide +kernel
def QA (Z : State) (a t : Addr) (k : ClassId) (c1 c2 c3 c4 rc : Int32) (h0 : Heap) (n0 : Nat) (v : Option Value) (h : Heap) (L : List Loc) : Prop := v = some (.double (FP.ddiv (stp (stp (stp (stp FP.dconst0 c1 (0 : Int32) (1 : Int32)) c2 c1 (2 : Int32)) c3 c2 (3 : Int32)) c4 c3 (4 : Int32)) (FP.i2d rc))) ∧ Fr n0 L ∧ h = h0
set_option maxRecDepth 65536 in
set_option maxHeartbeats 40000000 in
theorem rmA (l : Launch) (Z : State) (a0 : Array Value) (hw : ∀ d ∈ tables_1, d.before a0 Z = true) (ws : List Jvm.Cond) (a t : Addr) (k : ClassId) (c1 c2 c3 c4 rc : Int32) (h0 : Heap) (n0 : Nat) (X00 : Old Z n0 h0) (E : Exa Z h0 a "com/example/kingfisher/kingfisher/eval/TopicRanking") (F1 : Fld Z h0 a "com/example/kingfisher/kingfisher/eval/TopicRanking" "relevantWithin" "[I" (.ref t)) (F2 : Fld Z h0 a "com/example/kingfisher/kingfisher/eval/TopicRanking" "relevantCount" "I" (.int rc)) (VT : Arv Z h0 t k .int (5 : Int32) [(.int (0 : Int32)), (.int c1), (.int c2), (.int c3), (.int c4)] (.int (0 : Int32))) (hN1 : ok FP.dconst0 c1 (0 : Int32) (1 : Int32)) (hN2 : ok (stp FP.dconst0 c1 (0 : Int32) (1 : Int32)) c2 c1 (2 : Int32)) (hN3 : ok (stp (stp FP.dconst0 c1 (0 : Int32) (1 : Int32)) c2 c1 (2 : Int32)) c3 c2 (3 : Int32)) (hN4 : ok (stp (stp (stp FP.dconst0 c1 (0 : Int32) (1 : Int32)) c2 c1 (2 : Int32)) c3 c2 (3 : Int32)) c4 c3 (4 : Int32)) (hN5 : NoNaN64 (FP.ddiv (stp (stp (stp (stp FP.dconst0 c1 (0 : Int32) (1 : Int32)) c2 c1 (2 : Int32)) c3 c2 (3 : Int32)) c4 c3 (4 : Int32)) (FP.i2d rc))) :
    MetFree l (⟨"com/example/kingfisher/kingfisher/eval/TopicRanking", "averagePrecision", "()D"⟩ : MethodName) (head1 (Jvm.Cond.code (⟨"com/example/kingfisher/kingfisher/eval/TopicRanking", "averagePrecision", "()D"⟩ : MethodName) prog_21_method_5_code 4 (some .double) :: ws) ({ frames := 1, cells := 0, slots := 0, locals := 20 } : Room)) (fun aa U => aa = #[(.ref a)] ∧ Z.Warmed39 U.vm ∧ U.heap = h0) (fun _ _ _ _ _ => True) (fun _ U o U' => ∃ v L, o = .returned v ∧ QA Z a t k c1 c2 c3 c4 rc h0 n0 v U'.heap L ∧ FrameEnd U o U' L ({ frames := 1, cells := 0, slots := 0, locals := 20 } : Room).cells ({ frames := 1, cells := 0, slots := 0, locals := 20 } : Room).slots) := by
  refine MetFree.of_bodySF (plainFor_of_name pn_0) hisR ?_
  intro p e s m args below meth c s₁ Bd hml0 hP hK
  obtain ⟨rfl, hZ, hh⟩ := hP
  have hx := Bd.exec
  have hby := Bd.bytes
  have hml : c.maxLocals = 4 := hml0
  have hown : s.vm.findClass "com/example/kingfisher/kingfisher/eval/TopicRanking" = some m.cls := findClass_of_methodNamed Bd.named
  have hnm := (name_of_methodNamed Bd.named Bd.method).1
  have X0 : Stand p l e ({ frames := 1, cells := 0, slots := 0, locals := 20 } : Room) s m #[(.ref a)] below meth c s₁ [] 0 0 := Stand.of_body Bd
  have e0 : s₁.heap = h0 := by rw [← hh, Bd.state]; rfl
  have N0 := Fr.nil n0
  have K0 := Keep.refl h0 []
  have ef : entryFrame m #[(.ref a)] 4 = mkF m 0 #[.val (.ref a), .unset, .unset, .unset] [] := (by first | (simp [entryFrame, mkF, argsToLocals, Value.category]; done) | rfl : entryFrame m #[(.ref a)] 4 = mkF m 0 #[.val (.ref a), .unset, .unset, .unset] [])
  rw [ef]
  refine fin_of fun Kx hF => ?_
  show Go p.tables e below Kx s₁ (mkF m 0 #[.val (.ref a), .unset, .unset, .unset] [])
  refine s_dconst0 (pc' := 1) X0.here hx (hb hby d_prog_21_m5_0) rfl rfl ?_
  refine s_dstoreN (pc' := 2) (Ls' := #[.val (.ref a), .val (.double FP.dconst0), .second, .unset]) X0.here hx (hb hby d_prog_21_m5_1) rfl  rfl ?_
  refine s_iconst (pc' := 3) (v := (1 : Int32)) X0.here hx (hb hby d_prog_21_m5_2) rfl rfl ?_
  refine s_istoreN (pc' := 4) (Ls' := #[.val (.ref a), .val (.double FP.dconst0), .second, .val (.int (1 : Int32))]) X0.here hx (hb hby d_prog_21_m5_3) rfl  rfl ?_
  refine s_iloadN (pc' := 5) X0.here hx (hb hby d_prog_21_m5_4) rfl rfl ?_
  refine s_aloadN (pc' := 6) X0.here hx (hb hby d_prog_21_m5_5) rfl rfl rfl ?_
  obtain ⟨cq69, kq69, q69a, q69b, q69c⟩ := isOf hZ e0 E
  obtain ⟨_, _, ⟨T69, L69, k69, n69⟩, -, X69, ⟨Lc69, hQ69, l69, y69, z69⟩, st69⟩ := X0.virtualBack hx (y := (⟨"com/example/kingfisher/kingfisher/eval/TopicRanking", "retrieved", "()I"⟩ : MethodName)) (z := (⟨"com/example/kingfisher/kingfisher/eval/TopicRanking", "retrieved", "()I"⟩ : MethodName)) hown (mvT hZ (hw _ (List.mem_of_getElem? (i := 21) rfl))) (mvT hZ (hw _ (List.mem_of_getElem? (i := 22) rfl))) (notFace_of_selects (args := #[]) (mvT hZ (hw _ (List.mem_of_getElem? (i := 24) rfl)))) (mvT hZ (hw _ (List.mem_of_getElem? (i := 24) rfl))) (mvT hZ (hw _ (List.mem_of_getElem? (i := 23) rfl))) (by decide) (backOf (W := 1) (rmV l Z a0 hw [] a t k c1 c2 c3 c4 h0 n0 X00 F1 VT) hZ (hw _ (List.mem_of_getElem? (i := 25) rfl)) (hw _ (List.mem_of_getElem? (i := 4) rfl)) (by decide) (by decide)) q69a q69c (g := (mkF m 6 #[.val (.ref a), .val (.double FP.dconst0), .second, .val (.int (1 : Int32))] [(.ref a), (.int (1 : Int32))])) rfl (by rw [hml]; rfl) (Steps.refl _) (argsL := []) (rest := [(.int (1 : Int32))]) (lenOf pd_0 rfl) rfl (by show 2 * 0 + _ ≤ _; exact Nat.le_of_eq rfl) (hb hby d_prog_21_m5_6) (fun _ _ => ⟨rfl, e0, (by decide : 0 + 0 ≤ _), (by decide : 0 + 0 ≤ _)⟩)
  dsimp only [Pt.U, Pt.locs, Pt.cells, Pt.slots] at X69 l69 y69 z69 st69 hQ69
  subst l69 y69 z69
  obtain ⟨rfl, Nq69, hE69⟩ := hQ69
  have N69 := Fr.app N0 Nq69
  refine Go.tr st69 ?_
  show Go p.tables e below Kx T69 (mkF m 9 #[.val (.ref a), .val (.double FP.dconst0), .second, .val (.int (1 : Int32))] [(.int (4 : Int32)), (.int (1 : Int32))])
  refine s_icmpN (pc' := 12) X69.here hx (hb hby d_prog_21_m5_9) rfl (flt (by decide)).2.2.1 ?_
  refine s_aloadN (pc' := 13) X69.here hx (hb hby d_prog_21_m5_12) rfl rfl rfl ?_
  obtain ⟨T70, X70, e70, st70⟩ := getF X69 hx hZ hown (host := "") (Or.inl (hw _ (List.mem_of_getElem? (i := 12) rfl))) Via.refl hE69 F1 (g := (mkF m 13 #[.val (.ref a), .val (.double FP.dconst0), .second, .val (.int (1 : Int32))] [(.ref a)])) rfl rfl (hb hby d_prog_21_m5_13)
  refine Go.st st70 ?_
  show Go p.tables e below Kx T70 (mkF m 16 #[.val (.ref a), .val (.double FP.dconst0), .second, .val (.int (1 : Int32))] [(.ref t)])
  refine s_iloadN (pc' := 17) X70.here hx (hb hby d_prog_21_m5_16) rfl rfl ?_
  obtain ⟨cl71, Ar71, Aq71, As71, An71, Ah71, Ag71⟩ := id VT
  have in72 := inb_of (j := (1 : Int32)) As71 (by decide)
  have at72 : cl71.slots[((1 : Int32)).toNatClampNeg]? = some (.int c1) := Ah71.at in72 rfl
  refine Go.st (X70.iaload hx (j := (1 : Int32)) (v := (.int c1)) (by rw [e70]; exact Ar71.1) (State.isArrayOf_alike hZ.alike Ar71.2.1) Ar71.2.2 in72 at72 (g := (mkF m 17 #[.val (.ref a), .val (.double FP.dconst0), .second, .val (.int (1 : Int32))] [(.int (1 : Int32)), (.ref t)])) rfl rfl (hb hby d_prog_21_m5_17)) ?_
  show Go p.tables e below Kx T70 (mkF m 18 #[.val (.ref a), .val (.double FP.dconst0), .second, .val (.int (1 : Int32))] [(.int c1)])
  refine s_aloadN (pc' := 19) X70.here hx (hb hby d_prog_21_m5_18) rfl rfl rfl ?_
  obtain ⟨T73, X73, e73, st73⟩ := getF X70 hx hZ hown (host := "") (Or.inl (hw _ (List.mem_of_getElem? (i := 12) rfl))) Via.refl e70 F1 (g := (mkF m 19 #[.val (.ref a), .val (.double FP.dconst0), .second, .val (.int (1 : Int32))] [(.ref a), (.int c1)])) rfl rfl (hb hby d_prog_21_m5_19)
  refine Go.st st73 ?_
  show Go p.tables e below Kx T73 (mkF m 22 #[.val (.ref a), .val (.double FP.dconst0), .second, .val (.int (1 : Int32))] [(.ref t), (.int c1)])
  refine s_iloadN (pc' := 23) X73.here hx (hb hby d_prog_21_m5_22) rfl rfl ?_
  refine s_iconst (pc' := 24) (v := (1 : Int32)) X73.here hx (hb hby d_prog_21_m5_23) rfl rfl ?_
  refine s_isub (pc' := 25) (z := (0 : Int32)) X73.here hx (hb hby d_prog_21_m5_24) rfl (by decide) ?_
  obtain ⟨cl74, Ar74, Aq74, As74, An74, Ah74, Ag74⟩ := id VT
  have in75 := inb_of (j := (0 : Int32)) As74 (by decide)
  have at75 : cl74.slots[((0 : Int32)).toNatClampNeg]? = some (.int (0 : Int32)) := Ah74.at in75 rfl
  refine Go.st (X73.iaload hx (j := (0 : Int32)) (v := (.int (0 : Int32))) (by rw [e73]; exact Ar74.1) (State.isArrayOf_alike hZ.alike Ar74.2.1) Ar74.2.2 in75 at75 (g := (mkF m 25 #[.val (.ref a), .val (.double FP.dconst0), .second, .val (.int (1 : Int32))] [(.int (0 : Int32)), (.ref t), (.int c1)])) rfl rfl (hb hby d_prog_21_m5_25)) ?_
  show Go p.tables e below Kx T73 (mkF m 26 #[.val (.ref a), .val (.double FP.dconst0), .second, .val (.int (1 : Int32))] [(.int (0 : Int32)), (.int c1)])
  have J1 : ∀ (s1 : UInt64) (TJ1 : State) (LJ1 : List Loc), Stand p l e ({ frames := 1, cells := 0, slots := 0, locals := 20 } : Room) s m #[(.ref a)] below meth c TJ1 LJ1 0 0 → Fr n0 LJ1 → TJ1.heap = h0 → s1 = (stp FP.dconst0 c1 (0 : Int32) (1 : Int32)) → Go p.tables e below Kx TJ1 (mkF m 42 #[.val (.ref a), .val (.double s1), .second, .val (.int (1 : Int32))] []) := by
    intro s1 TJ1 LJ1 XJ1 NJ1 eJ1 hs1
    subst hs1
    show Go p.tables e below Kx TJ1 (mkF m 42 #[.val (.ref a), .val (.double (stp FP.dconst0 c1 (0 : Int32) (1 : Int32))), .second, .val (.int (1 : Int32))] [])
    refine s_iinc (pc' := 45) (Ls' := #[.val (.ref a), .val (.double (stp FP.dconst0 c1 (0 : Int32) (1 : Int32))), .second, .val (.int (2 : Int32))]) (z := (2 : Int32)) XJ1.here hx (hb hby d_prog_21_m5_42) rfl rfl (by decide) rfl ?_
    refine s_goto (pc' := 4) XJ1.here hx (hb hby d_prog_21_m5_45) (by decide) (by decide) ?_
    refine s_iloadN (pc' := 5) XJ1.here hx (hb hby d_prog_21_m5_4) rfl rfl ?_
    refine s_aloadN (pc' := 6) XJ1.here hx (hb hby d_prog_21_m5_5) rfl rfl rfl ?_
    obtain ⟨cq77, kq77, q77a, q77b, q77c⟩ := isOf hZ eJ1 E
    obtain ⟨_, _, ⟨T77, L77, k77, n77⟩, -, X77, ⟨Lc77, hQ77, l77, y77, z77⟩, st77⟩ := XJ1.virtualBack hx (y := (⟨"com/example/kingfisher/kingfisher/eval/TopicRanking", "retrieved", "()I"⟩ : MethodName)) (z := (⟨"com/example/kingfisher/kingfisher/eval/TopicRanking", "retrieved", "()I"⟩ : MethodName)) hown (mvT hZ (hw _ (List.mem_of_getElem? (i := 21) rfl))) (mvT hZ (hw _ (List.mem_of_getElem? (i := 22) rfl))) (notFace_of_selects (args := #[]) (mvT hZ (hw _ (List.mem_of_getElem? (i := 24) rfl)))) (mvT hZ (hw _ (List.mem_of_getElem? (i := 24) rfl))) (mvT hZ (hw _ (List.mem_of_getElem? (i := 23) rfl))) (by decide) (backOf (W := 1) (rmV l Z a0 hw [] a t k c1 c2 c3 c4 h0 n0 X00 F1 VT) hZ (hw _ (List.mem_of_getElem? (i := 25) rfl)) (hw _ (List.mem_of_getElem? (i := 4) rfl)) (by decide) (by decide)) q77a q77c (g := (mkF m 6 #[.val (.ref a), .val (.double (stp FP.dconst0 c1 (0 : Int32) (1 : Int32))), .second, .val (.int (2 : Int32))] [(.ref a), (.int (2 : Int32))])) rfl (by rw [hml]; rfl) (Steps.refl _) (argsL := []) (rest := [(.int (2 : Int32))]) (lenOf pd_0 rfl) rfl (by show 2 * 0 + _ ≤ _; exact Nat.le_of_eq rfl) (hb hby d_prog_21_m5_6) (fun _ _ => ⟨rfl, eJ1, (by decide : 0 + 0 ≤ _), (by decide : 0 + 0 ≤ _)⟩)
    dsimp only [Pt.U, Pt.locs, Pt.cells, Pt.slots] at X77 l77 y77 z77 st77 hQ77
    subst l77 y77 z77
    obtain ⟨rfl, Nq77, hE77⟩ := hQ77
    have N77 := Fr.app NJ1 Nq77
    refine Go.tr st77 ?_
    show Go p.tables e below Kx T77 (mkF m 9 #[.val (.ref a), .val (.double (stp FP.dconst0 c1 (0 : Int32) (1 : Int32))), .second, .val (.int (2 : Int32))] [(.int (4 : Int32)), (.int (2 : Int32))])
    refine s_icmpN (pc' := 12) X77.here hx (hb hby d_prog_21_m5_9) rfl (flt (by decide)).2.2.1 ?_
    refine s_aloadN (pc' := 13) X77.here hx (hb hby d_prog_21_m5_12) rfl rfl rfl ?_
    obtain ⟨T78, X78, e78, st78⟩ := getF X77 hx hZ hown (host := "") (Or.inl (hw _ (List.mem_of_getElem? (i := 12) rfl))) Via.refl hE77 F1 (g := (mkF m 13 #[.val (.ref a), .val (.double (stp FP.dconst0 c1 (0 : Int32) (1 : Int32))), .second, .val (.int (2 : Int32))] [(.ref a)])) rfl rfl (hb hby d_prog_21_m5_13)
    refine Go.st st78 ?_
    show Go p.tables e below Kx T78 (mkF m 16 #[.val (.ref a), .val (.double (stp FP.dconst0 c1 (0 : Int32) (1 : Int32))), .second, .val (.int (2 : Int32))] [(.ref t)])
    refine s_iloadN (pc' := 17) X78.here hx (hb hby d_prog_21_m5_16) rfl rfl ?_
    obtain ⟨cl79, Ar79, Aq79, As79, An79, Ah79, Ag79⟩ := id VT
    have in80 := inb_of (j := (2 : Int32)) As79 (by decide)
    have at80 : cl79.slots[((2 : Int32)).toNatClampNeg]? = some (.int c2) := Ah79.at in80 rfl
    refine Go.st (X78.iaload hx (j := (2 : Int32)) (v := (.int c2)) (by rw [e78]; exact Ar79.1) (State.isArrayOf_alike hZ.alike Ar79.2.1) Ar79.2.2 in80 at80 (g := (mkF m 17 #[.val (.ref a), .val (.double (stp FP.dconst0 c1 (0 : Int32) (1 : Int32))), .second, .val (.int (2 : Int32))] [(.int (2 : Int32)), (.ref t)])) rfl rfl (hb hby d_prog_21_m5_17)) ?_
    show Go p.tables e below Kx T78 (mkF m 18 #[.val (.ref a), .val (.double (stp FP.dconst0 c1 (0 : Int32) (1 : Int32))), .second, .val (.int (2 : Int32))] [(.int c2)])
    refine s_aloadN (pc' := 19) X78.here hx (hb hby d_prog_21_m5_18) rfl rfl rfl ?_
    obtain ⟨T81, X81, e81, st81⟩ := getF X78 hx hZ hown (host := "") (Or.inl (hw _ (List.mem_of_getElem? (i := 12) rfl))) Via.refl e78 F1 (g := (mkF m 19 #[.val (.ref a), .val (.double (stp FP.dconst0 c1 (0 : Int32) (1 : Int32))), .second, .val (.int (2 : Int32))] [(.ref a), (.int c2)])) rfl rfl (hb hby d_prog_21_m5_19)
    refine Go.st st81 ?_
    show Go p.tables e below Kx T81 (mkF m 22 #[.val (.ref a), .val (.double (stp FP.dconst0 c1 (0 : Int32) (1 : Int32))), .second, .val (.int (2 : Int32))] [(.ref t), (.int c2)])
    refine s_iloadN (pc' := 23) X81.here hx (hb hby d_prog_21_m5_22) rfl rfl ?_
    refine s_iconst (pc' := 24) (v := (1 : Int32)) X81.here hx (hb hby d_prog_21_m5_23) rfl rfl ?_
    refine s_isub (pc' := 25) (z := (1 : Int32)) X81.here hx (hb hby d_prog_21_m5_24) rfl (by decide) ?_
    obtain ⟨cl82, Ar82, Aq82, As82, An82, Ah82, Ag82⟩ := id VT
    have in83 := inb_of (j := (1 : Int32)) As82 (by decide)
    have at83 : cl82.slots[((1 : Int32)).toNatClampNeg]? = some (.int c1) := Ah82.at in83 rfl
    refine Go.st (X81.iaload hx (j := (1 : Int32)) (v := (.int c1)) (by rw [e81]; exact Ar82.1) (State.isArrayOf_alike hZ.alike Ar82.2.1) Ar82.2.2 in83 at83 (g := (mkF m 25 #[.val (.ref a), .val (.double (stp FP.dconst0 c1 (0 : Int32) (1 : Int32))), .second, .val (.int (2 : Int32))] [(.int (1 : Int32)), (.ref t), (.int c2)])) rfl rfl (hb hby d_prog_21_m5_25)) ?_
    show Go p.tables e below Kx T81 (mkF m 26 #[.val (.ref a), .val (.double (stp FP.dconst0 c1 (0 : Int32) (1 : Int32))), .second, .val (.int (2 : Int32))] [(.int c1), (.int c2)])
    have J2 : ∀ (s2 : UInt64) (TJ2 : State) (LJ2 : List Loc), Stand p l e ({ frames := 1, cells := 0, slots := 0, locals := 20 } : Room) s m #[(.ref a)] below meth c TJ2 LJ2 0 0 → Fr n0 LJ2 → TJ2.heap = h0 → s2 = (stp (stp FP.dconst0 c1 (0 : Int32) (1 : Int32)) c2 c1 (2 : Int32)) → Go p.tables e below Kx TJ2 (mkF m 42 #[.val (.ref a), .val (.double s2), .second, .val (.int (2 : Int32))] []) := by
      intro s2 TJ2 LJ2 XJ2 NJ2 eJ2 hs2
      subst hs2
      show Go p.tables e below Kx TJ2 (mkF m 42 #[.val (.ref a), .val (.double (stp (stp FP.dconst0 c1 (0 : Int32) (1 : Int32)) c2 c1 (2 : Int32))), .second, .val (.int (2 : Int32))] [])
      refine s_iinc (pc' := 45) (Ls' := #[.val (.ref a), .val (.double (stp (stp FP.dconst0 c1 (0 : Int32) (1 : Int32)) c2 c1 (2 : Int32))), .second, .val (.int (3 : Int32))]) (z := (3 : Int32)) XJ2.here hx (hb hby d_prog_21_m5_42) rfl rfl (by decide) rfl ?_
      refine s_goto (pc' := 4) XJ2.here hx (hb hby d_prog_21_m5_45) (by decide) (by decide) ?_
      refine s_iloadN (pc' := 5) XJ2.here hx (hb hby d_prog_21_m5_4) rfl rfl ?_
      refine s_aloadN (pc' := 6) XJ2.here hx (hb hby d_prog_21_m5_5) rfl rfl rfl ?_
      obtain ⟨cq85, kq85, q85a, q85b, q85c⟩ := isOf hZ eJ2 E
      obtain ⟨_, _, ⟨T85, L85, k85, n85⟩, -, X85, ⟨Lc85, hQ85, l85, y85, z85⟩, st85⟩ := XJ2.virtualBack hx (y := (⟨"com/example/kingfisher/kingfisher/eval/TopicRanking", "retrieved", "()I"⟩ : MethodName)) (z := (⟨"com/example/kingfisher/kingfisher/eval/TopicRanking", "retrieved", "()I"⟩ : MethodName)) hown (mvT hZ (hw _ (List.mem_of_getElem? (i := 21) rfl))) (mvT hZ (hw _ (List.mem_of_getElem? (i := 22) rfl))) (notFace_of_selects (args := #[]) (mvT hZ (hw _ (List.mem_of_getElem? (i := 24) rfl)))) (mvT hZ (hw _ (List.mem_of_getElem? (i := 24) rfl))) (mvT hZ (hw _ (List.mem_of_getElem? (i := 23) rfl))) (by decide) (backOf (W := 1) (rmV l Z a0 hw [] a t k c1 c2 c3 c4 h0 n0 X00 F1 VT) hZ (hw _ (List.mem_of_getElem? (i := 25) rfl)) (hw _ (List.mem_of_getElem? (i := 4) rfl)) (by decide) (by decide)) q85a q85c (g := (mkF m 6 #[.val (.ref a), .val (.double (stp (stp FP.dconst0 c1 (0 : Int32) (1 : Int32)) c2 c1 (2 : Int32))), .second, .val (.int (3 : Int32))] [(.ref a), (.int (3 : Int32))])) rfl (by rw [hml]; rfl) (Steps.refl _) (argsL := []) (rest := [(.int (3 : Int32))]) (lenOf pd_0 rfl) rfl (by show 2 * 0 + _ ≤ _; exact Nat.le_of_eq rfl) (hb hby d_prog_21_m5_6) (fun _ _ => ⟨rfl, eJ2, (by decide : 0 + 0 ≤ _), (by decide : 0 + 0 ≤ _)⟩)
      dsimp only [Pt.U, Pt.locs, Pt.cells, Pt.slots] at X85 l85 y85 z85 st85 hQ85
      subst l85 y85 z85
      obtain ⟨rfl, Nq85, hE85⟩ := hQ85
      have N85 := Fr.app NJ2 Nq85
      refine Go.tr st85 ?_
      show Go p.tables e below Kx T85 (mkF m 9 #[.val (.ref a), .val (.double (stp (stp FP.dconst0 c1 (0 : Int32) (1 : Int32)) c2 c1 (2 : Int32))), .second, .val (.int (3 : Int32))] [(.int (4 : Int32)), (.int (3 : Int32))])
      refine s_icmpN (pc' := 12) X85.here hx (hb hby d_prog_21_m5_9) rfl (flt (by decide)).2.2.1 ?_
      refine s_aloadN (pc' := 13) X85.here hx (hb hby d_prog_21_m5_12) rfl rfl rfl ?_
      obtain ⟨T86, X86, e86, st86⟩ := getF X85 hx hZ hown (host := "") (Or.inl (hw _ (List.mem_of_getElem? (i := 12) rfl))) Via.refl hE85 F1 (g := (mkF m 13 #[.val (.ref a), .val (.double (stp (stp FP.dconst0 c1 (0 : Int32) (1 : Int32)) c2 c1 (2 : Int32))), .second, .val (.int (3 : Int32))] [(.ref a)])) rfl rfl (hb hby d_prog_21_m5_13)
      refine Go.st st86 ?_
      show Go p.tables e below Kx T86 (mkF m 16 #[.val (.ref a), .val (.double (stp (stp FP.dconst0 c1 (0 : Int32) (1 : Int32)) c2 c1 (2 : Int32))), .second, .val (.int (3 : Int32))] [(.ref t)])
      refine s_iloadN (pc' := 17) X86.here hx (hb hby d_prog_21_m5_16) rfl rfl ?_
      obtain ⟨cl87, Ar87, Aq87, As87, An87, Ah87, Ag87⟩ := id VT
      have in88 := inb_of (j := (3 : Int32)) As87 (by decide)
      have at88 : cl87.slots[((3 : Int32)).toNatClampNeg]? = some (.int c3) := Ah87.at in88 rfl
      refine Go.st (X86.iaload hx (j := (3 : Int32)) (v := (.int c3)) (by rw [e86]; exact Ar87.1) (State.isArrayOf_alike hZ.alike Ar87.2.1) Ar87.2.2 in88 at88 (g := (mkF m 17 #[.val (.ref a), .val (.double (stp (stp FP.dconst0 c1 (0 : Int32) (1 : Int32)) c2 c1 (2 : Int32))), .second, .val (.int (3 : Int32))] [(.int (3 : Int32)), (.ref t)])) rfl rfl (hb hby d_prog_21_m5_17)) ?_
      show Go p.tables e below Kx T86 (mkF m 18 #[.val (.ref a), .val (.double (stp (stp FP.dconst0 c1 (0 : Int32) (1 : Int32)) c2 c1 (2 : Int32))), .second, .val (.int (3 : Int32))] [(.int c3)])
      refine s_aloadN (pc' := 19) X86.here hx (hb hby d_prog_21_m5_18) rfl rfl rfl ?_
      obtain ⟨T89, X89, e89, st89⟩ := getF X86 hx hZ hown (host := "") (Or.inl (hw _ (List.mem_of_getElem? (i := 12) rfl))) Via.refl e86 F1 (g := (mkF m 19 #[.val (.ref a), .val (.double (stp (stp FP.dconst0 c1 (0 : Int32) (1 : Int32)) c2 c1 (2 : Int32))), .second, .val (.int (3 : Int32))] [(.ref a), (.int c3)])) rfl rfl (hb hby d_prog_21_m5_19)
      refine Go.st st89 ?_
      show Go p.tables e below Kx T89 (mkF m 22 #[.val (.ref a), .val (.double (stp (stp FP.dconst0 c1 (0 : Int32) (1 : Int32)) c2 c1 (2 : Int32))), .second, .val (.int (3 : Int32))] [(.ref t), (.int c3)])
      refine s_iloadN (pc' := 23) X89.here hx (hb hby d_prog_21_m5_22) rfl rfl ?_
      refine s_iconst (pc' := 24) (v := (1 : Int32)) X89.here hx (hb hby d_prog_21_m5_23) rfl rfl ?_
      refine s_isub (pc' := 25) (z := (2 : Int32)) X89.here hx (hb hby d_prog_21_m5_24) rfl (by decide) ?_
      obtain ⟨cl90, Ar90, Aq90, As90, An90, Ah90, Ag90⟩ := id VT
      have in91 := inb_of (j := (2 : Int32)) As90 (by decide)
      have at91 : cl90.slots[((2 : Int32)).toNatClampNeg]? = some (.int c2) := Ah90.at in91 rfl
      refine Go.st (X89.iaload hx (j := (2 : Int32)) (v := (.int c2)) (by rw [e89]; exact Ar90.1) (State.isArrayOf_alike hZ.alike Ar90.2.1) Ar90.2.2 in91 at91 (g := (mkF m 25 #[.val (.ref a), .val (.double (stp (stp FP.dconst0 c1 (0 : Int32) (1 : Int32)) c2 c1 (2 : Int32))), .second, .val (.int (3 : Int32))] [(.int (2 : Int32)), (.ref t), (.int c3)])) rfl rfl (hb hby d_prog_21_m5_25)) ?_
      show Go p.tables e below Kx T89 (mkF m 26 #[.val (.ref a), .val (.double (stp (stp FP.dconst0 c1 (0 : Int32) (1 : Int32)) c2 c1 (2 : Int32))), .second, .val (.int (3 : Int32))] [(.int c2), (.int c3)])
      have J3 : ∀ (s3 : UInt64) (TJ3 : State) (LJ3 : List Loc), Stand p l e ({ frames := 1, cells := 0, slots := 0, locals := 20 } : Room) s m #[(.ref a)] below meth c TJ3 LJ3 0 0 → Fr n0 LJ3 → TJ3.heap = h0 → s3 = (stp (stp (stp FP.dconst0 c1 (0 : Int32) (1 : Int32)) c2 c1 (2 : Int32)) c3 c2 (3 : Int32)) → Go p.tables e below Kx TJ3 (mkF m 42 #[.val (.ref a), .val (.double s3), .second, .val (.int (3 : Int32))] []) := by
        intro s3 TJ3 LJ3 XJ3 NJ3 eJ3 hs3
        subst hs3
        show Go p.tables e below Kx TJ3 (mkF m 42 #[.val (.ref a), .val (.double (stp (stp (stp FP.dconst0 c1 (0 : Int32) (1 : Int32)) c2 c1 (2 : Int32)) c3 c2 (3 : Int32))), .second, .val (.int (3 : Int32))] [])
        refine s_iinc (pc' := 45) (Ls' := #[.val (.ref a), .val (.double (stp (stp (stp FP.dconst0 c1 (0 : Int32) (1 : Int32)) c2 c1 (2 : Int32)) c3 c2 (3 : Int32))), .second, .val (.int (4 : Int32))]) (z := (4 : Int32)) XJ3.here hx (hb hby d_prog_21_m5_42) rfl rfl (by decide) rfl ?_
        refine s_goto (pc' := 4) XJ3.here hx (hb hby d_prog_21_m5_45) (by decide) (by decide) ?_
        refine s_iloadN (pc' := 5) XJ3.here hx (hb hby d_prog_21_m5_4) rfl rfl ?_
        refine s_aloadN (pc' := 6) XJ3.here hx (hb hby d_prog_21_m5_5) rfl rfl rfl ?_
        obtain ⟨cq93, kq93, q93a, q93b, q93c⟩ := isOf hZ eJ3 E
        obtain ⟨_, _, ⟨T93, L93, k93, n93⟩, -, X93, ⟨Lc93, hQ93, l93, y93, z93⟩, st93⟩ := XJ3.virtualBack hx (y := (⟨"com/example/kingfisher/kingfisher/eval/TopicRanking", "retrieved", "()I"⟩ : MethodName)) (z := (⟨"com/example/kingfisher/kingfisher/eval/TopicRanking", "retrieved", "()I"⟩ : MethodName)) hown (mvT hZ (hw _ (List.mem_of_getElem? (i := 21) rfl))) (mvT hZ (hw _ (List.mem_of_getElem? (i := 22) rfl))) (notFace_of_selects (args := #[]) (mvT hZ (hw _ (List.mem_of_getElem? (i := 24) rfl)))) (mvT hZ (hw _ (List.mem_of_getElem? (i := 24) rfl))) (mvT hZ (hw _ (List.mem_of_getElem? (i := 23) rfl))) (by decide) (backOf (W := 1) (rmV l Z a0 hw [] a t k c1 c2 c3 c4 h0 n0 X00 F1 VT) hZ (hw _ (List.mem_of_getElem? (i := 25) rfl)) (hw _ (List.mem_of_getElem? (i := 4) rfl)) (by decide) (by decide)) q93a q93c (g := (mkF m 6 #[.val (.ref a), .val (.double (stp (stp (stp FP.dconst0 c1 (0 : Int32) (1 : Int32)) c2 c1 (2 : Int32)) c3 c2 (3 : Int32))), .second, .val (.int (4 : Int32))] [(.ref a), (.int (4 : Int32))])) rfl (by rw [hml]; rfl) (Steps.refl _) (argsL := []) (rest := [(.int (4 : Int32))]) (lenOf pd_0 rfl) rfl (by show 2 * 0 + _ ≤ _; exact Nat.le_of_eq rfl) (hb hby d_prog_21_m5_6) (fun _ _ => ⟨rfl, eJ3, (by decide : 0 + 0 ≤ _), (by decide : 0 + 0 ≤ _)⟩)
        dsimp only [Pt.U, Pt.locs, Pt.cells, Pt.slots] at X93 l93 y93 z93 st93 hQ93
        subst l93 y93 z93
        obtain ⟨rfl, Nq93, hE93⟩ := hQ93
        have N93 := Fr.app NJ3 Nq93
        refine Go.tr st93 ?_
        show Go p.tables e below Kx T93 (mkF m 9 #[.val (.ref a), .val (.double (stp (stp (stp FP.dconst0 c1 (0 : Int32) (1 : Int32)) c2 c1 (2 : Int32)) c3 c2 (3 : Int32))), .second, .val (.int (4 : Int32))] [(.int (4 : Int32)), (.int (4 : Int32))])
        refine s_icmpN (pc' := 12) X93.here hx (hb hby d_prog_21_m5_9) rfl (flt (by decide)).2.2.1 ?_
        refine s_aloadN (pc' := 13) X93.here hx (hb hby d_prog_21_m5_12) rfl rfl rfl ?_
        obtain ⟨T94, X94, e94, st94⟩ := getF X93 hx hZ hown (host := "") (Or.inl (hw _ (List.mem_of_getElem? (i := 12) rfl))) Via.refl hE93 F1 (g := (mkF m 13 #[.val (.ref a), .val (.double (stp (stp (stp FP.dconst0 c1 (0 : Int32) (1 : Int32)) c2 c1 (2 : Int32)) c3 c2 (3 : Int32))), .second, .val (.int (4 : Int32))] [(.ref a)])) rfl rfl (hb hby d_prog_21_m5_13)
        refine Go.st st94 ?_
        show Go p.tables e below Kx T94 (mkF m 16 #[.val (.ref a), .val (.double (stp (stp (stp FP.dconst0 c1 (0 : Int32) (1 : Int32)) c2 c1 (2 : Int32)) c3 c2 (3 : Int32))), .second, .val (.int (4 : Int32))] [(.ref t)])
        refine s_iloadN (pc' := 17) X94.here hx (hb hby d_prog_21_m5_16) rfl rfl ?_
        obtain ⟨cl95, Ar95, Aq95, As95, An95, Ah95, Ag95⟩ := id VT
        have in96 := inb_of (j := (4 : Int32)) As95 (by decide)
        have at96 : cl95.slots[((4 : Int32)).toNatClampNeg]? = some (.int c4) := Ah95.at in96 rfl
        refine Go.st (X94.iaload hx (j := (4 : Int32)) (v := (.int c4)) (by rw [e94]; exact Ar95.1) (State.isArrayOf_alike hZ.alike Ar95.2.1) Ar95.2.2 in96 at96 (g := (mkF m 17 #[.val (.ref a), .val (.double (stp (stp (stp FP.dconst0 c1 (0 : Int32) (1 : Int32)) c2 c1 (2 : Int32)) c3 c2 (3 : Int32))), .second, .val (.int (4 : Int32))] [(.int (4 : Int32)), (.ref t)])) rfl rfl (hb hby d_prog_21_m5_17)) ?_
        show Go p.tables e below Kx T94 (mkF m 18 #[.val (.ref a), .val (.double (stp (stp (stp FP.dconst0 c1 (0 : Int32) (1 : Int32)) c2 c1 (2 : Int32)) c3 c2 (3 : Int32))), .second, .val (.int (4 : Int32))] [(.int c4)])
        refine s_aloadN (pc' := 19) X94.here hx (hb hby d_prog_21_m5_18) rfl rfl rfl ?_
        obtain ⟨T97, X97, e97, st97⟩ := getF X94 hx hZ hown (host := "") (Or.inl (hw _ (List.mem_of_getElem? (i := 12) rfl))) Via.refl e94 F1 (g := (mkF m 19 #[.val (.ref a), .val (.double (stp (stp (stp FP.dconst0 c1 (0 : Int32) (1 : Int32)) c2 c1 (2 : Int32)) c3 c2 (3 : Int32))), .second, .val (.int (4 : Int32))] [(.ref a), (.int c4)])) rfl rfl (hb hby d_prog_21_m5_19)
        refine Go.st st97 ?_
        show Go p.tables e below Kx T97 (mkF m 22 #[.val (.ref a), .val (.double (stp (stp (stp FP.dconst0 c1 (0 : Int32) (1 : Int32)) c2 c1 (2 : Int32)) c3 c2 (3 : Int32))), .second, .val (.int (4 : Int32))] [(.ref t), (.int c4)])
        refine s_iloadN (pc' := 23) X97.here hx (hb hby d_prog_21_m5_22) rfl rfl ?_
        refine s_iconst (pc' := 24) (v := (1 : Int32)) X97.here hx (hb hby d_prog_21_m5_23) rfl rfl ?_
        refine s_isub (pc' := 25) (z := (3 : Int32)) X97.here hx (hb hby d_prog_21_m5_24) rfl (by decide) ?_
        obtain ⟨cl98, Ar98, Aq98, As98, An98, Ah98, Ag98⟩ := id VT
        have in99 := inb_of (j := (3 : Int32)) As98 (by decide)
        have at99 : cl98.slots[((3 : Int32)).toNatClampNeg]? = some (.int c3) := Ah98.at in99 rfl
        refine Go.st (X97.iaload hx (j := (3 : Int32)) (v := (.int c3)) (by rw [e97]; exact Ar98.1) (State.isArrayOf_alike hZ.alike Ar98.2.1) Ar98.2.2 in99 at99 (g := (mkF m 25 #[.val (.ref a), .val (.double (stp (stp (stp FP.dconst0 c1 (0 : Int32) (1 : Int32)) c2 c1 (2 : Int32)) c3 c2 (3 : Int32))), .second, .val (.int (4 : Int32))] [(.int (3 : Int32)), (.ref t), (.int c4)])) rfl rfl (hb hby d_prog_21_m5_25)) ?_
        show Go p.tables e below Kx T97 (mkF m 26 #[.val (.ref a), .val (.double (stp (stp (stp FP.dconst0 c1 (0 : Int32) (1 : Int32)) c2 c1 (2 : Int32)) c3 c2 (3 : Int32))), .second, .val (.int (4 : Int32))] [(.int c3), (.int c4)])
        have J4 : ∀ (s4 : UInt64) (TJ4 : State) (LJ4 : List Loc), Stand p l e ({ frames := 1, cells := 0, slots := 0, locals := 20 } : Room) s m #[(.ref a)] below meth c TJ4 LJ4 0 0 → Fr n0 LJ4 → TJ4.heap = h0 → s4 = (stp (stp (stp (stp FP.dconst0 c1 (0 : Int32) (1 : Int32)) c2 c1 (2 : Int32)) c3 c2 (3 : Int32)) c4 c3 (4 : Int32)) → Go p.tables e below Kx TJ4 (mkF m 42 #[.val (.ref a), .val (.double s4), .second, .val (.int (4 : Int32))] []) := by
          intro s4 TJ4 LJ4 XJ4 NJ4 eJ4 hs4
          subst hs4
          show Go p.tables e below Kx TJ4 (mkF m 42 #[.val (.ref a), .val (.double (stp (stp (stp (stp FP.dconst0 c1 (0 : Int32) (1 : Int32)) c2 c1 (2 : Int32)) c3 c2 (3 : Int32)) c4 c3 (4 : Int32))), .second, .val (.int (4 : Int32))] [])
          refine s_iinc (pc' := 45) (Ls' := #[.val (.ref a), .val (.double (stp (stp (stp (stp FP.dconst0 c1 (0 : Int32) (1 : Int32)) c2 c1 (2 : Int32)) c3 c2 (3 : Int32)) c4 c3 (4 : Int32))), .second, .val (.int (5 : Int32))]) (z := (5 : Int32)) XJ4.here hx (hb hby d_prog_21_m5_42) rfl rfl (by decide) rfl ?_
          refine s_goto (pc' := 4) XJ4.here hx (hb hby d_prog_21_m5_45) (by decide) (by decide) ?_
          refine s_iloadN (pc' := 5) XJ4.here hx (hb hby d_prog_21_m5_4) rfl rfl ?_
          refine s_aloadN (pc' := 6) XJ4.here hx (hb hby d_prog_21_m5_5) rfl rfl rfl ?_
          obtain ⟨cq101, kq101, q101a, q101b, q101c⟩ := isOf hZ eJ4 E
          obtain ⟨_, _, ⟨T101, L101, k101, n101⟩, -, X101, ⟨Lc101, hQ101, l101, y101, z101⟩, st101⟩ := XJ4.virtualBack hx (y := (⟨"com/example/kingfisher/kingfisher/eval/TopicRanking", "retrieved", "()I"⟩ : MethodName)) (z := (⟨"com/example/kingfisher/kingfisher/eval/TopicRanking", "retrieved", "()I"⟩ : MethodName)) hown (mvT hZ (hw _ (List.mem_of_getElem? (i := 21) rfl))) (mvT hZ (hw _ (List.mem_of_getElem? (i := 22) rfl))) (notFace_of_selects (args := #[]) (mvT hZ (hw _ (List.mem_of_getElem? (i := 24) rfl)))) (mvT hZ (hw _ (List.mem_of_getElem? (i := 24) rfl))) (mvT hZ (hw _ (List.mem_of_getElem? (i := 23) rfl))) (by decide) (backOf (W := 1) (rmV l Z a0 hw [] a t k c1 c2 c3 c4 h0 n0 X00 F1 VT) hZ (hw _ (List.mem_of_getElem? (i := 25) rfl)) (hw _ (List.mem_of_getElem? (i := 4) rfl)) (by decide) (by decide)) q101a q101c (g := (mkF m 6 #[.val (.ref a), .val (.double (stp (stp (stp (stp FP.dconst0 c1 (0 : Int32) (1 : Int32)) c2 c1 (2 : Int32)) c3 c2 (3 : Int32)) c4 c3 (4 : Int32))), .second, .val (.int (5 : Int32))] [(.ref a), (.int (5 : Int32))])) rfl (by rw [hml]; rfl) (Steps.refl _) (argsL := []) (rest := [(.int (5 : Int32))]) (lenOf pd_0 rfl) rfl (by show 2 * 0 + _ ≤ _; exact Nat.le_of_eq rfl) (hb hby d_prog_21_m5_6) (fun _ _ => ⟨rfl, eJ4, (by decide : 0 + 0 ≤ _), (by decide : 0 + 0 ≤ _)⟩)
          dsimp only [Pt.U, Pt.locs, Pt.cells, Pt.slots] at X101 l101 y101 z101 st101 hQ101
          subst l101 y101 z101
          obtain ⟨rfl, Nq101, hE101⟩ := hQ101
          have N101 := Fr.app NJ4 Nq101
          refine Go.tr st101 ?_
          show Go p.tables e below Kx T101 (mkF m 9 #[.val (.ref a), .val (.double (stp (stp (stp (stp FP.dconst0 c1 (0 : Int32) (1 : Int32)) c2 c1 (2 : Int32)) c3 c2 (3 : Int32)) c4 c3 (4 : Int32))), .second, .val (.int (5 : Int32))] [(.int (4 : Int32)), (.int (5 : Int32))])
          refine s_icmpY (pc' := 48) X101.here hx (hb hby d_prog_21_m5_9) (tlt (by decide)).2.2.1 (by decide) (by decide) ?_
          refine s_dloadN (pc' := 49) X101.here hx (hb hby d_prog_21_m5_48) rfl rfl ?_
          refine s_aloadN (pc' := 50) X101.here hx (hb hby d_prog_21_m5_49) rfl rfl rfl ?_
          obtain ⟨T102, X102, e102, st102⟩ := getF X101 hx hZ hown (host := "") (Or.inl (hw _ (List.mem_of_getElem? (i := 14) rfl))) Via.refl hE101 F2 (g := (mkF m 50 #[.val (.ref a), .val (.double (stp (stp (stp (stp FP.dconst0 c1 (0 : Int32) (1 : Int32)) c2 c1 (2 : Int32)) c3 c2 (3 : Int32)) c4 c3 (4 : Int32))), .second, .val (.int (5 : Int32))] [(.ref a), (.double (stp (stp (stp (stp FP.dconst0 c1 (0 : Int32) (1 : Int32)) c2 c1 (2 : Int32)) c3 c2 (3 : Int32)) c4 c3 (4 : Int32)))])) rfl rfl (hb hby d_prog_21_m5_50)
          refine Go.st st102 ?_
          show Go p.tables e below Kx T102 (mkF m 53 #[.val (.ref a), .val (.double (stp (stp (stp (stp FP.dconst0 c1 (0 : Int32) (1 : Int32)) c2 c1 (2 : Int32)) c3 c2 (3 : Int32)) c4 c3 (4 : Int32))), .second, .val (.int (5 : Int32))] [(.int rc), (.double (stp (stp (stp (stp FP.dconst0 c1 (0 : Int32) (1 : Int32)) c2 c1 (2 : Int32)) c3 c2 (3 : Int32)) c4 c3 (4 : Int32)))])
          refine s_i2d (pc' := 54) X102.here hx (hb hby d_prog_21_m5_53) rfl rfl ?_
          refine s_ddiv (pc' := 55) X102.here hx (hb hby d_prog_21_m5_54) rfl (hN5) rfl ?_
          obtain ⟨fs, hr, hrun, hended, hW, hsame⟩ := X102.leave (v := (some (.double (FP.ddiv (stp (stp (stp (stp FP.dconst0 c1 (0 : Int32) (1 : Int32)) c2 c1 (2 : Int32)) c3 c2 (3 : Int32)) c4 c3 (4 : Int32)) (FP.i2d rc))))) (fun h => by rw [Bd.returns] at h; cases h)
          refine Go.fin (retOut X102 hx Bd.returns rfl (Or.inr (Or.inr (Or.inl ⟨rfl, rfl, _, rfl⟩))) (hb hby d_prog_21_m5_55) hr) (hF _ _ hrun hended ⟨_, _, rfl, ?_, ⟨_, rfl⟩, hW, hsame.mono (by decide) (by decide)⟩)
          · show QA Z a t k c1 c2 c3 c4 rc h0 n0 ((some (.double (FP.ddiv (stp (stp (stp (stp FP.dconst0 c1 (0 : Int32) (1 : Int32)) c2 c1 (2 : Int32)) c3 c2 (3 : Int32)) c4 c3 (4 : Int32)) (FP.i2d rc)))) : Option Value) T102.heap _
            rw [e102]
            exact ⟨rfl, N101, rfl⟩
        by_cases hc100 : c3 < c4
        · skip
          refine s_icmpN (pc' := 29) X97.here hx (hb hby d_prog_21_m5_26) rfl (tlt hc100).2.2.2 ?_
          refine s_dloadN (pc' := 30) X97.here hx (hb hby d_prog_21_m5_29) rfl rfl ?_
          refine s_aloadN (pc' := 31) X97.here hx (hb hby d_prog_21_m5_30) rfl rfl rfl ?_
          obtain ⟨T103, X103, e103, st103⟩ := getF X97 hx hZ hown (host := "") (Or.inl (hw _ (List.mem_of_getElem? (i := 12) rfl))) Via.refl e97 F1 (g := (mkF m 31 #[.val (.ref a), .val (.double (stp (stp (stp FP.dconst0 c1 (0 : Int32) (1 : Int32)) c2 c1 (2 : Int32)) c3 c2 (3 : Int32))), .second, .val (.int (4 : Int32))] [(.ref a), (.double (stp (stp (stp FP.dconst0 c1 (0 : Int32) (1 : Int32)) c2 c1 (2 : Int32)) c3 c2 (3 : Int32)))])) rfl rfl (hb hby d_prog_21_m5_31)
          refine Go.st st103 ?_
          show Go p.tables e below Kx T103 (mkF m 34 #[.val (.ref a), .val (.double (stp (stp (stp FP.dconst0 c1 (0 : Int32) (1 : Int32)) c2 c1 (2 : Int32)) c3 c2 (3 : Int32))), .second, .val (.int (4 : Int32))] [(.ref t), (.double (stp (stp (stp FP.dconst0 c1 (0 : Int32) (1 : Int32)) c2 c1 (2 : Int32)) c3 c2 (3 : Int32)))])
          refine s_iloadN (pc' := 35) X103.here hx (hb hby d_prog_21_m5_34) rfl rfl ?_
          obtain ⟨cl104, Ar104, Aq104, As104, An104, Ah104, Ag104⟩ := id VT
          have in105 := inb_of (j := (4 : Int32)) As104 (by decide)
          have at105 : cl104.slots[((4 : Int32)).toNatClampNeg]? = some (.int c4) := Ah104.at in105 rfl
          refine Go.st (X103.iaload hx (j := (4 : Int32)) (v := (.int c4)) (by rw [e103]; exact Ar104.1) (State.isArrayOf_alike hZ.alike Ar104.2.1) Ar104.2.2 in105 at105 (g := (mkF m 35 #[.val (.ref a), .val (.double (stp (stp (stp FP.dconst0 c1 (0 : Int32) (1 : Int32)) c2 c1 (2 : Int32)) c3 c2 (3 : Int32))), .second, .val (.int (4 : Int32))] [(.int (4 : Int32)), (.ref t), (.double (stp (stp (stp FP.dconst0 c1 (0 : Int32) (1 : Int32)) c2 c1 (2 : Int32)) c3 c2 (3 : Int32)))])) rfl rfl (hb hby d_prog_21_m5_35)) ?_
          show Go p.tables e below Kx T103 (mkF m 36 #[.val (.ref a), .val (.double (stp (stp (stp FP.dconst0 c1 (0 : Int32) (1 : Int32)) c2 c1 (2 : Int32)) c3 c2 (3 : Int32))), .second, .val (.int (4 : Int32))] [(.int c4), (.double (stp (stp (stp FP.dconst0 c1 (0 : Int32) (1 : Int32)) c2 c1 (2 : Int32)) c3 c2 (3 : Int32)))])
          refine s_i2d (pc' := 37) X103.here hx (hb hby d_prog_21_m5_36) rfl rfl ?_
          refine s_iloadN (pc' := 38) X103.here hx (hb hby d_prog_21_m5_37) rfl rfl ?_
          refine s_i2d (pc' := 39) X103.here hx (hb hby d_prog_21_m5_38) rfl rfl ?_
          refine s_ddiv (pc' := 40) X103.here hx (hb hby d_prog_21_m5_39) rfl ((hN4 hc100).1) rfl ?_
          refine s_dadd (pc' := 41) X103.here hx (hb hby d_prog_21_m5_40) rfl ((hN4 hc100).2) rfl ?_
          refine s_dstoreN (pc' := 42) (Ls' := #[.val (.ref a), .val (.double (FP.dadd (stp (stp (stp FP.dconst0 c1 (0 : Int32) (1 : Int32)) c2 c1 (2 : Int32)) c3 c2 (3 : Int32)) (FP.ddiv (FP.i2d c4) (FP.i2d (4 : Int32))))), .second, .val (.int (4 : Int32))]) X103.here hx (hb hby d_prog_21_m5_41) rfl  rfl ?_
          exact J4 _ _ _ X103 N93 e103 (stp_pos hc100)
        · skip
          refine s_icmpY (pc' := 42) X97.here hx (hb hby d_prog_21_m5_26) (flt hc100).2.2.2 (by decide) (by decide) ?_
          exact J4 _ _ _ X97 N93 e97 (stp_neg hc100)
      by_cases hc92 : c2 < c3
      · skip
        refine s_icmpN (pc' := 29) X89.here hx (hb hby d_prog_21_m5_26) rfl (tlt hc92).2.2.2 ?_
        refine s_dloadN (pc' := 30) X89.here hx (hb hby d_prog_21_m5_29) rfl rfl ?_
        refine s_aloadN (pc' := 31) X89.here hx (hb hby d_prog_21_m5_30) rfl rfl rfl ?_
        obtain ⟨T106, X106, e106, st106⟩ := getF X89 hx hZ hown (host := "") (Or.inl (hw _ (List.mem_of_getElem? (i := 12) rfl))) Via.refl e89 F1 (g := (mkF m 31 #[.val (.ref a), .val (.double (stp (stp FP.dconst0 c1 (0 : Int32) (1 : Int32)) c2 c1 (2 : Int32))), .second, .val (.int (3 : Int32))] [(.ref a), (.double (stp (stp FP.dconst0 c1 (0 : Int32) (1 : Int32)) c2 c1 (2 : Int32)))])) rfl rfl (hb hby d_prog_21_m5_31)
        refine Go.st st106 ?_
        show Go p.tables e below Kx T106 (mkF m 34 #[.val (.ref a), .val (.double (stp (stp FP.dconst0 c1 (0 : Int32) (1 : Int32)) c2 c1 (2 : Int32))), .second, .val (.int (3 : Int32))] [(.ref t), (.double (stp (stp FP.dconst0 c1 (0 : Int32) (1 : Int32)) c2 c1 (2 : Int32)))])
        refine s_iloadN (pc' := 35) X106.here hx (hb hby d_prog_21_m5_34) rfl rfl ?_
        obtain ⟨cl107, Ar107, Aq107, As107, An107, Ah107, Ag107⟩ := id VT
        have in108 := inb_of (j := (3 : Int32)) As107 (by decide)
        have at108 : cl107.slots[((3 : Int32)).toNatClampNeg]? = some (.int c3) := Ah107.at in108 rfl
        refine Go.st (X106.iaload hx (j := (3 : Int32)) (v := (.int c3)) (by rw [e106]; exact Ar107.1) (State.isArrayOf_alike hZ.alike Ar107.2.1) Ar107.2.2 in108 at108 (g := (mkF m 35 #[.val (.ref a), .val (.double (stp (stp FP.dconst0 c1 (0 : Int32) (1 : Int32)) c2 c1 (2 : Int32))), .second, .val (.int (3 : Int32))] [(.int (3 : Int32)), (.ref t), (.double (stp (stp FP.dconst0 c1 (0 : Int32) (1 : Int32)) c2 c1 (2 : Int32)))])) rfl rfl (hb hby d_prog_21_m5_35)) ?_
        show Go p.tables e below Kx T106 (mkF m 36 #[.val (.ref a), .val (.double (stp (stp FP.dconst0 c1 (0 : Int32) (1 : Int32)) c2 c1 (2 : Int32))), .second, .val (.int (3 : Int32))] [(.int c3), (.double (stp (stp FP.dconst0 c1 (0 : Int32) (1 : Int32)) c2 c1 (2 : Int32)))])
        refine s_i2d (pc' := 37) X106.here hx (hb hby d_prog_21_m5_36) rfl rfl ?_
        refine s_iloadN (pc' := 38) X106.here hx (hb hby d_prog_21_m5_37) rfl rfl ?_
        refine s_i2d (pc' := 39) X106.here hx (hb hby d_prog_21_m5_38) rfl rfl ?_
        refine s_ddiv (pc' := 40) X106.here hx (hb hby d_prog_21_m5_39) rfl ((hN3 hc92).1) rfl ?_
        refine s_dadd (pc' := 41) X106.here hx (hb hby d_prog_21_m5_40) rfl ((hN3 hc92).2) rfl ?_
        refine s_dstoreN (pc' := 42) (Ls' := #[.val (.ref a), .val (.double (FP.dadd (stp (stp FP.dconst0 c1 (0 : Int32) (1 : Int32)) c2 c1 (2 : Int32)) (FP.ddiv (FP.i2d c3) (FP.i2d (3 : Int32))))), .second, .val (.int (3 : Int32))]) X106.here hx (hb hby d_prog_21_m5_41) rfl  rfl ?_
        exact J3 _ _ _ X106 N85 e106 (stp_pos hc92)
      · skip
        refine s_icmpY (pc' := 42) X89.here hx (hb hby d_prog_21_m5_26) (flt hc92).2.2.2 (by decide) (by decide) ?_
        exact J3 _ _ _ X89 N85 e89 (stp_neg hc92)
    by_cases hc84 : c1 < c2
    · skip
      refine s_icmpN (pc' := 29) X81.here hx (hb hby d_prog_21_m5_26) rfl (tlt hc84).2.2.2 ?_
      refine s_dloadN (pc' := 30) X81.here hx (hb hby d_prog_21_m5_29) rfl rfl ?_
      refine s_aloadN (pc' := 31) X81.here hx (hb hby d_prog_21_m5_30) rfl rfl rfl ?_
      obtain ⟨T109, X109, e109, st109⟩ := getF X81 hx hZ hown (host := "") (Or.inl (hw _ (List.mem_of_getElem? (i := 12) rfl))) Via.refl e81 F1 (g := (mkF m 31 #[.val (.ref a), .val (.double (stp FP.dconst0 c1 (0 : Int32) (1 : Int32))), .second, .val (.int (2 : Int32))] [(.ref a), (.double (stp FP.dconst0 c1 (0 : Int32) (1 : Int32)))])) rfl rfl (hb hby d_prog_21_m5_31)
      refine Go.st st109 ?_
      show Go p.tables e below Kx T109 (mkF m 34 #[.val (.ref a), .val (.double (stp FP.dconst0 c1 (0 : Int32) (1 : Int32))), .second, .val (.int (2 : Int32))] [(.ref t), (.double (stp FP.dconst0 c1 (0 : Int32) (1 : Int32)))])
      refine s_iloadN (pc' := 35) X109.here hx (hb hby d_prog_21_m5_34) rfl rfl ?_
      obtain ⟨cl110, Ar110, Aq110, As110, An110, Ah110, Ag110⟩ := id VT
      have in111 := inb_of (j := (2 : Int32)) As110 (by decide)
      have at111 : cl110.slots[((2 : Int32)).toNatClampNeg]? = some (.int c2) := Ah110.at in111 rfl
      refine Go.st (X109.iaload hx (j := (2 : Int32)) (v := (.int c2)) (by rw [e109]; exact Ar110.1) (State.isArrayOf_alike hZ.alike Ar110.2.1) Ar110.2.2 in111 at111 (g := (mkF m 35 #[.val (.ref a), .val (.double (stp FP.dconst0 c1 (0 : Int32) (1 : Int32))), .second, .val (.int (2 : Int32))] [(.int (2 : Int32)), (.ref t), (.double (stp FP.dconst0 c1 (0 : Int32) (1 : Int32)))])) rfl rfl (hb hby d_prog_21_m5_35)) ?_
      show Go p.tables e below Kx T109 (mkF m 36 #[.val (.ref a), .val (.double (stp FP.dconst0 c1 (0 : Int32) (1 : Int32))), .second, .val (.int (2 : Int32))] [(.int c2), (.double (stp FP.dconst0 c1 (0 : Int32) (1 : Int32)))])
      refine s_i2d (pc' := 37) X109.here hx (hb hby d_prog_21_m5_36) rfl rfl ?_
      refine s_iloadN (pc' := 38) X109.here hx (hb hby d_prog_21_m5_37) rfl rfl ?_
      refine s_i2d (pc' := 39) X109.here hx (hb hby d_prog_21_m5_38) rfl rfl ?_
      refine s_ddiv (pc' := 40) X109.here hx (hb hby d_prog_21_m5_39) rfl ((hN2 hc84).1) rfl ?_
      refine s_dadd (pc' := 41) X109.here hx (hb hby d_prog_21_m5_40) rfl ((hN2 hc84).2) rfl ?_
      refine s_dstoreN (pc' := 42) (Ls' := #[.val (.ref a), .val (.double (FP.dadd (stp FP.dconst0 c1 (0 : Int32) (1 : Int32)) (FP.ddiv (FP.i2d c2) (FP.i2d (2 : Int32))))), .second, .val (.int (2 : Int32))]) X109.here hx (hb hby d_prog_21_m5_41) rfl  rfl ?_
      exact J2 _ _ _ X109 N77 e109 (stp_pos hc84)
    · skip
      refine s_icmpY (pc' := 42) X81.here hx (hb hby d_prog_21_m5_26) (flt hc84).2.2.2 (by decide) (by decide) ?_
      exact J2 _ _ _ X81 N77 e81 (stp_neg hc84)
  by_cases hc76 : (0 : Int32) < c1
  · skip
    refine s_icmpN (pc' := 29) X73.here hx (hb hby d_prog_21_m5_26) rfl (tlt hc76).2.2.2 ?_
    refine s_dloadN (pc' := 30) X73.here hx (hb hby d_prog_21_m5_29) rfl rfl ?_
    refine s_aloadN (pc' := 31) X73.here hx (hb hby d_prog_21_m5_30) rfl rfl rfl ?_
    obtain ⟨T112, X112, e112, st112⟩ := getF X73 hx hZ hown (host := "") (Or.inl (hw _ (List.mem_of_getElem? (i := 12) rfl))) Via.refl e73 F1 (g := (mkF m 31 #[.val (.ref a), .val (.double FP.dconst0), .second, .val (.int (1 : Int32))] [(.ref a), (.double FP.dconst0)])) rfl rfl (hb hby d_prog_21_m5_31)
    refine Go.st st112 ?_
    show Go p.tables e below Kx T112 (mkF m 34 #[.val (.ref a), .val (.double FP.dconst0), .second, .val (.int (1 : Int32))] [(.ref t), (.double FP.dconst0)])
    refine s_iloadN (pc' := 35) X112.here hx (hb hby d_prog_21_m5_34) rfl rfl ?_
    obtain ⟨cl113, Ar113, Aq113, As113, An113, Ah113, Ag113⟩ := id VT
    have in114 := inb_of (j := (1 : Int32)) As113 (by decide)
    have at114 : cl113.slots[((1 : Int32)).toNatClampNeg]? = some (.int c1) := Ah113.at in114 rfl
    refine Go.st (X112.iaload hx (j := (1 : Int32)) (v := (.int c1)) (by rw [e112]; exact Ar113.1) (State.isArrayOf_alike hZ.alike Ar113.2.1) Ar113.2.2 in114 at114 (g := (mkF m 35 #[.val (.ref a), .val (.double FP.dconst0), .second, .val (.int (1 : Int32))] [(.int (1 : Int32)), (.ref t), (.double FP.dconst0)])) rfl rfl (hb hby d_prog_21_m5_35)) ?_
    show Go p.tables e below Kx T112 (mkF m 36 #[.val (.ref a), .val (.double FP.dconst0), .second, .val (.int (1 : Int32))] [(.int c1), (.double FP.dconst0)])
    refine s_i2d (pc' := 37) X112.here hx (hb hby d_prog_21_m5_36) rfl rfl ?_
    refine s_iloadN (pc' := 38) X112.here hx (hb hby d_prog_21_m5_37) rfl rfl ?_
    refine s_i2d (pc' := 39) X112.here hx (hb hby d_prog_21_m5_38) rfl rfl ?_
    refine s_ddiv (pc' := 40) X112.here hx (hb hby d_prog_21_m5_39) rfl ((hN1 hc76).1) rfl ?_
    refine s_dadd (pc' := 41) X112.here hx (hb hby d_prog_21_m5_40) rfl ((hN1 hc76).2) rfl ?_
    refine s_dstoreN (pc' := 42) (Ls' := #[.val (.ref a), .val (.double (FP.dadd FP.dconst0 (FP.ddiv (FP.i2d c1) (FP.i2d (1 : Int32))))), .second, .val (.int (1 : Int32))]) X112.here hx (hb hby d_prog_21_m5_41) rfl  rfl ?_
    exact J1 _ _ _ X112 N69 e112 (stp_pos hc76)
  · skip
    refine s_icmpY (pc' := 42) X73.here hx (hb hby d_prog_21_m5_26) (flt hc76).2.2.2 (by decide) (by decide) ?_
    exact J1 _ _ _ X73 N69 e73 (stp_neg hc76)
set_option maxRecDepth 65536 in
set_option maxHeartbeats 40000000 in
theorem cases16 (x1 x2 x3 x4 : Int32) (h1 : x1 = 0 ∨ x1 = 1) (h2 : x2 = 0 ∨ x2 = 1) (h3 : x3 = 0 ∨ x3 = 1) (h4 : x4 = 0 ∨ x4 = 1) : ok FP.dconst0 ((0 : Int32) + (if x1 = (0 : Int32) then (0 : Int32) else (1 : Int32))) (0 : Int32) (1 : Int32) ∧ ok (stp FP.dconst0 ((0 : Int32) + (if x1 = (0 : Int32) then (0 : Int32) else (1 : Int32))) (0 : Int32) (1 : Int32)) (((0 : Int32) + (if x1 = (0 : Int32) then (0 : Int32) else (1 : Int32))) + (if x2 = (0 : Int32) then (0 : Int32) else (1 : Int32))) ((0 : Int32) + (if x1 = (0 : Int32) then (0 : Int32) else (1 : Int32))) (2 : Int32) ∧ ok (stp (stp FP.dconst0 ((0 : Int32) + (if x1 = (0 : Int32) then (0 : Int32) else (1 : Int32))) (0 : Int32) (1 : Int32)) (((0 : Int32) + (if x1 = (0 : Int32) then (0 : Int32) else (1 : Int32))) + (if x2 = (0 : Int32) then (0 : Int32) else (1 : Int32))) ((0 : Int32) + (if x1 = (0 : Int32) then (0 : Int32) else (1 : Int32))) (2 : Int32)) ((((0 : Int32) + (if x1 = (0 : Int32) then (0 : Int32) else (1 : Int32))) + (if x2 = (0 : Int32) then (0 : Int32) else (1 : Int32))) + (if x3 = (0 : Int32) then (0 : Int32) else (1 : Int32))) (((0 : Int32) + (if x1 = (0 : Int32) then (0 : Int32) else (1 : Int32))) + (if x2 = (0 : Int32) then (0 : Int32) else (1 : Int32))) (3 : Int32) ∧ ok (stp (stp (stp FP.dconst0 ((0 : Int32) + (if x1 = (0 : Int32) then (0 : Int32) else (1 : Int32))) (0 : Int32) (1 : Int32)) (((0 : Int32) + (if x1 = (0 : Int32) then (0 : Int32) else (1 : Int32))) + (if x2 = (0 : Int32) then (0 : Int32) else (1 : Int32))) ((0 : Int32) + (if x1 = (0 : Int32) then (0 : Int32) else (1 : Int32))) (2 : Int32)) ((((0 : Int32) + (if x1 = (0 : Int32) then (0 : Int32) else (1 : Int32))) + (if x2 = (0 : Int32) then (0 : Int32) else (1 : Int32))) + (if x3 = (0 : Int32) then (0 : Int32) else (1 : Int32))) (((0 : Int32) + (if x1 = (0 : Int32) then (0 : Int32) else (1 : Int32))) + (if x2 = (0 : Int32) then (0 : Int32) else (1 : Int32))) (3 : Int32)) (((((0 : Int32) + (if x1 = (0 : Int32) then (0 : Int32) else (1 : Int32))) + (if x2 = (0 : Int32) then (0 : Int32) else (1 : Int32))) + (if x3 = (0 : Int32) then (0 : Int32) else (1 : Int32))) + (if x4 = (0 : Int32) then (0 : Int32) else (1 : Int32))) ((((0 : Int32) + (if x1 = (0 : Int32) then (0 : Int32) else (1 : Int32))) + (if x2 = (0 : Int32) then (0 : Int32) else (1 : Int32))) + (if x3 = (0 : Int32) then (0 : Int32) else (1 : Int32))) (4 : Int32) ∧ NoNaN64 (stp (stp (stp (stp FP.dconst0 ((0 : Int32) + (if x1 = (0 : Int32) then (0 : Int32) else (1 : Int32))) (0 : Int32) (1 : Int32)) (((0 : Int32) + (if x1 = (0 : Int32) then (0 : Int32) else (1 : Int32))) + (if x2 = (0 : Int32) then (0 : Int32) else (1 : Int32))) ((0 : Int32) + (if x1 = (0 : Int32) then (0 : Int32) else (1 : Int32))) (2 : Int32)) ((((0 : Int32) + (if x1 = (0 : Int32) then (0 : Int32) else (1 : Int32))) + (if x2 = (0 : Int32) then (0 : Int32) else (1 : Int32))) + (if x3 = (0 : Int32) then (0 : Int32) else (1 : Int32))) (((0 : Int32) + (if x1 = (0 : Int32) then (0 : Int32) else (1 : Int32))) + (if x2 = (0 : Int32) then (0 : Int32) else (1 : Int32))) (3 : Int32)) (((((0 : Int32) + (if x1 = (0 : Int32) then (0 : Int32) else (1 : Int32))) + (if x2 = (0 : Int32) then (0 : Int32) else (1 : Int32))) + (if x3 = (0 : Int32) then (0 : Int32) else (1 : Int32))) + (if x4 = (0 : Int32) then (0 : Int32) else (1 : Int32))) ((((0 : Int32) + (if x1 = (0 : Int32) then (0 : Int32) else (1 : Int32))) + (if x2 = (0 : Int32) then (0 : Int32) else (1 : Int32))) + (if x3 = (0 : Int32) then (0 : Int32) else (1 : Int32))) (4 : Int32)) := by
  unfold ok stp NoNaN64
  rcases h1 with rfl | rfl <;> rcases h2 with rfl | rfl <;> rcases h3 with rfl | rfl <;> rcases h4 with rfl | rfl <;> decide +kernel
set_option maxRecDepth 65536 in
set_option maxHeartbeats 40000000 in
theorem cases16B (x1 x2 x3 x4 : Int32) (h1 : x1 = 0 ∨ x1 = 1) (h2 : x2 = 0 ∨ x2 = 1) (h3 : x3 = 0 ∨ x3 = 1) (h4 : x4 = 0 ∨ x4 = 1) (k1 k2 k3 k4 : Int32) (hk1 : (if x1 = (0 : Int32) then (0 : Int32) else (1 : Int32)) = k1) (hk2 : (k1 + (if x2 = (0 : Int32) then (0 : Int32) else (1 : Int32))) = k2) (hk3 : (k2 + (if x3 = (0 : Int32) then (0 : Int32) else (1 : Int32))) = k3) (hk4 : (k3 + (if x4 = (0 : Int32) then (0 : Int32) else (1 : Int32))) = k4) : (¬ x1 = (0 : Int32) → NoNaN64 (FP.ddiv (FP.i2d k1) FP.dconst1) ∧ NoNaN64 (FP.dadd FP.dconst0 (FP.ddiv (FP.i2d k1) FP.dconst1))) ∧ (¬ x2 = (0 : Int32) → NoNaN64 (FP.ddiv (FP.i2d k2) (4611686018427387904 : UInt64)) ∧ NoNaN64 (FP.dadd (if x1 = (0 : Int32) then FP.dconst0 else (FP.dadd FP.dconst0 (FP.ddiv (FP.i2d k1) FP.dconst1))) (FP.ddiv (FP.i2d k2) (4611686018427387904 : UInt64)))) ∧ (¬ x3 = (0 : Int32) → NoNaN64 (FP.ddiv (FP.i2d k3) (4613937818241073152 : UInt64)) ∧ NoNaN64 (FP.dadd (if x2 = (0 : Int32) then (if x1 = (0 : Int32) then FP.dconst0 else (FP.dadd FP.dconst0 (FP.ddiv (FP.i2d k1) FP.dconst1))) else (FP.dadd (if x1 = (0 : Int32) then FP.dconst0 else (FP.dadd FP.dconst0 (FP.ddiv (FP.i2d k1) FP.dconst1))) (FP.ddiv (FP.i2d k2) (4611686018427387904 : UInt64)))) (FP.ddiv (FP.i2d k3) (4613937818241073152 : UInt64)))) ∧ (¬ x4 = (0 : Int32) → NoNaN64 (FP.ddiv (FP.i2d k4) (4616189618054758400 : UInt64)) ∧ NoNaN64 (FP.dadd (if x3 = (0 : Int32) then (if x2 = (0 : Int32) then (if x1 = (0 : Int32) then FP.dconst0 else (FP.dadd FP.dconst0 (FP.ddiv (FP.i2d k1) FP.dconst1))) else (FP.dadd (if x1 = (0 : Int32) then FP.dconst0 else (FP.dadd FP.dconst0 (FP.ddiv (FP.i2d k1) FP.dconst1))) (FP.ddiv (FP.i2d k2) (4611686018427387904 : UInt64)))) else (FP.dadd (if x2 = (0 : Int32) then (if x1 = (0 : Int32) then FP.dconst0 else (FP.dadd FP.dconst0 (FP.ddiv (FP.i2d k1) FP.dconst1))) else (FP.dadd (if x1 = (0 : Int32) then FP.dconst0 else (FP.dadd FP.dconst0 (FP.ddiv (FP.i2d k1) FP.dconst1))) (FP.ddiv (FP.i2d k2) (4611686018427387904 : UInt64)))) (FP.ddiv (FP.i2d k3) (4613937818241073152 : UInt64)))) (FP.ddiv (FP.i2d k4) (4616189618054758400 : UInt64)))) ∧ (stp (stp (stp (stp FP.dconst0 ((0 : Int32) + (if x1 = (0 : Int32) then (0 : Int32) else (1 : Int32))) (0 : Int32) (1 : Int32)) (((0 : Int32) + (if x1 = (0 : Int32) then (0 : Int32) else (1 : Int32))) + (if x2 = (0 : Int32) then (0 : Int32) else (1 : Int32))) ((0 : Int32) + (if x1 = (0 : Int32) then (0 : Int32) else (1 : Int32))) (2 : Int32)) ((((0 : Int32) + (if x1 = (0 : Int32) then (0 : Int32) else (1 : Int32))) + (if x2 = (0 : Int32) then (0 : Int32) else (1 : Int32))) + (if x3 = (0 : Int32) then (0 : Int32) else (1 : Int32))) (((0 : Int32) + (if x1 = (0 : Int32) then (0 : Int32) else (1 : Int32))) + (if x2 = (0 : Int32) then (0 : Int32) else (1 : Int32))) (3 : Int32)) (((((0 : Int32) + (if x1 = (0 : Int32) then (0 : Int32) else (1 : Int32))) + (if x2 = (0 : Int32) then (0 : Int32) else (1 : Int32))) + (if x3 = (0 : Int32) then (0 : Int32) else (1 : Int32))) + (if x4 = (0 : Int32) then (0 : Int32) else (1 : Int32))) ((((0 : Int32) + (if x1 = (0 : Int32) then (0 : Int32) else (1 : Int32))) + (if x2 = (0 : Int32) then (0 : Int32) else (1 : Int32))) + (if x3 = (0 : Int32) then (0 : Int32) else (1 : Int32))) (4 : Int32)) = (if x4 = (0 : Int32) then (if x3 = (0 : Int32) then (if x2 = (0 : Int32) then (if x1 = (0 : Int32) then FP.dconst0 else (FP.dadd FP.dconst0 (FP.ddiv (FP.i2d k1) FP.dconst1))) else (FP.dadd (if x1 = (0 : Int32) then FP.dconst0 else (FP.dadd FP.dconst0 (FP.ddiv (FP.i2d k1) FP.dconst1))) (FP.ddiv (FP.i2d k2) (4611686018427387904 : UInt64)))) else (FP.dadd (if x2 = (0 : Int32) then (if x1 = (0 : Int32) then FP.dconst0 else (FP.dadd FP.dconst0 (FP.ddiv (FP.i2d k1) FP.dconst1))) else (FP.dadd (if x1 = (0 : Int32) then FP.dconst0 else (FP.dadd FP.dconst0 (FP.ddiv (FP.i2d k1) FP.dconst1))) (FP.ddiv (FP.i2d k2) (4611686018427387904 : UInt64)))) (FP.ddiv (FP.i2d k3) (4613937818241073152 : UInt64)))) else (FP.dadd (if x3 = (0 : Int32) then (if x2 = (0 : Int32) then (if x1 = (0 : Int32) then FP.dconst0 else (FP.dadd FP.dconst0 (FP.ddiv (FP.i2d k1) FP.dconst1))) else (FP.dadd (if x1 = (0 : Int32) then FP.dconst0 else (FP.dadd FP.dconst0 (FP.ddiv (FP.i2d k1) FP.dconst1))) (FP.ddiv (FP.i2d k2) (4611686018427387904 : UInt64)))) else (FP.dadd (if x2 = (0 : Int32) then (if x1 = (0 : Int32) then FP.dconst0 else (FP.dadd FP.dconst0 (FP.ddiv (FP.i2d k1) FP.dconst1))) else (FP.dadd (if x1 = (0 : Int32) then FP.dconst0 else (FP.dadd FP.dconst0 (FP.ddiv (FP.i2d k1) FP.dconst1))) (FP.ddiv (FP.i2d k2) (4611686018427387904 : UInt64)))) (FP.ddiv (FP.i2d k3) (4613937818241073152 : UInt64)))) (FP.ddiv (FP.i2d k4) (4616189618054758400 : UInt64)))) := by
  subst hk1 hk2 hk3 hk4
  unfold stp NoNaN64
  rcases h1 with rfl | rfl <;> rcases h2 with rfl | rfl <;> rcases h3 with rfl | rfl <;> rcases h4 with rfl | rfl <;> decide +kernel
theorem rc_nz (x : Int32) : (if (x &&& 2147483647) = (0 : Int32) then (1 : Int32) else (x &&& 2147483647)) ≠ 0 := by
  by_cases h : (x &&& 2147483647) = (0 : Int32)
  · rw [if_pos h]; decide
  · rw [if_neg h]; exact h
theorem pn_1 : plainName "com/example/kingfisher/kingfisher/eval/TopicRankingAveragePrecisionPinLaw" = true := by first | (simp [plainName, overriddenIn]; done) | decide +kernel
theorem pd_1 : parseMethodDescriptor "([ZI)V" = some ⟨[(.array .boolean), .int], none⟩ := by decide +kernel
theorem pd_2 : parseMethodDescriptor "()D" = some ⟨[], some .double⟩ := by decide +kernel
def QL (Z : State) (p0 p1 : Int32) (h0 : Heap) (n0 : Nat) (v : Option Value) (h : Heap) (L : List Loc) : Prop := v = some (.int 1) ∧ Fr n0 L
set_option maxRecDepth 65536 in
set_option maxHeartbeats 40000000 in
theorem rmL (l : Launch) (Z : State) (a0 : Array Value) (hw : ∀ d ∈ tables_1, d.before a0 Z = true) (ws : List Jvm.Cond) (p0 p1 : Int32) (h0 : Heap) (n0 : Nat) (X00 : Old Z n0 h0)  :
    MetFree l x (head1 (Jvm.Cond.code x code maxLocals ret :: ws) room_1) (fun aa U => aa = #[(.int p0), (.int p1)] ∧ Z.Warmed39 U.vm ∧ U.heap = h0) (fun _ _ _ _ _ => True) (fun _ U o U' => ∃ v L, o = .returned v ∧ QL Z p0 p1 h0 n0 v U'.heap L ∧ FrameEnd U o U' L room_1.cells room_1.slots) := by
  refine MetFree.of_bodySF (plainFor_of_name pn_1) hisR ?_
  intro p e s m args below meth c s₁ Bd hml0 hP hK
  obtain ⟨rfl, hZ, hh⟩ := hP
  have hx := Bd.exec
  have hby := Bd.bytes
  have hml : c.maxLocals = 17 := hml0
  have hown : s.vm.findClass "com/example/kingfisher/kingfisher/eval/TopicRankingAveragePrecisionPinLaw" = some m.cls := findClass_of_methodNamed Bd.named
  have hnm := (name_of_methodNamed Bd.named Bd.method).1
  have X0 : Stand p l e room_1 s m #[(.int p0), (.int p1)] below meth c s₁ [] 0 0 := Stand.of_body Bd
  have e0 : s₁.heap = h0 := by rw [← hh, Bd.state]; rfl
  have N0 := Fr.nil n0
  have K0 := Keep.refl h0 []
  have ef : entryFrame m #[(.int p0), (.int p1)] maxLocals = mkF m 0 #[.val (.int p0), .val (.int p1), .unset, .unset, .unset, .unset, .unset, .unset, .unset, .unset, .unset, .unset, .unset, .unset, .unset, .unset, .unset] [] := (by first | (simp [entryFrame, mkF, argsToLocals, Value.category, maxLocals]; done) | rfl : entryFrame m #[(.int p0), (.int p1)] maxLocals = mkF m 0 #[.val (.int p0), .val (.int p1), .unset, .unset, .unset, .unset, .unset, .unset, .unset, .unset, .unset, .unset, .unset, .unset, .unset, .unset, .unset] [])
  rw [ef]
  refine fin_of fun Kx hF => ?_
  show Go p.tables e below Kx s₁ (mkF m 0 #[.val (.int p0), .val (.int p1), .unset, .unset, .unset, .unset, .unset, .unset, .unset, .unset, .unset, .unset, .unset, .unset, .unset, .unset, .unset] [])
  refine s_iloadN (pc' := 1) X0.here hx (hb hby at_0) rfl rfl ?_
  refine s_iconst (pc' := 2) (v := (1 : Int32)) X0.here hx (hb hby at_1) rfl rfl ?_
  refine s_iand (pc' := 3) X0.here hx (hb hby at_2) rfl rfl ?_
  suffices J116 : Go p.tables e below Kx s₁ (mkF m 11 #[.val (.int p0), .val (.int p1), .unset, .unset, .unset, .unset, .unset, .unset, .unset, .unset, .unset, .unset, .unset, .unset, .unset, .unset, .unset] [(.int (if (p0 &&& (1 : Int32)) = (0 : Int32) then (0 : Int32) else (1 : Int32)))]) by
    by_cases hc115 : (p0 &&& (1 : Int32)) = (0 : Int32)
    · skip
      simp only [if_pos hc115] at J116
      refine s_ifY (pc' := 10) X0.here hx (hb hby at_3) ((if0 _ _).trans (teq hc115).1) (by decide) (by decide) ?_
      refine s_iconst (pc' := 11) (v := (0 : Int32)) X0.here hx (hb hby at_10) rfl rfl ?_
      exact J116
    · skip
      simp only [if_neg hc115] at J116
      refine s_ifN (pc' := 6) X0.here hx (hb hby at_3) rfl ((if0 _ _).trans (feq hc115).1) ?_
      refine s_iconst (pc' := 7) (v := (1 : Int32)) X0.here hx (hb hby at_6) rfl rfl ?_
      refine s_goto (pc' := 11) X0.here hx (hb hby at_7) (by decide) (by decide) ?_
      exact J116
  have hb1 : (if (p0 &&& (1 : Int32)) = (0 : Int32) then (0 : Int32) else (1 : Int32)) = 0 ∨ (if (p0 &&& (1 : Int32)) = (0 : Int32) then (0 : Int32) else (1 : Int32)) = 1 := bit01 _
  revert hb1
  generalize (if (p0 &&& (1 : Int32)) = (0 : Int32) then (0 : Int32) else (1 : Int32)) = x1
  intro hb1
  show Go p.tables e below Kx s₁ (mkF m 11 #[.val (.int p0), .val (.int p1), .unset, .unset, .unset, .unset, .unset, .unset, .unset, .unset, .unset, .unset, .unset, .unset, .unset, .unset, .unset] [(.int x1)])
  refine s_istoreN (pc' := 12) (Ls' := #[.val (.int p0), .val (.int p1), .val (.int x1), .unset, .unset, .unset, .unset, .unset, .unset, .unset, .unset, .unset, .unset, .unset, .unset, .unset, .unset]) X0.here hx (hb hby at_11) rfl  rfl ?_
  refine s_iloadN (pc' := 13) X0.here hx (hb hby at_12) rfl rfl ?_
  refine s_iconst (pc' := 14) (v := (2 : Int32)) X0.here hx (hb hby at_13) rfl rfl ?_
  refine s_iand (pc' := 15) X0.here hx (hb hby at_14) rfl rfl ?_
  suffices J118 : Go p.tables e below Kx s₁ (mkF m 23 #[.val (.int p0), .val (.int p1), .val (.int x1), .unset, .unset, .unset, .unset, .unset, .unset, .unset, .unset, .unset, .unset, .unset, .unset, .unset, .unset] [(.int (if (p0 &&& (2 : Int32)) = (0 : Int32) then (0 : Int32) else (1 : Int32)))]) by
    by_cases hc117 : (p0 &&& (2 : Int32)) = (0 : Int32)
    · skip
      simp only [if_pos hc117] at J118
      refine s_ifY (pc' := 22) X0.here hx (hb hby at_15) ((if0 _ _).trans (teq hc117).1) (by decide) (by decide) ?_
      refine s_iconst (pc' := 23) (v := (0 : Int32)) X0.here hx (hb hby at_22) rfl rfl ?_
      exact J118
    · skip
      simp only [if_neg hc117] at J118
      refine s_ifN (pc' := 18) X0.here hx (hb hby at_15) rfl ((if0 _ _).trans (feq hc117).1) ?_
      refine s_iconst (pc' := 19) (v := (1 : Int32)) X0.here hx (hb hby at_18) rfl rfl ?_
      refine s_goto (pc' := 23) X0.here hx (hb hby at_19) (by decide) (by decide) ?_
      exact J118
  have hb2 : (if (p0 &&& (2 : Int32)) = (0 : Int32) then (0 : Int32) else (1 : Int32)) = 0 ∨ (if (p0 &&& (2 : Int32)) = (0 : Int32) then (0 : Int32) else (1 : Int32)) = 1 := bit01 _
  revert hb2
  generalize (if (p0 &&& (2 : Int32)) = (0 : Int32) then (0 : Int32) else (1 : Int32)) = x2
  intro hb2
  show Go p.tables e below Kx s₁ (mkF m 23 #[.val (.int p0), .val (.int p1), .val (.int x1), .unset, .unset, .unset, .unset, .unset, .unset, .unset, .unset, .unset, .unset, .unset, .unset, .unset, .unset] [(.int x2)])
  refine s_istoreN (pc' := 24) (Ls' := #[.val (.int p0), .val (.int p1), .val (.int x1), .val (.int x2), .unset, .unset, .unset, .unset, .unset, .unset, .unset, .unset, .unset, .unset, .unset, .unset, .unset]) X0.here hx (hb hby at_23) rfl  rfl ?_
  refine s_iloadN (pc' := 25) X0.here hx (hb hby at_24) rfl rfl ?_
  refine s_iconst (pc' := 26) (v := (4 : Int32)) X0.here hx (hb hby at_25) rfl rfl ?_
  refine s_iand (pc' := 27) X0.here hx (hb hby at_26) rfl rfl ?_
  suffices J120 : Go p.tables e below Kx s₁ (mkF m 35 #[.val (.int p0), .val (.int p1), .val (.int x1), .val (.int x2), .unset, .unset, .unset, .unset, .unset, .unset, .unset, .unset, .unset, .unset, .unset, .unset, .unset] [(.int (if (p0 &&& (4 : Int32)) = (0 : Int32) then (0 : Int32) else (1 : Int32)))]) by
    by_cases hc119 : (p0 &&& (4 : Int32)) = (0 : Int32)
    · skip
      simp only [if_pos hc119] at J120
      refine s_ifY (pc' := 34) X0.here hx (hb hby at_27) ((if0 _ _).trans (teq hc119).1) (by decide) (by decide) ?_
      refine s_iconst (pc' := 35) (v := (0 : Int32)) X0.here hx (hb hby at_34) rfl rfl ?_
      exact J120
    · skip
      simp only [if_neg hc119] at J120
      refine s_ifN (pc' := 30) X0.here hx (hb hby at_27) rfl ((if0 _ _).trans (feq hc119).1) ?_
      refine s_iconst (pc' := 31) (v := (1 : Int32)) X0.here hx (hb hby at_30) rfl rfl ?_
      refine s_goto (pc' := 35) X0.here hx (hb hby at_31) (by decide) (by decide) ?_
      exact J120
  have hb3 : (if (p0 &&& (4 : Int32)) = (0 : Int32) then (0 : Int32) else (1 : Int32)) = 0 ∨ (if (p0 &&& (4 : Int32)) = (0 : Int32) then (0 : Int32) else (1 : Int32)) = 1 := bit01 _
  revert hb3
  generalize (if (p0 &&& (4 : Int32)) = (0 : Int32) then (0 : Int32) else (1 : Int32)) = x3
  intro hb3
  show Go p.tables e below Kx s₁ (mkF m 35 #[.val (.int p0), .val (.int p1), .val (.int x1), .val (.int x2), .unset, .unset, .unset, .unset, .unset, .unset, .unset, .unset, .unset, .unset, .unset, .unset, .unset] [(.int x3)])
  refine s_istore (pc' := 37) (Ls' := #[.val (.int p0), .val (.int p1), .val (.int x1), .val (.int x2), .val (.int x3), .unset, .unset, .unset, .unset, .unset, .unset, .unset, .unset, .unset, .unset, .unset, .unset]) X0.here hx (hb hby at_35) rfl  rfl ?_
  refine s_iloadN (pc' := 38) X0.here hx (hb hby at_37) rfl rfl ?_
  refine s_bipush (pc' := 40) (v := (8 : Int32)) X0.here hx (hb hby at_38) rfl rfl ?_
  refine s_iand (pc' := 41) X0.here hx (hb hby at_40) rfl rfl ?_
  suffices J122 : Go p.tables e below Kx s₁ (mkF m 49 #[.val (.int p0), .val (.int p1), .val (.int x1), .val (.int x2), .val (.int x3), .unset, .unset, .unset, .unset, .unset, .unset, .unset, .unset, .unset, .unset, .unset, .unset] [(.int (if (p0 &&& (8 : Int32)) = (0 : Int32) then (0 : Int32) else (1 : Int32)))]) by
    by_cases hc121 : (p0 &&& (8 : Int32)) = (0 : Int32)
    · skip
      simp only [if_pos hc121] at J122
      refine s_ifY (pc' := 48) X0.here hx (hb hby at_41) ((if0 _ _).trans (teq hc121).1) (by decide) (by decide) ?_
      refine s_iconst (pc' := 49) (v := (0 : Int32)) X0.here hx (hb hby at_48) rfl rfl ?_
      exact J122
    · skip
      simp only [if_neg hc121] at J122
      refine s_ifN (pc' := 44) X0.here hx (hb hby at_41) rfl ((if0 _ _).trans (feq hc121).1) ?_
      refine s_iconst (pc' := 45) (v := (1 : Int32)) X0.here hx (hb hby at_44) rfl rfl ?_
      refine s_goto (pc' := 49) X0.here hx (hb hby at_45) (by decide) (by decide) ?_
      exact J122
  have hb4 : (if (p0 &&& (8 : Int32)) = (0 : Int32) then (0 : Int32) else (1 : Int32)) = 0 ∨ (if (p0 &&& (8 : Int32)) = (0 : Int32) then (0 : Int32) else (1 : Int32)) = 1 := bit01 _
  revert hb4
  generalize (if (p0 &&& (8 : Int32)) = (0 : Int32) then (0 : Int32) else (1 : Int32)) = x4
  intro hb4
  show Go p.tables e below Kx s₁ (mkF m 49 #[.val (.int p0), .val (.int p1), .val (.int x1), .val (.int x2), .val (.int x3), .unset, .unset, .unset, .unset, .unset, .unset, .unset, .unset, .unset, .unset, .unset, .unset] [(.int x4)])
  refine s_istore (pc' := 51) (Ls' := #[.val (.int p0), .val (.int p1), .val (.int x1), .val (.int x2), .val (.int x3), .val (.int x4), .unset, .unset, .unset, .unset, .unset, .unset, .unset, .unset, .unset, .unset, .unset]) X0.here hx (hb hby at_49) rfl  rfl ?_
  refine s_iloadN (pc' := 52) X0.here hx (hb hby at_51) rfl rfl ?_
  refine Go.st (X0.ldcInt hx hown (mvT hZ (hw _ (List.mem_of_getElem? (i := 0) rfl))) (g := (mkF m 52 #[.val (.int p0), .val (.int p1), .val (.int x1), .val (.int x2), .val (.int x3), .val (.int x4), .unset, .unset, .unset, .unset, .unset, .unset, .unset, .unset, .unset, .unset, .unset] [(.int p1)])) rfl (hb hby at_52)) ?_
  show Go p.tables e below Kx s₁ (mkF m 54 #[.val (.int p0), .val (.int p1), .val (.int x1), .val (.int x2), .val (.int x3), .val (.int x4), .unset, .unset, .unset, .unset, .unset, .unset, .unset, .unset, .unset, .unset, .unset] [(.int (2147483647 : Int32)), (.int p1)])
  refine s_iand (pc' := 55) X0.here hx (hb hby at_54) rfl rfl ?_
  refine s_istore (pc' := 57) (Ls' := #[.val (.int p0), .val (.int p1), .val (.int x1), .val (.int x2), .val (.int x3), .val (.int x4), .val (.int (p1 &&& (2147483647 : Int32))), .unset, .unset, .unset, .unset, .unset, .unset, .unset, .unset, .unset, .unset]) X0.here hx (hb hby at_55) rfl  rfl ?_
  refine s_iload (pc' := 59) X0.here hx (hb hby at_57) rfl rfl ?_
  suffices J124 : Go p.tables e below Kx s₁ (mkF m 65 #[.val (.int p0), .val (.int p1), .val (.int x1), .val (.int x2), .val (.int x3), .val (.int x4), .val (.int (if (p1 &&& (2147483647 : Int32)) = (0 : Int32) then (1 : Int32) else (p1 &&& (2147483647 : Int32)))), .unset, .unset, .unset, .unset, .unset, .unset, .unset, .unset, .unset, .unset] []) by
    by_cases hc123 : (p1 &&& (2147483647 : Int32)) = (0 : Int32)
    · skip
      simp only [if_pos hc123] at J124
      refine s_ifN (pc' := 62) X0.here hx (hb hby at_59) rfl ((if0 _ _).trans (teq hc123).2) ?_
      refine s_iconst (pc' := 63) (v := (1 : Int32)) X0.here hx (hb hby at_62) rfl rfl ?_
      refine s_istore (pc' := 65) (Ls' := #[.val (.int p0), .val (.int p1), .val (.int x1), .val (.int x2), .val (.int x3), .val (.int x4), .val (.int (1 : Int32)), .unset, .unset, .unset, .unset, .unset, .unset, .unset, .unset, .unset, .unset]) X0.here hx (hb hby at_63) rfl  rfl ?_
      exact J124
    · skip
      simp only [if_neg hc123] at J124
      refine s_ifY (pc' := 65) X0.here hx (hb hby at_59) ((if0 _ _).trans (feq hc123).2) (by decide) (by decide) ?_
      exact J124
  have hrc : (if (p1 &&& (2147483647 : Int32)) = (0 : Int32) then (1 : Int32) else (p1 &&& (2147483647 : Int32))) ≠ 0 := rc_nz p1
  revert hrc
  generalize (if (p1 &&& (2147483647 : Int32)) = (0 : Int32) then (1 : Int32) else (p1 &&& (2147483647 : Int32))) = rc
  intro hrc
  show Go p.tables e below Kx s₁ (mkF m 65 #[.val (.int p0), .val (.int p1), .val (.int x1), .val (.int x2), .val (.int x3), .val (.int x4), .val (.int rc), .unset, .unset, .unset, .unset, .unset, .unset, .unset, .unset, .unset, .unset] [])
  refine s_iconst (pc' := 66) (v := (4 : Int32)) X0.here hx (hb hby at_65) rfl rfl ?_
  obtain ⟨T125, h125, k125, X125, e125, E125, A125, st125⟩ := newP X0 hx hZ (hw _ (List.mem_of_getElem? (i := 1) rfl)) e0 (g := (mkF m 66 #[.val (.int p0), .val (.int p1), .val (.int x1), .val (.int x2), .val (.int x3), .val (.int x4), .val (.int rc), .unset, .unset, .unset, .unset, .unset, .unset, .unset, .unset, .unset, .unset] [(.int (4 : Int32))])) rfl (hb hby at_66) rfl (by decide) (cap := 4) (by decide) (by decide) (by decide) (by decide)
  obtain ⟨b125, g125⟩ : ∃ z, z = h0.size := ⟨_, rfl⟩
  rw [← g125] at A125 st125
  have sz125 : h0.size ≤ b125 := Nat.le_trans K0.1 (Nat.le_of_eq g125.symm)
  have ge125 : n0 ≤ b125 := Nat.le_trans (X00.1 ▸ X00.2.1) (Nat.le_of_eq g125.symm)
  have K125 : Keep h0 h125 [] := K0.ext E125
  have O125 : Old Z n0 h125 := X00.ext E125
  have V125 : Arv Z h125 b125 k125 .boolean (4 : Int32) [(.int (0 : Int32)), (.int (0 : Int32)), (.int (0 : Int32)), (.int (0 : Int32))] (.int (0 : Int32)) := (Arv.new A125 (by decide)).pad (pad_rep [] (.int (0 : Int32)) 4)
  refine Go.st st125 ?_
  show Go p.tables e below Kx T125 (mkF m 68 #[.val (.int p0), .val (.int p1), .val (.int x1), .val (.int x2), .val (.int x3), .val (.int x4), .val (.int rc), .unset, .unset, .unset, .unset, .unset, .unset, .unset, .unset, .unset, .unset] [(.ref b125)])
  refine s_astore (pc' := 70) (Ls' := #[.val (.int p0), .val (.int p1), .val (.int x1), .val (.int x2), .val (.int x3), .val (.int x4), .val (.int rc), .val (.ref b125), .unset, .unset, .unset, .unset, .unset, .unset, .unset, .unset, .unset]) X125.here hx (hb hby at_68) rfl rfl rfl ?_
  refine s_aload (pc' := 72) X125.here hx (hb hby at_70) rfl rfl rfl ?_
  refine s_iconst (pc' := 73) (v := (0 : Int32)) X125.here hx (hb hby at_72) rfl rfl ?_
  refine s_iloadN (pc' := 74) X125.here hx (hb hby at_73) rfl rfl ?_
  obtain ⟨cl126, Ar126, Aq126, As126, An126, Ah126, Ag126⟩ := id V125
  have in127 := inb_of (j := (0 : Int32)) As126 (by decide)
  obtain ⟨T127, h127, X127, e127, W127, st127⟩ := stZ X125 hx hZ e125 Ar126 (j := (0 : Int32)) in127 (g := (mkF m 74 #[.val (.int p0), .val (.int p1), .val (.int x1), .val (.int x2), .val (.int x3), .val (.int x4), .val (.int rc), .val (.ref b125), .unset, .unset, .unset, .unset, .unset, .unset, .unset, .unset, .unset] [(.int x1), (.int (0 : Int32)), (.ref b125)])) rfl rfl (hb hby at_74)
  have V127 : Arv Z h127 b125 k125 .boolean (4 : Int32) [(.int x1), (.int (0 : Int32)), (.int (0 : Int32)), (.int (0 : Int32))] (.int (0 : Int32)) := by
    have q := Arv.set Ar126 Aq126 As126 An126 Ah126 Ag126 (fits_nar_bool _) W127 0 rfl (Nat.le_of_ble_eq_true rfl)
    rw [nar_b hb1] at q; exact q
  have K127 : Keep h0 h127 [] := K125.wr W127 (Or.inr sz125)
  have O127 : Old Z n0 h127 := O125.wr W127 ge125
  have N127 := Fr.snoc X127 N0 ge125
  refine Go.st st127 ?_
  show Go p.tables e below Kx T127 (mkF m 75 #[.val (.int p0), .val (.int p1), .val (.int x1), .val (.int x2), .val (.int x3), .val (.int x4), .val (.int rc), .val (.ref b125), .unset, .unset, .unset, .unset, .unset, .unset, .unset, .unset, .unset] [])
  refine s_aload (pc' := 77) X127.here hx (hb hby at_75) rfl rfl rfl ?_
  refine s_iconst (pc' := 78) (v := (1 : Int32)) X127.here hx (hb hby at_77) rfl rfl ?_
  refine s_iloadN (pc' := 79) X127.here hx (hb hby at_78) rfl rfl ?_
  obtain ⟨cl128, Ar128, Aq128, As128, An128, Ah128, Ag128⟩ := id V127
  have in129 := inb_of (j := (1 : Int32)) As128 (by decide)
  obtain ⟨T129, h129, X129, e129, W129, st129⟩ := stZ X127 hx hZ e127 Ar128 (j := (1 : Int32)) in129 (g := (mkF m 79 #[.val (.int p0), .val (.int p1), .val (.int x1), .val (.int x2), .val (.int x3), .val (.int x4), .val (.int rc), .val (.ref b125), .unset, .unset, .unset, .unset, .unset, .unset, .unset, .unset, .unset] [(.int x2), (.int (1 : Int32)), (.ref b125)])) rfl rfl (hb hby at_79)
  have V129 : Arv Z h129 b125 k125 .boolean (4 : Int32) [(.int x1), (.int x2), (.int (0 : Int32)), (.int (0 : Int32))] (.int (0 : Int32)) := by
    have q := Arv.set Ar128 Aq128 As128 An128 Ah128 Ag128 (fits_nar_bool _) W129 1 rfl (Nat.le_of_ble_eq_true rfl)
    rw [nar_b hb2] at q; exact q
  have K129 : Keep h0 h129 [] := K127.wr W129 (Or.inr sz125)
  have O129 : Old Z n0 h129 := O127.wr W129 ge125
  have N129 := Fr.snoc X129 N127 ge125
  refine Go.st st129 ?_
  show Go p.tables e below Kx T129 (mkF m 80 #[.val (.int p0), .val (.int p1), .val (.int x1), .val (.int x2), .val (.int x3), .val (.int x4), .val (.int rc), .val (.ref b125), .unset, .unset, .unset, .unset, .unset, .unset, .unset, .unset, .unset] [])
  refine s_aload (pc' := 82) X129.here hx (hb hby at_80) rfl rfl rfl ?_
  refine s_iconst (pc' := 83) (v := (2 : Int32)) X129.here hx (hb hby at_82) rfl rfl ?_
  refine s_iload (pc' := 85) X129.here hx (hb hby at_83) rfl rfl ?_
  obtain ⟨cl130, Ar130, Aq130, As130, An130, Ah130, Ag130⟩ := id V129
  have in131 := inb_of (j := (2 : Int32)) As130 (by decide)
  obtain ⟨T131, h131, X131, e131, W131, st131⟩ := stZ X129 hx hZ e129 Ar130 (j := (2 : Int32)) in131 (g := (mkF m 85 #[.val (.int p0), .val (.int p1), .val (.int x1), .val (.int x2), .val (.int x3), .val (.int x4), .val (.int rc), .val (.ref b125), .unset, .unset, .unset, .unset, .unset, .unset, .unset, .unset, .unset] [(.int x3), (.int (2 : Int32)), (.ref b125)])) rfl rfl (hb hby at_85)
  have V131 : Arv Z h131 b125 k125 .boolean (4 : Int32) [(.int x1), (.int x2), (.int x3), (.int (0 : Int32))] (.int (0 : Int32)) := by
    have q := Arv.set Ar130 Aq130 As130 An130 Ah130 Ag130 (fits_nar_bool _) W131 2 rfl (Nat.le_of_ble_eq_true rfl)
    rw [nar_b hb3] at q; exact q
  have K131 : Keep h0 h131 [] := K129.wr W131 (Or.inr sz125)
  have O131 : Old Z n0 h131 := O129.wr W131 ge125
  have N131 := Fr.snoc X131 N129 ge125
  refine Go.st st131 ?_
  show Go p.tables e below Kx T131 (mkF m 86 #[.val (.int p0), .val (.int p1), .val (.int x1), .val (.int x2), .val (.int x3), .val (.int x4), .val (.int rc), .val (.ref b125), .unset, .unset, .unset, .unset, .unset, .unset, .unset, .unset, .unset] [])
  refine s_aload (pc' := 88) X131.here hx (hb hby at_86) rfl rfl rfl ?_
  refine s_iconst (pc' := 89) (v := (3 : Int32)) X131.here hx (hb hby at_88) rfl rfl ?_
  refine s_iload (pc' := 91) X131.here hx (hb hby at_89) rfl rfl ?_
  obtain ⟨cl132, Ar132, Aq132, As132, An132, Ah132, Ag132⟩ := id V131
  have in133 := inb_of (j := (3 : Int32)) As132 (by decide)
  obtain ⟨T133, h133, X133, e133, W133, st133⟩ := stZ X131 hx hZ e131 Ar132 (j := (3 : Int32)) in133 (g := (mkF m 91 #[.val (.int p0), .val (.int p1), .val (.int x1), .val (.int x2), .val (.int x3), .val (.int x4), .val (.int rc), .val (.ref b125), .unset, .unset, .unset, .unset, .unset, .unset, .unset, .unset, .unset] [(.int x4), (.int (3 : Int32)), (.ref b125)])) rfl rfl (hb hby at_91)
  have V133 : Arv Z h133 b125 k125 .boolean (4 : Int32) [(.int x1), (.int x2), (.int x3), (.int x4)] (.int (0 : Int32)) := by
    have q := Arv.set Ar132 Aq132 As132 An132 Ah132 Ag132 (fits_nar_bool _) W133 3 rfl (Nat.le_of_ble_eq_true rfl)
    rw [nar_b hb4] at q; exact q
  have K133 : Keep h0 h133 [] := K131.wr W133 (Or.inr sz125)
  have O133 : Old Z n0 h133 := O131.wr W133 ge125
  have N133 := Fr.snoc X133 N131 ge125
  refine Go.st st133 ?_
  show Go p.tables e below Kx T133 (mkF m 92 #[.val (.int p0), .val (.int p1), .val (.int x1), .val (.int x2), .val (.int x3), .val (.int x4), .val (.int rc), .val (.ref b125), .unset, .unset, .unset, .unset, .unset, .unset, .unset, .unset, .unset] [])
  obtain ⟨T134, h134, X134, e134, E134, A134, D134, -, st134⟩ := newO X133 hx hZ hown (hw _ (List.mem_of_getElem? (i := 2) rfl)) (hw _ (List.mem_of_getElem? (i := 3) rfl)) (hw _ (List.mem_of_getElem? (i := 4) rfl)) e133 (g := (mkF m 92 #[.val (.int p0), .val (.int p1), .val (.int x1), .val (.int x2), .val (.int x3), .val (.int x4), .val (.int rc), .val (.ref b125), .unset, .unset, .unset, .unset, .unset, .unset, .unset, .unset, .unset] [])) rfl (hb hby at_92) (by decide) (by decide)
  obtain ⟨b134, g134⟩ : ∃ z, z = h133.size := ⟨_, rfl⟩
  rw [← g134] at A134 D134 st134
  have sz134 : h0.size ≤ b134 := Nat.le_trans K133.1 (Nat.le_of_eq g134.symm)
  have ge134 : n0 ≤ b134 := Nat.le_trans (O133.1 ▸ O133.2.1) (Nat.le_of_eq g134.symm)
  have K134 : Keep h0 h134 [] := K133.ext E134
  have O134 : Old Z n0 h134 := O133.ext E134
  have F134_relevantWithin : Fld Z h134 b134 "com/example/kingfisher/kingfisher/eval/TopicRanking" "relevantWithin" "[I" .null := D134 (Or.inr (hw _ (List.mem_of_getElem? (i := 13) rfl))) (ty := (.array .int)) (by decide)
  have F134_relevantCount : Fld Z h134 b134 "com/example/kingfisher/kingfisher/eval/TopicRanking" "relevantCount" "I" (.int (0 : Int32)) := D134 (Or.inr (hw _ (List.mem_of_getElem? (i := 15) rfl))) (ty := .int) (by decide)
  refine Go.st st134 ?_
  show Go p.tables e below Kx T134 (mkF m 95 #[.val (.int p0), .val (.int p1), .val (.int x1), .val (.int x2), .val (.int x3), .val (.int x4), .val (.int rc), .val (.ref b125), .unset, .unset, .unset, .unset, .unset, .unset, .unset, .unset, .unset] [(.ref b134)])
  refine s_dup (pc' := 96) X134.here hx (hb hby at_95) rfl rfl ?_
  refine s_aload (pc' := 98) X134.here hx (hb hby at_96) rfl rfl rfl ?_
  refine s_iload (pc' := 100) X134.here hx (hb hby at_98) rfl rfl ?_
  have f135 : Arv Z h134 b125 k125 .boolean (4 : Int32) [(.int x1), (.int x2), (.int x3), (.int x4)] (.int (0 : Int32)) := (V133.ext E134)
  obtain ⟨_, _, ⟨T136, L136, k136, n136⟩, -, X136, ⟨Lc136, hQ136, l136, y136, z136⟩, st136⟩ := X134.specialBack hx (y := (⟨"com/example/kingfisher/kingfisher/eval/TopicRanking", "<init>", "([ZI)V"⟩ : MethodName)) rfl hown (mvT hZ (hw _ (List.mem_of_getElem? (i := 5) rfl))) (mvT hZ (hw _ (List.mem_of_getElem? (i := 6) rfl))) (mvT hZ (hw _ (List.mem_of_getElem? (i := 7) rfl))) (by decide) (backOf (W := 1) (rmN l Z a0 hw [] b134 b125 k125 x1 x2 x3 x4 rc h134 n0 O134 ge134 (Nat.ne_of_lt (Nat.lt_of_lt_of_le (Nat.lt_of_lt_of_le A125.lt (Nat.le_trans (Nat.le_trans (Nat.le_trans (Nat.le_of_eq W127.size.symm) (Nat.le_of_eq W129.size.symm)) (Nat.le_of_eq W131.size.symm)) (Nat.le_of_eq W133.size.symm))) (Nat.le_of_eq g134.symm))) A134 F134_relevantWithin F134_relevantCount f135) hZ (hw _ (List.mem_of_getElem? (i := 7) rfl)) (hw _ (List.mem_of_getElem? (i := 4) rfl)) (by decide) (by decide)) (g := (mkF m 100 #[.val (.int p0), .val (.int p1), .val (.int x1), .val (.int x2), .val (.int x3), .val (.int x4), .val (.int rc), .val (.ref b125), .unset, .unset, .unset, .unset, .unset, .unset, .unset, .unset, .unset] [(.int rc), (.ref b125), (.ref b134), (.ref b134)])) rfl (by rw [hml]; rfl) (Steps.refl _) (a := b134) (argsL := [(.ref b125), (.int rc)]) (rest := [(.ref b134)]) (lenOf pd_1 rfl) rfl (by show 2 * 0 + _ ≤ _; exact Nat.le_of_eq rfl) (hb hby at_100) (fun _ _ => ⟨rfl, e134, (by decide : 2 + 1 ≤ _), (by decide : 6 + 5 ≤ _)⟩)
  dsimp only [Pt.U, Pt.locs, Pt.cells, Pt.slots] at X136 l136 y136 z136 st136 hQ136
  subst l136 y136 z136
  obtain ⟨rfl, Nq136, Kq136, q1_136, q2_136, t136, kt136, q3_136, q4_136⟩ := hQ136
  have N136 := Fr.app N133 Nq136
  have K136 : Keep h0 T136.heap [] := K134.trans Kq136 (allS (P := fun zz => zz ∈ [] ∨ h0.size ≤ zz) (Or.inr sz134) all0)
  have O136 : Old Z n0 T136.heap := O134.keep Kq136 (allS ge134 all0)
  refine Go.tr st136 ?_
  show Go p.tables e below Kx T136 (mkF m 103 #[.val (.int p0), .val (.int p1), .val (.int x1), .val (.int x2), .val (.int x3), .val (.int x4), .val (.int rc), .val (.ref b125), .unset, .unset, .unset, .unset, .unset, .unset, .unset, .unset, .unset] [(.ref b134)])
  refine s_astore (pc' := 105) (Ls' := #[.val (.int p0), .val (.int p1), .val (.int x1), .val (.int x2), .val (.int x3), .val (.int x4), .val (.int rc), .val (.ref b125), .val (.ref b134), .unset, .unset, .unset, .unset, .unset, .unset, .unset, .unset]) X136.here hx (hb hby at_103) rfl rfl rfl ?_
  refine s_aload (pc' := 107) X136.here hx (hb hby at_105) rfl rfl rfl ?_
  obtain ⟨ho1, ho2, ho3, ho4, hnS⟩ := cases16 x1 x2 x3 x4 hb1 hb2 hb3 hb4
  have hq5' : NoNaN64 (FP.ddiv (stp (stp (stp (stp FP.dconst0 ((0 : Int32) + (if x1 = (0 : Int32) then (0 : Int32) else (1 : Int32))) (0 : Int32) (1 : Int32)) (((0 : Int32) + (if x1 = (0 : Int32) then (0 : Int32) else (1 : Int32))) + (if x2 = (0 : Int32) then (0 : Int32) else (1 : Int32))) ((0 : Int32) + (if x1 = (0 : Int32) then (0 : Int32) else (1 : Int32))) (2 : Int32)) ((((0 : Int32) + (if x1 = (0 : Int32) then (0 : Int32) else (1 : Int32))) + (if x2 = (0 : Int32) then (0 : Int32) else (1 : Int32))) + (if x3 = (0 : Int32) then (0 : Int32) else (1 : Int32))) (((0 : Int32) + (if x1 = (0 : Int32) then (0 : Int32) else (1 : Int32))) + (if x2 = (0 : Int32) then (0 : Int32) else (1 : Int32))) (3 : Int32)) (((((0 : Int32) + (if x1 = (0 : Int32) then (0 : Int32) else (1 : Int32))) + (if x2 = (0 : Int32) then (0 : Int32) else (1 : Int32))) + (if x3 = (0 : Int32) then (0 : Int32) else (1 : Int32))) + (if x4 = (0 : Int32) then (0 : Int32) else (1 : Int32))) ((((0 : Int32) + (if x1 = (0 : Int32) then (0 : Int32) else (1 : Int32))) + (if x2 = (0 : Int32) then (0 : Int32) else (1 : Int32))) + (if x3 = (0 : Int32) then (0 : Int32) else (1 : Int32))) (4 : Int32)) (FP.i2d rc)) := ddiv_out hnS (i2d_fin rc) (i2d_nz hrc)
  obtain ⟨cq137, kq137, q137a, q137b, q137c⟩ := isOf hZ rfl q1_136
  obtain ⟨_, _, ⟨T137, L137, k137, n137⟩, -, X137, ⟨Lc137, hQ137, l137, y137, z137⟩, st137⟩ := X136.virtualBack hx (y := (⟨"com/example/kingfisher/kingfisher/eval/TopicRanking", "averagePrecision", "()D"⟩ : MethodName)) (z := (⟨"com/example/kingfisher/kingfisher/eval/TopicRanking", "averagePrecision", "()D"⟩ : MethodName)) hown (mvT hZ (hw _ (List.mem_of_getElem? (i := 16) rfl))) (mvT hZ (hw _ (List.mem_of_getElem? (i := 17) rfl))) (notFace_of_selects (args := #[]) (mvT hZ (hw _ (List.mem_of_getElem? (i := 19) rfl)))) (mvT hZ (hw _ (List.mem_of_getElem? (i := 19) rfl))) (mvT hZ (hw _ (List.mem_of_getElem? (i := 18) rfl))) (by decide) (backOf (W := 0) (rmA l Z a0 hw [] b134 t136 kt136 ((0 : Int32) + (if x1 = (0 : Int32) then (0 : Int32) else (1 : Int32))) (((0 : Int32) + (if x1 = (0 : Int32) then (0 : Int32) else (1 : Int32))) + (if x2 = (0 : Int32) then (0 : Int32) else (1 : Int32))) ((((0 : Int32) + (if x1 = (0 : Int32) then (0 : Int32) else (1 : Int32))) + (if x2 = (0 : Int32) then (0 : Int32) else (1 : Int32))) + (if x3 = (0 : Int32) then (0 : Int32) else (1 : Int32))) (((((0 : Int32) + (if x1 = (0 : Int32) then (0 : Int32) else (1 : Int32))) + (if x2 = (0 : Int32) then (0 : Int32) else (1 : Int32))) + (if x3 = (0 : Int32) then (0 : Int32) else (1 : Int32))) + (if x4 = (0 : Int32) then (0 : Int32) else (1 : Int32))) rc T136.heap n0 O136 q1_136 q3_136 q2_136 q4_136 ho1 ho2 ho3 ho4 hq5') hZ (hw _ (List.mem_of_getElem? (i := 20) rfl)) (hw _ (List.mem_of_getElem? (i := 4) rfl)) (by decide) (by decide)) q137a q137c (g := (mkF m 107 #[.val (.int p0), .val (.int p1), .val (.int x1), .val (.int x2), .val (.int x3), .val (.int x4), .val (.int rc), .val (.ref b125), .val (.ref b134), .unset, .unset, .unset, .unset, .unset, .unset, .unset, .unset] [(.ref b134)])) rfl (by rw [hml]; rfl) (Steps.refl _) (argsL := []) (rest := []) (lenOf pd_2 rfl) rfl (by show 2 * 0 + _ ≤ _; exact Nat.le_of_eq rfl) (hb hby at_107) (fun _ _ => ⟨rfl, rfl, (by decide : 3 + 0 ≤ _), (by decide : 11 + 0 ≤ _)⟩)
  dsimp only [Pt.U, Pt.locs, Pt.cells, Pt.slots] at X137 l137 y137 z137 st137 hQ137
  subst l137 y137 z137
  obtain ⟨rfl, Nq137, hE137⟩ := hQ137
  have N137 := Fr.app N136 Nq137
  refine Go.tr st137 ?_
  show Go p.tables e below Kx T137 (mkF m 110 #[.val (.int p0), .val (.int p1), .val (.int x1), .val (.int x2), .val (.int x3), .val (.int x4), .val (.int rc), .val (.ref b125), .val (.ref b134), .unset, .unset, .unset, .unset, .unset, .unset, .unset, .unset] [(.double (FP.ddiv (stp (stp (stp (stp FP.dconst0 ((0 : Int32) + (if x1 = (0 : Int32) then (0 : Int32) else (1 : Int32))) (0 : Int32) (1 : Int32)) (((0 : Int32) + (if x1 = (0 : Int32) then (0 : Int32) else (1 : Int32))) + (if x2 = (0 : Int32) then (0 : Int32) else (1 : Int32))) ((0 : Int32) + (if x1 = (0 : Int32) then (0 : Int32) else (1 : Int32))) (2 : Int32)) ((((0 : Int32) + (if x1 = (0 : Int32) then (0 : Int32) else (1 : Int32))) + (if x2 = (0 : Int32) then (0 : Int32) else (1 : Int32))) + (if x3 = (0 : Int32) then (0 : Int32) else (1 : Int32))) (((0 : Int32) + (if x1 = (0 : Int32) then (0 : Int32) else (1 : Int32))) + (if x2 = (0 : Int32) then (0 : Int32) else (1 : Int32))) (3 : Int32)) (((((0 : Int32) + (if x1 = (0 : Int32) then (0 : Int32) else (1 : Int32))) + (if x2 = (0 : Int32) then (0 : Int32) else (1 : Int32))) + (if x3 = (0 : Int32) then (0 : Int32) else (1 : Int32))) + (if x4 = (0 : Int32) then (0 : Int32) else (1 : Int32))) ((((0 : Int32) + (if x1 = (0 : Int32) then (0 : Int32) else (1 : Int32))) + (if x2 = (0 : Int32) then (0 : Int32) else (1 : Int32))) + (if x3 = (0 : Int32) then (0 : Int32) else (1 : Int32))) (4 : Int32)) (FP.i2d rc)))])
  generalize hgt : (FP.ddiv (stp (stp (stp (stp FP.dconst0 ((0 : Int32) + (if x1 = (0 : Int32) then (0 : Int32) else (1 : Int32))) (0 : Int32) (1 : Int32)) (((0 : Int32) + (if x1 = (0 : Int32) then (0 : Int32) else (1 : Int32))) + (if x2 = (0 : Int32) then (0 : Int32) else (1 : Int32))) ((0 : Int32) + (if x1 = (0 : Int32) then (0 : Int32) else (1 : Int32))) (2 : Int32)) ((((0 : Int32) + (if x1 = (0 : Int32) then (0 : Int32) else (1 : Int32))) + (if x2 = (0 : Int32) then (0 : Int32) else (1 : Int32))) + (if x3 = (0 : Int32) then (0 : Int32) else (1 : Int32))) (((0 : Int32) + (if x1 = (0 : Int32) then (0 : Int32) else (1 : Int32))) + (if x2 = (0 : Int32) then (0 : Int32) else (1 : Int32))) (3 : Int32)) (((((0 : Int32) + (if x1 = (0 : Int32) then (0 : Int32) else (1 : Int32))) + (if x2 = (0 : Int32) then (0 : Int32) else (1 : Int32))) + (if x3 = (0 : Int32) then (0 : Int32) else (1 : Int32))) + (if x4 = (0 : Int32) then (0 : Int32) else (1 : Int32))) ((((0 : Int32) + (if x1 = (0 : Int32) then (0 : Int32) else (1 : Int32))) + (if x2 = (0 : Int32) then (0 : Int32) else (1 : Int32))) + (if x3 = (0 : Int32) then (0 : Int32) else (1 : Int32))) (4 : Int32)) (FP.i2d rc)) = gt
  show Go p.tables e below Kx T137 (mkF m 110 #[.val (.int p0), .val (.int p1), .val (.int x1), .val (.int x2), .val (.int x3), .val (.int x4), .val (.int rc), .val (.ref b125), .val (.ref b134), .unset, .unset, .unset, .unset, .unset, .unset, .unset, .unset] [(.double gt)])
  refine s_dstore (pc' := 112) (Ls' := #[.val (.int p0), .val (.int p1), .val (.int x1), .val (.int x2), .val (.int x3), .val (.int x4), .val (.int rc), .val (.ref b125), .val (.ref b134), .val (.double gt), .second, .unset, .unset, .unset, .unset, .unset, .unset]) X137.here hx (hb hby at_110) rfl  rfl ?_
  refine s_iloadN (pc' := 113) X137.here hx (hb hby at_112) rfl rfl ?_
  suffices J139 : Go p.tables e below Kx T137 (mkF m 121 #[.val (.int p0), .val (.int p1), .val (.int x1), .val (.int x2), .val (.int x3), .val (.int x4), .val (.int rc), .val (.ref b125), .val (.ref b134), .val (.double gt), .second, .unset, .unset, .unset, .unset, .unset, .unset] [(.int (if x1 = (0 : Int32) then (0 : Int32) else (1 : Int32)))]) by
    by_cases hc138 : x1 = (0 : Int32)
    · skip
      simp only [if_pos hc138] at J139
      refine s_ifY (pc' := 120) X137.here hx (hb hby at_113) ((if0 _ _).trans (teq hc138).1) (by decide) (by decide) ?_
      refine s_iconst (pc' := 121) (v := (0 : Int32)) X137.here hx (hb hby at_120) rfl rfl ?_
      exact J139
    · skip
      simp only [if_neg hc138] at J139
      refine s_ifN (pc' := 116) X137.here hx (hb hby at_113) rfl ((if0 _ _).trans (feq hc138).1) ?_
      refine s_iconst (pc' := 117) (v := (1 : Int32)) X137.here hx (hb hby at_116) rfl rfl ?_
      refine s_goto (pc' := 121) X137.here hx (hb hby at_117) (by decide) (by decide) ?_
      exact J139
  generalize hk1 : (if x1 = (0 : Int32) then (0 : Int32) else (1 : Int32)) = k1
  show Go p.tables e below Kx T137 (mkF m 121 #[.val (.int p0), .val (.int p1), .val (.int x1), .val (.int x2), .val (.int x3), .val (.int x4), .val (.int rc), .val (.ref b125), .val (.ref b134), .val (.double gt), .second, .unset, .unset, .unset, .unset, .unset, .unset] [(.int k1)])
  refine s_istore (pc' := 123) (Ls' := #[.val (.int p0), .val (.int p1), .val (.int x1), .val (.int x2), .val (.int x3), .val (.int x4), .val (.int rc), .val (.ref b125), .val (.ref b134), .val (.double gt), .second, .val (.int k1), .unset, .unset, .unset, .unset, .unset]) X137.here hx (hb hby at_121) rfl  rfl ?_
  refine s_iload (pc' := 125) X137.here hx (hb hby at_123) rfl rfl ?_
  refine s_iloadN (pc' := 126) X137.here hx (hb hby at_125) rfl rfl ?_
  suffices J141 : Go p.tables e below Kx T137 (mkF m 134 #[.val (.int p0), .val (.int p1), .val (.int x1), .val (.int x2), .val (.int x3), .val (.int x4), .val (.int rc), .val (.ref b125), .val (.ref b134), .val (.double gt), .second, .val (.int k1), .unset, .unset, .unset, .unset, .unset] [(.int (if x2 = (0 : Int32) then (0 : Int32) else (1 : Int32))), (.int k1)]) by
    by_cases hc140 : x2 = (0 : Int32)
    · skip
      simp only [if_pos hc140] at J141
      refine s_ifY (pc' := 133) X137.here hx (hb hby at_126) ((if0 _ _).trans (teq hc140).1) (by decide) (by decide) ?_
      refine s_iconst (pc' := 134) (v := (0 : Int32)) X137.here hx (hb hby at_133) rfl rfl ?_
      exact J141
    · skip
      simp only [if_neg hc140] at J141
      refine s_ifN (pc' := 129) X137.here hx (hb hby at_126) rfl ((if0 _ _).trans (feq hc140).1) ?_
      refine s_iconst (pc' := 130) (v := (1 : Int32)) X137.here hx (hb hby at_129) rfl rfl ?_
      refine s_goto (pc' := 134) X137.here hx (hb hby at_130) (by decide) (by decide) ?_
      exact J141
  refine s_iadd (pc' := 135) X137.here hx (hb hby at_134) rfl rfl ?_
  generalize hk2 : (k1 + (if x2 = (0 : Int32) then (0 : Int32) else (1 : Int32))) = k2
  show Go p.tables e below Kx T137 (mkF m 135 #[.val (.int p0), .val (.int p1), .val (.int x1), .val (.int x2), .val (.int x3), .val (.int x4), .val (.int rc), .val (.ref b125), .val (.ref b134), .val (.double gt), .second, .val (.int k1), .unset, .unset, .unset, .unset, .unset] [(.int k2)])
  refine s_istore (pc' := 137) (Ls' := #[.val (.int p0), .val (.int p1), .val (.int x1), .val (.int x2), .val (.int x3), .val (.int x4), .val (.int rc), .val (.ref b125), .val (.ref b134), .val (.double gt), .second, .val (.int k1), .val (.int k2), .unset, .unset, .unset, .unset]) X137.here hx (hb hby at_135) rfl  rfl ?_
  refine s_iload (pc' := 139) X137.here hx (hb hby at_137) rfl rfl ?_
  refine s_iload (pc' := 141) X137.here hx (hb hby at_139) rfl rfl ?_
  suffices J143 : Go p.tables e below Kx T137 (mkF m 149 #[.val (.int p0), .val (.int p1), .val (.int x1), .val (.int x2), .val (.int x3), .val (.int x4), .val (.int rc), .val (.ref b125), .val (.ref b134), .val (.double gt), .second, .val (.int k1), .val (.int k2), .unset, .unset, .unset, .unset] [(.int (if x3 = (0 : Int32) then (0 : Int32) else (1 : Int32))), (.int k2)]) by
    by_cases hc142 : x3 = (0 : Int32)
    · skip
      simp only [if_pos hc142] at J143
      refine s_ifY (pc' := 148) X137.here hx (hb hby at_141) ((if0 _ _).trans (teq hc142).1) (by decide) (by decide) ?_
      refine s_iconst (pc' := 149) (v := (0 : Int32)) X137.here hx (hb hby at_148) rfl rfl ?_
      exact J143
    · skip
      simp only [if_neg hc142] at J143
      refine s_ifN (pc' := 144) X137.here hx (hb hby at_141) rfl ((if0 _ _).trans (feq hc142).1) ?_
      refine s_iconst (pc' := 145) (v := (1 : Int32)) X137.here hx (hb hby at_144) rfl rfl ?_
      refine s_goto (pc' := 149) X137.here hx (hb hby at_145) (by decide) (by decide) ?_
      exact J143
  refine s_iadd (pc' := 150) X137.here hx (hb hby at_149) rfl rfl ?_
  generalize hk3 : (k2 + (if x3 = (0 : Int32) then (0 : Int32) else (1 : Int32))) = k3
  show Go p.tables e below Kx T137 (mkF m 150 #[.val (.int p0), .val (.int p1), .val (.int x1), .val (.int x2), .val (.int x3), .val (.int x4), .val (.int rc), .val (.ref b125), .val (.ref b134), .val (.double gt), .second, .val (.int k1), .val (.int k2), .unset, .unset, .unset, .unset] [(.int k3)])
  refine s_istore (pc' := 152) (Ls' := #[.val (.int p0), .val (.int p1), .val (.int x1), .val (.int x2), .val (.int x3), .val (.int x4), .val (.int rc), .val (.ref b125), .val (.ref b134), .val (.double gt), .second, .val (.int k1), .val (.int k2), .val (.int k3), .unset, .unset, .unset]) X137.here hx (hb hby at_150) rfl  rfl ?_
  refine s_iload (pc' := 154) X137.here hx (hb hby at_152) rfl rfl ?_
  refine s_iload (pc' := 156) X137.here hx (hb hby at_154) rfl rfl ?_
  suffices J145 : Go p.tables e below Kx T137 (mkF m 164 #[.val (.int p0), .val (.int p1), .val (.int x1), .val (.int x2), .val (.int x3), .val (.int x4), .val (.int rc), .val (.ref b125), .val (.ref b134), .val (.double gt), .second, .val (.int k1), .val (.int k2), .val (.int k3), .unset, .unset, .unset] [(.int (if x4 = (0 : Int32) then (0 : Int32) else (1 : Int32))), (.int k3)]) by
    by_cases hc144 : x4 = (0 : Int32)
    · skip
      simp only [if_pos hc144] at J145
      refine s_ifY (pc' := 163) X137.here hx (hb hby at_156) ((if0 _ _).trans (teq hc144).1) (by decide) (by decide) ?_
      refine s_iconst (pc' := 164) (v := (0 : Int32)) X137.here hx (hb hby at_163) rfl rfl ?_
      exact J145
    · skip
      simp only [if_neg hc144] at J145
      refine s_ifN (pc' := 159) X137.here hx (hb hby at_156) rfl ((if0 _ _).trans (feq hc144).1) ?_
      refine s_iconst (pc' := 160) (v := (1 : Int32)) X137.here hx (hb hby at_159) rfl rfl ?_
      refine s_goto (pc' := 164) X137.here hx (hb hby at_160) (by decide) (by decide) ?_
      exact J145
  refine s_iadd (pc' := 165) X137.here hx (hb hby at_164) rfl rfl ?_
  generalize hk4 : (k3 + (if x4 = (0 : Int32) then (0 : Int32) else (1 : Int32))) = k4
  show Go p.tables e below Kx T137 (mkF m 165 #[.val (.int p0), .val (.int p1), .val (.int x1), .val (.int x2), .val (.int x3), .val (.int x4), .val (.int rc), .val (.ref b125), .val (.ref b134), .val (.double gt), .second, .val (.int k1), .val (.int k2), .val (.int k3), .unset, .unset, .unset] [(.int k4)])
  refine s_istore (pc' := 167) (Ls' := #[.val (.int p0), .val (.int p1), .val (.int x1), .val (.int x2), .val (.int x3), .val (.int x4), .val (.int rc), .val (.ref b125), .val (.ref b134), .val (.double gt), .second, .val (.int k1), .val (.int k2), .val (.int k3), .val (.int k4), .unset, .unset]) X137.here hx (hb hby at_165) rfl  rfl ?_
  obtain ⟨hq1, hq2, hq3, hq4, hS⟩ := cases16B x1 x2 x3 x4 hb1 hb2 hb3 hb4 k1 k2 k3 k4 hk1 hk2 hk3 hk4
  have hq5 : NoNaN64 (FP.ddiv (if x4 = (0 : Int32) then (if x3 = (0 : Int32) then (if x2 = (0 : Int32) then (if x1 = (0 : Int32) then FP.dconst0 else (FP.dadd FP.dconst0 (FP.ddiv (FP.i2d k1) FP.dconst1))) else (FP.dadd (if x1 = (0 : Int32) then FP.dconst0 else (FP.dadd FP.dconst0 (FP.ddiv (FP.i2d k1) FP.dconst1))) (FP.ddiv (FP.i2d k2) (4611686018427387904 : UInt64)))) else (FP.dadd (if x2 = (0 : Int32) then (if x1 = (0 : Int32) then FP.dconst0 else (FP.dadd FP.dconst0 (FP.ddiv (FP.i2d k1) FP.dconst1))) else (FP.dadd (if x1 = (0 : Int32) then FP.dconst0 else (FP.dadd FP.dconst0 (FP.ddiv (FP.i2d k1) FP.dconst1))) (FP.ddiv (FP.i2d k2) (4611686018427387904 : UInt64)))) (FP.ddiv (FP.i2d k3) (4613937818241073152 : UInt64)))) else (FP.dadd (if x3 = (0 : Int32) then (if x2 = (0 : Int32) then (if x1 = (0 : Int32) then FP.dconst0 else (FP.dadd FP.dconst0 (FP.ddiv (FP.i2d k1) FP.dconst1))) else (FP.dadd (if x1 = (0 : Int32) then FP.dconst0 else (FP.dadd FP.dconst0 (FP.ddiv (FP.i2d k1) FP.dconst1))) (FP.ddiv (FP.i2d k2) (4611686018427387904 : UInt64)))) else (FP.dadd (if x2 = (0 : Int32) then (if x1 = (0 : Int32) then FP.dconst0 else (FP.dadd FP.dconst0 (FP.ddiv (FP.i2d k1) FP.dconst1))) else (FP.dadd (if x1 = (0 : Int32) then FP.dconst0 else (FP.dadd FP.dconst0 (FP.ddiv (FP.i2d k1) FP.dconst1))) (FP.ddiv (FP.i2d k2) (4611686018427387904 : UInt64)))) (FP.ddiv (FP.i2d k3) (4613937818241073152 : UInt64)))) (FP.ddiv (FP.i2d k4) (4616189618054758400 : UInt64)))) (FP.i2d rc)) := by rw [← hS]; exact hq5'
  refine s_dconst0 (pc' := 168) X137.here hx (hb hby at_167) rfl rfl ?_
  refine s_dstore (pc' := 170) (Ls' := #[.val (.int p0), .val (.int p1), .val (.int x1), .val (.int x2), .val (.int x3), .val (.int x4), .val (.int rc), .val (.ref b125), .val (.ref b134), .val (.double gt), .second, .val (.int k1), .val (.int k2), .val (.int k3), .val (.int k4), .val (.double FP.dconst0), .second]) X137.here hx (hb hby at_168) rfl  rfl ?_
  refine s_iloadN (pc' := 171) X137.here hx (hb hby at_170) rfl rfl ?_
  suffices J147 : Go p.tables e below Kx T137 (mkF m 184 #[.val (.int p0), .val (.int p1), .val (.int x1), .val (.int x2), .val (.int x3), .val (.int x4), .val (.int rc), .val (.ref b125), .val (.ref b134), .val (.double gt), .second, .val (.int k1), .val (.int k2), .val (.int k3), .val (.int k4), .val (.double (if x1 = (0 : Int32) then FP.dconst0 else (FP.dadd FP.dconst0 (FP.ddiv (FP.i2d k1) FP.dconst1)))), .second] []) by
    by_cases hc146 : x1 = (0 : Int32)
    · skip
      simp only [if_pos hc146] at J147
      refine s_ifY (pc' := 184) X137.here hx (hb hby at_171) ((if0 _ _).trans (teq hc146).1) (by decide) (by decide) ?_
      exact J147
    · skip
      simp only [if_neg hc146] at J147
      refine s_ifN (pc' := 174) X137.here hx (hb hby at_171) rfl ((if0 _ _).trans (feq hc146).1) ?_
      refine s_dload (pc' := 176) X137.here hx (hb hby at_174) rfl rfl ?_
      refine s_iload (pc' := 178) X137.here hx (hb hby at_176) rfl rfl ?_
      refine s_i2d (pc' := 179) X137.here hx (hb hby at_178) rfl rfl ?_
      refine s_dconst1 (pc' := 180) X137.here hx (hb hby at_179) rfl rfl ?_
      refine s_ddiv (pc' := 181) X137.here hx (hb hby at_180) rfl ((hq1 hc146).1) rfl ?_
      refine s_dadd (pc' := 182) X137.here hx (hb hby at_181) rfl ((hq1 hc146).2) rfl ?_
      refine s_dstore (pc' := 184) (Ls' := #[.val (.int p0), .val (.int p1), .val (.int x1), .val (.int x2), .val (.int x3), .val (.int x4), .val (.int rc), .val (.ref b125), .val (.ref b134), .val (.double gt), .second, .val (.int k1), .val (.int k2), .val (.int k3), .val (.int k4), .val (.double (FP.dadd FP.dconst0 (FP.ddiv (FP.i2d k1) FP.dconst1))), .second]) X137.here hx (hb hby at_182) rfl  rfl ?_
      exact J147
  refine s_iloadN (pc' := 185) X137.here hx (hb hby at_184) rfl rfl ?_
  suffices J149 : Go p.tables e below Kx T137 (mkF m 200 #[.val (.int p0), .val (.int p1), .val (.int x1), .val (.int x2), .val (.int x3), .val (.int x4), .val (.int rc), .val (.ref b125), .val (.ref b134), .val (.double gt), .second, .val (.int k1), .val (.int k2), .val (.int k3), .val (.int k4), .val (.double (if x2 = (0 : Int32) then (if x1 = (0 : Int32) then FP.dconst0 else (FP.dadd FP.dconst0 (FP.ddiv (FP.i2d k1) FP.dconst1))) else (FP.dadd (if x1 = (0 : Int32) then FP.dconst0 else (FP.dadd FP.dconst0 (FP.ddiv (FP.i2d k1) FP.dconst1))) (FP.ddiv (FP.i2d k2) (4611686018427387904 : UInt64))))), .second] []) by
    by_cases hc148 : x2 = (0 : Int32)
    · skip
      simp only [if_pos hc148] at J149
      refine s_ifY (pc' := 200) X137.here hx (hb hby at_185) ((if0 _ _).trans (teq hc148).1) (by decide) (by decide) ?_
      exact J149
    · skip
      simp only [if_neg hc148] at J149
      refine s_ifN (pc' := 188) X137.here hx (hb hby at_185) rfl ((if0 _ _).trans (feq hc148).1) ?_
      refine s_dload (pc' := 190) X137.here hx (hb hby at_188) rfl rfl ?_
      refine s_iload (pc' := 192) X137.here hx (hb hby at_190) rfl rfl ?_
      refine s_i2d (pc' := 193) X137.here hx (hb hby at_192) rfl rfl ?_
      refine Go.st (X137.ldc2DoubleC hx hown (mvT hZ (hw _ (List.mem_of_getElem? (i := 26) rfl))) (g := (mkF m 193 #[.val (.int p0), .val (.int p1), .val (.int x1), .val (.int x2), .val (.int x3), .val (.int x4), .val (.int rc), .val (.ref b125), .val (.ref b134), .val (.double gt), .second, .val (.int k1), .val (.int k2), .val (.int k3), .val (.int k4), .val (.double (if x1 = (0 : Int32) then FP.dconst0 else (FP.dadd FP.dconst0 (FP.ddiv (FP.i2d k1) FP.dconst1)))), .second] [(.double (FP.i2d k2)), (.double (if x1 = (0 : Int32) then FP.dconst0 else (FP.dadd FP.dconst0 (FP.ddiv (FP.i2d k1) FP.dconst1))))])) rfl (hb hby at_193)) ?_
      show Go p.tables e below Kx T137 (mkF m 196 #[.val (.int p0), .val (.int p1), .val (.int x1), .val (.int x2), .val (.int x3), .val (.int x4), .val (.int rc), .val (.ref b125), .val (.ref b134), .val (.double gt), .second, .val (.int k1), .val (.int k2), .val (.int k3), .val (.int k4), .val (.double (if x1 = (0 : Int32) then FP.dconst0 else (FP.dadd FP.dconst0 (FP.ddiv (FP.i2d k1) FP.dconst1)))), .second] [(.double (4611686018427387904 : UInt64)), (.double (FP.i2d k2)), (.double (if x1 = (0 : Int32) then FP.dconst0 else (FP.dadd FP.dconst0 (FP.ddiv (FP.i2d k1) FP.dconst1))))])
      refine s_ddiv (pc' := 197) X137.here hx (hb hby at_196) rfl ((hq2 hc148).1) rfl ?_
      refine s_dadd (pc' := 198) X137.here hx (hb hby at_197) rfl ((hq2 hc148).2) rfl ?_
      refine s_dstore (pc' := 200) (Ls' := #[.val (.int p0), .val (.int p1), .val (.int x1), .val (.int x2), .val (.int x3), .val (.int x4), .val (.int rc), .val (.ref b125), .val (.ref b134), .val (.double gt), .second, .val (.int k1), .val (.int k2), .val (.int k3), .val (.int k4), .val (.double (FP.dadd (if x1 = (0 : Int32) then FP.dconst0 else (FP.dadd FP.dconst0 (FP.ddiv (FP.i2d k1) FP.dconst1))) (FP.ddiv (FP.i2d k2) (4611686018427387904 : UInt64)))), .second]) X137.here hx (hb hby at_198) rfl  rfl ?_
      exact J149
  refine s_iload (pc' := 202) X137.here hx (hb hby at_200) rfl rfl ?_
  suffices J151 : Go p.tables e below Kx T137 (mkF m 217 #[.val (.int p0), .val (.int p1), .val (.int x1), .val (.int x2), .val (.int x3), .val (.int x4), .val (.int rc), .val (.ref b125), .val (.ref b134), .val (.double gt), .second, .val (.int k1), .val (.int k2), .val (.int k3), .val (.int k4), .val (.double (if x3 = (0 : Int32) then (if x2 = (0 : Int32) then (if x1 = (0 : Int32) then FP.dconst0 else (FP.dadd FP.dconst0 (FP.ddiv (FP.i2d k1) FP.dconst1))) else (FP.dadd (if x1 = (0 : Int32) then FP.dconst0 else (FP.dadd FP.dconst0 (FP.ddiv (FP.i2d k1) FP.dconst1))) (FP.ddiv (FP.i2d k2) (4611686018427387904 : UInt64)))) else (FP.dadd (if x2 = (0 : Int32) then (if x1 = (0 : Int32) then FP.dconst0 else (FP.dadd FP.dconst0 (FP.ddiv (FP.i2d k1) FP.dconst1))) else (FP.dadd (if x1 = (0 : Int32) then FP.dconst0 else (FP.dadd FP.dconst0 (FP.ddiv (FP.i2d k1) FP.dconst1))) (FP.ddiv (FP.i2d k2) (4611686018427387904 : UInt64)))) (FP.ddiv (FP.i2d k3) (4613937818241073152 : UInt64))))), .second] []) by
    by_cases hc150 : x3 = (0 : Int32)
    · skip
      simp only [if_pos hc150] at J151
      refine s_ifY (pc' := 217) X137.here hx (hb hby at_202) ((if0 _ _).trans (teq hc150).1) (by decide) (by decide) ?_
      exact J151
    · skip
      simp only [if_neg hc150] at J151
      refine s_ifN (pc' := 205) X137.here hx (hb hby at_202) rfl ((if0 _ _).trans (feq hc150).1) ?_
      refine s_dload (pc' := 207) X137.here hx (hb hby at_205) rfl rfl ?_
      refine s_iload (pc' := 209) X137.here hx (hb hby at_207) rfl rfl ?_
      refine s_i2d (pc' := 210) X137.here hx (hb hby at_209) rfl rfl ?_
      refine Go.st (X137.ldc2DoubleC hx hown (mvT hZ (hw _ (List.mem_of_getElem? (i := 27) rfl))) (g := (mkF m 210 #[.val (.int p0), .val (.int p1), .val (.int x1), .val (.int x2), .val (.int x3), .val (.int x4), .val (.int rc), .val (.ref b125), .val (.ref b134), .val (.double gt), .second, .val (.int k1), .val (.int k2), .val (.int k3), .val (.int k4), .val (.double (if x2 = (0 : Int32) then (if x1 = (0 : Int32) then FP.dconst0 else (FP.dadd FP.dconst0 (FP.ddiv (FP.i2d k1) FP.dconst1))) else (FP.dadd (if x1 = (0 : Int32) then FP.dconst0 else (FP.dadd FP.dconst0 (FP.ddiv (FP.i2d k1) FP.dconst1))) (FP.ddiv (FP.i2d k2) (4611686018427387904 : UInt64))))), .second] [(.double (FP.i2d k3)), (.double (if x2 = (0 : Int32) then (if x1 = (0 : Int32) then FP.dconst0 else (FP.dadd FP.dconst0 (FP.ddiv (FP.i2d k1) FP.dconst1))) else (FP.dadd (if x1 = (0 : Int32) then FP.dconst0 else (FP.dadd FP.dconst0 (FP.ddiv (FP.i2d k1) FP.dconst1))) (FP.ddiv (FP.i2d k2) (4611686018427387904 : UInt64)))))])) rfl (hb hby at_210)) ?_
      show Go p.tables e below Kx T137 (mkF m 213 #[.val (.int p0), .val (.int p1), .val (.int x1), .val (.int x2), .val (.int x3), .val (.int x4), .val (.int rc), .val (.ref b125), .val (.ref b134), .val (.double gt), .second, .val (.int k1), .val (.int k2), .val (.int k3), .val (.int k4), .val (.double (if x2 = (0 : Int32) then (if x1 = (0 : Int32) then FP.dconst0 else (FP.dadd FP.dconst0 (FP.ddiv (FP.i2d k1) FP.dconst1))) else (FP.dadd (if x1 = (0 : Int32) then FP.dconst0 else (FP.dadd FP.dconst0 (FP.ddiv (FP.i2d k1) FP.dconst1))) (FP.ddiv (FP.i2d k2) (4611686018427387904 : UInt64))))), .second] [(.double (4613937818241073152 : UInt64)), (.double (FP.i2d k3)), (.double (if x2 = (0 : Int32) then (if x1 = (0 : Int32) then FP.dconst0 else (FP.dadd FP.dconst0 (FP.ddiv (FP.i2d k1) FP.dconst1))) else (FP.dadd (if x1 = (0 : Int32) then FP.dconst0 else (FP.dadd FP.dconst0 (FP.ddiv (FP.i2d k1) FP.dconst1))) (FP.ddiv (FP.i2d k2) (4611686018427387904 : UInt64)))))])
      refine s_ddiv (pc' := 214) X137.here hx (hb hby at_213) rfl ((hq3 hc150).1) rfl ?_
      refine s_dadd (pc' := 215) X137.here hx (hb hby at_214) rfl ((hq3 hc150).2) rfl ?_
      refine s_dstore (pc' := 217) (Ls' := #[.val (.int p0), .val (.int p1), .val (.int x1), .val (.int x2), .val (.int x3), .val (.int x4), .val (.int rc), .val (.ref b125), .val (.ref b134), .val (.double gt), .second, .val (.int k1), .val (.int k2), .val (.int k3), .val (.int k4), .val (.double (FP.dadd (if x2 = (0 : Int32) then (if x1 = (0 : Int32) then FP.dconst0 else (FP.dadd FP.dconst0 (FP.ddiv (FP.i2d k1) FP.dconst1))) else (FP.dadd (if x1 = (0 : Int32) then FP.dconst0 else (FP.dadd FP.dconst0 (FP.ddiv (FP.i2d k1) FP.dconst1))) (FP.ddiv (FP.i2d k2) (4611686018427387904 : UInt64)))) (FP.ddiv (FP.i2d k3) (4613937818241073152 : UInt64)))), .second]) X137.here hx (hb hby at_215) rfl  rfl ?_
      exact J151
  refine s_iload (pc' := 219) X137.here hx (hb hby at_217) rfl rfl ?_
  suffices J153 : Go p.tables e below Kx T137 (mkF m 234 #[.val (.int p0), .val (.int p1), .val (.int x1), .val (.int x2), .val (.int x3), .val (.int x4), .val (.int rc), .val (.ref b125), .val (.ref b134), .val (.double gt), .second, .val (.int k1), .val (.int k2), .val (.int k3), .val (.int k4), .val (.double (if x4 = (0 : Int32) then (if x3 = (0 : Int32) then (if x2 = (0 : Int32) then (if x1 = (0 : Int32) then FP.dconst0 else (FP.dadd FP.dconst0 (FP.ddiv (FP.i2d k1) FP.dconst1))) else (FP.dadd (if x1 = (0 : Int32) then FP.dconst0 else (FP.dadd FP.dconst0 (FP.ddiv (FP.i2d k1) FP.dconst1))) (FP.ddiv (FP.i2d k2) (4611686018427387904 : UInt64)))) else (FP.dadd (if x2 = (0 : Int32) then (if x1 = (0 : Int32) then FP.dconst0 else (FP.dadd FP.dconst0 (FP.ddiv (FP.i2d k1) FP.dconst1))) else (FP.dadd (if x1 = (0 : Int32) then FP.dconst0 else (FP.dadd FP.dconst0 (FP.ddiv (FP.i2d k1) FP.dconst1))) (FP.ddiv (FP.i2d k2) (4611686018427387904 : UInt64)))) (FP.ddiv (FP.i2d k3) (4613937818241073152 : UInt64)))) else (FP.dadd (if x3 = (0 : Int32) then (if x2 = (0 : Int32) then (if x1 = (0 : Int32) then FP.dconst0 else (FP.dadd FP.dconst0 (FP.ddiv (FP.i2d k1) FP.dconst1))) else (FP.dadd (if x1 = (0 : Int32) then FP.dconst0 else (FP.dadd FP.dconst0 (FP.ddiv (FP.i2d k1) FP.dconst1))) (FP.ddiv (FP.i2d k2) (4611686018427387904 : UInt64)))) else (FP.dadd (if x2 = (0 : Int32) then (if x1 = (0 : Int32) then FP.dconst0 else (FP.dadd FP.dconst0 (FP.ddiv (FP.i2d k1) FP.dconst1))) else (FP.dadd (if x1 = (0 : Int32) then FP.dconst0 else (FP.dadd FP.dconst0 (FP.ddiv (FP.i2d k1) FP.dconst1))) (FP.ddiv (FP.i2d k2) (4611686018427387904 : UInt64)))) (FP.ddiv (FP.i2d k3) (4613937818241073152 : UInt64)))) (FP.ddiv (FP.i2d k4) (4616189618054758400 : UInt64))))), .second] []) by
    by_cases hc152 : x4 = (0 : Int32)
    · skip
      simp only [if_pos hc152] at J153
      refine s_ifY (pc' := 234) X137.here hx (hb hby at_219) ((if0 _ _).trans (teq hc152).1) (by decide) (by decide) ?_
      exact J153
    · skip
      simp only [if_neg hc152] at J153
      refine s_ifN (pc' := 222) X137.here hx (hb hby at_219) rfl ((if0 _ _).trans (feq hc152).1) ?_
      refine s_dload (pc' := 224) X137.here hx (hb hby at_222) rfl rfl ?_
      refine s_iload (pc' := 226) X137.here hx (hb hby at_224) rfl rfl ?_
      refine s_i2d (pc' := 227) X137.here hx (hb hby at_226) rfl rfl ?_
      refine Go.st (X137.ldc2DoubleC hx hown (mvT hZ (hw _ (List.mem_of_getElem? (i := 28) rfl))) (g := (mkF m 227 #[.val (.int p0), .val (.int p1), .val (.int x1), .val (.int x2), .val (.int x3), .val (.int x4), .val (.int rc), .val (.ref b125), .val (.ref b134), .val (.double gt), .second, .val (.int k1), .val (.int k2), .val (.int k3), .val (.int k4), .val (.double (if x3 = (0 : Int32) then (if x2 = (0 : Int32) then (if x1 = (0 : Int32) then FP.dconst0 else (FP.dadd FP.dconst0 (FP.ddiv (FP.i2d k1) FP.dconst1))) else (FP.dadd (if x1 = (0 : Int32) then FP.dconst0 else (FP.dadd FP.dconst0 (FP.ddiv (FP.i2d k1) FP.dconst1))) (FP.ddiv (FP.i2d k2) (4611686018427387904 : UInt64)))) else (FP.dadd (if x2 = (0 : Int32) then (if x1 = (0 : Int32) then FP.dconst0 else (FP.dadd FP.dconst0 (FP.ddiv (FP.i2d k1) FP.dconst1))) else (FP.dadd (if x1 = (0 : Int32) then FP.dconst0 else (FP.dadd FP.dconst0 (FP.ddiv (FP.i2d k1) FP.dconst1))) (FP.ddiv (FP.i2d k2) (4611686018427387904 : UInt64)))) (FP.ddiv (FP.i2d k3) (4613937818241073152 : UInt64))))), .second] [(.double (FP.i2d k4)), (.double (if x3 = (0 : Int32) then (if x2 = (0 : Int32) then (if x1 = (0 : Int32) then FP.dconst0 else (FP.dadd FP.dconst0 (FP.ddiv (FP.i2d k1) FP.dconst1))) else (FP.dadd (if x1 = (0 : Int32) then FP.dconst0 else (FP.dadd FP.dconst0 (FP.ddiv (FP.i2d k1) FP.dconst1))) (FP.ddiv (FP.i2d k2) (4611686018427387904 : UInt64)))) else (FP.dadd (if x2 = (0 : Int32) then (if x1 = (0 : Int32) then FP.dconst0 else (FP.dadd FP.dconst0 (FP.ddiv (FP.i2d k1) FP.dconst1))) else (FP.dadd (if x1 = (0 : Int32) then FP.dconst0 else (FP.dadd FP.dconst0 (FP.ddiv (FP.i2d k1) FP.dconst1))) (FP.ddiv (FP.i2d k2) (4611686018427387904 : UInt64)))) (FP.ddiv (FP.i2d k3) (4613937818241073152 : UInt64)))))])) rfl (hb hby at_227)) ?_
      show Go p.tables e below Kx T137 (mkF m 230 #[.val (.int p0), .val (.int p1), .val (.int x1), .val (.int x2), .val (.int x3), .val (.int x4), .val (.int rc), .val (.ref b125), .val (.ref b134), .val (.double gt), .second, .val (.int k1), .val (.int k2), .val (.int k3), .val (.int k4), .val (.double (if x3 = (0 : Int32) then (if x2 = (0 : Int32) then (if x1 = (0 : Int32) then FP.dconst0 else (FP.dadd FP.dconst0 (FP.ddiv (FP.i2d k1) FP.dconst1))) else (FP.dadd (if x1 = (0 : Int32) then FP.dconst0 else (FP.dadd FP.dconst0 (FP.ddiv (FP.i2d k1) FP.dconst1))) (FP.ddiv (FP.i2d k2) (4611686018427387904 : UInt64)))) else (FP.dadd (if x2 = (0 : Int32) then (if x1 = (0 : Int32) then FP.dconst0 else (FP.dadd FP.dconst0 (FP.ddiv (FP.i2d k1) FP.dconst1))) else (FP.dadd (if x1 = (0 : Int32) then FP.dconst0 else (FP.dadd FP.dconst0 (FP.ddiv (FP.i2d k1) FP.dconst1))) (FP.ddiv (FP.i2d k2) (4611686018427387904 : UInt64)))) (FP.ddiv (FP.i2d k3) (4613937818241073152 : UInt64))))), .second] [(.double (4616189618054758400 : UInt64)), (.double (FP.i2d k4)), (.double (if x3 = (0 : Int32) then (if x2 = (0 : Int32) then (if x1 = (0 : Int32) then FP.dconst0 else (FP.dadd FP.dconst0 (FP.ddiv (FP.i2d k1) FP.dconst1))) else (FP.dadd (if x1 = (0 : Int32) then FP.dconst0 else (FP.dadd FP.dconst0 (FP.ddiv (FP.i2d k1) FP.dconst1))) (FP.ddiv (FP.i2d k2) (4611686018427387904 : UInt64)))) else (FP.dadd (if x2 = (0 : Int32) then (if x1 = (0 : Int32) then FP.dconst0 else (FP.dadd FP.dconst0 (FP.ddiv (FP.i2d k1) FP.dconst1))) else (FP.dadd (if x1 = (0 : Int32) then FP.dconst0 else (FP.dadd FP.dconst0 (FP.ddiv (FP.i2d k1) FP.dconst1))) (FP.ddiv (FP.i2d k2) (4611686018427387904 : UInt64)))) (FP.ddiv (FP.i2d k3) (4613937818241073152 : UInt64)))))])
      refine s_ddiv (pc' := 231) X137.here hx (hb hby at_230) rfl ((hq4 hc152).1) rfl ?_
      refine s_dadd (pc' := 232) X137.here hx (hb hby at_231) rfl ((hq4 hc152).2) rfl ?_
      refine s_dstore (pc' := 234) (Ls' := #[.val (.int p0), .val (.int p1), .val (.int x1), .val (.int x2), .val (.int x3), .val (.int x4), .val (.int rc), .val (.ref b125), .val (.ref b134), .val (.double gt), .second, .val (.int k1), .val (.int k2), .val (.int k3), .val (.int k4), .val (.double (FP.dadd (if x3 = (0 : Int32) then (if x2 = (0 : Int32) then (if x1 = (0 : Int32) then FP.dconst0 else (FP.dadd FP.dconst0 (FP.ddiv (FP.i2d k1) FP.dconst1))) else (FP.dadd (if x1 = (0 : Int32) then FP.dconst0 else (FP.dadd FP.dconst0 (FP.ddiv (FP.i2d k1) FP.dconst1))) (FP.ddiv (FP.i2d k2) (4611686018427387904 : UInt64)))) else (FP.dadd (if x2 = (0 : Int32) then (if x1 = (0 : Int32) then FP.dconst0 else (FP.dadd FP.dconst0 (FP.ddiv (FP.i2d k1) FP.dconst1))) else (FP.dadd (if x1 = (0 : Int32) then FP.dconst0 else (FP.dadd FP.dconst0 (FP.ddiv (FP.i2d k1) FP.dconst1))) (FP.ddiv (FP.i2d k2) (4611686018427387904 : UInt64)))) (FP.ddiv (FP.i2d k3) (4613937818241073152 : UInt64)))) (FP.ddiv (FP.i2d k4) (4616189618054758400 : UInt64)))), .second]) X137.here hx (hb hby at_232) rfl  rfl ?_
      exact J153
  refine s_dload (pc' := 236) X137.here hx (hb hby at_234) rfl rfl ?_
  refine s_dload (pc' := 238) X137.here hx (hb hby at_236) rfl rfl ?_
  refine s_iload (pc' := 240) X137.here hx (hb hby at_238) rfl rfl ?_
  refine s_i2d (pc' := 241) X137.here hx (hb hby at_240) rfl rfl ?_
  refine s_ddiv (pc' := 242) X137.here hx (hb hby at_241) rfl (hq5) rfl ?_
  refine s_dcmpl (pc' := 243) (z := (0 : Int32)) X137.here hx (hb hby at_242) rfl (by rw [← hgt, hS]; exact dcmpV_self hq5 .l) ?_
  refine s_ifN (pc' := 246) X137.here hx (hb hby at_243) rfl ((if0 _ _).trans (teq (by decide)).2) ?_
  refine s_iconst (pc' := 247) (v := (1 : Int32)) X137.here hx (hb hby at_246) rfl rfl ?_
  refine s_goto (pc' := 251) X137.here hx (hb hby at_247) (by decide) (by decide) ?_
  obtain ⟨fs, hr, hrun, hended, hW, hsame⟩ := X137.leave (v := (some (.int (1 : Int32)))) (fun h => by rw [Bd.returns] at h; cases h)
  refine Go.fin (retN X137 hx (t := .boolean) Bd.returns (by simp) (hb hby at_251) hr) (hF _ _ hrun hended ⟨_, _, rfl, ?_, ⟨_, rfl⟩, hW, hsame.mono (by decide) (by decide)⟩)
  · show QL Z p0 p1 h0 n0 ((some (.int (1 : Int32))) : Option Value) T137.heap _
    rw [hE137]
    exact ⟨rfl, N137⟩
set_option maxRecDepth 65536 in
set_option maxHeartbeats 40000000 in
theorem comes_1 {Post : Tables → Env → Array Value → State → Outcome → State → Prop} (hpost : ∀ tb e args s v u, (limb_1_1.after args s (.returned v) u = true ∧ limb_1_2.after args s (.returned v) u = true ∧ True) → FrameEnd s (.returned v) u (Jvm.fieldLocs frame_1_writes args s ++ Jvm.arrayLocs frame_1_arrays args s ++ Jvm.staticLocs frame_1_statics s) 16 128 → Post tb e args s (.returned v) u) :
    ArmFor flags0 classFile x code maxLocals ret World_1 tables_1 room_1 Calls_1 rest_1 Pre_1 Post := by
  intro l hfl _ _ p e ha hc hk s m args below hf hA hF happ hP
  obtain ⟨hcalls, hrest, hpre⟩ := hP
  obtain ⟨-, -, -, hnamed, -, -, -, hat⟩ := (Spec.applies_iff hf).mp happ
  obtain ⟨hg, hn⟩ := and_e (Cond.before_iff.mp (show (Jvm.Cond.and given_1 narrow_1).before args s = true from hpre))
  obtain ⟨hcount, hgs⟩ := and_e hg
  obtain ⟨hi0, hgs'⟩ := and_e hgs
  have hi1 := hgs'
  obtain ⟨w0, w1, rfl⟩ : ∃ w0 w1 : Value, args = #[w0, w1] := by
    have hs : args.size = 2 := by simpa [Cond.value, given_1] using hcount
    obtain ⟨L⟩ := args
    match L, hs with
    | [w0, w1], _ => exact ⟨w0, w1, rfl⟩
  have hw := fun d (hd : d ∈ tables_1) => atoms_spec (ws := Jvm.Cond.code x code maxLocals ret :: tables_1) hat d (List.mem_cons_of_mem _ hd)
  have hfit : Fit s := fun {y c} hc i hi => by
    obtain ⟨ha, rfl⟩ := Array.getElem?_eq_some_iff.mp hc
    have q := List.all_eq_true.mp ((Array.all_eq_true_iff_forall_mem.mp hF) _ (Array.getElem_mem ha)) i (List.mem_range.mpr hi)
    simpa [Array.getElem?_eq_getElem hi] using q
  obtain ⟨i0, ei0⟩ := is_v hi0
  obtain rfl : w0 = (.int i0) := Option.some.inj ei0
  obtain ⟨i1, ei1⟩ := is_v hi1
  obtain rfl : w1 = (.int i1) := Option.some.inj ei1
  obtain ⟨n, o, h1, h2, h3, _, L, rfl, ⟨rfl, N⟩, hq⟩ := rmL l s _ hw tables_1 i0 i1 s.heap s.heap.size (Old.start s) p e ha hc hk s m _ below hf ((Spec.applies_iff_loose hf).mp happ).1 ⟨rfl, State.Warmed39.refl s, rfl⟩ trivial
  refine ⟨n, _, h1, h2, h3, hpost _ _ _ _ _ _ ⟨Cond.after_iff.mpr rfl, Cond.after_iff.mpr (eq_i res_at (Term.int_eval (1)) rfl), trivial⟩ ⟨hq.1, hq.2.1, (hq.2.2.sift fun y hy => Or.inr (N y hy)).mono (by decide) (by decide)⟩⟩
theorem main_1_1 : Claimed_1_1 := comes_1 fun _ _ _ _ _ _ h hF => ⟨h.1, hF⟩
theorem main_1_2 : Claimed_1_2 := comes_1 fun _ _ _ _ _ _ h hF => ⟨h.2.1, hF⟩
end Jvm.Pilot.@@N@@
namespace Jvm.Pilot.@@N@@
open Jvm Jvm.ClassFile Sem Op Lib Jvm.Free Jvm.Stand Jvm.Pilot.@@N@@.Jvm.D
/-! MADE BY PROGRAM (witnessworld.py) out of the Statement's table words and the real class files: 11 classes; the members and pool entries that the words name. The judged class is class 1, her method 1. -/
namespace start1
open Jvm.ClassFile
def u (s : String) : CpInfo := .utf8 (stringToUtf16 s)
/-- a pool by its gaps: so many unusable entries, then the entry; so many at the end -/
def gap : Nat → List CpInfo → List CpInfo
  | 0, r => r
  | n + 1, r => .unusable :: gap n r
def poolList (es : List (Nat × CpInfo)) (last : Nat) : List CpInfo := es.foldr (fun e r => gap e.1 (e.2 :: r)) (gap last [])
def pool (es : List (Nat × CpInfo)) (last : Nat) : Array CpInfo := ⟨poolList es last⟩
def fileOf (pool : Array CpInfo) (this : Nat) (attrs : Array Attribute := #[]) (ms : Array MethodInfo := #[]) (fl : Nat := 33) (sup : Nat := 0) (ifs : Array Nat := #[]) (fds : Array FieldInfo := #[]) : ClassFile where
  minorVersion := 0
  majorVersion := 65
  constantPool := pool
  accessFlags := fl
  thisClass := this
  superClass := sup
  interfaces := ifs
  fields := fds
  methods := ms
  attributes := attrs
def plain (name : String) (sup : Option ClassId) : Class where
  name := name
  kind := .ordinary
  loader := none
  accessFlags := 33
  super := sup
  interfaces := #[]
  cf := none
  fields := #[]
  methods := #[]
  instanceTypes := #[]
  staticTypes := #[]
  resolved := #[]
  callSites := []
  init := .initialized
  statics := none
  mirror := none

def pool0 : Array CpInfo := pool [(5, u "<init>"), (0, u "()V"), (1, .class_ 10), (1, u "java/lang/Object")] 113

def k0c0 : Code := { maxStack := 0, maxLocals := 1, code := object_method_1_code, exceptionTable := #[], attributes := #[] }
def k0m0 : Method := { name := "<init>", desc := "()V", sig := { parameters := [], returnType := none }, accessFlags := 1, code := some k0c0 }
/-- java/lang/Object -/
def k0 : Class := { plain "java/lang/Object" none with
  accessFlags := 33
  interfaces := #[]
  cf := some (fileOf pool0 8 #[] #[{ accessFlags := 1, nameIndex := 5, descriptorIndex := 6, attributes := #[] }] 33 0 #[] #[])
  fields := #[]
  methods := #[k0m0]
  instanceTypes := #[]
  staticTypes := #[]
  resolved := Array.replicate 124 none
  statics := none }

def pool1 : Array CpInfo := pool [(2, .class_ 4), (1, u "java/lang/Object"), (0, u "<init>"), (0, u "()V"), (0, .integer 2147483647), (0, .class_ 9), (0, u "com/example/kingfisher/kingfisher/eval/TopicRanking"), (0, .methodref 8 11), (0, .nameAndType 5 12), (0, u "([ZI)V"), (0, .methodref 8 14), (0, .nameAndType 15 16), (0, u "averagePrecision"), (0, u "()D"), (0, .double 4611686018427387904), (1, .double 4613937818241073152), (1, .double 4616189618054758400), (1, .class_ 24), (0, u "com/example/kingfisher/kingfisher/eval/TopicRankingAveragePrecisionPinLaw"), (2, u "law"), (0, u "(II)Z")] 5

def k1m0 : Method := { name := "<init>", desc := "()V", sig := { parameters := [], returnType := none }, accessFlags := 1, code := none }
def k1c1 : Code := { maxStack := 6, maxLocals := 17, code := code, exceptionTable := #[], attributes := #[] }
def k1m1 : Method := { name := "law", desc := "(II)Z", sig := { parameters := [.int, .int], returnType := some .boolean }, accessFlags := 9, code := some k1c1 }
/-- com/example/kingfisher/kingfisher/eval/TopicRankingAveragePrecisionPinLaw -/
def k1 : Class := { plain "com/example/kingfisher/kingfisher/eval/TopicRankingAveragePrecisionPinLaw" (some 0) with
  accessFlags := 49
  interfaces := #[]
  cf := some (fileOf pool1 23 #[] #[{ accessFlags := 1, nameIndex := 5, descriptorIndex := 6, attributes := #[] }, { accessFlags := 9, nameIndex := 27, descriptorIndex := 28, attributes := #[] }] 49 2 #[] #[])
  fields := #[]
  methods := #[k1m0, k1m1]
  instanceTypes := #[]
  staticTypes := #[]
  resolved := Array.replicate 34 none
  statics := none }

def pool2 : Array CpInfo := pool [(1, .methodref 2 3), (0, .class_ 4), (0, .nameAndType 5 6), (0, u "java/lang/Object"), (0, u "<init>"), (0, u "()V"), (0, .fieldref 8 9), (0, .class_ 10), (0, .nameAndType 11 12), (0, u "com/example/kingfisher/kingfisher/eval/TopicRanking"), (0, u "relevantWithin"), (0, u "[I"), (0, .fieldref 8 14), (0, .nameAndType 15 16), (0, u "relevantCount"), (0, u "I"), (0, .methodref 8 18), (0, .nameAndType 19 20), (0, u "retrieved"), (0, u "()I"), (14, u "([ZI)V"), (8, u "averagePrecision"), (0, u "()D")] 6

def k2c0 : Code := { maxStack := 6, maxLocals := 4, code := prog_21_method_1_code, exceptionTable := #[], attributes := #[] }
def k2m0 : Method := { name := "<init>", desc := "([ZI)V", sig := { parameters := [(.array .boolean), .int], returnType := none }, accessFlags := 0, code := some k2c0 }
def k2c1 : Code := { maxStack := 2, maxLocals := 1, code := prog_21_method_2_code, exceptionTable := #[], attributes := #[] }
def k2m1 : Method := { name := "retrieved", desc := "()I", sig := { parameters := [], returnType := some .int }, accessFlags := 0, code := some k2c1 }
def k2c2 : Code := { maxStack := 6, maxLocals := 4, code := prog_21_method_5_code, exceptionTable := #[], attributes := #[] }
def k2m2 : Method := { name := "averagePrecision", desc := "()D", sig := { parameters := [], returnType := some .double }, accessFlags := 0, code := some k2c2 }
/-- com/example/kingfisher/kingfisher/eval/TopicRanking -/
def k2 : Class := { plain "com/example/kingfisher/kingfisher/eval/TopicRanking" (some 0) with
  accessFlags := 32
  interfaces := #[]
  cf := some (fileOf pool2 8 #[] #[{ accessFlags := 0, nameIndex := 5, descriptorIndex := 35, attributes := #[] }, { accessFlags := 0, nameIndex := 19, descriptorIndex := 20, attributes := #[] }, { accessFlags := 0, nameIndex := 44, descriptorIndex := 45, attributes := #[] }] 32 2 #[] #[{ accessFlags := 18, nameIndex := 11, descriptorIndex := 12, attributes := #[] }, { accessFlags := 18, nameIndex := 15, descriptorIndex := 16, attributes := #[] }])
  fields := #[{ name := "relevantWithin", type := (.array .int), accessFlags := 18, slot := 0, constantValue := 0 }, { name := "relevantCount", type := .int, accessFlags := 18, slot := 1, constantValue := 0 }]
  methods := #[k2m0, k2m1, k2m2]
  instanceTypes := #[(.array .int), .int]
  staticTypes := #[]
  resolved := Array.replicate 52 none
  statics := none }

def pool3 : Array CpInfo := pool [(1, u "java/lang/Cloneable"), (0, .class_ 1), (0, u "java/lang/Object"), (0, .class_ 3)] 3

/-- java/lang/Cloneable -/
def k3 : Class := { plain "java/lang/Cloneable" (some 0) with
  accessFlags := 1537
  interfaces := #[]
  cf := some (fileOf pool3 2 #[] #[] 1537 4 #[] #[])
  fields := #[]
  methods := #[]
  instanceTypes := #[]
  staticTypes := #[]
  resolved := Array.replicate 8 none
  statics := none }

def pool4 : Array CpInfo := pool [(1, u "java/io/Serializable"), (0, .class_ 1), (0, u "java/lang/Object"), (0, .class_ 3)] 3

/-- java/io/Serializable -/
def k4 : Class := { plain "java/io/Serializable" (some 0) with
  accessFlags := 1537
  interfaces := #[]
  cf := some (fileOf pool4 2 #[] #[] 1537 4 #[] #[])
  fields := #[]
  methods := #[]
  instanceTypes := #[]
  staticTypes := #[]
  resolved := Array.replicate 8 none
  statics := none }

/-- the primitive boolean -/
def k5 : Class := { plain "boolean" none with kind := .primitive 'Z', accessFlags := 0x411 }
/-- [Z -/
def k6 : Class := { plain "[Z" (some 0) with kind := .array 5 .boolean, interfaces := #[3, 4], accessFlags := 1041 }

/-- the primitive byte -/
def k7 : Class := { plain "byte" none with kind := .primitive 'B', accessFlags := 0x411 }
/-- [B -/
def k8 : Class := { plain "[B" (some 0) with kind := .array 7 .byte, interfaces := #[3, 4], accessFlags := 1041 }

/-- the primitive int -/
def k9 : Class := { plain "int" none with kind := .primitive 'I', accessFlags := 0x411 }
/-- [I -/
def k10 : Class := { plain "[I" (some 0) with kind := .array 9 .int, interfaces := #[3, 4], accessFlags := 1041 }

def heap : Heap := #[]
def classes : Array Class := #[k0, k1, k2, k3, k4, k5, k6, k7, k8, k9, k10]
def interned : List (Array UInt16 × Addr) := []
def slotsUsed : Nat := 0
def theMethod : MethodId := ⟨1, 1⟩
def args0 : Array Value := #[.int 5, .int 7]
def aboutOver (below : List Frame) : State where
  vm := { classes := classes, interned := interned.toArray }
  heap := heap
  slotsUsed := slotsUsed
  threads := #[{ frames := .invoking theMethod args0 :: below }]
def below0 : List Frame := [.native { method := ⟨0, 0⟩, args := #[] }]
def about1 : State := aboutOver below0
def p0 : Program := .bare "" "" ""
def e0 : Env := launch0.env 0 0 0
theorem w_frames : about1.frames = Frame.invoking theMethod args0 :: below0 := rfl
set_option maxRecDepth 65536 in
theorem w_args : argsFit about1.vm theMethod args0 = true := by decide +kernel
set_option maxRecDepth 65536 in
theorem w_heap : heapFits about1 = true := by decide +kernel
set_option maxRecDepth 65536 in
theorem w_runnable : about1.curStatus? = some .runnable := by decide +kernel
set_option maxRecDepth 65536 in
theorem w_alone : about1.alone = true := by decide +kernel
set_option maxRecDepth 65536 in
theorem w_named : about1.methodNamed? x = some theMethod := by decide +kernel
set_option maxRecDepth 65536 in
theorem w_hears : about1.hears theMethod below0 = true := by decide +kernel
set_option maxRecDepth 65536 in
theorem w_ripe : about1.ripe theMethod args0 below0 = true := by decide +kernel
theorem w_running : about1.status = .running := rfl
set_option maxRecDepth 65536 in
theorem w_room : about1.hasRoom e0.platform room_1 = true :=
  launch0.hasRoom_least _ room_1 (by decide +kernel) (by decide +kernel) (by decide +kernel) (by decide +kernel) (by decide +kernel) (by decide +kernel)
theorem allAtoms_all (ts : List Jvm.Cond) (a : Array Jvm.Value) (st : Jvm.State) : (allAtoms ts).before a st = ts.all (fun c => c.before a st) := by
  induction ts with
  | nil => rfl
  | cons c t ih =>
    show (Jvm.Cond.and c (allAtoms t)).before a st = _
    rw [Jvm.Cond.before_and, ih, List.all_cons]
def words1 : List Jvm.Cond := Jvm.Cond.code x code maxLocals ret :: tables_1
/-- a 'code' word, met by the world's own term for the bytes: nothing is compared byte by byte -/
theorem code_word {y : MethodName} {bytes : ByteArray} {mx : Nat} {rt : Option FieldType} {a : Array Value} {s : State} {m : MethodId} {meth : Method} {c : Code} (h1 : s.methodNamed? y = some m) (h2 : s.vm.method? m = some meth) (h3 : meth.code = some c) (h4 : c.code = bytes)
    (h5 : (c.maxLocals == mx && c.exceptionTable.isEmpty && decide (c.maxStack ≤ mostOperands) && decide (meth.sig.returnType = rt) && !meth.locks && decide (parseMethodDescriptor y.desc = some meth.sig)) = true) : (Jvm.Cond.code y bytes mx rt).before a s = true := by
  simp only [Bool.and_eq_true, beq_iff_eq, Bool.not_eq_true', decide_eq_true_eq] at h5
  obtain ⟨⟨⟨⟨⟨g1, g2⟩, g3⟩, g4⟩, g5⟩, g6⟩ := h5
  simp [Cond.before, Cond.holds, Cond.value, h1, h2, h3, h4, g1, g2, g3, g4, g5, g6]
def isCode : Jvm.Cond → Bool
  | .code _ _ _ _ => true
  | _ => false
theorem all_split {L : List Jvm.Cond} {P : Jvm.Cond → Bool} (h1 : L.all (fun c => isCode c || P c) = true) (h2 : ∀ c ∈ L.filter isCode, P c = true) : L.all P = true := by
  refine List.all_eq_true.mpr fun c hc => ?_
  have h := List.all_eq_true.mp h1 c hc
  rcases Bool.eq_false_or_eq_true (isCode c) with hi | hi
  · exact h2 c (List.mem_filter.mpr ⟨hc, hi⟩)
  · simpa [hi] using h
set_option maxRecDepth 65536 in
theorem w_c0 : (Jvm.Cond.code x code maxLocals ret).before args0 about1 = true := code_word (m := ⟨1, 1⟩) (meth := k1m1) (c := k1c1) (by decide +kernel) rfl rfl rfl (by decide +kernel)
set_option maxRecDepth 65536 in
theorem w_c1 : (Jvm.Cond.code ({ cls := "com/example/kingfisher/kingfisher/eval/TopicRanking", name := "<init>", desc := "([ZI)V" } : Jvm.MethodName) prog_21_method_1_code (4 : Nat) (Option.none : Option Jvm.ClassFile.FieldType)).before args0 about1 = true := code_word (m := ⟨2, 0⟩) (meth := k2m0) (c := k2c0) (by decide +kernel) rfl rfl rfl (by decide +kernel)
set_option maxRecDepth 65536 in
theorem w_c2 : (Jvm.Cond.code ({ cls := "java/lang/Object", name := "<init>", desc := "()V" } : Jvm.MethodName) object_method_1_code (1 : Nat) (Option.none : Option Jvm.ClassFile.FieldType)).before args0 about1 = true := code_word (m := ⟨0, 0⟩) (meth := k0m0) (c := k0c0) (by decide +kernel) rfl rfl rfl (by decide +kernel)
set_option maxRecDepth 65536 in
theorem w_c3 : (Jvm.Cond.code ({ cls := "com/example/kingfisher/kingfisher/eval/TopicRanking", name := "averagePrecision", desc := "()D" } : Jvm.MethodName) prog_21_method_5_code (4 : Nat) (Option.some Jvm.ClassFile.FieldType.double)).before args0 about1 = true := code_word (m := ⟨2, 2⟩) (meth := k2m2) (c := k2c2) (by decide +kernel) rfl rfl rfl (by decide +kernel)
set_option maxRecDepth 65536 in
theorem w_c4 : (Jvm.Cond.code ({ cls := "com/example/kingfisher/kingfisher/eval/TopicRanking", name := "retrieved", desc := "()I" } : Jvm.MethodName) prog_21_method_2_code (1 : Nat) (Option.some Jvm.ClassFile.FieldType.int)).before args0 about1 = true := code_word (m := ⟨2, 1⟩) (meth := k2m1) (c := k2c1) (by decide +kernel) rfl rfl rfl (by decide +kernel)
def codes1 : List Jvm.Cond := [Jvm.Cond.code x code maxLocals ret, Jvm.Cond.code ({ cls := "com/example/kingfisher/kingfisher/eval/TopicRanking", name := "<init>", desc := "([ZI)V" } : Jvm.MethodName) prog_21_method_1_code (4 : Nat) (Option.none : Option Jvm.ClassFile.FieldType), Jvm.Cond.code ({ cls := "java/lang/Object", name := "<init>", desc := "()V" } : Jvm.MethodName) object_method_1_code (1 : Nat) (Option.none : Option Jvm.ClassFile.FieldType), Jvm.Cond.code ({ cls := "com/example/kingfisher/kingfisher/eval/TopicRanking", name := "averagePrecision", desc := "()D" } : Jvm.MethodName) prog_21_method_5_code (4 : Nat) (Option.some Jvm.ClassFile.FieldType.double), Jvm.Cond.code ({ cls := "com/example/kingfisher/kingfisher/eval/TopicRanking", name := "retrieved", desc := "()I" } : Jvm.MethodName) prog_21_method_2_code (1 : Nat) (Option.some Jvm.ClassFile.FieldType.int)]
set_option maxRecDepth 65536 in
theorem codes_eq : words1.filter isCode = codes1 := rfl
theorem w_codes : ∀ c ∈ words1.filter isCode, c.before args0 about1 = true := by
  rw [codes_eq]
  intro c hc
  simp only [codes1, List.mem_cons, List.not_mem_nil, or_false] at hc
  rcases hc with rfl | rfl | rfl | rfl | rfl
  · exact w_c0
  · exact w_c1
  · exact w_c2
  · exact w_c3
  · exact w_c4
set_option maxRecDepth 65536 in
theorem w_t1 : (words1.take 24).all (fun c => isCode c || c.before args0 about1) = true := by decide +kernel
set_option maxRecDepth 65536 in
theorem w_t2 : (words1.drop 24).all (fun c => isCode c || c.before args0 about1) = true := by decide +kernel
theorem w_tables : (allAtoms (Jvm.Cond.code x code maxLocals ret :: tables_1)).before args0 about1 = true := by
  rw [allAtoms_all]
  show words1.all (fun c => c.before args0 about1) = true
  refine all_split ?_ w_codes
  rw [← List.take_append_drop 24 words1, List.all_append, w_t1, w_t2]
  rfl
set_option maxRecDepth 65536 in
theorem w_case : (Jvm.Cond.and given_1 narrow_1).before args0 about1 = true := by decide +kernel
theorem w_applies : (headSpec (Jvm.Cond.code x code maxLocals ret :: tables_1) room_1).applies x e0.platform about1 = true :=
  (Spec.applies_iff w_frames).mpr ⟨w_running, w_runnable, w_alone, w_named, w_hears, w_ripe, w_room, w_tables⟩
theorem atStart : AtStart classFile x code maxLocals ret World_1 tables_1 room_1 Calls_1 rest_1 Pre_1 launch0 p0 e0 about1 theMethod args0 below0 :=
  ⟨lists_1, trivial, launch0.admits_env _ _ _, launch0.least_env, fairChoices_fair.cas, fairChoices_fair.clock, w_frames, w_args, w_heap, w_applies, trivial, trivial, w_case⟩
end start1
theorem witness_1 : WitnessClaimed_1 := ⟨start1.p0, start1.e0, start1.about1, start1.theMethod, start1.args0, start1.below0, start1.atStart⟩
end Jvm.Pilot.@@N@@
